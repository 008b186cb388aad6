/- bytes.Buffer over a block of whatever type (an array's, say): tryGrowByReslice, Len, growSlice. -/
import Derived.Test.YtbkookiigkckdaaGreatDoorWa
import Derived.Lib.AppendZeros
import Derived.Laws.CopyRow
import Derived.Lib.BufferWrite
import Derived.Lib.ByteType
import Derived.Lib.Walk
import Derived.Lib.Buffer
import Derived.Shelf.RegionOpenPlain
import Derived.RegionTactic
import Derived.Deep.RegionWith
import Derived.Deep.Draws
import Derived.BigCall
import Derived.BigGuard
import Derived.OwnWalk
import Derived.Defers
import Derived.Recover
namespace Go.Proofs.YtbkookiigkckdaaGreatDoor
open Go.RowKit
set_option linter.unusedVariables false
set_option linter.unusedSimpArgs false

section
variable (b : Nat) (a : Option Addr) (l cap : Nat) (lr : Int) (w : World) (hb : Blk w b 340 #[.slice a l cap, .int .i64 0, .int .i8 lr]) (hlc : l ≤ cap) (hcm : cap ≤ maxLen)
include hb hlc hcm

set_option maxHeartbeats 2000000 in
set_option maxRecDepth 100000 in
/-- There is room for n more. -/
theorem tryGrow_room (n : Nat) (hn : n ≤ cap - l) : Calls Tryz.prog 216 #[.pointer (some ⟨b, 0, none⟩), .int .i64 n] w fun e w' => e = .returned (.tuple #[.int .i64 l, .bool true]) ∧ w' = w.setCell ⟨b, 0, none⟩ (.slice a (l + n) cap) := by
  have c0 : w.cell? ⟨b, 0, none⟩ = some (.slice a l cap) := hb.cell 0
  have f0 := hb.frozen 0
  clear hb
  unfold maxLen at hcm
  go_enter Tryz.func216, Tryz.ntmps216
  go_wp2
  go_ret2
  exact ⟨rfl, rfl⟩

set_option maxHeartbeats 2000000 in
set_option maxRecDepth 100000 in
theorem tryGrow_none (n : Nat) (hn : cap - l < n) : Calls Tryz.prog 216 #[.pointer (some ⟨b, 0, none⟩), .int .i64 n] w fun e w' => e = .returned (.tuple #[.int .i64 0, .bool false]) ∧ w' = w := by
  have c0 : w.cell? ⟨b, 0, none⟩ = some (.slice a l cap) := hb.cell 0
  have f0 := hb.frozen 0
  clear hb
  unfold maxLen at hcm
  go_enter Tryz.func216, Tryz.ntmps216
  go_wp2
  go_ret2
  exact ⟨rfl, rfl⟩

set_option maxHeartbeats 2000000 in
set_option maxRecDepth 100000 in
theorem bufLen_any : Calls Tryz.prog 252 #[.pointer (some ⟨b, 0, none⟩)] w fun e w' => e = .returned (.int .i64 l) ∧ ∃ q, w' = w.drewN q := by
  have c0 : w.cell? ⟨b, 0, none⟩ = some (.slice a l cap) := hb.cell 0
  have c1 : w.cell? ⟨b, 1, none⟩ = some (.int .i64 0) := hb.cell 1
  have f0 := hb.frozen 0
  have f1 := hb.frozen 1
  clear hb
  unfold maxLen at hcm
  have mixed : Tryz.prog.follows .mixedOrders = true := by kernel_rfl
  have hwl : IntKind.i64.wrap (l : Int) = l := by rw [IntKind.wrap_i64]; omega
  go_enter Tryz.func252, Tryz.ntmps252
  go_wp2
  go_region_o
  all_goals (go_wp2; go_ret; exact ⟨by simp [hwl], 1, rfl⟩)
end

set_option maxHeartbeats 2000000 in
set_option maxRecDepth 100000 in
/-- growSlice's deferred closure finds nothing to recover. -/
theorem catch_idle (w : World) : CallsD Tryz.prog 282 #[] .returning w fun e u' w' => e = .returned (.tuple #[]) ∧ u' = .returning ∧ w' = w := by
  have hnn : ∀ w, (binOp .neq 20 .nilIface .nilIface).run Tryz.prog w = .ok (.bool false) w := fun w => Lib.run_neq_nil_nil w Tryz.underlying20
  refine callsD_of_wpS Tryz.func282 rfl fun c₀ cs hu => ?_
  apply wpS_seq
  apply wpS_region
  simp [wpOpsS, go_sem, recoverD, hu, hnn, Tryz.ntmps282, Exit.thenS]
  refine wpS_cond (t := false) (by simp [Act.eval, Array.replicate]) ?_
  simp only [Bool.false_eq_true, if_false]
  refine wpS_of_wp (wp_skip ?_)
  cases c₀
  simp_all [bodyPostS, results, Tryz.results282]

set_option maxHeartbeats 6400000 in
set_option maxRecDepth 100000 in
/-- growSlice of a slice at the head of a block of whatever type: a new row of bytes, number 'w.heap.size', that begins with the slice's cells. -/
theorem growSlice_any (g l c n : Nat) (t : TypeId) (cur : Array Value) (w : World) (hg : Blk w g t cur) (hcs : cur.size = c) (hlc : l ≤ c) (hn : 1 ≤ n)
    (hlim : l + n ≤ 140737488355328) (hc2 : c ≤ 140737488355328) (h1 : ∀ v ∈ cur.toList.take l, v.oneCell' = true) :
    Calls Tryz.prog 254 #[.slice (some ⟨g, 0, none⟩) l c, .int .i64 n] w fun e w' => ∃ cap2 cells, e = .returned (.slice (some ⟨w.heap.size, 0, none⟩) l cap2) ∧ Blk w' w.heap.size 5 cells ∧
      cells.size = cap2 ∧ cells.toList.take l = cur.toList.take l ∧ l + n ≤ cap2 ∧ cap2 ≤ maxLen ∧ Below w.heap.size w w' := by
  obtain ⟨i0, hi, hz0, hz1, hz2⟩ := info_parts Tryz.info5
  have hsz1 : (Tryz.prog.info? 5).map (·.size) = some 1 := by rw [hi]; exact congrArg some hz1
  by_cases hC : l + n < 2 * c
  · have happ := Lib.run_append_nil_zeros (P := Tryz.prog) w 44 3 44 5 i0 (.int .u8 0) .i64 .i64 Tryz.underlying44 Tryz.underlying3 hi hz0 (2 * c) (by omega) (by omega) (by omega) (by rw [hz2]; omega)
    rw [show (((2 * c : Nat)) : Int) = 2 * (c : Int) by omega] at happ
    generalize hcap : grownCap w (2 * c) 0 5 = cap2 at happ
    have hcapge : 2 * c ≤ cap2 := by rw [← hcap]; exact grownCap_ge w _ 0 5
    have hcaple : cap2 ≤ maxLen := by rw [← hcap]; exact grownCap_le_maxLen w _ 0 5 (by unfold maxLen; omega)
    generalize hZ : (Builtin.zeroCells (Value.int .u8 0).cells (2 * c) ++ Builtin.zeroCells (Value.int .u8 0).cells (cap2 - (2 * c))) = Z at happ
    have hZs : Z.size = cap2 := by rw [← hZ]; simp [size_zeroCells, Value.cells]; omega
    clear hcap hZ
    have hg1 : (w.alloc (.cells Z 5)).drew.heap[g]? = some (.cells cur t (0, 0)) := (hg.alloc _).drew
    have hxl : (cur.toList.take l).length = l := by rw [List.length_take, Array.length_toList]; omega
    have hcopy := run_copy_row (P := Tryz.prog) (w.alloc (.cells Z 5)).drew 44 44 3 5 w.heap.size 0 (2 * c) cap2 ⟨g, 0, none⟩ l c Z 5 (cur.toList.take l) Tryz.underlying44 hsz1 (heap_alloc_new w _) (by rw [hxl]; exact (Nat.min_eq_left (by omega)).symm) (Lib.cells_of_row hg1 l) (by rw [hxl]; omega) h1
    rw [hxl] at hcopy
    generalize hY : (Z.toList.take 0 ++ cur.toList.take l ++ Z.toList.drop (0 + l)).toArray = Y at hcopy
    go_enter_defers Tryz.func254, Tryz.ntmps254
    go_wp2_with (at_builtin; refine Lib.wpList_append_run _ rfl _ _ _ _ rfl _ _ rfl rfl _ _ happ ?_)
    refine leaves_cons (f := 282) (args := #[]) (by simp) (enters_of Tryz.func282 (by kernel_rfl) rfl _ _) ?_
    refine (catch_idle _).mono ?_
    rintro e u' w'' ⟨rfl, rfl, rfl⟩
    refine ⟨_, results_tmp rfl _ _ _, ?_⟩
    have hYl : Y.toList = cur.toList.take l ++ Z.toList.drop l := by rw [← hY]; simp
    refine ⟨cap2, Y, rfl, setRow_heap _ _ Z Y 5 (0, 0) (heap_alloc_new w _), ?_, ?_, by omega, hcaple, ?_⟩
    · have : Y.toList.length = cap2 := by rw [hYl, List.length_append, hxl, List.length_drop, Array.length_toList, hZs]; omega
      simpa using this
    · rw [hYl, List.take_append_of_le_length (by rw [hxl]; exact Nat.le_refl _), List.take_of_length_le (by rw [hxl]; exact Nat.le_refl _)]
    · exact ⟨rfl, rfl, rfl, by simp, fun k hk => by rw [setRow_other _ _ _ _ (by omega)]; exact Below.heap_alloc w _ k hk⟩
  · have happ := Lib.run_append_nil_zeros (P := Tryz.prog) w 44 3 44 5 i0 (.int .u8 0) .i64 .i64 Tryz.underlying44 Tryz.underlying3 hi hz0 (l + n) (by omega) (by omega) (by omega) (by rw [hz2]; omega)
    rw [show (((l + n : Nat)) : Int) = (l : Int) + (n : Int) by omega] at happ
    generalize hcap : grownCap w (l + n) 0 5 = cap2 at happ
    have hcapge : l + n ≤ cap2 := by rw [← hcap]; exact grownCap_ge w _ 0 5
    have hcaple : cap2 ≤ maxLen := by rw [← hcap]; exact grownCap_le_maxLen w _ 0 5 (by unfold maxLen; omega)
    generalize hZ : (Builtin.zeroCells (Value.int .u8 0).cells (l + n) ++ Builtin.zeroCells (Value.int .u8 0).cells (cap2 - (l + n))) = Z at happ
    have hZs : Z.size = cap2 := by rw [← hZ]; simp [size_zeroCells, Value.cells]; omega
    clear hcap hZ
    have hg1 : (w.alloc (.cells Z 5)).drew.heap[g]? = some (.cells cur t (0, 0)) := (hg.alloc _).drew
    have hxl : (cur.toList.take l).length = l := by rw [List.length_take, Array.length_toList]; omega
    have hcopy := run_copy_row (P := Tryz.prog) (w.alloc (.cells Z 5)).drew 44 44 3 5 w.heap.size 0 (l + n) cap2 ⟨g, 0, none⟩ l c Z 5 (cur.toList.take l) Tryz.underlying44 hsz1 (heap_alloc_new w _) (by rw [hxl]; exact (Nat.min_eq_left (by omega)).symm) (Lib.cells_of_row hg1 l) (by rw [hxl]; omega) h1
    rw [hxl] at hcopy
    generalize hY : (Z.toList.take 0 ++ cur.toList.take l ++ Z.toList.drop (0 + l)).toArray = Y at hcopy
    go_enter_defers Tryz.func254, Tryz.ntmps254
    go_wp2_with (at_builtin; refine Lib.wpList_append_run _ rfl _ _ _ _ rfl _ _ rfl rfl _ _ happ ?_)
    refine leaves_cons (f := 282) (args := #[]) (by simp) (enters_of Tryz.func282 (by kernel_rfl) rfl _ _) ?_
    refine (catch_idle _).mono ?_
    rintro e u' w'' ⟨rfl, rfl, rfl⟩
    refine ⟨_, results_tmp rfl _ _ _, ?_⟩
    have hYl : Y.toList = cur.toList.take l ++ Z.toList.drop l := by rw [← hY]; simp
    refine ⟨cap2, Y, rfl, setRow_heap _ _ Z Y 5 (0, 0) (heap_alloc_new w _), ?_, ?_, by omega, hcaple, ?_⟩
    · have : Y.toList.length = cap2 := by rw [hYl, List.length_append, hxl, List.length_drop, Array.length_toList, hZs]; omega
      simpa using this
    · rw [hYl, List.take_append_of_le_length (by rw [hxl]; exact Nat.le_refl _), List.take_of_length_le (by rw [hxl]; exact Nat.le_refl _)]
    · exact ⟨rfl, rfl, rfl, by simp, fun k hk => by rw [setRow_other _ _ _ _ (by omega)]; exact Below.heap_alloc w _ k hk⟩
end Go.Proofs.YtbkookiigkckdaaGreatDoor
