/- Intervals: impl.intervals, impl.unintervals. Printed by gen_iv.py. -/
import Derived.Test.YtbkookiigkckdaaGreatDoorMk
namespace Go.Proofs.YtbkookiigkckdaaGreatDoor
open Go.RowKit
set_option linter.unusedVariables false
set_option linter.unusedSimpArgs false

def ivc (p : Int × Int) : List Value := [.int .i64 p.1, .int .i64 p.2]
theorem Tryz.info279 : (Tryz.prog.info? 279).map (fun i => (i.zero, i.size, i.bytes)) = some (some (.agg #[.int .i64 0, .int .i64 0]), 2, 16) := by kernel_rfl
theorem Tryz.info281 : (Tryz.prog.info? 281).map (fun i => (i.zero, i.size, i.bytes)) = some (some (.agg #[.int .i64 0, .int .i64 0]), 2, 16) := by kernel_rfl

def IvEnds (t : TypeId) (w : World) (l : List (Int × Int)) (r : Ending) (w' : World) : Prop :=
  ∃ v, r = .returned v ∧ w'.ownsRow w.heap.size t 2 v l.length (l.flatMap ivc) ∧ Fr (fun _ => False) w w'


set_option maxHeartbeats 1000000 in
set_option maxRecDepth 100000 in
theorem intervals_any (P : Nat → Prop) (v : Value) (l : List (Int × Int)) (w : World) (h : Sl P w v 2 l.length (l.flatMap ivc)) (hl : l.length ≤ 1099511627776) :
    Calls Tryz.prog 169 #[v] w (IvEnds 279 w l) := by
  obtain ⟨A, c, rfl, hlen, hnc, hr⟩ := h
  obtain ⟨n, hn⟩ : ∃ n, l.length = n := ⟨_, rfl⟩
  rw [hn] at hr hnc hl ⊢
  have HN := Lib.hid hn
  have HR := Lib.hid hr
  obtain ⟨i0, hi0, hz0, hz1, hz2⟩ := info_parts Tryz.info279
  clear hn hr hlen
  go_enter Tryz.func169, Tryz.ntmps169
  go_wp2
  go_loopw [3, 8] (fun v i wr => ∃ k : Nat, k ≤ n ∧ i = .int .i64 k ∧ wr.ownsRow w.heap.size 279 2 v k ((l.take k).flatMap ivc) ∧ Fr (fun _ => False) w wr) (fun _ i _ => n - (intOf i).toNat)
  case atStart => exact ⟨0, Nat.zero_le _, rfl, World.ownsRow_nil _ _ _ _, Fr.refl _ _⟩
  case round =>
    obtain ⟨k, hk, rfl, hown, hf⟩ := hrel
    by_cases hlt : k < n
    · obtain ⟨g, off, rfl, _, hcell⟩ := HR.out (by omega)
      obtain ⟨x, hx⟩ : ∃ x, l[k]? = some x := ⟨_, List.getElem?_eq_getElem (by rw [HN.out]; exact hlt)⟩
      have cc : ∀ j, j < 2 → ∀ u, (ivc x)[j]? = some u → wr.cell? ⟨g, off + (k * 2 + j), none⟩ = some u := fun j hj u hu => by
        have := hcell (k * 2 + j) u (by rw [flat2 ivc (fun _ => rfl) l k x hx j hj]; exact hu)
        rw [hf.cell (p := ⟨g, off + (k * 2 + j), none⟩) (World.block_lt_of_cell? w _ this) (fun e => e)]
        exact this
      have c0 : wr.cell? ⟨g, off + k * 2, none⟩ = some (.int .i64 x.1) := cc 0 (by omega) _ rfl
      have c1 : wr.cell? ⟨g, off + k * 2 + 1, none⟩ = some (.int .i64 x.2) := cc 1 (by omega) _ rfl
      have HC := Lib.hid hcell
      have HO := Lib.hid hown
      have HX := Lib.hid hx
      obtain ⟨a', n', k', rfl⟩ := own_slice hown
      clear hcell cc hown hx
      go_wp2_with (at_builtin; refine Hid.out ?_)
      refine Lib.hid ?_
      refine wpList_append_src _ rfl _ _ 145 145 rfl w.heap.size 279 i0 _ 2 16 Tryz.underlying145 hi0 hz0 hz1 hz2 rfl (by decide) _ k ((l.take k).flatMap ivc) rfl ((HO.out.alloc _).alloc _) _ 1 (ivc x) rfl (src_blk Tryz.underlying145 (blk_new2 wr _ 279 (ivc x).toArray) rfl (by simp [ivc, Value.oneCell'])) (by unfold maxLen; omega) (by omega) (by have := hf.size; simp; omega) ?_
      intro v' w2 hown' hgrow hat
      have hown2 : w2.ownsRow w.heap.size 279 2 v' (k + 1) ((l.take (k + 1)).flatMap ivc) := by rw [flatMap_take_succ ivc l k x HX.out]; exact hown'
      have hf2 : Fr (fun _ => False) w w2 := ((hf.alloc _).alloc _).grown hgrow (fun g hg => .inr (((HO.out.lt g hg)).1))
      have HO2 := Lib.hid hown2
      have HF2 := Lib.hid hf2
      clear hown' hgrow hown2 hf2 hf c0 c1 hat
      go_wp2
      go_roundw
      case rel => exact ⟨k + 1, by omega, by go_num, HO2.out, HF2.out⟩
      case measure => simp [intOf]; omega
    · go_wp2
      go_ret
      obtain rfl : k = n := by omega
      refine ⟨_, rfl, ?_, hf⟩
      rw [← HN.out] at hown ⊢
      rw [List.take_length] at hown
      exact hown


set_option maxHeartbeats 1000000 in
set_option maxRecDepth 100000 in
theorem unintervals_any (P : Nat → Prop) (v : Value) (l : List (Int × Int)) (w : World) (h : Sl P w v 2 l.length (l.flatMap ivc)) (hl : l.length ≤ 1099511627776) :
    Calls Tryz.prog 76 #[v] w (IvEnds 281 w l) := by
  obtain ⟨A, c, rfl, hlen, hnc, hr⟩ := h
  obtain ⟨n, hn⟩ : ∃ n, l.length = n := ⟨_, rfl⟩
  rw [hn] at hr hnc hl ⊢
  have HN := Lib.hid hn
  have HR := Lib.hid hr
  obtain ⟨i0, hi0, hz0, hz1, hz2⟩ := info_parts Tryz.info281
  clear hn hr hlen
  go_enter Tryz.func76, Tryz.ntmps76
  go_wp2
  go_loopw [3, 8] (fun v i wr => ∃ k : Nat, k ≤ n ∧ i = .int .i64 k ∧ wr.ownsRow w.heap.size 281 2 v k ((l.take k).flatMap ivc) ∧ Fr (fun _ => False) w wr) (fun _ i _ => n - (intOf i).toNat)
  case atStart => exact ⟨0, Nat.zero_le _, rfl, World.ownsRow_nil _ _ _ _, Fr.refl _ _⟩
  case round =>
    obtain ⟨k, hk, rfl, hown, hf⟩ := hrel
    by_cases hlt : k < n
    · obtain ⟨g, off, rfl, _, hcell⟩ := HR.out (by omega)
      obtain ⟨x, hx⟩ : ∃ x, l[k]? = some x := ⟨_, List.getElem?_eq_getElem (by rw [HN.out]; exact hlt)⟩
      have cc : ∀ j, j < 2 → ∀ u, (ivc x)[j]? = some u → wr.cell? ⟨g, off + (k * 2 + j), none⟩ = some u := fun j hj u hu => by
        have := hcell (k * 2 + j) u (by rw [flat2 ivc (fun _ => rfl) l k x hx j hj]; exact hu)
        rw [hf.cell (p := ⟨g, off + (k * 2 + j), none⟩) (World.block_lt_of_cell? w _ this) (fun e => e)]
        exact this
      have c0 : wr.cell? ⟨g, off + k * 2, none⟩ = some (.int .i64 x.1) := cc 0 (by omega) _ rfl
      have c1 : wr.cell? ⟨g, off + k * 2 + 1, none⟩ = some (.int .i64 x.2) := cc 1 (by omega) _ rfl
      have HC := Lib.hid hcell
      have HO := Lib.hid hown
      have HX := Lib.hid hx
      obtain ⟨a', n', k', rfl⟩ := own_slice hown
      clear hcell cc hown hx
      go_wp2_with (at_builtin; refine Hid.out ?_)
      refine Lib.hid ?_
      refine wpList_append_src _ rfl _ _ 148 148 rfl w.heap.size 281 i0 _ 2 16 Tryz.underlying148 hi0 hz0 hz1 hz2 rfl (by decide) _ k ((l.take k).flatMap ivc) rfl ((HO.out.alloc _).alloc _) _ 1 (ivc x) rfl (src_blk Tryz.underlying148 (blk_new2 wr _ 281 (ivc x).toArray) rfl (by simp [ivc, Value.oneCell'])) (by unfold maxLen; omega) (by omega) (by have := hf.size; simp; omega) ?_
      intro v' w2 hown' hgrow hat
      have hown2 : w2.ownsRow w.heap.size 281 2 v' (k + 1) ((l.take (k + 1)).flatMap ivc) := by rw [flatMap_take_succ ivc l k x HX.out]; exact hown'
      have hf2 : Fr (fun _ => False) w w2 := ((hf.alloc _).alloc _).grown hgrow (fun g hg => .inr (((HO.out.lt g hg)).1))
      have HO2 := Lib.hid hown2
      have HF2 := Lib.hid hf2
      clear hown' hgrow hown2 hf2 hf c0 c1 hat
      go_wp2
      go_roundw
      case rel => exact ⟨k + 1, by omega, by go_num, HO2.out, HF2.out⟩
      case measure => simp [intOf]; omega
    · go_wp2
      go_ret
      obtain rfl : k = n := by omega
      refine ⟨_, rfl, ?_, hf⟩
      rw [← HN.out] at hown ⊢
      rw [List.take_length] at hown
      exact hown

end Go.Proofs.YtbkookiigkckdaaGreatDoor
