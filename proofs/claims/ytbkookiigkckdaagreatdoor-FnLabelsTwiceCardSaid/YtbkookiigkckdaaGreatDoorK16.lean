/- Texts of this seat, merged: Bb. -/
import Derived.Test.YtbkookiigkckdaaGreatDoorK15
/- bytes.Buffer.grow over a block of whatever type. -/
namespace Go.Proofs.YtbkookiigkckdaaGreatDoor
open Go.RowKit
set_option linter.unusedVariables false
set_option linter.unusedSimpArgs false

/-- What grow hands back. -/
def Grown (b l n : Nat) (lr : Int) (cur : Array Value) (w : World) (e : Ending) (w' : World) : Prop :=
  e = .returned (.int .i64 l) ∧ ∃ (g' cap2 : Nat) (cells : Array Value), w.heap.size ≤ g' ∧ Blk w' b 340 #[.slice (some ⟨g', 0, none⟩) (l + n) cap2, .int .i64 0, .int .i8 lr] ∧ Blk w' g' 5 cells ∧ cells.size = cap2 ∧
    cells.toList.take l = cur.toList.take l ∧ l + n ≤ cap2 ∧ cap2 ≤ maxLen ∧ Fr (fun k => k = b) w w'

theorem below_drew {B : Nat} {w w' : World} (h : Below B w.drew w') : Below B w w' := ⟨h.os, h.tape, h.output, h.size, h.block⟩
theorem grow_end {b g l n cap2 m : Nat} {c : Nat} {lr : Int} {cur cells : Array Value} {w w0 w2 : World} (hb : Blk w b 340 #[.slice (some ⟨g, 0, none⟩) l c, .int .i64 0, .int .i8 lr]) (hw0 : Fr (fun _ => False) w w0) (hbel : Below w0.heap.size w0 w2)
    (hn : Blk w2 w0.heap.size 5 cells) (h1 : cells.size = cap2) (h2 : cells.toList.take l = cur.toList.take l) (h3 : l + n ≤ cap2) (h4 : cap2 ≤ maxLen) (hm : m = l + n) :
    Grown b l n lr cur w (.returned (.int .i64 l)) (((w2.setCell ⟨b, 0, none⟩ (.slice (some ⟨w0.heap.size, 0, none⟩) l cap2)).setCell ⟨b, 1, none⟩ (.int .i64 0)).setCell ⟨b, 0, none⟩ (.slice (some ⟨w0.heap.size, 0, none⟩) m cap2)) := by
  subst hm
  have hbl := hb.lt
  have hb0 := hb.fr hw0 (fun e => e)
  have hf2 : Fr (fun _ => False) w w2 := hw0.trans (Fr.ofBelow hbel) (fun _ _ e => e)
  have hb2 := hb.fr hf2 (fun e => e)
  have hne : w0.heap.size ≠ b := by have := hw0.size; omega
  refine ⟨rfl, w0.heap.size, cap2, cells, hw0.size, ?_, ((hn.far hne _).far hne _).far hne _, h1, h2, h3, h4, ((((hf2.mono (S' := fun k => k = b) (fun _ _ e => e.elim)).setCell (p := ⟨b, 0, none⟩) (.inl rfl) _).setCell (p := ⟨b, 1, none⟩) (.inl rfl) _).setCell (p := ⟨b, 0, none⟩) (.inl rfl) _)⟩
  exact ((hb2.set_ 0 _).set_ 1 _).set_ 0 _

set_option maxHeartbeats 12800000 in
set_option maxRecDepth 100000 in
theorem grow_any (b g l c n : Nat) (t : TypeId) (lr : Int) (cur : Array Value) (w : World) (hb : Blk w b 340 #[.slice (some ⟨g, 0, none⟩) l c, .int .i64 0, .int .i8 lr]) (hg : Blk w g t cur) (hcs : cur.size = c) (hlc : l ≤ c) (hgb : g ≠ b)
    (h1 : ∀ v ∈ cur.toList.take l, v.oneCell' = true) (hroom : c - l < n) (hlim : l + n ≤ 140737488355328) : Calls Tryz.prog 217 #[.pointer (some ⟨b, 0, none⟩), .int .i64 n] w (Grown b l n lr cur w) := by
  have mixed : Tryz.prog.follows .mixedOrders = true := by kernel_rfl
  have hcm : c ≤ maxLen := by unfold maxLen; omega
  have hnil : ∀ W, (binOp .eql 44 (.slice (some ⟨g, 0, none⟩) l c) (.slice none 0 0)).run Tryz.prog W = .ok (.bool false) W := fun W => Lib.run_eql_slice_some_nil W _ _ _ Tryz.underlying44
  have hlen := bufLen_any b (some ⟨g, 0, none⟩) l c lr w hb hlc hcm
  have HB := Lib.hid hb
  have HG := Lib.hid hg
  clear hb hg
  by_cases hl0 : l = 0
  · subst hl0
    go_enter Tryz.func217, Tryz.ntmps217
    go_wp2_with (go_at_call 252; refine hlen.mono ?_)
    rintro e W0 ⟨rfl, k, hW0⟩
    have hf0 : Fr (fun _ => False) w W0 := by rw [hW0]; exact (Fr.refl _ w).drewN k
    have hb0 := HB.out.fr hf0 (fun e => e)
    have hg0 := HG.out.fr hf0 (fun e => e)
    have c0 : W0.cell? ⟨b, 0, none⟩ = some (.slice (some ⟨g, 0, none⟩) 0 c) := hb0.cell 0
    have c1 : W0.cell? ⟨b, 1, none⟩ = some (.int .i64 0) := hb0.cell 1
    have f0 := hb0.frozen 0
    have f1 := hb0.frozen 1
    have hnone := tryGrow_none b (some ⟨g, 0, none⟩) 0 c lr W0 hb0 hlc hcm n hroom
    have HB0 := Lib.hid hb0
    have HG0 := Lib.hid hg0
    have HF0 := Lib.hid hf0
    have hbl := hb0.lt
    clear hb0 hg0 hf0 hW0 hlen
    go_wp2_with (go_at_call 216; refine hnone.mono ?_; rintro e w' ⟨rfl, rfl⟩)
    have hwn : IntKind.i64.wrap (n : Int) = n := by rw [IntKind.wrap_i64]; omega
    have hc2 : c ≤ 140737488355328 := by omega
    have hcm' := hcm
    unfold maxLen at hcm'
    go_region_with_o (
        go_at_call 254
        refine (growSlice_any g 0 c n t cur _ ?_ hcs hlc (by omega) hlim hc2 h1).mono ?_
        exact HG0.out.drew
        rintro e w2 ⟨cap2, cells, rfl, hN, hcsz, htk, hcap2, hcm2, hbel⟩
        have hbk2 := HB0.out.drew.fr (Fr.ofBelow (S := fun _ => False) hbel) (fun e => e)
        have d0 : w2.cell? ⟨b, 0, none⟩ = some (.slice (some ⟨g, 0, none⟩) 0 c) := hbk2.cell 0
        have d1 : w2.cell? ⟨b, 1, none⟩ = some (.int .i64 0) := hbk2.cell 1
        have e0 : w2.frozen? ⟨b, 0, none⟩ = false := hbk2.frozen 0
        have e1 : w2.frozen? ⟨b, 1, none⟩ = false := hbk2.frozen 1
        have HN := Lib.hid hN
        have HBEL := Lib.hid hbel
        have HB2 := Lib.hid hbk2
        clear hN hbel hbk2)
    all_goals (
      go_wp2
      go_ret
      exact grow_end HB.out HF0.out (below_drew HBEL.out) HN.out hcsz htk hcap2 hcm2 (by omega))
  · have hl0' : ((l : Int) == 0) = false := by rw [beq_eq_false_iff_ne]; omega
    go_enter Tryz.func217, Tryz.ntmps217
    go_wp2_with (go_at_call 252; refine hlen.mono ?_)
    rintro e W0 ⟨rfl, k, hW0⟩
    have hf0 : Fr (fun _ => False) w W0 := by rw [hW0]; exact (Fr.refl _ w).drewN k
    have hb0 := HB.out.fr hf0 (fun e => e)
    have hg0 := HG.out.fr hf0 (fun e => e)
    have c0 : W0.cell? ⟨b, 0, none⟩ = some (.slice (some ⟨g, 0, none⟩) l c) := hb0.cell 0
    have c1 : W0.cell? ⟨b, 1, none⟩ = some (.int .i64 0) := hb0.cell 1
    have f0 := hb0.frozen 0
    have f1 := hb0.frozen 1
    have hnone := tryGrow_none b (some ⟨g, 0, none⟩) l c lr W0 hb0 hlc hcm n hroom
    have HB0 := Lib.hid hb0
    have HG0 := Lib.hid hg0
    have HF0 := Lib.hid hf0
    have hbl := hb0.lt
    clear hb0 hg0 hf0 hW0 hlen
    go_wp2_with (go_at_call 216; refine hnone.mono ?_; rintro e w' ⟨rfl, rfl⟩)
    have hwn : IntKind.i64.wrap (n : Int) = n := by rw [IntKind.wrap_i64]; omega
    have hc2 : c ≤ 140737488355328 := by omega
    have hcm' := hcm
    unfold maxLen at hcm'
    go_region_with_o (
        go_at_call 254
        refine (growSlice_any g l c n t cur _ ?_ hcs hlc (by omega) hlim hc2 h1).mono ?_
        exact HG0.out.drew
        rintro e w2 ⟨cap2, cells, rfl, hN, hcsz, htk, hcap2, hcm2, hbel⟩
        have hbk2 := HB0.out.drew.fr (Fr.ofBelow (S := fun _ => False) hbel) (fun e => e)
        have d0 : w2.cell? ⟨b, 0, none⟩ = some (.slice (some ⟨g, 0, none⟩) l c) := hbk2.cell 0
        have d1 : w2.cell? ⟨b, 1, none⟩ = some (.int .i64 0) := hbk2.cell 1
        have e0 : w2.frozen? ⟨b, 0, none⟩ = false := hbk2.frozen 0
        have e1 : w2.frozen? ⟨b, 1, none⟩ = false := hbk2.frozen 1
        have HN := Lib.hid hN
        have HBEL := Lib.hid hbel
        have HB2 := Lib.hid hbk2
        clear hN hbel hbk2)
    all_goals (
      go_wp2
      go_ret
      exact grow_end HB.out HF0.out (below_drew HBEL.out) HN.out hcsz htk hcap2 hcm2 (by omega))
end Go.Proofs.YtbkookiigkckdaaGreatDoor

