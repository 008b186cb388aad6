/- spec.Count and spec.PartsRight at parts of one kind (samples, tombstones, markers). -/
import Derived.Test.YtbkookiigkckdaaGreatDoorSt
namespace Go.Proofs.YtbkookiigkckdaaGreatDoor
open Go.RowKit
set_option linter.unusedVariables false
set_option linter.unusedSimpArgs false

theorem seven_cells {w : World} {b : Nat} {a0 a1 a2 a3 a4 a5 a6 : Value} (h : Blk w b 54 #[a0, a1, a2, a3, a4, a5, a6]) :
    w.cell? ⟨b, 0, none⟩ = some a0 ∧ w.cell? ⟨b, 1, none⟩ = some a1 ∧ w.cell? ⟨b, 2, none⟩ = some a2 ∧ w.cell? ⟨b, 3, none⟩ = some a3 ∧ w.cell? ⟨b, 4, none⟩ = some a4 ∧ w.cell? ⟨b, 5, none⟩ = some a5 ∧ w.cell? ⟨b, 6, none⟩ = some a6 :=
  ⟨h.cell 0, h.cell 1, h.cell 2, h.cell 3, h.cell 4, h.cell 5, h.cell 6⟩

def IntEnds (n : Int) (w : World) (r : Ending) (w' : World) : Prop := r = .returned (.int .i64 n) ∧ Fr (fun _ => False) w w'

set_option maxHeartbeats 1000000 in
theorem count_1 (A0 A1 A2 A3 A4 A5 A6 : Option Addr) (c0 c1 c2 c3 c4 c5 c6 : Nat) (n : Nat) (hb : n ≤ 1099511627776) (w : World) :
    Calls Tryz.prog 40 #[.agg #[.slice A0 0 c0, .slice A1 n c1, .slice A2 0 c2, .slice A3 0 c3, .slice A4 0 c4, .slice A5 0 c5, .slice A6 0 c6]] w (IntEnds n w) := by
  go_enter Tryz.func40, Tryz.ntmps40
  go_wp2
  go_ret
  exact ⟨rfl, (Fr.refl _ w).alloc _⟩

set_option maxHeartbeats 1000000 in
theorem count_2 (A0 A1 A2 A3 A4 A5 A6 : Option Addr) (c0 c1 c2 c3 c4 c5 c6 : Nat) (n : Nat) (hb : n ≤ 1099511627776) (w : World) :
    Calls Tryz.prog 40 #[.agg #[.slice A0 0 c0, .slice A1 0 c1, .slice A2 n c2, .slice A3 0 c3, .slice A4 0 c4, .slice A5 0 c5, .slice A6 0 c6]] w (IntEnds n w) := by
  go_enter Tryz.func40, Tryz.ntmps40
  go_wp2
  go_ret
  exact ⟨rfl, (Fr.refl _ w).alloc _⟩

set_option maxHeartbeats 1000000 in
theorem count_5 (A0 A1 A2 A3 A4 A5 A6 : Option Addr) (c0 c1 c2 c3 c4 c5 c6 : Nat) (n : Nat) (hb : n ≤ 1099511627776) (w : World) :
    Calls Tryz.prog 40 #[.agg #[.slice A0 0 c0, .slice A1 0 c1, .slice A2 0 c2, .slice A3 0 c3, .slice A4 0 c4, .slice A5 n c5, .slice A6 0 c6]] w (IntEnds n w) := by
  go_enter Tryz.func40, Tryz.ntmps40
  go_wp2
  go_ret
  exact ⟨rfl, (Fr.refl _ w).alloc _⟩

set_option maxHeartbeats 4000000 in
set_option maxRecDepth 100000 in
theorem right_2 (A0 A1 A2 A3 A4 A5 A6 : Option Addr) (c0 c1 c2 c3 c4 c5 c6 : Nat) (n : Nat) (hb : n ≤ 1099511627776) (w : World) :
    Calls Tryz.prog 30 #[.int .i64 2, .agg #[.slice A0 0 c0, .slice A1 n c1, .slice A2 0 c2, .slice A3 0 c3, .slice A4 0 c4, .slice A5 0 c5, .slice A6 0 c6]] w fun r w' => r = .returned (.bool (decide (n ≤ 12))) ∧ Fr (fun _ => False) w w' := by
  by_cases h12 : n ≤ 12
  · rw [decide_eq_true h12]
    have h1 : ¬ (12 : Int) < (n : Int) := by omega
    go_enter Tryz.func30, Tryz.ntmps30
    go_wp2_with (go_at_call 40; refine (count_1 A0 A1 A2 A3 A4 A5 A6 c0 c1 c2 c3 c4 c5 c6 n hb _).mono ?_; rintro r w1 ⟨rfl, hf1⟩; obtain ⟨x0, x1, x2, x3, x4, x5, x6⟩ := seven_cells ((Blk.new w 54 #[.slice A0 0 c0, .slice A1 n c1, .slice A2 0 c2, .slice A3 0 c3, .slice A4 0 c4, .slice A5 0 c5, .slice A6 0 c6]).fr hf1 (fun e => e)))
    go_ret
    exact ⟨rfl, ((Fr.refl _ w).alloc _).same hf1⟩
  · rw [decide_eq_false h12]
    have h1 : (12 : Int) < (n : Int) := by omega
    go_enter Tryz.func30, Tryz.ntmps30
    go_wp2_with (go_at_call 40; refine (count_1 A0 A1 A2 A3 A4 A5 A6 c0 c1 c2 c3 c4 c5 c6 n hb _).mono ?_; rintro r w1 ⟨rfl, hf1⟩)
    go_ret
    exact ⟨rfl, ((Fr.refl _ w).alloc _).same hf1⟩

set_option maxHeartbeats 4000000 in
set_option maxRecDepth 100000 in
theorem right_5 (A0 A1 A2 A3 A4 A5 A6 : Option Addr) (c0 c1 c2 c3 c4 c5 c6 : Nat) (n : Nat) (hb : n ≤ 1099511627776) (w : World) :
    Calls Tryz.prog 30 #[.int .i64 5, .agg #[.slice A0 0 c0, .slice A1 0 c1, .slice A2 0 c2, .slice A3 0 c3, .slice A4 0 c4, .slice A5 n c5, .slice A6 0 c6]] w fun r w' => r = .returned (.bool (decide (n ≤ 12))) ∧ Fr (fun _ => False) w w' := by
  by_cases h12 : n ≤ 12
  · rw [decide_eq_true h12]
    have h1 : ¬ (12 : Int) < (n : Int) := by omega
    go_enter Tryz.func30, Tryz.ntmps30
    go_wp2_with (go_at_call 40; refine (count_5 A0 A1 A2 A3 A4 A5 A6 c0 c1 c2 c3 c4 c5 c6 n hb _).mono ?_; rintro r w1 ⟨rfl, hf1⟩; obtain ⟨x0, x1, x2, x3, x4, x5, x6⟩ := seven_cells ((Blk.new w 54 #[.slice A0 0 c0, .slice A1 0 c1, .slice A2 0 c2, .slice A3 0 c3, .slice A4 0 c4, .slice A5 n c5, .slice A6 0 c6]).fr hf1 (fun e => e)))
    go_ret
    exact ⟨rfl, ((Fr.refl _ w).alloc _).same hf1⟩
  · rw [decide_eq_false h12]
    have h1 : (12 : Int) < (n : Int) := by omega
    go_enter Tryz.func30, Tryz.ntmps30
    go_wp2_with (go_at_call 40; refine (count_5 A0 A1 A2 A3 A4 A5 A6 c0 c1 c2 c3 c4 c5 c6 n hb _).mono ?_; rintro r w1 ⟨rfl, hf1⟩)
    go_ret
    exact ⟨rfl, ((Fr.refl _ w).alloc _).same hf1⟩

set_option maxHeartbeats 4000000 in
set_option maxRecDepth 100000 in
theorem right_3 (A0 A1 A2 A3 A4 A5 A6 : Option Addr) (c0 c1 c2 c3 c4 c5 c6 : Nat) (n : Nat) (P : Nat → Prop) (lv : List (Ston × Value)) (w : World) (hs : SlS P w (.slice A2 n c2) lv) (hn : lv.length = n) (hb : n ≤ 1099511627776) (hi : ∀ p ∈ lv, p.1.ivs.length ≤ 6) :
    Calls Tryz.prog 30 #[.int .i64 3, .agg #[.slice A0 0 c0, .slice A1 0 c1, .slice A2 n c2, .slice A3 0 c3, .slice A4 0 c4, .slice A5 0 c5, .slice A6 0 c6]] w fun r w' => r = .returned (.bool (decide (n ≤ 12))) ∧ Fr (fun _ => False) w w' := by
  by_cases h12 : n ≤ 12
  · rw [decide_eq_true h12]
    have h1 : ¬ (12 : Int) < (n : Int) := by omega
    have HS := Lib.hid hs
    have HN := Lib.hid hn
    have HI := Lib.hid hi
    clear hs hn hi
    go_enter Tryz.func30, Tryz.ntmps30
    go_wp2_with (go_at_call 40; refine (count_2 A0 A1 A2 A3 A4 A5 A6 c0 c1 c2 c3 c4 c5 c6 n hb _).mono ?_; rintro r w1 ⟨rfl, hf1⟩; obtain ⟨x0, x1, x2, x3, x4, x5, x6⟩ := seven_cells ((Blk.new w 54 #[.slice A0 0 c0, .slice A1 0 c1, .slice A2 n c2, .slice A3 0 c3, .slice A4 0 c4, .slice A5 0 c5, .slice A6 0 c6]).fr hf1 (fun e => e)))
    have HF := Lib.hid (((Fr.refl (fun _ => False) w).alloc (.cells #[.slice A0 0 c0, .slice A1 0 c1, .slice A2 n c2, .slice A3 0 c3, .slice A4 0 c4, .slice A5 0 c5, .slice A6 0 c6] 54)).same hf1)
    have hw1 := HF.out.size
    have HB := Lib.hid ((Blk.new w 54 #[.slice A0 0 c0, .slice A1 0 c1, .slice A2 n c2, .slice A3 0 c3, .slice A4 0 c4, .slice A5 0 c5, .slice A6 0 c6]).fr hf1 (fun e => e))
    clear hf1
    go_loopw [7] (fun i wr => ∃ k : Nat, k ≤ n ∧ i = .int .i64 k ∧ Hid (Fr (fun _ => False) w1 wr)) (fun i _ => n - (intOf i).toNat)
    case atStart => exact ⟨0, Nat.zero_le _, rfl, Lib.hid (Fr.refl _ _)⟩
    case round =>
      obtain ⟨k, hk, rfl, RF⟩ := hrel
      obtain ⟨y0, y1, y2, y3, y4, y5, y6⟩ := seven_cells (HB.out.fr RF.out (fun e => e))
      clear x0 x1 x2 x3 x4 x5 x6
      by_cases hlt : k < n
      · have hS := HS.out.fr (HF.out.same RF.out) (fun _ _ e => e)
        obtain ⟨⟨A, c, e2, _, hc, hr⟩, _⟩ := hS
        injection e2 with e2 e2n e2c
        obtain ⟨g, off, rfl, _, hcell⟩ := hr (by have := HN.out; omega)
        obtain ⟨x, hx⟩ : ∃ x, lv[k]? = some x := ⟨_, List.getElem?_eq_getElem (by rw [HN.out]; exact hlt)⟩
        have hxm := List.mem_of_getElem? hx
        have c1 : wr.cell? ⟨g, off + k * 2 + 1, none⟩ = some x.2 := hcell (k * 2 + 1) _ (by rw [flat2 stc (fun _ => rfl) lv k x hx 1 (by omega)]; rfl)
        have hiv := HS.out.2 x hxm
        have hil := HI.out x hxm
        obtain ⟨⟨ref, ivs⟩, iv⟩ := x
        simp only [] at c1 hiv hil
        obtain ⟨Ai, ci, rfl, _, _, _⟩ := hiv
        have hil2 : ¬ (6 : Int) < (ivs.length : Int) := by omega
        subst e2
        have HX := Lib.hid hx
        clear hcell hr hx e2n e2c hxm hil
        go_wp2_with fail
        go_roundw
        case rel => exact ⟨k + 1, by omega, by go_num, RF⟩
        case measure => simp [intOf]; omega
      · obtain rfl : k = n := by omega
        go_wp2
        go_ret
        exact ⟨rfl, HF.out.same RF.out⟩
  · rw [decide_eq_false h12]
    have h1 : (12 : Int) < (n : Int) := by omega
    go_enter Tryz.func30, Tryz.ntmps30
    go_wp2_with (go_at_call 40; refine (count_2 A0 A1 A2 A3 A4 A5 A6 c0 c1 c2 c3 c4 c5 c6 n hb _).mono ?_; rintro r w1 ⟨rfl, hf1⟩)
    go_ret
    exact ⟨rfl, ((Fr.refl _ w).alloc _).same hf1⟩
end Go.Proofs.YtbkookiigkckdaaGreatDoor
