/- Texts of this seat, merged: Pg, H11. -/
import Derived.Test.YtbkookiigkckdaaGreatDoorK13
import Derived.Test.YtbkookiigkckdaaGreatDoorK18
/- spec.Count and spec.PartsRight at parts of any shape. Printed by gen_pg.py. -/
namespace Go.Proofs.YtbkookiigkckdaaGreatDoor
open Go.RowKit
set_option linter.unusedVariables false
set_option linter.unusedSimpArgs false

set_option maxHeartbeats 1000000 in
theorem count_any (A0 A1 A2 A3 A4 A5 A6 : Option Addr) (c0 c1 c2 c3 c4 c5 c6 : Nat) (n0 n1 n2 n3 n4 n5 n6 n : Nat) (h0 : n0 ≤ 1099511627776) (h1 : n1 ≤ 1099511627776) (h2 : n2 ≤ 1099511627776) (h3 : n3 ≤ 1099511627776) (h4 : n4 ≤ 1099511627776) (h5 : n5 ≤ 1099511627776) (h6 : n6 ≤ 1099511627776) (hn : n = n0 + n1 + n2 + n3 + n4 + n5 + n6) (w : World) :
    Calls Tryz.prog 40 #[.agg #[.slice A0 n0 c0, .slice A1 n1 c1, .slice A2 n2 c2, .slice A3 n3 c3, .slice A4 n4 c4, .slice A5 n5 c5, .slice A6 n6 c6]] w (IntEnds n w) := by
  go_enter Tryz.func40, Tryz.ntmps40
  go_wp2
  go_ret
  refine ⟨?_, (Fr.refl _ w).alloc _⟩
  rw [show (n : Int) = ((((((n0 : Int) + n1) + n2) + n3) + n4) + n5) + n6 by omega]
  rfl

set_option maxHeartbeats 4000000 in
set_option maxRecDepth 100000 in
theorem rightG_2 (A0 A1 A2 A3 A4 A5 A6 : Option Addr) (c0 c1 c2 c3 c4 c5 c6 : Nat) (n0 n1 n2 n3 n4 n5 n6 n : Nat) (h0 : n0 ≤ 1099511627776) (h1 : n1 ≤ 1099511627776) (h2 : n2 ≤ 1099511627776) (h3 : n3 ≤ 1099511627776) (h4 : n4 ≤ 1099511627776) (h5 : n5 ≤ 1099511627776) (h6 : n6 ≤ 1099511627776) (hn : n = n0 + n1 + n2 + n3 + n4 + n5 + n6) (w : World) :
    Calls Tryz.prog 30 #[.int .i64 2, .agg #[.slice A0 n0 c0, .slice A1 n1 c1, .slice A2 n2 c2, .slice A3 n3 c3, .slice A4 n4 c4, .slice A5 n5 c5, .slice A6 n6 c6]] w (BoolEnds (n ≤ 12 ∧ n = n1) w) := by
  have hC := count_any A0 A1 A2 A3 A4 A5 A6 c0 c1 c2 c3 c4 c5 c6 n0 n1 n2 n3 n4 n5 n6 n h0 h1 h2 h3 h4 h5 h6 hn (w.alloc (.cells #[.slice A0 n0 c0, .slice A1 n1 c1, .slice A2 n2 c2, .slice A3 n3 c3, .slice A4 n4 c4, .slice A5 n5 c5, .slice A6 n6 c6] 54))
  have hle : n1 ≤ n := by omega
  clear hn
  by_cases h12 : n ≤ 12
  · have hx : ¬ (12 : Int) < (n : Int) := by omega
    by_cases he : n = n1
    · subst he
      go_enter Tryz.func30, Tryz.ntmps30
      go_wp2_with (go_at_call 40; refine hC.mono ?_; rintro r w1 ⟨rfl, hf1⟩; obtain ⟨x0, x1, x2, x3, x4, x5, x6⟩ := seven_cells ((Blk.new w 54 #[.slice A0 n0 c0, .slice A1 n c1, .slice A2 n2 c2, .slice A3 n3 c3, .slice A4 n4 c4, .slice A5 n5 c5, .slice A6 n6 c6]).fr hf1 (fun e => e)))
      go_ret
      exact ⟨_, rfl, ⟨fun _ => ⟨h12, by trivial⟩, fun _ => by simp⟩, ((Fr.refl _ w).alloc _).same hf1⟩
    · have hz : ((n : Int) - (n1 : Int) == 0) = false := by simp; omega
      go_enter Tryz.func30, Tryz.ntmps30
      go_wp2_with (go_at_call 40; refine hC.mono ?_; rintro r w1 ⟨rfl, hf1⟩; obtain ⟨x0, x1, x2, x3, x4, x5, x6⟩ := seven_cells ((Blk.new w 54 #[.slice A0 n0 c0, .slice A1 n1 c1, .slice A2 n2 c2, .slice A3 n3 c3, .slice A4 n4 c4, .slice A5 n5 c5, .slice A6 n6 c6]).fr hf1 (fun e => e)))
      go_ret
      exact ⟨_, rfl, ⟨fun h => (by first | (cases h; done) | (simp at h; done) | (simp at h; omega)), fun h => absurd h.2 he⟩, ((Fr.refl _ w).alloc _).same hf1⟩
  · have hx : (12 : Int) < (n : Int) := by omega
    go_enter Tryz.func30, Tryz.ntmps30
    go_wp2_with (go_at_call 40; refine hC.mono ?_; rintro r w1 ⟨rfl, hf1⟩)
    go_ret
    exact ⟨false, rfl, ⟨fun h => (by cases h), fun h => absurd h.1 h12⟩, ((Fr.refl _ w).alloc _).same hf1⟩

set_option maxHeartbeats 4000000 in
set_option maxRecDepth 100000 in
theorem rightG_5 (A0 A1 A2 A3 A4 A5 A6 : Option Addr) (c0 c1 c2 c3 c4 c5 c6 : Nat) (n0 n1 n2 n3 n4 n5 n6 n : Nat) (h0 : n0 ≤ 1099511627776) (h1 : n1 ≤ 1099511627776) (h2 : n2 ≤ 1099511627776) (h3 : n3 ≤ 1099511627776) (h4 : n4 ≤ 1099511627776) (h5 : n5 ≤ 1099511627776) (h6 : n6 ≤ 1099511627776) (hn : n = n0 + n1 + n2 + n3 + n4 + n5 + n6) (w : World) :
    Calls Tryz.prog 30 #[.int .i64 5, .agg #[.slice A0 n0 c0, .slice A1 n1 c1, .slice A2 n2 c2, .slice A3 n3 c3, .slice A4 n4 c4, .slice A5 n5 c5, .slice A6 n6 c6]] w (BoolEnds (n ≤ 12 ∧ n = n5) w) := by
  have hC := count_any A0 A1 A2 A3 A4 A5 A6 c0 c1 c2 c3 c4 c5 c6 n0 n1 n2 n3 n4 n5 n6 n h0 h1 h2 h3 h4 h5 h6 hn (w.alloc (.cells #[.slice A0 n0 c0, .slice A1 n1 c1, .slice A2 n2 c2, .slice A3 n3 c3, .slice A4 n4 c4, .slice A5 n5 c5, .slice A6 n6 c6] 54))
  have hle : n5 ≤ n := by omega
  clear hn
  by_cases h12 : n ≤ 12
  · have hx : ¬ (12 : Int) < (n : Int) := by omega
    by_cases he : n = n5
    · subst he
      go_enter Tryz.func30, Tryz.ntmps30
      go_wp2_with (go_at_call 40; refine hC.mono ?_; rintro r w1 ⟨rfl, hf1⟩; obtain ⟨x0, x1, x2, x3, x4, x5, x6⟩ := seven_cells ((Blk.new w 54 #[.slice A0 n0 c0, .slice A1 n1 c1, .slice A2 n2 c2, .slice A3 n3 c3, .slice A4 n4 c4, .slice A5 n c5, .slice A6 n6 c6]).fr hf1 (fun e => e)))
      go_ret
      exact ⟨_, rfl, ⟨fun _ => ⟨h12, by trivial⟩, fun _ => by simp⟩, ((Fr.refl _ w).alloc _).same hf1⟩
    · have hz : ((n : Int) - (n5 : Int) == 0) = false := by simp; omega
      go_enter Tryz.func30, Tryz.ntmps30
      go_wp2_with (go_at_call 40; refine hC.mono ?_; rintro r w1 ⟨rfl, hf1⟩; obtain ⟨x0, x1, x2, x3, x4, x5, x6⟩ := seven_cells ((Blk.new w 54 #[.slice A0 n0 c0, .slice A1 n1 c1, .slice A2 n2 c2, .slice A3 n3 c3, .slice A4 n4 c4, .slice A5 n5 c5, .slice A6 n6 c6]).fr hf1 (fun e => e)))
      go_ret
      exact ⟨_, rfl, ⟨fun h => (by first | (cases h; done) | (simp at h; done) | (simp at h; omega)), fun h => absurd h.2 he⟩, ((Fr.refl _ w).alloc _).same hf1⟩
  · have hx : (12 : Int) < (n : Int) := by omega
    go_enter Tryz.func30, Tryz.ntmps30
    go_wp2_with (go_at_call 40; refine hC.mono ?_; rintro r w1 ⟨rfl, hf1⟩)
    go_ret
    exact ⟨false, rfl, ⟨fun h => (by cases h), fun h => absurd h.1 h12⟩, ((Fr.refl _ w).alloc _).same hf1⟩

set_option maxHeartbeats 4000000 in
set_option maxRecDepth 100000 in
theorem rightG_1 (A0 A1 A2 A3 A4 A5 A6 : Option Addr) (c0 c1 c2 c3 c4 c5 c6 : Nat) (n0 n1 n2 n3 n4 n5 n6 n : Nat) (h0 : n0 ≤ 1099511627776) (h1 : n1 ≤ 1099511627776) (h2 : n2 ≤ 1099511627776) (h3 : n3 ≤ 1099511627776) (h4 : n4 ≤ 1099511627776) (h5 : n5 ≤ 1099511627776) (h6 : n6 ≤ 1099511627776) (hn : n = n0 + n1 + n2 + n3 + n4 + n5 + n6) (w : World) (P : Nat → Prop) (lv : List (Ser × Value)) (hs : SlR P w (.slice A0 n0 c0) lv) (hl : lv.length = n0) (hi : ∀ p ∈ lv, p.1.labs.length ≤ 1099511627776) :
    Calls Tryz.prog 30 #[.int .i64 1, .agg #[.slice A0 n0 c0, .slice A1 n1 c1, .slice A2 n2 c2, .slice A3 n3 c3, .slice A4 n4 c4, .slice A5 n5 c5, .slice A6 n6 c6]] w (BoolEnds (n ≤ 12 ∧ n = n0 ∧ ∀ p ∈ lv, LabOk p.1.labs 8 300) w) := by
  have hC := count_any A0 A1 A2 A3 A4 A5 A6 c0 c1 c2 c3 c4 c5 c6 n0 n1 n2 n3 n4 n5 n6 n h0 h1 h2 h3 h4 h5 h6 hn (w.alloc (.cells #[.slice A0 n0 c0, .slice A1 n1 c1, .slice A2 n2 c2, .slice A3 n3 c3, .slice A4 n4 c4, .slice A5 n5 c5, .slice A6 n6 c6] 54))
  have hle : n0 ≤ n := by omega
  clear hn
  by_cases h12 : n ≤ 12
  · have h1x : ¬ (12 : Int) < (n : Int) := by omega
    have HS := Lib.hid hs
    have HN := Lib.hid hl
    have HI := Lib.hid hi
    clear hs hl hi
    go_enter Tryz.func30, Tryz.ntmps30
    go_wp2_with (go_at_call 40; refine hC.mono ?_; rintro r w1 ⟨rfl, hf1⟩; obtain ⟨x0, x1, x2, x3, x4, x5, x6⟩ := seven_cells ((Blk.new w 54 #[.slice A0 n0 c0, .slice A1 n1 c1, .slice A2 n2 c2, .slice A3 n3 c3, .slice A4 n4 c4, .slice A5 n5 c5, .slice A6 n6 c6]).fr hf1 (fun e => e)))
    have HF := Lib.hid (((Fr.refl (fun _ => False) w).alloc (.cells #[.slice A0 n0 c0, .slice A1 n1 c1, .slice A2 n2 c2, .slice A3 n3 c3, .slice A4 n4 c4, .slice A5 n5 c5, .slice A6 n6 c6] 54)).same hf1)
    have hw1 := HF.out.size
    have HB := Lib.hid ((Blk.new w 54 #[.slice A0 n0 c0, .slice A1 n1 c1, .slice A2 n2 c2, .slice A3 n3 c3, .slice A4 n4 c4, .slice A5 n5 c5, .slice A6 n6 c6]).fr hf1 (fun e => e))
    clear hf1 hC
    go_loopw [6] (fun i wr => ∃ k : Nat, k ≤ n0 ∧ i = .int .i64 k ∧ Hid (Fr (fun _ => False) w1 wr) ∧ Hid (∀ j p, j < k → lv[j]? = some p → LabOk p.1.labs 8 300)) (fun i _ => n0 - (intOf i).toNat)
    case atStart => exact ⟨0, Nat.zero_le _, rfl, Lib.hid (Fr.refl _ _), Lib.hid (fun j p h => absurd h (Nat.not_lt_zero _))⟩
    case round =>
      obtain ⟨k, hk, rfl, RF, RG⟩ := hrel
      obtain ⟨y0, y1, y2, y3, y4, y5, y6⟩ := seven_cells (HB.out.fr RF.out (fun e => e))
      clear x0 x1 x2 x3 x4 x5 x6
      by_cases hlt : k < n0
      · have hS := HS.out.fr (HF.out.same RF.out) (fun _ _ e => e)
        have hiv := hS.2
        obtain ⟨⟨A, c, e2, _, hc, hr⟩, _⟩ := hS
        injection e2 with e2 e2n e2c
        obtain ⟨g, off, rfl, _, hcell⟩ := hr (by have := HN.out; omega)
        obtain ⟨x, hx⟩ : ∃ x, lv[k]? = some x := ⟨_, List.getElem?_eq_getElem (by rw [HN.out]; exact hlt)⟩
        have hxm := List.mem_of_getElem? hx
        have c1 : wr.cell? ⟨g, off + k * 2 + 1, none⟩ = some x.2 := hcell (k * 2 + 1) _ (by rw [flat2 serc (fun _ => rfl) lv k x hx 1 (by omega)]; rfl)
        have hivx := hiv x hxm
        have hil := HI.out x hxm
        have HXM := Lib.hid hxm
        have HX := Lib.hid hx
        clear hiv hx hxm
        obtain ⟨⟨ref, labs⟩, iv⟩ := x
        simp only [] at c1 hivx hil
        have hC := labelsRight_any P iv labs 8 300 wr hivx hil (by omega) (by omega)
        obtain ⟨Ai, ci, rfl, _, _, _⟩ := hivx
        subst e2
        clear hcell hr e2n e2c hil
        go_wp2_with (go_at_call 53; refine hC.mono ?_; rintro r5 w5 ⟨b, rfl, hb5, hf5⟩; refine Hid.out ?_)
        have H5 := Lib.hid (RF.out.same hf5)
        have HB5 := Lib.hid hb5
        obtain ⟨z0, z1, z2, z3, z4, z5, z6⟩ := seven_cells (HB.out.fr H5.out (fun e => e))
        clear hf5 hb5 y0 y1 y2 y3 y4 y5 y6 hC c1
        rcases b with _ | _
        · refine Lib.hid ?_
          go_wp2
          go_ret
          exact ⟨false, rfl, ⟨fun h => (by cases h), fun h => absurd (HB5.out.2 (h.2.2 _ HXM.out)) (by decide)⟩, HF.out.same H5.out⟩
        · refine Lib.hid ?_
          go_wp2
          go_roundw
          case rel => exact ⟨k + 1, by omega, by go_num, H5, Lib.hid (fun j p h h2 => by
            rcases Nat.lt_or_ge j k with h3 | h3
            · exact RG.out j p h3 h2
            · obtain rfl : j = k := by omega
              have h4 := h2.symm.trans HX.out
              injection h4 with h4
              rw [h4]
              exact HB5.out.1 rfl)⟩
          case measure => simp [intOf]; omega
      · obtain rfl : k = n0 := by omega
        have hall : Hid (∀ p ∈ lv, LabOk p.1.labs 8 300) := Lib.hid (fun p hp => by
          obtain ⟨j, hj, e⟩ := List.getElem_of_mem hp
          exact RG.out j p (by rw [← HN.out]; exact hj) (by rw [List.getElem?_eq_getElem hj, e]))
        by_cases he : n = k
        · have HE := Lib.hid he
          have hz : ((n : Int) - (k : Int) == 0) = true := by simp; omega
          clear he
          go_wp2
          go_ret
          refine ⟨_, rfl, ⟨fun _ => ⟨h12, HE.out, hall.out⟩, fun _ => by first | rfl | exact hz | (have := HE.out; simp; omega)⟩, HF.out.same RF.out⟩
        · have hz : ((n : Int) - (k : Int) == 0) = false := by simp; omega
          go_wp2
          go_ret
          exact ⟨_, rfl, ⟨fun h => (by first | (cases h; done) | (simp at h; done) | (simp at h; omega)), fun h => absurd h.2.1 he⟩, HF.out.same RF.out⟩
  · have hx : (12 : Int) < (n : Int) := by omega
    go_enter Tryz.func30, Tryz.ntmps30
    go_wp2_with (go_at_call 40; refine hC.mono ?_; rintro r w1 ⟨rfl, hf1⟩)
    go_ret
    exact ⟨false, rfl, ⟨fun h => (by cases h), fun h => absurd h.1 h12⟩, ((Fr.refl _ w).alloc _).same hf1⟩

set_option maxHeartbeats 4000000 in
set_option maxRecDepth 100000 in
theorem rightG_4 (A0 A1 A2 A3 A4 A5 A6 : Option Addr) (c0 c1 c2 c3 c4 c5 c6 : Nat) (n0 n1 n2 n3 n4 n5 n6 n : Nat) (h0 : n0 ≤ 1099511627776) (h1 : n1 ≤ 1099511627776) (h2 : n2 ≤ 1099511627776) (h3 : n3 ≤ 1099511627776) (h4 : n4 ≤ 1099511627776) (h5 : n5 ≤ 1099511627776) (h6 : n6 ≤ 1099511627776) (hn : n = n0 + n1 + n2 + n3 + n4 + n5 + n6) (w : World) (P : Nat → Prop) (lv : List (Exm × Value)) (hs : SlX P w (.slice A3 n3 c3) lv) (hl : lv.length = n3) (hi : ∀ p ∈ lv, p.1.labs.length ≤ 1099511627776) :
    Calls Tryz.prog 30 #[.int .i64 4, .agg #[.slice A0 n0 c0, .slice A1 n1 c1, .slice A2 n2 c2, .slice A3 n3 c3, .slice A4 n4 c4, .slice A5 n5 c5, .slice A6 n6 c6]] w (BoolEnds (n ≤ 12 ∧ n = n3 ∧ ∀ p ∈ lv, LabOk p.1.labs 8 300) w) := by
  have hC := count_any A0 A1 A2 A3 A4 A5 A6 c0 c1 c2 c3 c4 c5 c6 n0 n1 n2 n3 n4 n5 n6 n h0 h1 h2 h3 h4 h5 h6 hn (w.alloc (.cells #[.slice A0 n0 c0, .slice A1 n1 c1, .slice A2 n2 c2, .slice A3 n3 c3, .slice A4 n4 c4, .slice A5 n5 c5, .slice A6 n6 c6] 54))
  have hle : n3 ≤ n := by omega
  clear hn
  by_cases h12 : n ≤ 12
  · have h1x : ¬ (12 : Int) < (n : Int) := by omega
    have HS := Lib.hid hs
    have HN := Lib.hid hl
    have HI := Lib.hid hi
    clear hs hl hi
    go_enter Tryz.func30, Tryz.ntmps30
    go_wp2_with (go_at_call 40; refine hC.mono ?_; rintro r w1 ⟨rfl, hf1⟩; obtain ⟨x0, x1, x2, x3, x4, x5, x6⟩ := seven_cells ((Blk.new w 54 #[.slice A0 n0 c0, .slice A1 n1 c1, .slice A2 n2 c2, .slice A3 n3 c3, .slice A4 n4 c4, .slice A5 n5 c5, .slice A6 n6 c6]).fr hf1 (fun e => e)))
    have HF := Lib.hid (((Fr.refl (fun _ => False) w).alloc (.cells #[.slice A0 n0 c0, .slice A1 n1 c1, .slice A2 n2 c2, .slice A3 n3 c3, .slice A4 n4 c4, .slice A5 n5 c5, .slice A6 n6 c6] 54)).same hf1)
    have hw1 := HF.out.size
    have HB := Lib.hid ((Blk.new w 54 #[.slice A0 n0 c0, .slice A1 n1 c1, .slice A2 n2 c2, .slice A3 n3 c3, .slice A4 n4 c4, .slice A5 n5 c5, .slice A6 n6 c6]).fr hf1 (fun e => e))
    clear hf1 hC
    go_loopw [8] (fun i wr => ∃ k : Nat, k ≤ n3 ∧ i = .int .i64 k ∧ Hid (Fr (fun _ => False) w1 wr) ∧ Hid (∀ j p, j < k → lv[j]? = some p → LabOk p.1.labs 8 300)) (fun i _ => n3 - (intOf i).toNat)
    case atStart => exact ⟨0, Nat.zero_le _, rfl, Lib.hid (Fr.refl _ _), Lib.hid (fun j p h => absurd h (Nat.not_lt_zero _))⟩
    case round =>
      obtain ⟨k, hk, rfl, RF, RG⟩ := hrel
      obtain ⟨y0, y1, y2, y3, y4, y5, y6⟩ := seven_cells (HB.out.fr RF.out (fun e => e))
      clear x0 x1 x2 x3 x4 x5 x6
      by_cases hlt : k < n3
      · have hS := HS.out.fr (HF.out.same RF.out) (fun _ _ e => e)
        have hiv := hS.2
        obtain ⟨⟨A, c, e2, _, hc, hr⟩, _⟩ := hS
        injection e2 with e2 e2n e2c
        obtain ⟨g, off, rfl, _, hcell⟩ := hr (by have := HN.out; omega)
        obtain ⟨x, hx⟩ : ∃ x, lv[k]? = some x := ⟨_, List.getElem?_eq_getElem (by rw [HN.out]; exact hlt)⟩
        have hxm := List.mem_of_getElem? hx
        have c1 : wr.cell? ⟨g, off + k * 4 + 3, none⟩ = some x.2 := hcell (k * 4 + 3) _ (by rw [flat4 exc (fun _ => rfl) lv k x hx 3 (by omega)]; rfl)
        have hivx := hiv x hxm
        have hil := HI.out x hxm
        have HXM := Lib.hid hxm
        have HX := Lib.hid hx
        clear hiv hx hxm
        obtain ⟨⟨ref, t, vv, labs⟩, iv⟩ := x
        simp only [] at c1 hivx hil
        have hC := labelsRight_any P iv labs 8 300 wr hivx hil (by omega) (by omega)
        obtain ⟨Ai, ci, rfl, _, _, _⟩ := hivx
        subst e2
        clear hcell hr e2n e2c hil
        go_wp2_with (go_at_call 53; refine hC.mono ?_; rintro r5 w5 ⟨b, rfl, hb5, hf5⟩; refine Hid.out ?_)
        have H5 := Lib.hid (RF.out.same hf5)
        have HB5 := Lib.hid hb5
        obtain ⟨z0, z1, z2, z3, z4, z5, z6⟩ := seven_cells (HB.out.fr H5.out (fun e => e))
        clear hf5 hb5 y0 y1 y2 y3 y4 y5 y6 hC c1
        rcases b with _ | _
        · refine Lib.hid ?_
          go_wp2
          go_ret
          exact ⟨false, rfl, ⟨fun h => (by cases h), fun h => absurd (HB5.out.2 (h.2.2 _ HXM.out)) (by decide)⟩, HF.out.same H5.out⟩
        · refine Lib.hid ?_
          go_wp2
          go_roundw
          case rel => exact ⟨k + 1, by omega, by go_num, H5, Lib.hid (fun j p h h2 => by
            rcases Nat.lt_or_ge j k with h3 | h3
            · exact RG.out j p h3 h2
            · obtain rfl : j = k := by omega
              have h4 := h2.symm.trans HX.out
              injection h4 with h4
              rw [h4]
              exact HB5.out.1 rfl)⟩
          case measure => simp [intOf]; omega
      · obtain rfl : k = n3 := by omega
        have hall : Hid (∀ p ∈ lv, LabOk p.1.labs 8 300) := Lib.hid (fun p hp => by
          obtain ⟨j, hj, e⟩ := List.getElem_of_mem hp
          exact RG.out j p (by rw [← HN.out]; exact hj) (by rw [List.getElem?_eq_getElem hj, e]))
        by_cases he : n = k
        · have HE := Lib.hid he
          have hz : ((n : Int) - (k : Int) == 0) = true := by simp; omega
          clear he
          go_wp2
          go_ret
          refine ⟨_, rfl, ⟨fun _ => ⟨h12, HE.out, hall.out⟩, fun _ => by first | rfl | exact hz | (have := HE.out; simp; omega)⟩, HF.out.same RF.out⟩
        · have hz : ((n : Int) - (k : Int) == 0) = false := by simp; omega
          go_wp2
          go_ret
          exact ⟨_, rfl, ⟨fun h => (by first | (cases h; done) | (simp at h; done) | (simp at h; omega)), fun h => absurd h.2.1 he⟩, HF.out.same RF.out⟩
  · have hx : (12 : Int) < (n : Int) := by omega
    go_enter Tryz.func30, Tryz.ntmps30
    go_wp2_with (go_at_call 40; refine hC.mono ?_; rintro r w1 ⟨rfl, hf1⟩)
    go_ret
    exact ⟨false, rfl, ⟨fun h => (by cases h), fun h => absurd h.1 h12⟩, ((Fr.refl _ w).alloc _).same hf1⟩

end Go.Proofs.YtbkookiigkckdaaGreatDoor

/- spec.PartsRight at histograms. Printed by gen_h11.py. -/
namespace Go.Proofs.YtbkookiigkckdaaGreatDoor
open Go.RowKit
set_option linter.unusedVariables false
set_option linter.unusedSimpArgs false


set_option maxHeartbeats 4000000 in
set_option maxRecDepth 100000 in
theorem rightG_7 (A0 A1 A2 A3 A4 A5 A6 : Option Addr) (c0 c1 c2 c3 c4 c5 c6 : Nat) (n0 n1 n2 n3 n4 n5 n6 n : Nat) (h0 : n0 ≤ 1099511627776) (h1 : n1 ≤ 1099511627776) (h2 : n2 ≤ 1099511627776) (h3 : n3 ≤ 1099511627776) (h4 : n4 ≤ 1099511627776) (h5 : n5 ≤ 1099511627776) (h6 : n6 ≤ 1099511627776) (hn : n = n0 + n1 + n2 + n3 + n4 + n5 + n6) (w : World) (P : Nat → Prop) (lv : List (Rhs × Hsl)) (hs : SlH P w (.slice A6 n6 c6) lv) (hl : lv.length = n6) (hi : ∀ p ∈ lv, p.1.h.few 1099511627776) :
    Calls Tryz.prog 30 #[.int .i64 7, .agg #[.slice A0 n0 c0, .slice A1 n1 c1, .slice A2 n2 c2, .slice A3 n3 c3, .slice A4 n4 c4, .slice A5 n5 c5, .slice A6 n6 c6]] w (BoolEnds (n ≤ 12 ∧ n = n6 ∧ (∀ p ∈ lv, ShortH false p.1.h) ∧ (lv = [] ∨ ∃ p ∈ lv, isCus p.1 = false)) w) := by
  have hC := count_any A0 A1 A2 A3 A4 A5 A6 c0 c1 c2 c3 c4 c5 c6 n0 n1 n2 n3 n4 n5 n6 n h0 h1 h2 h3 h4 h5 h6 hn (w.alloc (.cells #[.slice A0 n0 c0, .slice A1 n1 c1, .slice A2 n2 c2, .slice A3 n3 c3, .slice A4 n4 c4, .slice A5 n5 c5, .slice A6 n6 c6] 54))
  have hle : n6 ≤ n := by omega
  clear hn
  by_cases h12 : n ≤ 12
  · have h1x : ¬ (12 : Int) < (n : Int) := by omega
    have HS := Lib.hid hs
    have HN := Lib.hid hl
    have HI := Lib.hid hi
    clear hs hl hi
    go_enter Tryz.func30, Tryz.ntmps30
    go_wp2_with (go_at_call 40; refine hC.mono ?_; rintro r w1 ⟨rfl, hf1⟩; obtain ⟨x0, x1, x2, x3, x4, x5, x6⟩ := seven_cells ((Blk.new w 54 #[.slice A0 n0 c0, .slice A1 n1 c1, .slice A2 n2 c2, .slice A3 n3 c3, .slice A4 n4 c4, .slice A5 n5 c5, .slice A6 n6 c6]).fr hf1 (fun e => e)))
    have HF := Lib.hid (((Fr.refl (fun _ => False) w).alloc (.cells #[.slice A0 n0 c0, .slice A1 n1 c1, .slice A2 n2 c2, .slice A3 n3 c3, .slice A4 n4 c4, .slice A5 n5 c5, .slice A6 n6 c6] 54)).same hf1)
    have hw1 := HF.out.size
    have HB := Lib.hid ((Blk.new w 54 #[.slice A0 n0 c0, .slice A1 n1 c1, .slice A2 n2 c2, .slice A3 n3 c3, .slice A4 n4 c4, .slice A5 n5 c5, .slice A6 n6 c6]).fr hf1 (fun e => e))
    clear hf1 hC
    go_loopw [10] (fun i wr => ∃ k : Nat, k ≤ n6 ∧ i = .int .i64 k ∧ Hid (Fr (fun _ => False) w1 wr) ∧ Hid (∀ j p, j < k → lv[j]? = some p → ShortH false p.1.h)) (fun i _ => n6 - (intOf i).toNat)
    case atStart => exact ⟨0, Nat.zero_le _, rfl, Lib.hid (Fr.refl _ _), Lib.hid (fun j p h => absurd h (Nat.not_lt_zero _))⟩
    case round =>
      obtain ⟨k, hk, rfl, RF, RG⟩ := hrel
      obtain ⟨y0, y1, y2, y3, y4, y5, y6⟩ := seven_cells (HB.out.fr RF.out (fun e => e))
      clear x0 x1 x2 x3 x4 x5 x6
      by_cases hlt : k < n6
      · have hS := HS.out.fr (HF.out.same RF.out) (fun _ _ e => e)
        have hiv := hS.2
        obtain ⟨g, off, rfl, _, hcell⟩ := (show Sl P wr (.slice A6 n6 c6) 15 lv.length (lv.flatMap hsc) from hS.1).at (by have := HN.out; omega)
        obtain ⟨x, hx⟩ : ∃ x, lv[k]? = some x := ⟨_, List.getElem?_eq_getElem (by rw [HN.out]; exact hlt)⟩
        have hxm := List.mem_of_getElem? hx
        have cc : ∀ j, j < 15 → ∀ u, (hsc x)[j]? = some u → wr.cell? ⟨g, off + (k * 15 + j), none⟩ = some u := fun j hj u hu => hcell (k * 15 + j) u (by rw [flatN 15 hsc (fun _ => rfl) lv k x hx j hj]; exact hu)
        have d2 : wr.cell? ⟨g, off + k * 15 + 2, none⟩ = some (.int .u8 x.1.h.hint.toNat) := cc 2 (by omega) _ rfl
        have d3 : wr.cell? ⟨g, off + k * 15 + 3, none⟩ = some (.int .i32 x.1.h.schema) := cc 3 (by omega) _ rfl
        have d4 : wr.cell? ⟨g, off + k * 15 + 4, none⟩ = some (.int .u64 x.1.h.thr) := cc 4 (by omega) _ rfl
        have d5 : wr.cell? ⟨g, off + k * 15 + 5, none⟩ = some (.int .u64 x.1.h.sum) := cc 5 (by omega) _ rfl
        have d6 : wr.cell? ⟨g, off + k * 15 + 6, none⟩ = some (.int .u64 x.1.h.zc) := cc 6 (by omega) _ rfl
        have d7 : wr.cell? ⟨g, off + k * 15 + 7, none⟩ = some (.int .u64 x.1.h.cnt) := cc 7 (by omega) _ rfl
        have d8 : wr.cell? ⟨g, off + k * 15 + 8, none⟩ = some x.2.p := cc 8 (by omega) _ rfl
        have d9 : wr.cell? ⟨g, off + k * 15 + 9, none⟩ = some x.2.n := cc 9 (by omega) _ rfl
        have d10 : wr.cell? ⟨g, off + k * 15 + 10, none⟩ = some x.2.u := cc 10 (by omega) _ rfl
        have d11 : wr.cell? ⟨g, off + k * 15 + 11, none⟩ = some x.2.d := cc 11 (by omega) _ rfl
        have d12 : wr.cell? ⟨g, off + k * 15 + 12, none⟩ = some x.2.fu := cc 12 (by omega) _ rfl
        have d13 : wr.cell? ⟨g, off + k * 15 + 13, none⟩ = some x.2.fd := cc 13 (by omega) _ rfl
        have d14 : wr.cell? ⟨g, off + k * 15 + 14, none⟩ = some x.2.c := cc 14 (by omega) _ rfl
        have hivx := hiv x hxm
        have hil := HI.out x hxm
        have HXM := Lib.hid hxm
        have HX := Lib.hid hx
        clear hiv hx hxm cc hcell hS
        obtain ⟨⟨ref, t, ⟨hint, schema, thr, sum, zc, cnt, pos, neg, ups, downs, fups, fdowns, cus⟩⟩, ⟨sp, sn, su, sd, sfu, sfd, sc⟩⟩ := x
        simp only [] at d2 d3 d4 d5 d6 d7 d8 d9 d10 d11 d12 d13 d14 hivx hil
        have hC := short_any false P _ _ wr hivx hil
        obtain ⟨z1, z2, z3, z4, z5, z6, z7⟩ := hivx
        simp only [] at z1 z2 z3 z4 z5 z6 z7
        obtain ⟨B1, b1, rfl⟩ := z1.shape
        obtain ⟨B2, b2, rfl⟩ := z2.shape
        obtain ⟨B3, b3, rfl⟩ := z3.shape
        obtain ⟨B4, b4, rfl⟩ := z4.shape
        obtain ⟨B5, b5, rfl⟩ := z5.shape
        obtain ⟨B6, b6, rfl⟩ := z6.shape
        obtain ⟨B7, b7, rfl⟩ := z7.shape
        simp only [hic] at hC
        obtain ⟨m1, e1⟩ : ∃ n, pos.length = n := ⟨_, rfl⟩
        rw [e1] at d8
        obtain ⟨m2, e2⟩ : ∃ n, neg.length = n := ⟨_, rfl⟩
        rw [e2] at d9
        obtain ⟨m3, e3⟩ : ∃ n, ups.length = n := ⟨_, rfl⟩
        rw [e3] at d10
        obtain ⟨m4, e4⟩ : ∃ n, downs.length = n := ⟨_, rfl⟩
        rw [e4] at d11
        obtain ⟨m5, e5⟩ : ∃ n, fups.length = n := ⟨_, rfl⟩
        rw [e5] at d12
        obtain ⟨m6, e6⟩ : ∃ n, fdowns.length = n := ⟨_, rfl⟩
        rw [e6] at d13
        obtain ⟨m7, e7⟩ : ∃ n, cus.length = n := ⟨_, rfl⟩
        rw [e7] at d14
        rw [e1, e2, e3, e4, e5, e6, e7] at hC
        clear z1 z2 z3 z4 z5 z6 z7 hil e1 e2 e3 e4 e5 e6 e7
        go_wp2_with (go_at_call 89; refine hC.mono ?_; rintro r5 w5 ⟨b, rfl, hb5, hf5⟩; refine Hid.out ?_)
        have H5 := Lib.hid (RF.out.same hf5)
        have HB5 := Lib.hid hb5
        obtain ⟨z0, z1, z2, z3, z4, z5, z6⟩ := seven_cells (HB.out.fr H5.out (fun e => e))
        clear hf5 hb5 y0 y1 y2 y3 y4 y5 y6 hC d2 d3 d4 d5 d6 d7 d8 d9 d10 d11 d12 d13 d14
        rcases b with _ | _
        · refine Lib.hid ?_
          go_wp2
          go_ret
          exact ⟨false, rfl, ⟨fun h => (by cases h), fun h => absurd (HB5.out.2 (h.2.2.1 _ HXM.out)) (by decide)⟩, HF.out.same H5.out⟩
        · refine Lib.hid ?_
          go_wp2
          go_roundw
          case rel => exact ⟨k + 1, by omega, by go_num, H5, Lib.hid (fun j p h h2 => by
            rcases Nat.lt_or_ge j k with h3 | h3
            · exact RG.out j p h3 h2
            · obtain rfl : j = k := by omega
              have h4 := h2.symm.trans HX.out
              injection h4 with h4
              rw [h4]
              exact HB5.out.1 rfl)⟩
          case measure => simp [intOf]; omega
      · obtain rfl : k = n6 := by omega
        have hall : Hid (∀ p ∈ lv, ShortH false p.1.h) := Lib.hid (fun p hp => by
          obtain ⟨j, hj, e⟩ := List.getElem_of_mem hp
          exact RG.out j p (by rw [← HN.out]; exact hj) (by rw [List.getElem?_eq_getElem hj, e]))
        by_cases he : n = k
        · have HEQ := Lib.hid he
          have hz : ((n : Int) - (k : Int) == 0) = true := by simp; omega
          have hC := custom_any false P (.slice A6 k c6) lv wr (HS.out.fr (HF.out.same RF.out) (fun _ _ e => e)) (by have := HN.out; omega)
          obtain ⟨m, hm⟩ : ∃ m, (lv.filter (keepsC false)).length = m := ⟨_, rfl⟩
          clear he
          by_cases hk0 : k = 0
          · have hnil : Hid (lv = []) := Lib.hid (List.eq_nil_of_length_eq_zero (by rw [HN.out]; exact hk0))
            have hkz : ((k : Int) == 0) = true := by simp; omega
            clear hk0 hm hC
            go_wp2
            go_ret
            exact ⟨_, rfl, iff_of_true (by first | rfl | (simp <;> omega)) ⟨h12, HEQ.out, hall.out, .inl hnil.out⟩, HF.out.same RF.out⟩
          · have hkz : ((k : Int) == 0) = false := by simp; omega
            have hne : Hid (lv ≠ []) := Lib.hid (fun h => hk0 (by rw [← HN.out, h]; rfl))
            clear hk0
            by_cases hm0 : (0 : Int) < (m : Int)
            · have hcu : Hid (∃ p ∈ lv, isCus p.1 = false) := Lib.hid (by
                have h1 : 0 < (lv.filter (keepsC false)).length := by omega
                obtain ⟨p, hp⟩ := List.exists_mem_of_length_pos h1
                obtain ⟨h2, h3⟩ := List.mem_filter.1 hp
                exact ⟨p, h2, by simpa [keepsC] using h3⟩)
              go_wp2_with (go_at_call 36; refine hC.mono ?_; rintro r7 w7 ⟨v7, rfl, ho7, hf7⟩; rw [hm] at ho7; obtain ⟨a7, k7, rfl⟩ := own_slice' ho7; have H7 := Lib.hid hf7; clear ho7 hf7)
              go_ret
              exact ⟨_, rfl, iff_of_true (by first | rfl | (simp <;> omega)) ⟨h12, HEQ.out, hall.out, .inr hcu.out⟩, (HF.out.same RF.out).same H7.out⟩
            · have hno : Hid (¬ ∃ p ∈ lv, isCus p.1 = false) := Lib.hid (fun ⟨p, hp, hq⟩ => by
                have h2 : p ∈ lv.filter (keepsC false) := List.mem_filter.2 ⟨hp, by simp [keepsC, hq]⟩
                have := List.length_pos_of_mem h2
                omega)
              go_wp2_with (go_at_call 36; refine hC.mono ?_; rintro r7 w7 ⟨v7, rfl, ho7, hf7⟩; rw [hm] at ho7; obtain ⟨a7, k7, rfl⟩ := own_slice' ho7; have H7 := Lib.hid hf7; clear ho7 hf7)
              go_ret
              exact ⟨_, rfl, iff_of_false (by first | (intro h; cases h; done) | (simp <;> omega)) (fun h => h.2.2.2.elim hne.out hno.out), (HF.out.same RF.out).same H7.out⟩
        · have hz : ((n : Int) - (k : Int) == 0) = false := by simp; omega
          have HNE := Lib.hid he
          clear he
          go_wp2
          go_ret
          exact ⟨_, rfl, iff_of_false (by first | (intro h; cases h; done) | (simp <;> omega)) (fun h => absurd h.2.1 HNE.out), HF.out.same RF.out⟩
  · have hx : (12 : Int) < (n : Int) := by omega
    go_enter Tryz.func30, Tryz.ntmps30
    go_wp2_with (go_at_call 40; refine hC.mono ?_; rintro r w1 ⟨rfl, hf1⟩)
    go_ret
    exact ⟨false, rfl, ⟨fun h => (by cases h), fun h => absurd h.1 h12⟩, ((Fr.refl _ w).alloc _).same hf1⟩


set_option maxHeartbeats 4000000 in
set_option maxRecDepth 100000 in
theorem rightG_8 (A0 A1 A2 A3 A4 A5 A6 : Option Addr) (c0 c1 c2 c3 c4 c5 c6 : Nat) (n0 n1 n2 n3 n4 n5 n6 n : Nat) (h0 : n0 ≤ 1099511627776) (h1 : n1 ≤ 1099511627776) (h2 : n2 ≤ 1099511627776) (h3 : n3 ≤ 1099511627776) (h4 : n4 ≤ 1099511627776) (h5 : n5 ≤ 1099511627776) (h6 : n6 ≤ 1099511627776) (hn : n = n0 + n1 + n2 + n3 + n4 + n5 + n6) (w : World) (P : Nat → Prop) (lv : List (Rhs × Hsl)) (hs : SlH P w (.slice A6 n6 c6) lv) (hl : lv.length = n6) (hi : ∀ p ∈ lv, p.1.h.few 1099511627776) :
    Calls Tryz.prog 30 #[.int .i64 8, .agg #[.slice A0 n0 c0, .slice A1 n1 c1, .slice A2 n2 c2, .slice A3 n3 c3, .slice A4 n4 c4, .slice A5 n5 c5, .slice A6 n6 c6]] w (BoolEnds (n ≤ 12 ∧ n = n6 ∧ (∀ p ∈ lv, ShortH true p.1.h) ∧ (lv = [] ∨ ∃ p ∈ lv, isCus p.1 = false)) w) := by
  have hC := count_any A0 A1 A2 A3 A4 A5 A6 c0 c1 c2 c3 c4 c5 c6 n0 n1 n2 n3 n4 n5 n6 n h0 h1 h2 h3 h4 h5 h6 hn (w.alloc (.cells #[.slice A0 n0 c0, .slice A1 n1 c1, .slice A2 n2 c2, .slice A3 n3 c3, .slice A4 n4 c4, .slice A5 n5 c5, .slice A6 n6 c6] 54))
  have hle : n6 ≤ n := by omega
  clear hn
  by_cases h12 : n ≤ 12
  · have h1x : ¬ (12 : Int) < (n : Int) := by omega
    have HS := Lib.hid hs
    have HN := Lib.hid hl
    have HI := Lib.hid hi
    clear hs hl hi
    go_enter Tryz.func30, Tryz.ntmps30
    go_wp2_with (go_at_call 40; refine hC.mono ?_; rintro r w1 ⟨rfl, hf1⟩; obtain ⟨x0, x1, x2, x3, x4, x5, x6⟩ := seven_cells ((Blk.new w 54 #[.slice A0 n0 c0, .slice A1 n1 c1, .slice A2 n2 c2, .slice A3 n3 c3, .slice A4 n4 c4, .slice A5 n5 c5, .slice A6 n6 c6]).fr hf1 (fun e => e)))
    have HF := Lib.hid (((Fr.refl (fun _ => False) w).alloc (.cells #[.slice A0 n0 c0, .slice A1 n1 c1, .slice A2 n2 c2, .slice A3 n3 c3, .slice A4 n4 c4, .slice A5 n5 c5, .slice A6 n6 c6] 54)).same hf1)
    have hw1 := HF.out.size
    have HB := Lib.hid ((Blk.new w 54 #[.slice A0 n0 c0, .slice A1 n1 c1, .slice A2 n2 c2, .slice A3 n3 c3, .slice A4 n4 c4, .slice A5 n5 c5, .slice A6 n6 c6]).fr hf1 (fun e => e))
    clear hf1 hC
    go_loopw [10] (fun i wr => ∃ k : Nat, k ≤ n6 ∧ i = .int .i64 k ∧ Hid (Fr (fun _ => False) w1 wr) ∧ Hid (∀ j p, j < k → lv[j]? = some p → ShortH true p.1.h)) (fun i _ => n6 - (intOf i).toNat)
    case atStart => exact ⟨0, Nat.zero_le _, rfl, Lib.hid (Fr.refl _ _), Lib.hid (fun j p h => absurd h (Nat.not_lt_zero _))⟩
    case round =>
      obtain ⟨k, hk, rfl, RF, RG⟩ := hrel
      obtain ⟨y0, y1, y2, y3, y4, y5, y6⟩ := seven_cells (HB.out.fr RF.out (fun e => e))
      clear x0 x1 x2 x3 x4 x5 x6
      by_cases hlt : k < n6
      · have hS := HS.out.fr (HF.out.same RF.out) (fun _ _ e => e)
        have hiv := hS.2
        obtain ⟨g, off, rfl, _, hcell⟩ := (show Sl P wr (.slice A6 n6 c6) 15 lv.length (lv.flatMap hsc) from hS.1).at (by have := HN.out; omega)
        obtain ⟨x, hx⟩ : ∃ x, lv[k]? = some x := ⟨_, List.getElem?_eq_getElem (by rw [HN.out]; exact hlt)⟩
        have hxm := List.mem_of_getElem? hx
        have cc : ∀ j, j < 15 → ∀ u, (hsc x)[j]? = some u → wr.cell? ⟨g, off + (k * 15 + j), none⟩ = some u := fun j hj u hu => hcell (k * 15 + j) u (by rw [flatN 15 hsc (fun _ => rfl) lv k x hx j hj]; exact hu)
        have d2 : wr.cell? ⟨g, off + k * 15 + 2, none⟩ = some (.int .u8 x.1.h.hint.toNat) := cc 2 (by omega) _ rfl
        have d3 : wr.cell? ⟨g, off + k * 15 + 3, none⟩ = some (.int .i32 x.1.h.schema) := cc 3 (by omega) _ rfl
        have d4 : wr.cell? ⟨g, off + k * 15 + 4, none⟩ = some (.int .u64 x.1.h.thr) := cc 4 (by omega) _ rfl
        have d5 : wr.cell? ⟨g, off + k * 15 + 5, none⟩ = some (.int .u64 x.1.h.sum) := cc 5 (by omega) _ rfl
        have d6 : wr.cell? ⟨g, off + k * 15 + 6, none⟩ = some (.int .u64 x.1.h.zc) := cc 6 (by omega) _ rfl
        have d7 : wr.cell? ⟨g, off + k * 15 + 7, none⟩ = some (.int .u64 x.1.h.cnt) := cc 7 (by omega) _ rfl
        have d8 : wr.cell? ⟨g, off + k * 15 + 8, none⟩ = some x.2.p := cc 8 (by omega) _ rfl
        have d9 : wr.cell? ⟨g, off + k * 15 + 9, none⟩ = some x.2.n := cc 9 (by omega) _ rfl
        have d10 : wr.cell? ⟨g, off + k * 15 + 10, none⟩ = some x.2.u := cc 10 (by omega) _ rfl
        have d11 : wr.cell? ⟨g, off + k * 15 + 11, none⟩ = some x.2.d := cc 11 (by omega) _ rfl
        have d12 : wr.cell? ⟨g, off + k * 15 + 12, none⟩ = some x.2.fu := cc 12 (by omega) _ rfl
        have d13 : wr.cell? ⟨g, off + k * 15 + 13, none⟩ = some x.2.fd := cc 13 (by omega) _ rfl
        have d14 : wr.cell? ⟨g, off + k * 15 + 14, none⟩ = some x.2.c := cc 14 (by omega) _ rfl
        have hivx := hiv x hxm
        have hil := HI.out x hxm
        have HXM := Lib.hid hxm
        have HX := Lib.hid hx
        clear hiv hx hxm cc hcell hS
        obtain ⟨⟨ref, t, ⟨hint, schema, thr, sum, zc, cnt, pos, neg, ups, downs, fups, fdowns, cus⟩⟩, ⟨sp, sn, su, sd, sfu, sfd, sc⟩⟩ := x
        simp only [] at d2 d3 d4 d5 d6 d7 d8 d9 d10 d11 d12 d13 d14 hivx hil
        have hC := short_any true P _ _ wr hivx hil
        obtain ⟨z1, z2, z3, z4, z5, z6, z7⟩ := hivx
        simp only [] at z1 z2 z3 z4 z5 z6 z7
        obtain ⟨B1, b1, rfl⟩ := z1.shape
        obtain ⟨B2, b2, rfl⟩ := z2.shape
        obtain ⟨B3, b3, rfl⟩ := z3.shape
        obtain ⟨B4, b4, rfl⟩ := z4.shape
        obtain ⟨B5, b5, rfl⟩ := z5.shape
        obtain ⟨B6, b6, rfl⟩ := z6.shape
        obtain ⟨B7, b7, rfl⟩ := z7.shape
        simp only [hic] at hC
        obtain ⟨m1, e1⟩ : ∃ n, pos.length = n := ⟨_, rfl⟩
        rw [e1] at d8
        obtain ⟨m2, e2⟩ : ∃ n, neg.length = n := ⟨_, rfl⟩
        rw [e2] at d9
        obtain ⟨m3, e3⟩ : ∃ n, ups.length = n := ⟨_, rfl⟩
        rw [e3] at d10
        obtain ⟨m4, e4⟩ : ∃ n, downs.length = n := ⟨_, rfl⟩
        rw [e4] at d11
        obtain ⟨m5, e5⟩ : ∃ n, fups.length = n := ⟨_, rfl⟩
        rw [e5] at d12
        obtain ⟨m6, e6⟩ : ∃ n, fdowns.length = n := ⟨_, rfl⟩
        rw [e6] at d13
        obtain ⟨m7, e7⟩ : ∃ n, cus.length = n := ⟨_, rfl⟩
        rw [e7] at d14
        rw [e1, e2, e3, e4, e5, e6, e7] at hC
        clear z1 z2 z3 z4 z5 z6 z7 hil e1 e2 e3 e4 e5 e6 e7
        go_wp2_with (go_at_call 89; refine hC.mono ?_; rintro r5 w5 ⟨b, rfl, hb5, hf5⟩; refine Hid.out ?_)
        have H5 := Lib.hid (RF.out.same hf5)
        have HB5 := Lib.hid hb5
        obtain ⟨z0, z1, z2, z3, z4, z5, z6⟩ := seven_cells (HB.out.fr H5.out (fun e => e))
        clear hf5 hb5 y0 y1 y2 y3 y4 y5 y6 hC d2 d3 d4 d5 d6 d7 d8 d9 d10 d11 d12 d13 d14
        rcases b with _ | _
        · refine Lib.hid ?_
          go_wp2
          go_ret
          exact ⟨false, rfl, ⟨fun h => (by cases h), fun h => absurd (HB5.out.2 (h.2.2.1 _ HXM.out)) (by decide)⟩, HF.out.same H5.out⟩
        · refine Lib.hid ?_
          go_wp2
          go_roundw
          case rel => exact ⟨k + 1, by omega, by go_num, H5, Lib.hid (fun j p h h2 => by
            rcases Nat.lt_or_ge j k with h3 | h3
            · exact RG.out j p h3 h2
            · obtain rfl : j = k := by omega
              have h4 := h2.symm.trans HX.out
              injection h4 with h4
              rw [h4]
              exact HB5.out.1 rfl)⟩
          case measure => simp [intOf]; omega
      · obtain rfl : k = n6 := by omega
        have hall : Hid (∀ p ∈ lv, ShortH true p.1.h) := Lib.hid (fun p hp => by
          obtain ⟨j, hj, e⟩ := List.getElem_of_mem hp
          exact RG.out j p (by rw [← HN.out]; exact hj) (by rw [List.getElem?_eq_getElem hj, e]))
        by_cases he : n = k
        · have HEQ := Lib.hid he
          have hz : ((n : Int) - (k : Int) == 0) = true := by simp; omega
          have hC := custom_any false P (.slice A6 k c6) lv wr (HS.out.fr (HF.out.same RF.out) (fun _ _ e => e)) (by have := HN.out; omega)
          obtain ⟨m, hm⟩ : ∃ m, (lv.filter (keepsC false)).length = m := ⟨_, rfl⟩
          clear he
          by_cases hk0 : k = 0
          · have hnil : Hid (lv = []) := Lib.hid (List.eq_nil_of_length_eq_zero (by rw [HN.out]; exact hk0))
            have hkz : ((k : Int) == 0) = true := by simp; omega
            clear hk0 hm hC
            go_wp2
            go_ret
            exact ⟨_, rfl, iff_of_true (by first | rfl | (simp <;> omega)) ⟨h12, HEQ.out, hall.out, .inl hnil.out⟩, HF.out.same RF.out⟩
          · have hkz : ((k : Int) == 0) = false := by simp; omega
            have hne : Hid (lv ≠ []) := Lib.hid (fun h => hk0 (by rw [← HN.out, h]; rfl))
            clear hk0
            by_cases hm0 : (0 : Int) < (m : Int)
            · have hcu : Hid (∃ p ∈ lv, isCus p.1 = false) := Lib.hid (by
                have h1 : 0 < (lv.filter (keepsC false)).length := by omega
                obtain ⟨p, hp⟩ := List.exists_mem_of_length_pos h1
                obtain ⟨h2, h3⟩ := List.mem_filter.1 hp
                exact ⟨p, h2, by simpa [keepsC] using h3⟩)
              go_wp2_with (go_at_call 36; refine hC.mono ?_; rintro r7 w7 ⟨v7, rfl, ho7, hf7⟩; rw [hm] at ho7; obtain ⟨a7, k7, rfl⟩ := own_slice' ho7; have H7 := Lib.hid hf7; clear ho7 hf7)
              go_ret
              exact ⟨_, rfl, iff_of_true (by first | rfl | (simp <;> omega)) ⟨h12, HEQ.out, hall.out, .inr hcu.out⟩, (HF.out.same RF.out).same H7.out⟩
            · have hno : Hid (¬ ∃ p ∈ lv, isCus p.1 = false) := Lib.hid (fun ⟨p, hp, hq⟩ => by
                have h2 : p ∈ lv.filter (keepsC false) := List.mem_filter.2 ⟨hp, by simp [keepsC, hq]⟩
                have := List.length_pos_of_mem h2
                omega)
              go_wp2_with (go_at_call 36; refine hC.mono ?_; rintro r7 w7 ⟨v7, rfl, ho7, hf7⟩; rw [hm] at ho7; obtain ⟨a7, k7, rfl⟩ := own_slice' ho7; have H7 := Lib.hid hf7; clear ho7 hf7)
              go_ret
              exact ⟨_, rfl, iff_of_false (by first | (intro h; cases h; done) | (simp <;> omega)) (fun h => h.2.2.2.elim hne.out hno.out), (HF.out.same RF.out).same H7.out⟩
        · have hz : ((n : Int) - (k : Int) == 0) = false := by simp; omega
          have HNE := Lib.hid he
          clear he
          go_wp2
          go_ret
          exact ⟨_, rfl, iff_of_false (by first | (intro h; cases h; done) | (simp <;> omega)) (fun h => absurd h.2.1 HNE.out), HF.out.same RF.out⟩
  · have hx : (12 : Int) < (n : Int) := by omega
    go_enter Tryz.func30, Tryz.ntmps30
    go_wp2_with (go_at_call 40; refine hC.mono ?_; rintro r w1 ⟨rfl, hf1⟩)
    go_ret
    exact ⟨false, rfl, ⟨fun h => (by cases h), fun h => absurd h.1 h12⟩, ((Fr.refl _ w).alloc _).same hf1⟩


set_option maxHeartbeats 4000000 in
set_option maxRecDepth 100000 in
theorem rightG_9 (A0 A1 A2 A3 A4 A5 A6 : Option Addr) (c0 c1 c2 c3 c4 c5 c6 : Nat) (n0 n1 n2 n3 n4 n5 n6 n : Nat) (h0 : n0 ≤ 1099511627776) (h1 : n1 ≤ 1099511627776) (h2 : n2 ≤ 1099511627776) (h3 : n3 ≤ 1099511627776) (h4 : n4 ≤ 1099511627776) (h5 : n5 ≤ 1099511627776) (h6 : n6 ≤ 1099511627776) (hn : n = n0 + n1 + n2 + n3 + n4 + n5 + n6) (w : World) (P : Nat → Prop) (lv : List (Rhs × Hsl)) (hs : SlH P w (.slice A6 n6 c6) lv) (hl : lv.length = n6) (hi : ∀ p ∈ lv, p.1.h.few 1099511627776) :
    Calls Tryz.prog 30 #[.int .i64 9, .agg #[.slice A0 n0 c0, .slice A1 n1 c1, .slice A2 n2 c2, .slice A3 n3 c3, .slice A4 n4 c4, .slice A5 n5 c5, .slice A6 n6 c6]] w (BoolEnds (n ≤ 12 ∧ n = n6 ∧ (∀ p ∈ lv, ShortH false p.1.h) ∧ ∀ p ∈ lv, isCus p.1 = true) w) := by
  have hC := count_any A0 A1 A2 A3 A4 A5 A6 c0 c1 c2 c3 c4 c5 c6 n0 n1 n2 n3 n4 n5 n6 n h0 h1 h2 h3 h4 h5 h6 hn (w.alloc (.cells #[.slice A0 n0 c0, .slice A1 n1 c1, .slice A2 n2 c2, .slice A3 n3 c3, .slice A4 n4 c4, .slice A5 n5 c5, .slice A6 n6 c6] 54))
  have hle : n6 ≤ n := by omega
  clear hn
  by_cases h12 : n ≤ 12
  · have h1x : ¬ (12 : Int) < (n : Int) := by omega
    have HS := Lib.hid hs
    have HN := Lib.hid hl
    have HI := Lib.hid hi
    clear hs hl hi
    go_enter Tryz.func30, Tryz.ntmps30
    go_wp2_with (go_at_call 40; refine hC.mono ?_; rintro r w1 ⟨rfl, hf1⟩; obtain ⟨x0, x1, x2, x3, x4, x5, x6⟩ := seven_cells ((Blk.new w 54 #[.slice A0 n0 c0, .slice A1 n1 c1, .slice A2 n2 c2, .slice A3 n3 c3, .slice A4 n4 c4, .slice A5 n5 c5, .slice A6 n6 c6]).fr hf1 (fun e => e)))
    have HF := Lib.hid (((Fr.refl (fun _ => False) w).alloc (.cells #[.slice A0 n0 c0, .slice A1 n1 c1, .slice A2 n2 c2, .slice A3 n3 c3, .slice A4 n4 c4, .slice A5 n5 c5, .slice A6 n6 c6] 54)).same hf1)
    have hw1 := HF.out.size
    have HB := Lib.hid ((Blk.new w 54 #[.slice A0 n0 c0, .slice A1 n1 c1, .slice A2 n2 c2, .slice A3 n3 c3, .slice A4 n4 c4, .slice A5 n5 c5, .slice A6 n6 c6]).fr hf1 (fun e => e))
    clear hf1 hC
    go_loopw [10] (fun i wr => ∃ k : Nat, k ≤ n6 ∧ i = .int .i64 k ∧ Hid (Fr (fun _ => False) w1 wr) ∧ Hid (∀ j p, j < k → lv[j]? = some p → ShortH false p.1.h)) (fun i _ => n6 - (intOf i).toNat)
    case atStart => exact ⟨0, Nat.zero_le _, rfl, Lib.hid (Fr.refl _ _), Lib.hid (fun j p h => absurd h (Nat.not_lt_zero _))⟩
    case round =>
      obtain ⟨k, hk, rfl, RF, RG⟩ := hrel
      obtain ⟨y0, y1, y2, y3, y4, y5, y6⟩ := seven_cells (HB.out.fr RF.out (fun e => e))
      clear x0 x1 x2 x3 x4 x5 x6
      by_cases hlt : k < n6
      · have hS := HS.out.fr (HF.out.same RF.out) (fun _ _ e => e)
        have hiv := hS.2
        obtain ⟨g, off, rfl, _, hcell⟩ := (show Sl P wr (.slice A6 n6 c6) 15 lv.length (lv.flatMap hsc) from hS.1).at (by have := HN.out; omega)
        obtain ⟨x, hx⟩ : ∃ x, lv[k]? = some x := ⟨_, List.getElem?_eq_getElem (by rw [HN.out]; exact hlt)⟩
        have hxm := List.mem_of_getElem? hx
        have cc : ∀ j, j < 15 → ∀ u, (hsc x)[j]? = some u → wr.cell? ⟨g, off + (k * 15 + j), none⟩ = some u := fun j hj u hu => hcell (k * 15 + j) u (by rw [flatN 15 hsc (fun _ => rfl) lv k x hx j hj]; exact hu)
        have d2 : wr.cell? ⟨g, off + k * 15 + 2, none⟩ = some (.int .u8 x.1.h.hint.toNat) := cc 2 (by omega) _ rfl
        have d3 : wr.cell? ⟨g, off + k * 15 + 3, none⟩ = some (.int .i32 x.1.h.schema) := cc 3 (by omega) _ rfl
        have d4 : wr.cell? ⟨g, off + k * 15 + 4, none⟩ = some (.int .u64 x.1.h.thr) := cc 4 (by omega) _ rfl
        have d5 : wr.cell? ⟨g, off + k * 15 + 5, none⟩ = some (.int .u64 x.1.h.sum) := cc 5 (by omega) _ rfl
        have d6 : wr.cell? ⟨g, off + k * 15 + 6, none⟩ = some (.int .u64 x.1.h.zc) := cc 6 (by omega) _ rfl
        have d7 : wr.cell? ⟨g, off + k * 15 + 7, none⟩ = some (.int .u64 x.1.h.cnt) := cc 7 (by omega) _ rfl
        have d8 : wr.cell? ⟨g, off + k * 15 + 8, none⟩ = some x.2.p := cc 8 (by omega) _ rfl
        have d9 : wr.cell? ⟨g, off + k * 15 + 9, none⟩ = some x.2.n := cc 9 (by omega) _ rfl
        have d10 : wr.cell? ⟨g, off + k * 15 + 10, none⟩ = some x.2.u := cc 10 (by omega) _ rfl
        have d11 : wr.cell? ⟨g, off + k * 15 + 11, none⟩ = some x.2.d := cc 11 (by omega) _ rfl
        have d12 : wr.cell? ⟨g, off + k * 15 + 12, none⟩ = some x.2.fu := cc 12 (by omega) _ rfl
        have d13 : wr.cell? ⟨g, off + k * 15 + 13, none⟩ = some x.2.fd := cc 13 (by omega) _ rfl
        have d14 : wr.cell? ⟨g, off + k * 15 + 14, none⟩ = some x.2.c := cc 14 (by omega) _ rfl
        have hivx := hiv x hxm
        have hil := HI.out x hxm
        have HXM := Lib.hid hxm
        have HX := Lib.hid hx
        clear hiv hx hxm cc hcell hS
        obtain ⟨⟨ref, t, ⟨hint, schema, thr, sum, zc, cnt, pos, neg, ups, downs, fups, fdowns, cus⟩⟩, ⟨sp, sn, su, sd, sfu, sfd, sc⟩⟩ := x
        simp only [] at d2 d3 d4 d5 d6 d7 d8 d9 d10 d11 d12 d13 d14 hivx hil
        have hC := short_any false P _ _ wr hivx hil
        obtain ⟨z1, z2, z3, z4, z5, z6, z7⟩ := hivx
        simp only [] at z1 z2 z3 z4 z5 z6 z7
        obtain ⟨B1, b1, rfl⟩ := z1.shape
        obtain ⟨B2, b2, rfl⟩ := z2.shape
        obtain ⟨B3, b3, rfl⟩ := z3.shape
        obtain ⟨B4, b4, rfl⟩ := z4.shape
        obtain ⟨B5, b5, rfl⟩ := z5.shape
        obtain ⟨B6, b6, rfl⟩ := z6.shape
        obtain ⟨B7, b7, rfl⟩ := z7.shape
        simp only [hic] at hC
        obtain ⟨m1, e1⟩ : ∃ n, pos.length = n := ⟨_, rfl⟩
        rw [e1] at d8
        obtain ⟨m2, e2⟩ : ∃ n, neg.length = n := ⟨_, rfl⟩
        rw [e2] at d9
        obtain ⟨m3, e3⟩ : ∃ n, ups.length = n := ⟨_, rfl⟩
        rw [e3] at d10
        obtain ⟨m4, e4⟩ : ∃ n, downs.length = n := ⟨_, rfl⟩
        rw [e4] at d11
        obtain ⟨m5, e5⟩ : ∃ n, fups.length = n := ⟨_, rfl⟩
        rw [e5] at d12
        obtain ⟨m6, e6⟩ : ∃ n, fdowns.length = n := ⟨_, rfl⟩
        rw [e6] at d13
        obtain ⟨m7, e7⟩ : ∃ n, cus.length = n := ⟨_, rfl⟩
        rw [e7] at d14
        rw [e1, e2, e3, e4, e5, e6, e7] at hC
        clear z1 z2 z3 z4 z5 z6 z7 hil e1 e2 e3 e4 e5 e6 e7
        go_wp2_with (go_at_call 89; refine hC.mono ?_; rintro r5 w5 ⟨b, rfl, hb5, hf5⟩; refine Hid.out ?_)
        have H5 := Lib.hid (RF.out.same hf5)
        have HB5 := Lib.hid hb5
        obtain ⟨z0, z1, z2, z3, z4, z5, z6⟩ := seven_cells (HB.out.fr H5.out (fun e => e))
        clear hf5 hb5 y0 y1 y2 y3 y4 y5 y6 hC d2 d3 d4 d5 d6 d7 d8 d9 d10 d11 d12 d13 d14
        rcases b with _ | _
        · refine Lib.hid ?_
          go_wp2
          go_ret
          exact ⟨false, rfl, ⟨fun h => (by cases h), fun h => absurd (HB5.out.2 (h.2.2.1 _ HXM.out)) (by decide)⟩, HF.out.same H5.out⟩
        · refine Lib.hid ?_
          go_wp2
          go_roundw
          case rel => exact ⟨k + 1, by omega, by go_num, H5, Lib.hid (fun j p h h2 => by
            rcases Nat.lt_or_ge j k with h3 | h3
            · exact RG.out j p h3 h2
            · obtain rfl : j = k := by omega
              have h4 := h2.symm.trans HX.out
              injection h4 with h4
              rw [h4]
              exact HB5.out.1 rfl)⟩
          case measure => simp [intOf]; omega
      · obtain rfl : k = n6 := by omega
        have hall : Hid (∀ p ∈ lv, ShortH false p.1.h) := Lib.hid (fun p hp => by
          obtain ⟨j, hj, e⟩ := List.getElem_of_mem hp
          exact RG.out j p (by rw [← HN.out]; exact hj) (by rw [List.getElem?_eq_getElem hj, e]))
        by_cases he : n = k
        · have HEQ := Lib.hid he
          have hz : ((n : Int) - (k : Int) == 0) = true := by simp; omega
          have hC := custom_any false P (.slice A6 k c6) lv wr (HS.out.fr (HF.out.same RF.out) (fun _ _ e => e)) (by have := HN.out; omega)
          obtain ⟨m, hm⟩ : ∃ m, (lv.filter (keepsC false)).length = m := ⟨_, rfl⟩
          clear he
          by_cases hm0 : m = 0
          · subst hm0
            have hcu : Hid (∀ p ∈ lv, isCus p.1 = true) := Lib.hid (fun p hp => by
              rcases hq : isCus p.1 with _ | _
              · have := List.eq_nil_of_length_eq_zero hm
                have h2 : p ∈ lv.filter (keepsC false) := List.mem_filter.2 ⟨hp, by simp [keepsC, hq]⟩
                rw [this] at h2
                cases h2
              · rfl)
            go_wp2_with (go_at_call 36; refine hC.mono ?_; rintro r7 w7 ⟨v7, rfl, ho7, hf7⟩; rw [hm] at ho7; obtain ⟨a7, k7, rfl⟩ := own_slice' ho7; have H7 := Lib.hid hf7; clear ho7 hf7)
            go_ret
            exact ⟨_, rfl, iff_of_true (by first | rfl | (simp <;> omega)) ⟨h12, HEQ.out, hall.out, hcu.out⟩, (HF.out.same RF.out).same H7.out⟩
          · have hmz : ((m : Int) == 0) = false := by simp; omega
            have hno : Hid (¬ ∀ p ∈ lv, isCus p.1 = true) := Lib.hid (fun h => by
              have : lv.filter (keepsC false) = [] := List.filter_eq_nil_iff.2 (fun p hp => by simp [keepsC, h p hp])
              rw [this] at hm
              exact hm0 hm.symm)
            clear hm0
            go_wp2_with (go_at_call 36; refine hC.mono ?_; rintro r7 w7 ⟨v7, rfl, ho7, hf7⟩; rw [hm] at ho7; obtain ⟨a7, k7, rfl⟩ := own_slice' ho7; have H7 := Lib.hid hf7; clear ho7 hf7)
            go_ret
            exact ⟨_, rfl, iff_of_false (by first | (intro h; cases h; done) | (simp <;> omega)) (fun h => hno.out h.2.2.2), (HF.out.same RF.out).same H7.out⟩
        · have hz : ((n : Int) - (k : Int) == 0) = false := by simp; omega
          have HNE := Lib.hid he
          clear he
          go_wp2
          go_ret
          exact ⟨_, rfl, iff_of_false (by first | (intro h; cases h; done) | (simp <;> omega)) (fun h => absurd h.2.1 HNE.out), HF.out.same RF.out⟩
  · have hx : (12 : Int) < (n : Int) := by omega
    go_enter Tryz.func30, Tryz.ntmps30
    go_wp2_with (go_at_call 40; refine hC.mono ?_; rintro r w1 ⟨rfl, hf1⟩)
    go_ret
    exact ⟨false, rfl, ⟨fun h => (by cases h), fun h => absurd h.1 h12⟩, ((Fr.refl _ w).alloc _).same hf1⟩


set_option maxHeartbeats 4000000 in
set_option maxRecDepth 100000 in
theorem rightG_10 (A0 A1 A2 A3 A4 A5 A6 : Option Addr) (c0 c1 c2 c3 c4 c5 c6 : Nat) (n0 n1 n2 n3 n4 n5 n6 n : Nat) (h0 : n0 ≤ 1099511627776) (h1 : n1 ≤ 1099511627776) (h2 : n2 ≤ 1099511627776) (h3 : n3 ≤ 1099511627776) (h4 : n4 ≤ 1099511627776) (h5 : n5 ≤ 1099511627776) (h6 : n6 ≤ 1099511627776) (hn : n = n0 + n1 + n2 + n3 + n4 + n5 + n6) (w : World) (P : Nat → Prop) (lv : List (Rhs × Hsl)) (hs : SlH P w (.slice A6 n6 c6) lv) (hl : lv.length = n6) (hi : ∀ p ∈ lv, p.1.h.few 1099511627776) :
    Calls Tryz.prog 30 #[.int .i64 10, .agg #[.slice A0 n0 c0, .slice A1 n1 c1, .slice A2 n2 c2, .slice A3 n3 c3, .slice A4 n4 c4, .slice A5 n5 c5, .slice A6 n6 c6]] w (BoolEnds (n ≤ 12 ∧ n = n6 ∧ (∀ p ∈ lv, ShortH true p.1.h) ∧ ∀ p ∈ lv, isCus p.1 = true) w) := by
  have hC := count_any A0 A1 A2 A3 A4 A5 A6 c0 c1 c2 c3 c4 c5 c6 n0 n1 n2 n3 n4 n5 n6 n h0 h1 h2 h3 h4 h5 h6 hn (w.alloc (.cells #[.slice A0 n0 c0, .slice A1 n1 c1, .slice A2 n2 c2, .slice A3 n3 c3, .slice A4 n4 c4, .slice A5 n5 c5, .slice A6 n6 c6] 54))
  have hle : n6 ≤ n := by omega
  clear hn
  by_cases h12 : n ≤ 12
  · have h1x : ¬ (12 : Int) < (n : Int) := by omega
    have HS := Lib.hid hs
    have HN := Lib.hid hl
    have HI := Lib.hid hi
    clear hs hl hi
    go_enter Tryz.func30, Tryz.ntmps30
    go_wp2_with (go_at_call 40; refine hC.mono ?_; rintro r w1 ⟨rfl, hf1⟩; obtain ⟨x0, x1, x2, x3, x4, x5, x6⟩ := seven_cells ((Blk.new w 54 #[.slice A0 n0 c0, .slice A1 n1 c1, .slice A2 n2 c2, .slice A3 n3 c3, .slice A4 n4 c4, .slice A5 n5 c5, .slice A6 n6 c6]).fr hf1 (fun e => e)))
    have HF := Lib.hid (((Fr.refl (fun _ => False) w).alloc (.cells #[.slice A0 n0 c0, .slice A1 n1 c1, .slice A2 n2 c2, .slice A3 n3 c3, .slice A4 n4 c4, .slice A5 n5 c5, .slice A6 n6 c6] 54)).same hf1)
    have hw1 := HF.out.size
    have HB := Lib.hid ((Blk.new w 54 #[.slice A0 n0 c0, .slice A1 n1 c1, .slice A2 n2 c2, .slice A3 n3 c3, .slice A4 n4 c4, .slice A5 n5 c5, .slice A6 n6 c6]).fr hf1 (fun e => e))
    clear hf1 hC
    go_loopw [10] (fun i wr => ∃ k : Nat, k ≤ n6 ∧ i = .int .i64 k ∧ Hid (Fr (fun _ => False) w1 wr) ∧ Hid (∀ j p, j < k → lv[j]? = some p → ShortH true p.1.h)) (fun i _ => n6 - (intOf i).toNat)
    case atStart => exact ⟨0, Nat.zero_le _, rfl, Lib.hid (Fr.refl _ _), Lib.hid (fun j p h => absurd h (Nat.not_lt_zero _))⟩
    case round =>
      obtain ⟨k, hk, rfl, RF, RG⟩ := hrel
      obtain ⟨y0, y1, y2, y3, y4, y5, y6⟩ := seven_cells (HB.out.fr RF.out (fun e => e))
      clear x0 x1 x2 x3 x4 x5 x6
      by_cases hlt : k < n6
      · have hS := HS.out.fr (HF.out.same RF.out) (fun _ _ e => e)
        have hiv := hS.2
        obtain ⟨g, off, rfl, _, hcell⟩ := (show Sl P wr (.slice A6 n6 c6) 15 lv.length (lv.flatMap hsc) from hS.1).at (by have := HN.out; omega)
        obtain ⟨x, hx⟩ : ∃ x, lv[k]? = some x := ⟨_, List.getElem?_eq_getElem (by rw [HN.out]; exact hlt)⟩
        have hxm := List.mem_of_getElem? hx
        have cc : ∀ j, j < 15 → ∀ u, (hsc x)[j]? = some u → wr.cell? ⟨g, off + (k * 15 + j), none⟩ = some u := fun j hj u hu => hcell (k * 15 + j) u (by rw [flatN 15 hsc (fun _ => rfl) lv k x hx j hj]; exact hu)
        have d2 : wr.cell? ⟨g, off + k * 15 + 2, none⟩ = some (.int .u8 x.1.h.hint.toNat) := cc 2 (by omega) _ rfl
        have d3 : wr.cell? ⟨g, off + k * 15 + 3, none⟩ = some (.int .i32 x.1.h.schema) := cc 3 (by omega) _ rfl
        have d4 : wr.cell? ⟨g, off + k * 15 + 4, none⟩ = some (.int .u64 x.1.h.thr) := cc 4 (by omega) _ rfl
        have d5 : wr.cell? ⟨g, off + k * 15 + 5, none⟩ = some (.int .u64 x.1.h.sum) := cc 5 (by omega) _ rfl
        have d6 : wr.cell? ⟨g, off + k * 15 + 6, none⟩ = some (.int .u64 x.1.h.zc) := cc 6 (by omega) _ rfl
        have d7 : wr.cell? ⟨g, off + k * 15 + 7, none⟩ = some (.int .u64 x.1.h.cnt) := cc 7 (by omega) _ rfl
        have d8 : wr.cell? ⟨g, off + k * 15 + 8, none⟩ = some x.2.p := cc 8 (by omega) _ rfl
        have d9 : wr.cell? ⟨g, off + k * 15 + 9, none⟩ = some x.2.n := cc 9 (by omega) _ rfl
        have d10 : wr.cell? ⟨g, off + k * 15 + 10, none⟩ = some x.2.u := cc 10 (by omega) _ rfl
        have d11 : wr.cell? ⟨g, off + k * 15 + 11, none⟩ = some x.2.d := cc 11 (by omega) _ rfl
        have d12 : wr.cell? ⟨g, off + k * 15 + 12, none⟩ = some x.2.fu := cc 12 (by omega) _ rfl
        have d13 : wr.cell? ⟨g, off + k * 15 + 13, none⟩ = some x.2.fd := cc 13 (by omega) _ rfl
        have d14 : wr.cell? ⟨g, off + k * 15 + 14, none⟩ = some x.2.c := cc 14 (by omega) _ rfl
        have hivx := hiv x hxm
        have hil := HI.out x hxm
        have HXM := Lib.hid hxm
        have HX := Lib.hid hx
        clear hiv hx hxm cc hcell hS
        obtain ⟨⟨ref, t, ⟨hint, schema, thr, sum, zc, cnt, pos, neg, ups, downs, fups, fdowns, cus⟩⟩, ⟨sp, sn, su, sd, sfu, sfd, sc⟩⟩ := x
        simp only [] at d2 d3 d4 d5 d6 d7 d8 d9 d10 d11 d12 d13 d14 hivx hil
        have hC := short_any true P _ _ wr hivx hil
        obtain ⟨z1, z2, z3, z4, z5, z6, z7⟩ := hivx
        simp only [] at z1 z2 z3 z4 z5 z6 z7
        obtain ⟨B1, b1, rfl⟩ := z1.shape
        obtain ⟨B2, b2, rfl⟩ := z2.shape
        obtain ⟨B3, b3, rfl⟩ := z3.shape
        obtain ⟨B4, b4, rfl⟩ := z4.shape
        obtain ⟨B5, b5, rfl⟩ := z5.shape
        obtain ⟨B6, b6, rfl⟩ := z6.shape
        obtain ⟨B7, b7, rfl⟩ := z7.shape
        simp only [hic] at hC
        obtain ⟨m1, e1⟩ : ∃ n, pos.length = n := ⟨_, rfl⟩
        rw [e1] at d8
        obtain ⟨m2, e2⟩ : ∃ n, neg.length = n := ⟨_, rfl⟩
        rw [e2] at d9
        obtain ⟨m3, e3⟩ : ∃ n, ups.length = n := ⟨_, rfl⟩
        rw [e3] at d10
        obtain ⟨m4, e4⟩ : ∃ n, downs.length = n := ⟨_, rfl⟩
        rw [e4] at d11
        obtain ⟨m5, e5⟩ : ∃ n, fups.length = n := ⟨_, rfl⟩
        rw [e5] at d12
        obtain ⟨m6, e6⟩ : ∃ n, fdowns.length = n := ⟨_, rfl⟩
        rw [e6] at d13
        obtain ⟨m7, e7⟩ : ∃ n, cus.length = n := ⟨_, rfl⟩
        rw [e7] at d14
        rw [e1, e2, e3, e4, e5, e6, e7] at hC
        clear z1 z2 z3 z4 z5 z6 z7 hil e1 e2 e3 e4 e5 e6 e7
        go_wp2_with (go_at_call 89; refine hC.mono ?_; rintro r5 w5 ⟨b, rfl, hb5, hf5⟩; refine Hid.out ?_)
        have H5 := Lib.hid (RF.out.same hf5)
        have HB5 := Lib.hid hb5
        obtain ⟨z0, z1, z2, z3, z4, z5, z6⟩ := seven_cells (HB.out.fr H5.out (fun e => e))
        clear hf5 hb5 y0 y1 y2 y3 y4 y5 y6 hC d2 d3 d4 d5 d6 d7 d8 d9 d10 d11 d12 d13 d14
        rcases b with _ | _
        · refine Lib.hid ?_
          go_wp2
          go_ret
          exact ⟨false, rfl, ⟨fun h => (by cases h), fun h => absurd (HB5.out.2 (h.2.2.1 _ HXM.out)) (by decide)⟩, HF.out.same H5.out⟩
        · refine Lib.hid ?_
          go_wp2
          go_roundw
          case rel => exact ⟨k + 1, by omega, by go_num, H5, Lib.hid (fun j p h h2 => by
            rcases Nat.lt_or_ge j k with h3 | h3
            · exact RG.out j p h3 h2
            · obtain rfl : j = k := by omega
              have h4 := h2.symm.trans HX.out
              injection h4 with h4
              rw [h4]
              exact HB5.out.1 rfl)⟩
          case measure => simp [intOf]; omega
      · obtain rfl : k = n6 := by omega
        have hall : Hid (∀ p ∈ lv, ShortH true p.1.h) := Lib.hid (fun p hp => by
          obtain ⟨j, hj, e⟩ := List.getElem_of_mem hp
          exact RG.out j p (by rw [← HN.out]; exact hj) (by rw [List.getElem?_eq_getElem hj, e]))
        by_cases he : n = k
        · have HEQ := Lib.hid he
          have hz : ((n : Int) - (k : Int) == 0) = true := by simp; omega
          have hC := custom_any false P (.slice A6 k c6) lv wr (HS.out.fr (HF.out.same RF.out) (fun _ _ e => e)) (by have := HN.out; omega)
          obtain ⟨m, hm⟩ : ∃ m, (lv.filter (keepsC false)).length = m := ⟨_, rfl⟩
          clear he
          by_cases hm0 : m = 0
          · subst hm0
            have hcu : Hid (∀ p ∈ lv, isCus p.1 = true) := Lib.hid (fun p hp => by
              rcases hq : isCus p.1 with _ | _
              · have := List.eq_nil_of_length_eq_zero hm
                have h2 : p ∈ lv.filter (keepsC false) := List.mem_filter.2 ⟨hp, by simp [keepsC, hq]⟩
                rw [this] at h2
                cases h2
              · rfl)
            go_wp2_with (go_at_call 36; refine hC.mono ?_; rintro r7 w7 ⟨v7, rfl, ho7, hf7⟩; rw [hm] at ho7; obtain ⟨a7, k7, rfl⟩ := own_slice' ho7; have H7 := Lib.hid hf7; clear ho7 hf7)
            go_ret
            exact ⟨_, rfl, iff_of_true (by first | rfl | (simp <;> omega)) ⟨h12, HEQ.out, hall.out, hcu.out⟩, (HF.out.same RF.out).same H7.out⟩
          · have hmz : ((m : Int) == 0) = false := by simp; omega
            have hno : Hid (¬ ∀ p ∈ lv, isCus p.1 = true) := Lib.hid (fun h => by
              have : lv.filter (keepsC false) = [] := List.filter_eq_nil_iff.2 (fun p hp => by simp [keepsC, h p hp])
              rw [this] at hm
              exact hm0 hm.symm)
            clear hm0
            go_wp2_with (go_at_call 36; refine hC.mono ?_; rintro r7 w7 ⟨v7, rfl, ho7, hf7⟩; rw [hm] at ho7; obtain ⟨a7, k7, rfl⟩ := own_slice' ho7; have H7 := Lib.hid hf7; clear ho7 hf7)
            go_ret
            exact ⟨_, rfl, iff_of_false (by first | (intro h; cases h; done) | (simp <;> omega)) (fun h => hno.out h.2.2.2), (HF.out.same RF.out).same H7.out⟩
        · have hz : ((n : Int) - (k : Int) == 0) = false := by simp; omega
          have HNE := Lib.hid he
          clear he
          go_wp2
          go_ret
          exact ⟨_, rfl, iff_of_false (by first | (intro h; cases h; done) | (simp <;> omega)) (fun h => absurd h.2.1 HNE.out), HF.out.same RF.out⟩
  · have hx : (12 : Int) < (n : Int) := by omega
    go_enter Tryz.func30, Tryz.ntmps30
    go_wp2_with (go_at_call 40; refine hC.mono ?_; rintro r w1 ⟨rfl, hf1⟩)
    go_ret
    exact ⟨false, rfl, ⟨fun h => (by cases h), fun h => absurd h.1 h12⟩, ((Fr.refl _ w).alloc _).same hf1⟩

end Go.Proofs.YtbkookiigkckdaaGreatDoor

