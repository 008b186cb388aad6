/- Texts of this seat, merged: Za. -/
import Derived.Test.YtbkookiigkckdaaGreatDoorK25
import Derived.Test.YtbkookiigkckdaaGreatDoorK27
/- LabelsAbout of labels with unique names; laws.FnLabelsAbout 4: the walk. -/
namespace Go.Proofs.YtbkookiigkckdaaGreatDoor
open Go.RowKit
set_option linter.unusedVariables false
set_option linter.unusedSimpArgs false

/-- What a comparison with the error that stops Validate comes to. -/
structure StopOk (te : TypeId) (pe : Value) (w : World) : Prop where
  cell : w.cell? ⟨0, 0, none⟩ = some (.iface te pe)
  q1 : ∀ W, (binOp .eql 92 (.iface te pe) (.iface te pe)).run Tryz.prog W = .ok (.bool true) W
  q0 : ∀ W, (binOp .eql 92 .nilIface (.iface te pe)).run Tryz.prog W = .ok (.bool false) W
theorem StopOk.still {te : TypeId} {pe : Value} {w W : World} (h : StopOk te pe w) (hf : Fr (fun _ => False) w W) : StopOk te pe W :=
  ⟨by rw [hf.cell (p := ⟨0, 0, none⟩) (World.block_lt_of_cell? w _ h.cell) (fun e => e)]; exact h.cell, h.q1, h.q0⟩

theorem labStr_zero (l : List Lab) : ((labStr l).size = 0) ↔ l.length = 0 := by
  rw [labStr_size]
  have := labs_len l
  constructor
  · intro h; omega
  · intro h
    have : l = [] := List.eq_nil_of_length_eq_zero h
    subst this
    rfl

/-- LabelsAbout, of labels with unique names. -/
def AboutU (l : List Lab) (m : Nat) (w : World) (r : Ending) (w' : World) : Prop :=
  ∃ (mp : Value) (tx : ByteArray), r = .returned (.agg #[.int .i64 l.length, .bool (decide (l.length = 0)), mp, .string ⟨#[]⟩, .bool false, .string tx, .int .i64 (min l.length (m + 1) : Nat), .bool (decide (m < l.length))]) ∧
    Sl (fun g => w.heap.size ≤ g) w' mp 2 l.length ((sortL l).flatMap labc) ∧ ((∀ x ∈ l, PlainL x) → tx = strOfNums (textN (sortL l))) ∧ Fr (fun _ => False) w w'

theorem sizes_of {l : List Lab} (h : ∀ p ∈ l, p.1.size ≠ 0 ∧ p.1.size ≤ 600 ∧ p.2.size ≤ 600) : ∀ p ∈ l, 1 ≤ p.1.size ∧ p.1.size ≤ 600 ∧ p.2.size ≤ 600 := fun p hp => by have := h p hp; omega

theorem aboutU_any (T : Lib.PrintTabs) (te : TypeId) (pe : Value) (P : Nat → Prop) (v : Value) (l : List Lab) (m : Nat) (w : World) (hm : m ≤ 1099511627776) (hT : TabsAt T w) (hS : Sl P w v 2 l.length (l.flatMap labc)) (hok : LabOk l 12 600) (hE : StopOk te pe w) :
    Calls Tryz.prog 23 #[v, .int .i64 m] w (AboutU l m w) := by
  refine (about_any T te pe P v l m w hm hT hS hok.1 (sizes_of hok.2.1) hE.cell hE.q1 hE.q0).mono ?_
  rintro r w' ⟨l', o, mp, tw, tx, du, rfl, h1, h2, h3, h4, h5, h6, h7, h8, h9⟩
  have hl' : l' = sortL l := sorted_same l l' h1 h2 hok.2.2
  have hu' : l'.Pairwise (fun a b => a.1 ≠ b.1) := h1.symm.pairwise hok.2.2 (fun h e => h e.symm)
  have ho : o = sortL l := sorted_same l o ((h5 hu').trans h1) h3 hok.2.2
  have hle : l'.length = l.length := h1.length_eq
  have hlo : o.length = l.length := by rw [ho, lsort_length]
  have hdu : du = false := by
    cases du with
    | false => rfl
    | true =>
      obtain ⟨k, x, y, hx, hy, he, _⟩ := h6.2 rfl
      exfalso
      obtain ⟨hk, ek⟩ := List.getElem?_eq_some_iff.mp hx
      obtain ⟨hk2, ek2⟩ := List.getElem?_eq_some_iff.mp hy
      have := List.pairwise_iff_getElem.mp hu' k (k + 1) hk hk2 (by omega)
      rw [ek, ek2] at this
      exact this he
  subst hdu
  obtain ⟨htw, _⟩ := h6.1 rfl
  subst htw
  refine ⟨mp, tx, ?_, ?_, ?_, h9⟩
  · have e : decide ((labStr l').size = 0) = decide (l.length = 0) := decide_eq_decide.mpr ((labStr_zero l').trans (by rw [hle]))
    rw [e, hle]
    rfl
  · rw [ho, lsort_length] at h8
    exact h8
  · intro hp
    rw [← hl']
    exact h7 (fun x hx => hp x (h1.mem_iff.mp hx))

/-- SameLabels of the map and the sorted labels, and what else the laws ask. -/
theorem beq_int {a b : Int} (h : a = b) : (a == b) = true := by rw [beq_iff_eq]; exact h
theorem bne_int {a b : Int} (h : a ≠ b) : (a == b) = false := by rw [beq_eq_false_iff_ne]; exact h

set_option maxRecDepth 100000 in
set_option maxHeartbeats 8000000 in
theorem labAbout_walk (T : Lib.PrintTabs) (te : TypeId) (pe : Value) (P : Nat → Prop) (lv : Value) (l : List Lab) (k : Nat) (hk : k ≤ 255) (w : World) (hS : Sl P w lv 2 l.length (l.flatMap labc)) (hl : l.length ≤ 9223372036854775807) (hs : ∀ p ∈ l, p.1.size ≤ 9223372036854775807 ∧ p.2.size ≤ 9223372036854775807) (hT : TabsAt T w) (hE : StopOk te pe w) :
    Calls Tryz.prog 4 #[lv, .int .u8 k] w (TrueEnds w) := by
  obtain ⟨A, c, rfl⟩ : ∃ A c, lv = .slice A l.length c := let ⟨A, c, h, _⟩ := hS; ⟨A, c, h⟩
  have q21 := fits10_any P _ l w hS hl hs
  by_cases hfit : l.length ≤ 2147483647 ∧ ∀ p ∈ l, Fit p
  · have q21 := bool_yes hfit q21
    have q22 : Hid (∀ W, Fr (fun _ => False) w W → Calls Tryz.prog 22 #[.slice A l.length c] W (BoolEnds (LabOk l 12 600) W)) := Lib.hid (fun W hF => labels_any P _ l W (hS.fr hF (fun _ _ e => e)) (by omega))
    by_cases hok : LabOk l 12 600
    · have q23 : Hid (∀ W, Fr (fun _ => False) w W → Calls Tryz.prog 23 #[.slice A l.length c, .int .i64 k] W (AboutU l k W)) := Lib.hid (fun W hF => aboutU_any T te pe P _ l k W (by omega) (tabs_fr hT hF (fun _ _ e => e)) (hS.fr hF (fun _ _ e => e)) hok (hE.still hF))
      have q24 : Hid (∀ W, Fr (fun _ => False) w W → Calls Tryz.prog 24 #[.slice A l.length c] W (LabEnds 40 W (sortL l))) := Lib.hid (fun W hF => sorted_any P _ l W (hS.fr hF (fun _ _ e => e)) (by omega))
      have q25 : Hid (∀ (u v : Value) (Q : Nat → Prop) (b2 : Nat) W, Sl Q W u 2 l.length ((sortL l).flatMap labc) → W.ownsRow b2 40 2 v (sortL l).length ((sortL l).flatMap labc) → Calls Tryz.prog 25 #[u, v] W (TrueEnds W)) := Lib.hid (fun u v Q b2 W h1 h2 => by
        have e := lsort_length ltL l
        rw [← e] at h1
        exact sameLabels_any _ _ u v (sortL l) W h1 (Sl.ofOwn h2) (by rw [e]; omega))
      have HOK := Lib.hid hok
      have hn12 := hok.1
      unfold AboutU at q23
      generalize l.length = n at q21 q22 q23 q24 q25 hn12 ⊢
      have hnI : (n : Int) ≤ 12 := by omega
      have hkI : (k : Int) ≤ 255 := by omega
      clear hS hE hs hT hfit hok hl
      have hcase : (n = 0 ∧ ¬ k < n) ∨ (¬ n = 0 ∧ k < n) ∨ (¬ n = 0 ∧ ¬ k < n) := by omega
      rcases hcase with ⟨c1, c2⟩ | ⟨c1, c2⟩ | ⟨c1, c2⟩
      · subst c1
        have e1 : min 0 (k + 1) = 0 := by omega
        have e2 : decide (k < 0) = false := decide_eq_false c2
        simp only [e1, e2] at q23
        have e3 : ¬ (k : Int) < ((0 : Nat) : Int) := by omega
        have e6 : ¬ (k : Int) < 0 := by omega
        clear e1 e2 c2
        go_enter Tryz.func4, Tryz.ntmps4
        go_wp2_with (first
          | (go_at_call 21; refine q21.mono ?_; rintro r w1 ⟨rfl, hf1⟩)
          | (go_at_call 22; refine (bool_yes HOK.out (q22.out _ hf1)).mono ?_; rintro r w2 ⟨rfl, hf2⟩)
          | (go_at_call 23; refine (q23.out _ (hf1.same hf2)).mono ?_; rintro r w3 ⟨mp, tx, rfl, hsl3, _, hf3⟩
             obtain ⟨a3, c3, rfl⟩ : ∃ A c, mp = .slice A 0 c := let ⟨A, c, h, _⟩ := hsl3; ⟨A, c, h⟩
             have HS3 := Lib.hid hsl3
             clear hsl3)
          | (go_at_call 24; refine (q24.out _ ((hf1.same hf2).same (hf3.alloc _))).mono ?_; rintro r w5 ⟨sv, rfl, hown5, hf5⟩
             have HO5 := Lib.hid hown5
             have HF5 := Lib.hid hf5
             have HB5 := Lib.hid ((Blk.new w3 34 _).fr hf5 (fun e => e))
             clear hown5 hf5)
          | (go_at_call 16; refine (labelsAlive_any _).mono ?_; rintro r w6 ⟨rfl, hf6⟩
             have hb6 := HB5.out.fr hf6 (fun e => e)
             have b0 := hb6.cell 0
             have b1 := hb6.cell 1
             have b2 := hb6.cell 2
             have b3 := hb6.cell 3
             have b4 := hb6.cell 4
             have b6 := hb6.cell 6
             have b7 := hb6.cell 7
             have HF6 := Lib.hid hf6
             have HB6 := Lib.hid hb6
             clear hf6 hb6)
          | (go_at_call 25; refine (q25.out _ _ _ _ _ (((HS3.out.fr ((Fr.refl (fun _ => False) w3).alloc _) (fun _ _ e => e)).fr HF5.out (fun _ _ e => e)).fr HF6.out (fun _ _ e => e)) (own_fr HO5.out HF6.out (fun _ _ e => e))).mono ?_; rintro r w7 ⟨rfl, hf7⟩
             have hb7 := HB6.out.fr hf7 (fun e => e)
             have d0 := hb7.cell 0
             have d1 := hb7.cell 1
             have d2 := hb7.cell 2
             have d3 := hb7.cell 3
             have d4 := hb7.cell 4
             have d6 := hb7.cell 6
             have d7 := hb7.cell 7
             have HF7 := Lib.hid hf7
             clear hf7 hb7))
        go_ret
        exact ⟨rfl, (((((hf1.same hf2).same (hf3.alloc _)).same HF5.out).same HF6.out).same HF7.out)⟩
      · have e1 : min n (k + 1) = k + 1 := by omega
        have e2 : decide (k < n) = true := decide_eq_true c2
        have e4 : decide (n = 0) = false := decide_eq_false c1
        simp only [e1, e2, e4] at q23
        have e3 : (k : Int) < (n : Int) := by omega
        have e5 : ((n : Int) == 0) = false := bne_int (by omega)
        clear e1 e2 e4 c1 c2
        go_enter Tryz.func4, Tryz.ntmps4
        go_wp2_with (first
          | (go_at_call 21; refine q21.mono ?_; rintro r w1 ⟨rfl, hf1⟩)
          | (go_at_call 22; refine (bool_yes HOK.out (q22.out _ hf1)).mono ?_; rintro r w2 ⟨rfl, hf2⟩)
          | (go_at_call 23; refine (q23.out _ (hf1.same hf2)).mono ?_; rintro r w3 ⟨mp, tx, rfl, hsl3, _, hf3⟩
             obtain ⟨a3, c3, rfl⟩ : ∃ A c, mp = .slice A n c := let ⟨A, c, h, _⟩ := hsl3; ⟨A, c, h⟩
             have HS3 := Lib.hid hsl3
             clear hsl3)
          | (go_at_call 24; refine (q24.out _ ((hf1.same hf2).same (hf3.alloc _))).mono ?_; rintro r w5 ⟨sv, rfl, hown5, hf5⟩
             have HO5 := Lib.hid hown5
             have HF5 := Lib.hid hf5
             have HB5 := Lib.hid ((Blk.new w3 34 _).fr hf5 (fun e => e))
             clear hown5 hf5)
          | (go_at_call 16; refine (labelsAlive_any _).mono ?_; rintro r w6 ⟨rfl, hf6⟩
             have hb6 := HB5.out.fr hf6 (fun e => e)
             have b0 := hb6.cell 0
             have b1 := hb6.cell 1
             have b2 := hb6.cell 2
             have b3 := hb6.cell 3
             have b4 := hb6.cell 4
             have b6 := hb6.cell 6
             have b7 := hb6.cell 7
             have HF6 := Lib.hid hf6
             have HB6 := Lib.hid hb6
             clear hf6 hb6)
          | (go_at_call 25; refine (q25.out _ _ _ _ _ (((HS3.out.fr ((Fr.refl (fun _ => False) w3).alloc _) (fun _ _ e => e)).fr HF5.out (fun _ _ e => e)).fr HF6.out (fun _ _ e => e)) (own_fr HO5.out HF6.out (fun _ _ e => e))).mono ?_; rintro r w7 ⟨rfl, hf7⟩
             have hb7 := HB6.out.fr hf7 (fun e => e)
             have d0 := hb7.cell 0
             have d1 := hb7.cell 1
             have d2 := hb7.cell 2
             have d3 := hb7.cell 3
             have d4 := hb7.cell 4
             have d6 := hb7.cell 6
             have d7 := hb7.cell 7
             have HF7 := Lib.hid hf7
             clear hf7 hb7))
        go_ret
        exact ⟨rfl, (((((hf1.same hf2).same (hf3.alloc _)).same HF5.out).same HF6.out).same HF7.out)⟩
      · have e1 : min n (k + 1) = n := by omega
        have e2 : decide (k < n) = false := decide_eq_false c2
        have e4 : decide (n = 0) = false := decide_eq_false c1
        simp only [e1, e2, e4] at q23
        have e3 : ¬ (k : Int) < (n : Int) := by omega
        have e5 : ((n : Int) == 0) = false := bne_int (by omega)
        clear e1 e2 e4 c1 c2
        go_enter Tryz.func4, Tryz.ntmps4
        go_wp2_with (first
          | (go_at_call 21; refine q21.mono ?_; rintro r w1 ⟨rfl, hf1⟩)
          | (go_at_call 22; refine (bool_yes HOK.out (q22.out _ hf1)).mono ?_; rintro r w2 ⟨rfl, hf2⟩)
          | (go_at_call 23; refine (q23.out _ (hf1.same hf2)).mono ?_; rintro r w3 ⟨mp, tx, rfl, hsl3, _, hf3⟩
             obtain ⟨a3, c3, rfl⟩ : ∃ A c, mp = .slice A n c := let ⟨A, c, h, _⟩ := hsl3; ⟨A, c, h⟩
             have HS3 := Lib.hid hsl3
             clear hsl3)
          | (go_at_call 24; refine (q24.out _ ((hf1.same hf2).same (hf3.alloc _))).mono ?_; rintro r w5 ⟨sv, rfl, hown5, hf5⟩
             have HO5 := Lib.hid hown5
             have HF5 := Lib.hid hf5
             have HB5 := Lib.hid ((Blk.new w3 34 _).fr hf5 (fun e => e))
             clear hown5 hf5)
          | (go_at_call 16; refine (labelsAlive_any _).mono ?_; rintro r w6 ⟨rfl, hf6⟩
             have hb6 := HB5.out.fr hf6 (fun e => e)
             have b0 := hb6.cell 0
             have b1 := hb6.cell 1
             have b2 := hb6.cell 2
             have b3 := hb6.cell 3
             have b4 := hb6.cell 4
             have b6 := hb6.cell 6
             have b7 := hb6.cell 7
             have HF6 := Lib.hid hf6
             have HB6 := Lib.hid hb6
             clear hf6 hb6)
          | (go_at_call 25; refine (q25.out _ _ _ _ _ (((HS3.out.fr ((Fr.refl (fun _ => False) w3).alloc _) (fun _ _ e => e)).fr HF5.out (fun _ _ e => e)).fr HF6.out (fun _ _ e => e)) (own_fr HO5.out HF6.out (fun _ _ e => e))).mono ?_; rintro r w7 ⟨rfl, hf7⟩
             have hb7 := HB6.out.fr hf7 (fun e => e)
             have d0 := hb7.cell 0
             have d1 := hb7.cell 1
             have d2 := hb7.cell 2
             have d3 := hb7.cell 3
             have d4 := hb7.cell 4
             have d6 := hb7.cell 6
             have d7 := hb7.cell 7
             have HF7 := Lib.hid hf7
             clear hf7 hb7))
        go_ret
        exact ⟨rfl, (((((hf1.same hf2).same (hf3.alloc _)).same HF5.out).same HF6.out).same HF7.out)⟩
    · have HOK := Lib.hid hok
      generalize l.length = n at q21 q22
      clear hS hE hs hfit hok hT hl
      go_enter Tryz.func4, Tryz.ntmps4
      go_wp2_with (first
        | (go_at_call 21; refine q21.mono ?_; rintro r w1 ⟨rfl, hf1⟩)
        | (go_at_call 22; refine (bool_no HOK.out (q22.out _ hf1)).mono ?_; rintro r w2 ⟨rfl, hf2⟩)
        | (go_at_call 16; refine (labelsAlive_any _).mono ?_; rintro r w3 ⟨rfl, hf3⟩))
      go_ret
      exact ⟨rfl, (hf1.same hf2).same hf3⟩
  · have q21 := bool_no hfit q21
    generalize l.length = n at q21
    clear hS hE hs hfit hT hl
    go_enter Tryz.func4, Tryz.ntmps4
    go_wp2_with (go_at_call 21; refine q21.mono ?_; rintro r w1 ⟨rfl, hf1⟩)
    go_ret
    exact ⟨rfl, hf1⟩
end Go.Proofs.YtbkookiigkckdaaGreatDoor

