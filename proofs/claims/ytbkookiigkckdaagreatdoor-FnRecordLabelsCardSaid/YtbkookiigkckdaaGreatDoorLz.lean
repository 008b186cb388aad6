/- FnRecordLabels: the walk whole. -/
import Derived.Test.YtbkookiigkckdaaGreatDoorLm
import Derived.Test.YtbkookiigkckdaaGreatDoorRs
namespace Go.Proofs.YtbkookiigkckdaaGreatDoor
open Go.RowKit
set_option linter.unusedVariables false
set_option linter.unusedSimpArgs false

def Fit (p : Lab) : Prop := p.1.size ≤ 2147483647 ∧ p.2.size ≤ 2147483647
def BoolEnds (p : Prop) (w : World) (r : Ending) (w' : World) : Prop := ∃ b : Bool, r = .returned (.bool b) ∧ (b = true ↔ p) ∧ Fr (fun _ => False) w w'
theorem bool_yes {p : Prop} (h : p) {w : World} {f : FuncId} {args : Array Value} (hc : Calls Tryz.prog f args w (BoolEnds p w)) : Calls Tryz.prog f args w fun r w' => r = .returned (.bool true) ∧ Fr (fun _ => False) w w' :=
  hc.mono fun r w' ⟨b, hr, hb, hf⟩ => ⟨by rw [hr, hb.2 h], hf⟩
theorem bool_no {p : Prop} (h : ¬ p) {w : World} {f : FuncId} {args : Array Value} (hc : Calls Tryz.prog f args w (BoolEnds p w)) : Calls Tryz.prog f args w fun r w' => r = .returned (.bool false) ∧ Fr (fun _ => False) w w' :=
  hc.mono fun r w' ⟨b, hr, hb, hf⟩ => ⟨by rw [hr, Bool.eq_false_iff.2 (fun e => h (hb.1 e))], hf⟩

set_option maxRecDepth 100000 in
theorem fits11_any (x : Lab) (h1 : x.1.size ≤ 9223372036854775807) (h2 : x.2.size ≤ 9223372036854775807) (w : World) : Calls Tryz.prog 52 #[.agg #[.string x.1, .string x.2]] w (BoolEnds (Fit x) w) := by
  obtain ⟨a, b⟩ := x
  dsimp only at h1 h2
  unfold Fit
  by_cases ha : 2147483647 < a.size
  · have ha' : (2147483647 : Int) < a.size := by omega
    go_enter Tryz.func52, Tryz.ntmps52
    go_wp2
    go_ret
    exact ⟨false, rfl, ⟨fun h => (by cases h), fun h => absurd h.1 (by show ¬ a.size ≤ _; omega)⟩, (Fr.refl _ w).alloc _⟩
  · have ha' : ¬ (2147483647 : Int) < a.size := by omega
    by_cases hb : 2147483647 < b.size
    · have hb' : (2147483647 : Int) < b.size := by omega
      go_enter Tryz.func52, Tryz.ntmps52
      go_wp2
      go_ret
      exact ⟨false, rfl, ⟨fun h => (by cases h), fun h => absurd h.2 (by show ¬ b.size ≤ _; omega)⟩, (Fr.refl _ w).alloc _⟩
    · have hb' : ¬ (2147483647 : Int) < b.size := by omega
      go_enter Tryz.func52, Tryz.ntmps52
      go_wp2
      go_ret
      exact ⟨true, rfl, ⟨fun _ => ⟨by show a.size ≤ _; omega, by show b.size ≤ _; omega⟩, fun _ => rfl⟩, (Fr.refl _ w).alloc _⟩

set_option maxRecDepth 100000 in
set_option maxHeartbeats 2000000 in
theorem fits10_any (P : Nat → Prop) (v : Value) (l : List Lab) (w : World) (h : Sl P w v 2 l.length (l.flatMap labc)) (hl : l.length ≤ 9223372036854775807) (hs : ∀ p ∈ l, p.1.size ≤ 9223372036854775807 ∧ p.2.size ≤ 9223372036854775807) :
    Calls Tryz.prog 21 #[v] w (BoolEnds (l.length ≤ 2147483647 ∧ ∀ p ∈ l, Fit p) w) := by
  obtain ⟨A, c, rfl, _, hc, hr⟩ := h
  obtain ⟨n, hn⟩ : ∃ n, l.length = n := ⟨_, rfl⟩
  rw [hn] at hr hc hl ⊢
  have HN := Lib.hid hn
  have HR := Lib.hid hr
  have HS := Lib.hid hs
  clear hn hr hs
  by_cases hbig : 2147483647 < n
  · have hbig' : (2147483647 : Int) < n := by omega
    go_enter Tryz.func21, Tryz.ntmps21
    go_wp2
    go_ret
    exact ⟨false, rfl, ⟨fun h => (by cases h), fun h => absurd h.1 (by omega)⟩, Fr.refl _ _⟩
  · have hbig' : ¬ (2147483647 : Int) < n := by omega
    go_enter Tryz.func21, Tryz.ntmps21
    go_wp2
    go_loopw [10] (fun vi wr => ∃ k : Nat, k ≤ n ∧ vi = .int .i64 k ∧ Hid (∀ p ∈ l.take k, Fit p) ∧ Hid (Fr (fun _ => False) w wr)) (fun vi _ => n - (intOf vi).toNat)
    case atStart => exact ⟨0, Nat.zero_le _, rfl, Lib.hid (fun p hp => by simp at hp), Lib.hid (Fr.refl _ _)⟩
    case round =>
      obtain ⟨k, hk, rfl, HP, HF⟩ := hrel
      by_cases hlt : k < n
      · obtain ⟨g, off, rfl, _, hcell⟩ := HR.out (by omega)
        obtain ⟨x, hx⟩ : ∃ x, l[k]? = some x := ⟨_, List.getElem?_eq_getElem (by rw [HN.out]; exact hlt)⟩
        have cc : ∀ j, j < 2 → ∀ u, (labc x)[j]? = some u → wr.cell? ⟨g, off + (k * 2 + j), none⟩ = some u := fun j hj u hu => by
          have := hcell (k * 2 + j) u (by rw [flat2 labc (fun _ => rfl) l k x hx j hj]; exact hu)
          rw [HF.out.cell (p := ⟨g, off + (k * 2 + j), none⟩) (World.block_lt_of_cell? w _ this) (fun e => e)]
          exact this
        have c0 : wr.cell? ⟨g, off + k * 2, none⟩ = some (.string x.1) := cc 0 (by omega) _ rfl
        have c1 : wr.cell? ⟨g, off + k * 2 + 1, none⟩ = some (.string x.2) := cc 1 (by omega) _ rfl
        have hxm := List.mem_of_getElem? hx
        have hq := fun W => fits11_any x (HS.out x hxm).1 (HS.out x hxm).2 W
        have HX := Lib.hid hx
        clear hcell cc hx
        by_cases hfit : Fit x
        · have HFT := Lib.hid hfit
          clear hfit
          go_wp2_with (go_at_call 52; refine (bool_yes HFT.out (hq _)).mono ?_; rintro r w1 ⟨rfl, hf1⟩)
          go_roundw
          case rel =>
            refine ⟨k + 1, by omega, by go_num, Lib.hid ?_, Lib.hid ((HF.out.alloc _).same hf1)⟩
            intro p hp
            rw [List.take_add_one, HX.out, List.mem_append] at hp
            rcases hp with hp | hp
            · exact HP.out p hp
            · simp at hp; rw [hp]; exact HFT.out
          case measure => simp [intOf]; omega
        · have HFT := Lib.hid hfit
          clear hfit
          go_wp2_with (go_at_call 52; refine (bool_no HFT.out (hq _)).mono ?_; rintro r w1 ⟨rfl, hf1⟩)
          go_ret
          exact ⟨false, rfl, ⟨fun h => (by cases h), fun h => absurd (h.2 x hxm) HFT.out⟩, (HF.out.alloc _).same hf1⟩
      · obtain rfl : k = n := by omega
        go_wp2
        go_ret
        have e : l.take k = l := List.take_of_length_le (by rw [HN.out]; exact Nat.le_refl _)
        have hp := HP.out
        rw [e] at hp
        exact ⟨true, rfl, ⟨fun _ => ⟨by omega, hp⟩, fun _ => rfl⟩, HF.out⟩

theorem labels_any (P : Nat → Prop) (v : Value) (l : List Lab) (w : World) (h : Sl P w v 2 l.length (l.flatMap labc)) (hl : l.length ≤ 1099511627776) : Calls Tryz.prog 22 #[v] w (BoolEnds (LabOk l 12 600) w) := by
  have hR := labelsRight_any P v l 12 600 w h hl (by omega) (by omega)
  obtain ⟨A, c, rfl, _⟩ := h
  go_enter Tryz.func22, Tryz.ntmps22
  go_wp2_with (go_at_call 53; refine hR.mono ?_; rintro r w1 ⟨b, rfl, hb, hf⟩)
  go_ret
  exact ⟨b, rfl, hb, hf⟩

set_option maxRecDepth 100000 in
set_option maxHeartbeats 4000000 in
theorem recLabels_walk (te : TypeId) (pe : Value) (P Q : Nat → Prop) (lv av : Value) (l : List Lab) (ys : List UInt8) (w : World) (hS : Sl P w lv 2 l.length (l.flatMap labc)) (hA : Sl Q w av 1 ys.length (bc ys))
    (hl : l.length ≤ 9223372036854775807) (hs : ∀ p ∈ l, p.1.size ≤ 9223372036854775807 ∧ p.2.size ≤ 9223372036854775807) (hy : ys.length ≤ 9223372036854775807) (hP : ∀ g, P g → g < w.heap.size) (hQ : ∀ g, Q g → g < w.heap.size) (hE : w.cell? ⟨2, 0, none⟩ = some (.iface te pe)) :
    Calls Tryz.prog 13 #[lv, av] w (TrueEnds w) := by
  obtain ⟨A, c, rfl⟩ : ∃ A c, lv = .slice A l.length c := let ⟨A, c, h, _⟩ := hS; ⟨A, c, h⟩
  obtain ⟨A9, c9, rfl⟩ : ∃ A c, av = .slice A ys.length c := let ⟨A, c, h, _⟩ := hA; ⟨A, c, h⟩
  have q21 := fits10_any P _ l w hS hl hs
  have HA : Hid (∀ W, Fr (fun _ => False) w W → Calls Tryz.prog 28 #[] W (TrueEnds W)) := Lib.hid (fun W hF => recordAlive_any te pe W (by rw [hF.cell (p := ⟨2, 0, none⟩) (World.block_lt_of_cell? w _ hE) (fun e => e)]; exact hE))
  by_cases hfit : l.length ≤ 2147483647 ∧ ∀ p ∈ l, Fit p
  · have q21 := bool_yes hfit q21
    have q22 : Hid (∀ W, Fr (fun _ => False) w W → Calls Tryz.prog 22 #[.slice A l.length c] W (BoolEnds (LabOk l 12 600) W)) := Lib.hid (fun W hF => labels_any P _ l W (hS.fr hF (fun _ _ e => e)) (by omega))
    by_cases hbig : 2147483647 < ys.length
    · have hbig' : (2147483647 : Int) < ys.length := by omega
      generalize l.length = n at q21
      generalize ys.length = m at hbig'
      clear hS hA hE hs hP hQ hfit
      go_enter Tryz.func13, Tryz.ntmps13
      go_wp2_with (go_at_call 21; refine q21.mono ?_; rintro r w1 ⟨rfl, hf1⟩)
      go_ret
      exact ⟨rfl, hf1⟩
    · have hbig' : ¬ (2147483647 : Int) < ys.length := by omega
      by_cases hok : LabOk l 12 600
      · by_cases h100 : 100 < ys.length
        · have h100' : (100 : Int) < ys.length := by omega
          have HOK := Lib.hid hok
          generalize l.length = n at q21 q22
          generalize ys.length = m at hbig' h100'
          clear hS hA hE hs hP hQ hfit hok
          go_enter Tryz.func13, Tryz.ntmps13
          go_wp2_with (first
            | (go_at_call 21; refine q21.mono ?_; rintro r w1 ⟨rfl, hf1⟩)
            | (go_at_call 22; refine (bool_yes HOK.out (q22.out _ hf1)).mono ?_; rintro r w2 ⟨rfl, hf2⟩)
            | (go_at_call 28; refine (HA.out _ (hf1.same hf2)).mono ?_; rintro r w3 ⟨rfl, hf3⟩))
          go_ret
          exact ⟨rfl, (hf1.same hf2).same hf3⟩
        · have h100' : ¬ (100 : Int) < ys.length := by omega
          have q43 : Hid (∀ W, Fr (fun _ => False) w W → Calls Tryz.prog 43 #[.slice A l.length c, .slice A9 ys.length c9] W (RecLabEnds l ys W)) := Lib.hid (fun W hF => recordLabels_any te pe P Q _ _ l ys W (hS.fr hF (fun _ _ e => e)) (hA.fr hF (fun _ _ e => e)) hok.1 (fun p hp => by have := hok.2.1 p hp; omega) hok.2.2 (by omega)
            (fun g hg => Nat.lt_of_lt_of_le (hP g hg) hF.size) (fun g hg => Nat.lt_of_lt_of_le (hQ g hg) hF.size) (by rw [hF.cell (p := ⟨2, 0, none⟩) (World.block_lt_of_cell? w _ hE) (fun e => e)]; exact hE))
          have q24 : Hid (∀ W, Fr (fun _ => False) w W → Calls Tryz.prog 24 #[.slice A l.length c] W (LabEnds 40 W (sortL l))) := Lib.hid (fun W hF => sorted_any P _ l W (hS.fr hF (fun _ _ e => e)) (by omega))
          have q25 : Hid (∀ (u v : Value) (b1 b2 : Nat) W, W.ownsRow b1 40 2 u l.length ((sortL l).flatMap labc) → W.ownsRow b2 40 2 v (sortL l).length ((sortL l).flatMap labc) → Calls Tryz.prog 25 #[u, v] W (TrueEnds W)) := Lib.hid (fun u v b1 b2 W h1 h2 => by
            have e := lsort_length ltL l
            rw [← e] at h1
            exact sameLabels_any _ _ u v (sortL l) W (Sl.ofOwn h1) (Sl.ofOwn h2) (by rw [e]; omega))
          have HOK := Lib.hid hok
          generalize l.length = n at q21 q22 q43 q24
          obtain ⟨m, hm⟩ : ∃ m, ys.length = m := ⟨_, rfl⟩
          rw [hm] at hbig' h100' q43 ⊢
          have HM := Lib.hid hm
          clear hS hA hE hs hP hQ hfit hok hm
          go_enter Tryz.func13, Tryz.ntmps13
          go_wp2_with (first
            | (go_at_call 21; refine q21.mono ?_; rintro r w1 ⟨rfl, hf1⟩)
            | (go_at_call 22; refine (bool_yes HOK.out (q22.out _ hf1)).mono ?_; rintro r w2 ⟨rfl, hf2⟩)
            | (go_at_call 43; refine (q43.out _ (hf1.same hf2)).mono ?_; rintro r w3 ⟨bv, kv, rfl, hown3, hf3⟩; rw [HM.out]; have HO3 := Lib.hid hown3; clear hown3)
            | (go_at_call 28; refine (HA.out _ ((hf1.same hf2).same hf3)).mono ?_; rintro r w4 ⟨rfl, hf4⟩)
            | (go_at_call 24; refine (q24.out _ (((hf1.same hf2).same hf3).same hf4)).mono ?_; rintro r w5 ⟨sv, rfl, hown5, hf5⟩; have HO5 := Lib.hid hown5; clear hown5)
            | (go_at_call 25; refine (q25.out _ _ _ _ _ (own_fr HO3.out (hf4.same hf5) (fun _ _ e => e)) HO5.out).mono ?_; rintro r w6 ⟨rfl, hf6⟩))
          go_ret
          exact ⟨rfl, ((((hf1.same hf2).same hf3).same hf4).same hf5).same hf6⟩
      · have HOK := Lib.hid hok
        generalize l.length = n at q21 q22
        generalize ys.length = m at hbig'
        clear hS hA hE hs hP hQ hfit hok
        go_enter Tryz.func13, Tryz.ntmps13
        go_wp2_with (first
          | (go_at_call 21; refine q21.mono ?_; rintro r w1 ⟨rfl, hf1⟩)
          | (go_at_call 22; refine (bool_no HOK.out (q22.out _ hf1)).mono ?_; rintro r w2 ⟨rfl, hf2⟩)
          | (go_at_call 28; refine (HA.out _ (hf1.same hf2)).mono ?_; rintro r w3 ⟨rfl, hf3⟩))
        go_ret
        exact ⟨rfl, (hf1.same hf2).same hf3⟩
  · have q21 := bool_no hfit q21
    generalize l.length = n at q21
    generalize ys.length = m
    clear hS hA hE hs hP hQ hfit
    go_enter Tryz.func13, Tryz.ntmps13
    go_wp2_with (go_at_call 21; refine q21.mono ?_; rintro r w1 ⟨rfl, hf1⟩)
    go_ret
    exact ⟨rfl, hf1⟩
end Go.Proofs.YtbkookiigkckdaaGreatDoor
