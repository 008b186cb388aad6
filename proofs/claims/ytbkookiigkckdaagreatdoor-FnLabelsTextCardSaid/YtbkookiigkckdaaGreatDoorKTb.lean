/- laws.FnLabelsText 5: the walk. -/
import Derived.Test.YtbkookiigkckdaaGreatDoorK28
import Derived.Test.YtbkookiigkckdaaGreatDoorKTa
namespace Go.Proofs.YtbkookiigkckdaaGreatDoor
open Go.RowKit
set_option linter.unusedVariables false
set_option linter.unusedSimpArgs false

theorem field_text (v0 v1 v2 v3 v4 v6 v7 : Value) (s : ByteArray) (W : World) : (Instr.field 34 (.agg #[v0, v1, v2, v3, v4, .string s, v6, v7]) 5).run Tryz.prog W = .ok (.string s) W := by
  kernel_rfl
theorem only_yes {P : Prop} (h : P) {e : Ending} (he : OnlyIf P e) : e = .returned (.bool true) := by
  obtain ⟨q, rfl, hq⟩ := he
  rw [hq.mpr h]
theorem only_no {P : Prop} (h : ¬ P) {e : Ending} (he : OnlyIf P e) : e = .returned (.bool false) := by
  obtain ⟨q, rfl, hq⟩ := he
  cases q with
  | false => rfl
  | true => exact absurd (hq.mp rfl) h

set_option maxRecDepth 100000 in
set_option maxHeartbeats 8000000 in
theorem labText_walk (T : Lib.PrintTabs) (te : TypeId) (pe : Value) (P : Nat → Prop) (lv : Value) (l : List Lab) (w : World) (hS : Sl P w lv 2 l.length (l.flatMap labc)) (hl : l.length ≤ 9223372036854775807) (hs : ∀ p ∈ l, p.1.size ≤ 9223372036854775807 ∧ p.2.size ≤ 9223372036854775807) (hT : TabsAt T w) (hE : StopOk te pe w) :
    Calls Tryz.prog 5 #[lv] w (TrueEnds w) := by
  obtain ⟨A, c, rfl⟩ : ∃ A c, lv = .slice A l.length c := let ⟨A, c, h, _⟩ := hS; ⟨A, c, h⟩
  have q21 := fits10_any P _ l w hS hl hs
  by_cases hfit : l.length ≤ 2147483647 ∧ ∀ p ∈ l, Fit p
  · have q21 := bool_yes hfit q21
    have q22 : Hid (∀ W, Fr (fun _ => False) w W → Calls Tryz.prog 22 #[.slice A l.length c] W (BoolEnds (LabOk l 12 600) W)) := Lib.hid (fun W hF => labels_any P _ l W (hS.fr hF (fun _ _ e => e)) (by omega))
    by_cases hok : LabOk l 12 600
    · have q23 : Hid (∀ W, Fr (fun _ => False) w W → Calls Tryz.prog 23 #[.slice A l.length c, .int .i64 0] W (AboutU l 0 W)) := Lib.hid (fun W hF => aboutU_any T te pe P _ l 0 W (by omega) (tabs_fr hT hF (fun _ _ e => e)) (hS.fr hF (fun _ _ e => e)) hok (hE.still hF))
      have q24 : Hid (∀ W, Fr (fun _ => False) w W → Calls Tryz.prog 24 #[.slice A l.length c] W (LabEnds 40 W (sortL l))) := Lib.hid (fun W hF => sorted_any P _ l W (hS.fr hF (fun _ _ e => e)) (by omega))
      have hperm : (sortL l).Perm l := (lsort_sorted ltL ltL_trans ltL_irrefl ltL_ntrans l).2
      have q26 : Hid (∀ (v : Value) (b : Nat) W, W.ownsRow b 40 2 v (sortL l).length ((sortL l).flatMap labc) → Calls Tryz.prog 26 #[v] W (TextEnds (sortL l) W)) := Lib.hid (fun v b W h => labelsText_any _ v (sortL l) W (Sl.ofOwn h) (by rw [lsort_length]; exact hok.1) (fun p hp => by have := hok.2.1 p (hperm.mem_iff.mp hp); omega))
      have HOK := Lib.hid hok
      obtain ⟨A', c', e', hlen, hnc, hr⟩ := hS
      injection e' with e1 e2 e3
      subst e1 e3
      have HR := Lib.hid hr
      have HW := Lib.hid (fun (b : Nat) (o : Nat) v (h : w.cell? ⟨b, o, none⟩ = some v) => World.block_lt_of_cell? w _ h)
      have hn12 := hok.1
      obtain ⟨n, hn⟩ : ∃ n, l.length = n := ⟨_, rfl⟩
      have HN := Lib.hid hn
      unfold AboutU at q23
      rw [hn] at q21 q22 q23 q24 HR hn12 hnc ⊢
      have hnI : (n : Int) ≤ 12 := by omega
      clear hE hs hT hfit hok hl hr e2 hlen hperm hn
      go_enter Tryz.func5, Tryz.ntmps5
      go_wp2_with (first
        | (go_at_call 21; refine q21.mono ?_; rintro r w1 ⟨rfl, hf1⟩)
        | (go_at_call 22; refine (bool_yes HOK.out (q22.out _ hf1)).mono ?_; rintro r w2 ⟨rfl, hf2⟩))
      have HF2 := Lib.hid (hf1.same hf2)
      clear hf1 hf2
      go_loopw [14] (fun vi wr => ∃ k : Nat, vi = .int .i64 k ∧ k ≤ n ∧ Hid (∀ x ∈ l.take k, PlainL x) ∧ Hid (Fr (fun _ => False) w wr)) (fun vi _ => n - (intOf vi).toNat)
      case atStart => exact ⟨0, rfl, Nat.zero_le _, Lib.hid (fun x hx => by simp at hx), HF2⟩
      case round =>
        obtain ⟨k, rfl, hk, HA, HF⟩ := hrel
        by_cases hlt : k < n
        · obtain ⟨g, off, rfl, _, hcell⟩ := HR.out (by omega)
          obtain ⟨x, hx⟩ : ∃ x, l[k]? = some x := ⟨_, List.getElem?_eq_getElem (by rw [HN.out]; exact hlt)⟩
          have cc : ∀ j, j < 2 → ∀ u, (labc x)[j]? = some u → wr.cell? ⟨g, off + (k * 2 + j), none⟩ = some u := fun j hj u hu => by
            have := hcell (k * 2 + j) u (by rw [flat2 labc (fun _ => rfl) l k x hx j hj]; exact hu)
            rw [HF.out.cell (p := ⟨g, off + (k * 2 + j), none⟩) (World.block_lt_of_cell? w _ this) (fun e => e)]
            exact this
          have c0 : wr.cell? ⟨g, off + k * 2, none⟩ = some (.string x.1) := cc 0 (by omega) _ rfl
          have c1 : wr.cell? ⟨g, off + k * 2 + 1, none⟩ = some (.string x.2) := cc 1 (by omega) _ rfl
          have hxs := HOK.out.2.1 x (List.mem_of_getElem? hx)
          have HF' := Lib.hid (HF.out.alloc (.cells #[.string x.1, .string x.2] 40))
          by_cases hL : LegacyS x.1
          · have HLN := Lib.hid (fun W => (legacyName_any x.1 (by omega) W).mono (fun e w' h => And.intro (only_yes hL h.1) h.2.out))
            by_cases hP : PlainS x.2
            · have HPN := Lib.hid (fun W => (plain_any x.2 (by omega) W).mono (fun e w' h => And.intro (only_yes hP h.1) h.2.out))
              have HA' : Hid (∀ y ∈ l.take (k + 1), PlainL y) := Lib.hid (fun y hy => by
                rw [List.take_add_one, hx] at hy
                rcases List.mem_append.mp hy with hy | hy
                · exact HA.out y hy
                · simp at hy
                  subst hy
                  exact ⟨hL, hP⟩)
              clear cc hx hcell hL hP hxs
              go_wp2_with (first
                | (go_at_call 18; refine (HLN.out _).mono ?_; rintro r w3 ⟨rfl, rfl⟩)
                | (go_at_call 19; refine (HPN.out _).mono ?_; rintro r w4 ⟨rfl, rfl⟩))
              go_roundw
              case rel => exact ⟨k + 1, by go_num, hlt, HA', HF'⟩
              case measure => simp [intOf]; omega
            · have HPN := Lib.hid (fun W => (plain_any x.2 (by omega) W).mono (fun e w' h => And.intro (only_no hP h.1) h.2.out))
              clear cc hx hcell hL hP hxs
              go_wp2_with (first
                | (go_at_call 18; refine (HLN.out _).mono ?_; rintro r w3 ⟨rfl, rfl⟩)
                | (go_at_call 19; refine (HPN.out _).mono ?_; rintro r w4 ⟨rfl, rfl⟩)
                | (go_at_call 16; refine (labelsAlive_any _).mono ?_; rintro r w5 ⟨rfl, hf5⟩))
              go_ret
              exact ⟨rfl, HF'.out.same hf5⟩
          · have HLN := Lib.hid (fun W => (legacyName_any x.1 (by omega) W).mono (fun e w' h => And.intro (only_no hL h.1) h.2.out))
            clear cc hx hcell hL hxs
            go_wp2_with (first
              | (go_at_call 18; refine (HLN.out _).mono ?_; rintro r w3 ⟨rfl, rfl⟩)
              | (go_at_call 16; refine (labelsAlive_any _).mono ?_; rintro r w5 ⟨rfl, hf5⟩))
            go_ret
            exact ⟨rfl, HF'.out.same hf5⟩
        · obtain rfl : k = n := by omega
          have hfd := field_text
          have HALL : Hid (∀ x ∈ l, PlainL x) := Lib.hid (by have := HA.out; rw [← HN.out, List.take_length] at this; exact this)
          go_wp2_with (first
            | (go_at_call 16; refine (labelsAlive_any _).mono ?_; rintro r w5 ⟨rfl, hf5⟩; have HF5 := Lib.hid (HF.out.same hf5); clear hf5)
            | (go_at_call 23; refine (q23.out _ HF5.out).mono ?_; rintro r w6 ⟨mp, tx, rfl, hsl6, htx, hf6⟩
               obtain ⟨a3, c3, rfl⟩ : ∃ A c, mp = .slice A k c := let ⟨A, c, h, _⟩ := hsl6; ⟨A, c, h⟩
               clear hsl6
               obtain rfl := htx HALL.out
               have HF6 := Lib.hid (HF5.out.same hf6)
               clear htx hf6)
            | (go_at_call 24; refine (q24.out _ HF6.out).mono ?_; rintro r w7 ⟨sv, rfl, hown7, hf7⟩
               have HO7 := Lib.hid hown7
               have HF7 := Lib.hid (HF6.out.same hf7)
               clear hown7 hf7)
            | (go_at_call 26; refine (q26.out _ _ _ HO7.out).mono ?_; rintro r w8 ⟨rfl, hf8⟩
               have HF8 := Lib.hid (HF7.out.same hf8)
               clear hf8))
          go_ret
          exact ⟨by simp, HF8.out⟩
    · have HOK := Lib.hid hok
      generalize l.length = n at q21 q22
      clear hS hE hs hfit hok hT hl
      go_enter Tryz.func5, Tryz.ntmps5
      go_wp2_with (first
        | (go_at_call 21; refine q21.mono ?_; rintro r w1 ⟨rfl, hf1⟩)
        | (go_at_call 22; refine (bool_no HOK.out (q22.out _ hf1)).mono ?_; rintro r w2 ⟨rfl, hf2⟩)
        | (go_at_call 16; refine (labelsAlive_any _).mono ?_; rintro r w3 ⟨rfl, hf3⟩))
      go_ret
      exact ⟨rfl, (hf1.same hf2).same hf3⟩
  · have q21 := bool_no hfit q21
    generalize l.length = n at q21
    clear hS hE hs hfit hT hl
    go_enter Tryz.func5, Tryz.ntmps5
    go_wp2_with (go_at_call 21; refine q21.mono ?_; rintro r w1 ⟨rfl, hf1⟩)
    go_ret
    exact ⟨rfl, hf1⟩
end Go.Proofs.YtbkookiigkckdaaGreatDoor
