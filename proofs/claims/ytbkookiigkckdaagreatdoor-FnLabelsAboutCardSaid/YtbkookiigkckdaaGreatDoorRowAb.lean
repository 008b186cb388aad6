/- 'laws.FnLabelsAbout': for every slice of labels and every number the call returns true, and its arguments read afterwards as they read before: of labels with unique names that are not empty (at most 12, of at most 600 bytes) LabelsAbout tells how many there are, whether there are none, the map and that no name stands twice, and Validate goes through them up to the label at which its function has an error. Conditions: the nine listed package variables (Go's print tables, unicode/utf8's two tables, bytes.ErrTooLarge, impl.errStop) read as the row lists them; the card ties them to the program's text. -/
import Derived.Test.YtbkookiigkckdaaGreatDoorK29
import Derived.Test.YtbkookiigkckdaaGreatDoorRows
import Derived.Test.YtbkookiigkckdaaGreatDoorTie
import Derived.Test.YtbkookiigkckdaaGreatDoorCards
import Derived.JoinedOf
import Derived.SevenTiedAt
import Derived.ChangeSame
import Derived.ChangeVars
import Derived.ProofKit
import Derived.LaidMore
import Derived.OpenShut
import Derived.LaidLaws
import Derived.Lay
import Derived.Carry
import Derived.ChangeOld
import Derived.Below
import Derived.Stop.Joined
namespace Go.Proofs.YtbkookiigkckdaaGreatDoor
open Go Go.ChangeShapes Go.WideShapes Go.ChangeAt Go.RowKit
set_option linter.unusedVariables false
set_option linter.unusedSimpArgs false

theorem about_laid : Rows.fnLabelsAboutRow.laid = labLaid := rfl
set_option maxHeartbeats 0 in
theorem about_closed : joinedFacts Tryz.prog 4 Tryz.f4 Rows.fnLabelsAboutSpec Rows.fnLabelsAboutRow = true := by
  unfold joinedFacts
  simp only [Bool.and_eq_true]
  and_intros <;> as_aux_lemma => kernel_rfl

set_option maxRecDepth 100000 in
theorem about_lifted (os : Os) (started : os.Started) (H : Type) (enc : TypeId × Value → H) :
    ReturnsInHanded {} Tryz.checked os 4 .any (fun w args => (Rows.fnLabelsAboutSpec.pre enc Tryz.prog Tryz.f4 [] false w args ∧ laidMetH Tryz.prog Rows.fnLabelsAboutRow.laid w) ∧ sizedMet enc Tryz.prog Tryz.f4 (OpenSpec.ofChange Rows.fnLabelsAboutSpec) false w args)
      (Rows.fnLabelsAboutSpec.post enc Tryz.prog Tryz.f4 false true false false) := by
  refine returnsInHanded_of_change_and (C := Tryz.checked) (X := fun w _ => laidMetH Tryz.prog Rows.fnLabelsAboutRow.laid w) (fun _ _ _ hh h => h.of_heap hh) lk_knobs started (by kernel_rfl) Tryz.func4
    (ChangeSpec.witness_shaped (enc := enc) (C := Tryz.checked) (os := os) (X := fun w _ => laidMetH Tryz.prog Rows.fnLabelsAboutRow.laid w) false (World.laidAll Tryz.prog os Rows.fnLabelsAboutRow.laid) #[.slice none 0 0, .int .u8 0] 8 (World.laidAll_os _ _ _)
      (World.shaped_of_ZipB (by kernel_rfl) (by kernel_rfl)) (by kernel_rfl) (by kernel_rfl) (by kernel_rfl)
      (by rw [MakeChecks.laidMetH_plain _ _ _ (by kernel_rfl)]; exact laidMet_laidAll _ (by kernel_rfl) (by kernel_rfl))) ?_
  intro W base args ds gs before hval0 hW _ _ hL _
  have hval : ∀ (j : Nat) t v, Tryz.f4.params[j]? = some t → args[j]? = some v → Value.okWide Tryz.prog W .any base t v := hval0
  have hW' := hW
  obtain ⟨p, q, hA0, hV, rfl, hfz, hnd⟩ := hW
  have hA : DataW.TrodAll enc Tryz.prog W 0 (fun _ => true) true Tryz.f4.params.toList args.toList ds p := hA0
  rw [Tryz.params4] at hA hval
  obtain ⟨v0, vs0, d0, ds0, p0, q0, hargs, rfl, rfl, h0, r0⟩ := trodAll_cons hA
  obtain ⟨v1, vs1, d1, ds1, p1, q1, rfl, rfl, rfl, h1, r1⟩ := trodAll_cons r0
  obtain ⟨rfl, rfl, rfl⟩ := trodAll_nil r1
  obtain rfl : args = #[v0, v1] := by cases args; simp_all
  obtain ⟨rfl, rfl⟩ := trodVars_none hV
  obtain ⟨A0, len0, cap0, rfl⟩ := okWide_slice Tryz.underlying31 (hval 0 31 v0 rfl rfl)
  obtain ⟨k, rfl, rfl, rfl, wk⟩ := open_int Tryz.underlying5 (hval 1 5 v1 rfl rfl) h1
  have hk0 : (0 : Int) ≤ k ∧ k ≤ 255 := by
    have h := wk
    simp only [Lit.wf, Bool.and_eq_true, decide_eq_true_eq] at h
    exact h
  obtain ⟨m, rfl⟩ : ∃ m : Nat, k = m := ⟨k.toNat, by omega⟩
  have k0 := h0
  have lt0 : ∀ x ∈ p0, x.block < W.heap.size := by obtain ⟨m, hm⟩ := k0; exact DataW.trod_lt m _ _ _ hm
  obtain ⟨l, hl1, hl2, hls, hS⟩ := lk_labels_in h0
  rw [MakeChecks.laidMetH_plain _ _ _ (by kernel_rfl), about_laid] at hL
  have hT := lk_tabs hL
  obtain ⟨te, pe, hE⟩ := lk_stop hL
  clear hA0 hval0 hL
  refine (labAbout_walk Lib.goPrintTabs te pe _ (.slice A0 len0 cap0) l m (by omega) W hS (by rw [hl1]; simp only [maxLen] at hl2; omega) (fun q hq => by have := hls q hq; simp only [maxLen] at this; omega) hT hE).mono fun e W' ⟨he, hf⟩ => ?_
  subst he
  have hB := hf.none_toBelow
  exact ⟨_, rfl, _, _, _, [], _, [], hW', trodAll_mk1 (shut_bool Tryz.underlying4 _), (trodAll_cons_mk (Below.trod lk_laidOut (by kernel_rfl) (of_decide_eq_true (by kernel_rfl)) k0 hB lt0) (trodAll_cons_mk (shut_int Tryz.underlying5 wk) trodAll_mk0)), rfl, hB.frame _, fun h => by cases h⟩

theorem about_named : Tryz.prog.funcNamed "pub-quillon/laws.FnLabelsAbout" = some 4 := by kernel_rfl
theorem about_instance : Tryz.f4.isInstance Tryz.prog Rows.fnLabelsAboutRow.origin Rows.fnLabelsAboutRow.targs := of_decide_eq_true (by kernel_rfl)
theorem about_wrapper : Tryz.f4.isWrapper Tryz.prog Rows.fnLabelsAboutRow.wrapper Rows.fnLabelsAboutRow.mainSum := by
  unfold Func.isWrapper
  first | (rw [if_pos (by decide +kernel)]; kernel_rfl) | (rw [if_neg (by decide +kernel)]; exact ⟨rfl, rfl⟩)
theorem about_wf : Rows.fnLabelsAboutRow.wfByText (OpenSpec.ofChange Rows.fnLabelsAboutSpec) = true := by kernel_rfl
theorem about_main : Tryz.prog.mainIs = some (true, "2013f6a409768eab55667db855df5ae58df30dc7a0f573b2f9cf8a757ae4012f".toList) := by kernel_rfl
theorem about_looks : true = Tryz.prog.looks [] := by kernel_rfl
theorem about_goes : false = Rows.fnLabelsAboutRow.goesBy Tryz.prog := by kernel_rfl
theorem about_stand : ([31, 5].all fun u => !Tryz.prog.wantsStandIn u) = true := by kernel_rfl

theorem fnLabelsAbout_row : Rows.FnLabelsAboutSaid :=
  OpenClaim.holds_of_wide 4 Tryz.f4 rfl rfl rfl rfl rfl rfl rfl ⟨rfl, rfl, rfl, rfl, rfl⟩ rfl rfl rfl rfl rfl about_named Tryz.func4 about_closed
    about_instance about_wrapper (fun os started H enc _ => about_lifted os started H enc)

/-- THE TIED CARD. -/
theorem fnLabelsAbout_holds : Rows.FnLabelsAboutCardSaid :=
  Claim7.holds_tied_plain_at .later [] [.data, .sentinel, .sentinel, .pinned, .pinned, .pinned, .pinned, .pinned, .pinned] true (true, "2013f6a409768eab55667db855df5ae58df30dc7a0f573b2f9cf8a757ae4012f") true
    fnLabelsAbout_row (fun _ h => by cases h) about_wf (fun _ h => by cases h) fnLabelsAbout_row_tie rfl ⟨rfl, rfl⟩ about_main rfl
    (fun f fn hf hfn => by
      obtain rfl : f = 4 := Option.some.inj (about_named.symm.trans hf) |>.symm
      obtain rfl : fn = Tryz.f4 := (Option.some.inj (Tryz.func4.symm.trans hfn)).symm
      exact ⟨about_looks, fun j t ht => by
        rw [Tryz.params4] at ht
        have hm : t ∈ [31, 5] := by simpa using Array.mem_of_getElem? ht
        exact (show Tryz.prog.wantsStandIn t = false by simpa using List.all_eq_true.1 about_stand t hm)⟩)
    about_goes
#print axioms fnLabelsAbout_holds
end Go.Proofs.YtbkookiigkckdaaGreatDoor
