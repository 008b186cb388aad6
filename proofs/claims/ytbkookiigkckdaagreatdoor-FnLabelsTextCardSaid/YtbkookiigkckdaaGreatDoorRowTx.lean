/- 'laws.FnLabelsText': for every slice of labels the call returns true, and its argument reads afterwards as it read before: the text of labels with unique names (at most 12, of at most 600 bytes; names of letters, digits and underscores, values of printable ASCII without quotation marks and backslashes) is a brace, the labels with = and quotation marks, a comma and a blank between two, and a brace. Conditions: the nine listed package variables (Go's print tables, unicode/utf8's two tables, bytes.ErrTooLarge, impl.errStop) read as the row lists them; the card ties them to the program's text. -/
import Derived.Test.YtbkookiigkckdaaGreatDoorK29
import Derived.Test.YtbkookiigkckdaaGreatDoorKTb
import Derived.Test.YtbkookiigkckdaaGreatDoorRows
import Derived.Test.YtbkookiigkckdaaGreatDoorTie
import Derived.Test.YtbkookiigkckdaaGreatDoorCards
import Derived.JoinedOf
import Derived.SevenTiedAt
import Derived.ChangeSame
import Derived.ChangeVars
import Derived.ProofKit
import Derived.LaidMore
import Derived.OpenShut
import Derived.LaidLaws
import Derived.Lay
import Derived.Carry
import Derived.ChangeOld
import Derived.Below
import Derived.Stop.Joined
namespace Go.Proofs.YtbkookiigkckdaaGreatDoor
open Go Go.ChangeShapes Go.WideShapes Go.ChangeAt Go.RowKit
set_option linter.unusedVariables false
set_option linter.unusedSimpArgs false

theorem text_laid : Rows.fnLabelsTextRow.laid = labLaid := rfl
set_option maxHeartbeats 0 in
theorem text_closed : joinedFacts Tryz.prog 5 Tryz.f5 Rows.fnLabelsTextSpec Rows.fnLabelsTextRow = true := by
  unfold joinedFacts
  simp only [Bool.and_eq_true]
  and_intros <;> as_aux_lemma => kernel_rfl

set_option maxRecDepth 100000 in
theorem text_lifted (os : Os) (started : os.Started) (H : Type) (enc : TypeId × Value → H) :
    ReturnsInHanded {} Tryz.checked os 5 .any (fun w args => (Rows.fnLabelsTextSpec.pre enc Tryz.prog Tryz.f5 [] false w args ∧ laidMetH Tryz.prog Rows.fnLabelsTextRow.laid w) ∧ sizedMet enc Tryz.prog Tryz.f5 (OpenSpec.ofChange Rows.fnLabelsTextSpec) false w args)
      (Rows.fnLabelsTextSpec.post enc Tryz.prog Tryz.f5 false true false false) := by
  refine returnsInHanded_of_change_and (C := Tryz.checked) (X := fun w _ => laidMetH Tryz.prog Rows.fnLabelsTextRow.laid w) (fun _ _ _ hh h => h.of_heap hh) lk_knobs started (by kernel_rfl) Tryz.func5
    (ChangeSpec.witness_shaped (enc := enc) (C := Tryz.checked) (os := os) (X := fun w _ => laidMetH Tryz.prog Rows.fnLabelsTextRow.laid w) false (World.laidAll Tryz.prog os Rows.fnLabelsTextRow.laid) #[.slice none 0 0] 8 (World.laidAll_os _ _ _)
      (World.shaped_of_ZipB (by kernel_rfl) (by kernel_rfl)) (by kernel_rfl) (by kernel_rfl) (by kernel_rfl)
      (by rw [MakeChecks.laidMetH_plain _ _ _ (by kernel_rfl)]; exact laidMet_laidAll _ (by kernel_rfl) (by kernel_rfl))) ?_
  intro W base args ds gs before hval0 hW _ _ hL _
  have hval : ∀ (j : Nat) t v, Tryz.f5.params[j]? = some t → args[j]? = some v → Value.okWide Tryz.prog W .any base t v := hval0
  have hW' := hW
  obtain ⟨p, q, hA0, hV, rfl, hfz, hnd⟩ := hW
  have hA : DataW.TrodAll enc Tryz.prog W 0 (fun _ => true) true Tryz.f5.params.toList args.toList ds p := hA0
  rw [Tryz.params5] at hA hval
  obtain ⟨v0, vs0, d0, ds0, p0, q0, hargs, rfl, rfl, h0, r0⟩ := trodAll_cons hA
  obtain ⟨rfl, rfl, rfl⟩ := trodAll_nil r0
  obtain rfl : args = #[v0] := by cases args; simp_all
  obtain ⟨rfl, rfl⟩ := trodVars_none hV
  obtain ⟨A0, len0, cap0, rfl⟩ := okWide_slice Tryz.underlying31 (hval 0 31 v0 rfl rfl)
  have k0 := h0
  have lt0 : ∀ x ∈ p0, x.block < W.heap.size := by obtain ⟨m, hm⟩ := k0; exact DataW.trod_lt m _ _ _ hm
  obtain ⟨l, hl1, hl2, hls, hS⟩ := lk_labels_in h0
  rw [MakeChecks.laidMetH_plain _ _ _ (by kernel_rfl), text_laid] at hL
  have hT := lk_tabs hL
  obtain ⟨te, pe, hE⟩ := lk_stop hL
  clear hA0 hval0 hL
  refine (labText_walk Lib.goPrintTabs te pe _ (.slice A0 len0 cap0) l W hS (by rw [hl1]; simp only [maxLen] at hl2; omega) (fun q hq => by have := hls q hq; simp only [maxLen] at this; omega) hT hE).mono fun e W' ⟨he, hf⟩ => ?_
  subst he
  have hB := hf.none_toBelow
  exact ⟨_, rfl, _, _, _, [], _, [], hW', trodAll_mk1 (shut_bool Tryz.underlying4 _), (trodAll_cons_mk (Below.trod lk_laidOut (by kernel_rfl) (of_decide_eq_true (by kernel_rfl)) k0 hB lt0) trodAll_mk0), rfl, hB.frame _, fun h => by cases h⟩

theorem text_named : Tryz.prog.funcNamed "pub-quillon/laws.FnLabelsText" = some 5 := by kernel_rfl
theorem text_instance : Tryz.f5.isInstance Tryz.prog Rows.fnLabelsTextRow.origin Rows.fnLabelsTextRow.targs := of_decide_eq_true (by kernel_rfl)
theorem text_wrapper : Tryz.f5.isWrapper Tryz.prog Rows.fnLabelsTextRow.wrapper Rows.fnLabelsTextRow.mainSum := by
  unfold Func.isWrapper
  first | (rw [if_pos (by decide +kernel)]; kernel_rfl) | (rw [if_neg (by decide +kernel)]; exact ⟨rfl, rfl⟩)
theorem text_wf : Rows.fnLabelsTextRow.wfByText (OpenSpec.ofChange Rows.fnLabelsTextSpec) = true := by kernel_rfl
theorem text_main : Tryz.prog.mainIs = some (true, "2013f6a409768eab55667db855df5ae58df30dc7a0f573b2f9cf8a757ae4012f".toList) := by kernel_rfl
theorem text_looks : true = Tryz.prog.looks [] := by kernel_rfl
theorem text_goes : false = Rows.fnLabelsTextRow.goesBy Tryz.prog := by kernel_rfl
theorem text_stand : ([31].all fun u => !Tryz.prog.wantsStandIn u) = true := by kernel_rfl

theorem fnLabelsText_row : Rows.FnLabelsTextSaid :=
  OpenClaim.holds_of_wide 5 Tryz.f5 rfl rfl rfl rfl rfl rfl rfl ⟨rfl, rfl, rfl, rfl, rfl⟩ rfl rfl rfl rfl rfl text_named Tryz.func5 text_closed
    text_instance text_wrapper (fun os started H enc _ => text_lifted os started H enc)

/-- THE TIED CARD. -/
theorem fnLabelsText_holds : Rows.FnLabelsTextCardSaid :=
  Claim7.holds_tied_plain_at .later [] [.data, .sentinel, .sentinel, .pinned, .pinned, .pinned, .pinned, .pinned, .pinned] true (true, "2013f6a409768eab55667db855df5ae58df30dc7a0f573b2f9cf8a757ae4012f") true
    fnLabelsText_row (fun _ h => by cases h) text_wf (fun _ h => by cases h) fnLabelsText_row_tie rfl ⟨rfl, rfl⟩ text_main rfl
    (fun f fn hf hfn => by
      obtain rfl : f = 5 := Option.some.inj (text_named.symm.trans hf) |>.symm
      obtain rfl : fn = Tryz.f5 := (Option.some.inj (Tryz.func5.symm.trans hfn)).symm
      exact ⟨text_looks, fun j t ht => by
        rw [Tryz.params5] at ht
        have hm : t ∈ [31] := by simpa using Array.mem_of_getElem? ht
        exact (show Tryz.prog.wantsStandIn t = false by simpa using List.all_eq_true.1 text_stand t hm)⟩)
    text_goes
#print axioms fnLabelsText_holds
end Go.Proofs.YtbkookiigkckdaaGreatDoor
