/- 'laws.FnLabelsTwice': for every slice of labels the call returns true, and its argument reads afterwards as it read before: of at most 12 labels, of at most 600 bytes, a name that stands twice is told. Conditions: the nine listed package variables (Go's print tables, unicode/utf8's two tables, bytes.ErrTooLarge, impl.errStop) read as the row lists them; the card ties them to the program's text. -/
import Derived.Test.YtbkookiigkckdaaGreatDoorK29
import Derived.Test.YtbkookiigkckdaaGreatDoorKTd
import Derived.Test.YtbkookiigkckdaaGreatDoorRows
import Derived.Test.YtbkookiigkckdaaGreatDoorTie
import Derived.Test.YtbkookiigkckdaaGreatDoorCards
import Derived.JoinedOf
import Derived.SevenTiedAt
import Derived.ChangeSame
import Derived.ChangeVars
import Derived.ProofKit
import Derived.LaidMore
import Derived.OpenShut
import Derived.LaidLaws
import Derived.Lay
import Derived.Carry
import Derived.ChangeOld
import Derived.Below
import Derived.Stop.Joined
namespace Go.Proofs.YtbkookiigkckdaaGreatDoor
open Go Go.ChangeShapes Go.WideShapes Go.ChangeAt Go.RowKit
set_option linter.unusedVariables false
set_option linter.unusedSimpArgs false

theorem twice_laid : Rows.fnLabelsTwiceRow.laid = labLaid := rfl
set_option maxHeartbeats 0 in
theorem twice_closed : joinedFacts Tryz.prog 6 Tryz.f6 Rows.fnLabelsTwiceSpec Rows.fnLabelsTwiceRow = true := by
  unfold joinedFacts
  simp only [Bool.and_eq_true]
  and_intros <;> as_aux_lemma => kernel_rfl

set_option maxRecDepth 100000 in
theorem twice_lifted (os : Os) (started : os.Started) (H : Type) (enc : TypeId × Value → H) :
    ReturnsInHanded {} Tryz.checked os 6 .any (fun w args => (Rows.fnLabelsTwiceSpec.pre enc Tryz.prog Tryz.f6 [] false w args ∧ laidMetH Tryz.prog Rows.fnLabelsTwiceRow.laid w) ∧ sizedMet enc Tryz.prog Tryz.f6 (OpenSpec.ofChange Rows.fnLabelsTwiceSpec) false w args)
      (Rows.fnLabelsTwiceSpec.post enc Tryz.prog Tryz.f6 false true false false) := by
  refine returnsInHanded_of_change_and (C := Tryz.checked) (X := fun w _ => laidMetH Tryz.prog Rows.fnLabelsTwiceRow.laid w) (fun _ _ _ hh h => h.of_heap hh) lk_knobs started (by kernel_rfl) Tryz.func6
    (ChangeSpec.witness_shaped (enc := enc) (C := Tryz.checked) (os := os) (X := fun w _ => laidMetH Tryz.prog Rows.fnLabelsTwiceRow.laid w) false (World.laidAll Tryz.prog os Rows.fnLabelsTwiceRow.laid) #[.slice none 0 0] 8 (World.laidAll_os _ _ _)
      (World.shaped_of_ZipB (by kernel_rfl) (by kernel_rfl)) (by kernel_rfl) (by kernel_rfl) (by kernel_rfl)
      (by rw [MakeChecks.laidMetH_plain _ _ _ (by kernel_rfl)]; exact laidMet_laidAll _ (by kernel_rfl) (by kernel_rfl))) ?_
  intro W base args ds gs before hval0 hW _ _ hL _
  have hval : ∀ (j : Nat) t v, Tryz.f6.params[j]? = some t → args[j]? = some v → Value.okWide Tryz.prog W .any base t v := hval0
  have hW' := hW
  obtain ⟨p, q, hA0, hV, rfl, hfz, hnd⟩ := hW
  have hA : DataW.TrodAll enc Tryz.prog W 0 (fun _ => true) true Tryz.f6.params.toList args.toList ds p := hA0
  rw [Tryz.params6] at hA hval
  obtain ⟨v0, vs0, d0, ds0, p0, q0, hargs, rfl, rfl, h0, r0⟩ := trodAll_cons hA
  obtain ⟨rfl, rfl, rfl⟩ := trodAll_nil r0
  obtain rfl : args = #[v0] := by cases args; simp_all
  obtain ⟨rfl, rfl⟩ := trodVars_none hV
  obtain ⟨A0, len0, cap0, rfl⟩ := okWide_slice Tryz.underlying31 (hval 0 31 v0 rfl rfl)
  have k0 := h0
  have lt0 : ∀ x ∈ p0, x.block < W.heap.size := by obtain ⟨m, hm⟩ := k0; exact DataW.trod_lt m _ _ _ hm
  obtain ⟨l, hl1, hl2, hls, hS⟩ := lk_labels_in h0
  rw [MakeChecks.laidMetH_plain _ _ _ (by kernel_rfl), twice_laid] at hL
  have hT := lk_tabs hL
  obtain ⟨te, pe, hE⟩ := lk_stop hL
  clear hA0 hval0 hL
  refine (labTwice_walk Lib.goPrintTabs te pe _ (.slice A0 len0 cap0) l W hS (by rw [hl1]; simp only [maxLen] at hl2; omega) (fun q hq => by have := hls q hq; simp only [maxLen] at this; omega) hT hE).mono fun e W' ⟨he, hf⟩ => ?_
  subst he
  have hB := hf.none_toBelow
  exact ⟨_, rfl, _, _, _, [], _, [], hW', trodAll_mk1 (shut_bool Tryz.underlying4 _), (trodAll_cons_mk (Below.trod lk_laidOut (by kernel_rfl) (of_decide_eq_true (by kernel_rfl)) k0 hB lt0) trodAll_mk0), rfl, hB.frame _, fun h => by cases h⟩

theorem twice_named : Tryz.prog.funcNamed "pub-quillon/laws.FnLabelsTwice" = some 6 := by kernel_rfl
theorem twice_instance : Tryz.f6.isInstance Tryz.prog Rows.fnLabelsTwiceRow.origin Rows.fnLabelsTwiceRow.targs := of_decide_eq_true (by kernel_rfl)
theorem twice_wrapper : Tryz.f6.isWrapper Tryz.prog Rows.fnLabelsTwiceRow.wrapper Rows.fnLabelsTwiceRow.mainSum := by
  unfold Func.isWrapper
  first | (rw [if_pos (by decide +kernel)]; kernel_rfl) | (rw [if_neg (by decide +kernel)]; exact ⟨rfl, rfl⟩)
theorem twice_wf : Rows.fnLabelsTwiceRow.wfByText (OpenSpec.ofChange Rows.fnLabelsTwiceSpec) = true := by kernel_rfl
theorem twice_main : Tryz.prog.mainIs = some (true, "2013f6a409768eab55667db855df5ae58df30dc7a0f573b2f9cf8a757ae4012f".toList) := by kernel_rfl
theorem twice_looks : true = Tryz.prog.looks [] := by kernel_rfl
theorem twice_goes : false = Rows.fnLabelsTwiceRow.goesBy Tryz.prog := by kernel_rfl
theorem twice_stand : ([31].all fun u => !Tryz.prog.wantsStandIn u) = true := by kernel_rfl

theorem fnLabelsTwice_row : Rows.FnLabelsTwiceSaid :=
  OpenClaim.holds_of_wide 6 Tryz.f6 rfl rfl rfl rfl rfl rfl rfl ⟨rfl, rfl, rfl, rfl, rfl⟩ rfl rfl rfl rfl rfl twice_named Tryz.func6 twice_closed
    twice_instance twice_wrapper (fun os started H enc _ => twice_lifted os started H enc)

/-- THE TIED CARD. -/
theorem fnLabelsTwice_holds : Rows.FnLabelsTwiceCardSaid :=
  Claim7.holds_tied_plain_at .later [] [.data, .sentinel, .sentinel, .pinned, .pinned, .pinned, .pinned, .pinned, .pinned] true (true, "2013f6a409768eab55667db855df5ae58df30dc7a0f573b2f9cf8a757ae4012f") true
    fnLabelsTwice_row (fun _ h => by cases h) twice_wf (fun _ h => by cases h) fnLabelsTwice_row_tie rfl ⟨rfl, rfl⟩ twice_main rfl
    (fun f fn hf hfn => by
      obtain rfl : f = 6 := Option.some.inj (twice_named.symm.trans hf) |>.symm
      obtain rfl : fn = Tryz.f6 := (Option.some.inj (Tryz.func6.symm.trans hfn)).symm
      exact ⟨twice_looks, fun j t ht => by
        rw [Tryz.params6] at ht
        have hm : t ∈ [31] := by simpa using Array.mem_of_getElem? ht
        exact (show Tryz.prog.wantsStandIn t = false by simpa using List.all_eq_true.1 twice_stand t hm)⟩)
    twice_goes
#print axioms fnLabelsTwice_holds
end Go.Proofs.YtbkookiigkckdaaGreatDoor
