/- 'laws.FnRecordOthers': for every two numbers and all parts the call returns true, and its arguments read afterwards as they read before: a record that is encoded of right parts (at most 12, of the kind alone) is accepted by the decoders of its kind, and by no other; histograms with custom bounds and others have one decoder. Conditions: the package variable encoding.ErrInvalidSize reads as the program's text lays it (tied by the card). -/
import Derived.Test.YtbkookiigkckdaaGreatDoorK17
import Derived.Test.YtbkookiigkckdaaGreatDoorJ26
namespace Go.Proofs.YtbkookiigkckdaaGreatDoor
open Go Go.ChangeShapes Go.WideShapes Go.ChangeAt Go.RowKit
set_option linter.unusedVariables false
set_option linter.unusedSimpArgs false

theorem others_named : Tryz.prog.funcNamed "pub-quillon/laws.FnRecordOthers" = some 11 := by kernel_rfl
theorem others_instance : Tryz.f11.isInstance Tryz.prog Rows.fnRecordOthersRow.origin Rows.fnRecordOthersRow.targs := of_decide_eq_true (by kernel_rfl)
theorem others_wrapper : Tryz.f11.isWrapper Tryz.prog Rows.fnRecordOthersRow.wrapper Rows.fnRecordOthersRow.mainSum := by
  unfold Func.isWrapper
  first | (rw [if_pos (by decide +kernel)]; kernel_rfl) | (rw [if_neg (by decide +kernel)]; exact ⟨rfl, rfl⟩)
theorem others_wf : Rows.fnRecordOthersRow.wfByText (OpenSpec.ofChange Rows.fnRecordOthersSpec) = true := by kernel_rfl
theorem others_main : Tryz.prog.mainIs = some (true, "2013f6a409768eab55667db855df5ae58df30dc7a0f573b2f9cf8a757ae4012f".toList) := by kernel_rfl
theorem others_looks : true = Tryz.prog.looks [] := by kernel_rfl
theorem others_goes : false = Rows.fnRecordOthersRow.goesBy Tryz.prog := by kernel_rfl
theorem others_stand : ([5, 54].all fun u => !Tryz.prog.wantsStandIn u) = true := by kernel_rfl

theorem fnRecordOthers_row : Rows.FnRecordOthersSaid :=
  OpenClaim.holds_of_wide 11 Tryz.f11 rfl rfl rfl rfl rfl rfl rfl ⟨rfl, rfl, rfl, rfl, rfl⟩ rfl rfl rfl rfl rfl others_named Tryz.func11 others_closed
    others_instance others_wrapper (fun os started H enc _ => others_lifted os started H enc)

/-- THE TIED CARD. -/
theorem fnRecordOthers_holds : Rows.FnRecordOthersCardSaid :=
  Claim7.holds_tied_plain_at .later [] [.sentinel] true (true, "2013f6a409768eab55667db855df5ae58df30dc7a0f573b2f9cf8a757ae4012f") true
    fnRecordOthers_row (fun _ h => by cases h) others_wf (fun _ h => by cases h) fnRecordOthers_row_tie rfl ⟨rfl, rfl⟩ others_main rfl
    (fun f fn hf hfn => by
      obtain rfl : f = 11 := Option.some.inj (others_named.symm.trans hf) |>.symm
      obtain rfl : fn = Tryz.f11 := (Option.some.inj (Tryz.func11.symm.trans hfn)).symm
      exact ⟨others_looks, fun j t ht => by
        rw [Tryz.params11] at ht
        have hm : t ∈ [5, 54] := by simpa using Array.mem_of_getElem? ht
        exact (show Tryz.prog.wantsStandIn t = false by simpa using List.all_eq_true.1 others_stand t hm)⟩)
    others_goes
#print axioms fnRecordOthers_holds
end Go.Proofs.YtbkookiigkckdaaGreatDoor
