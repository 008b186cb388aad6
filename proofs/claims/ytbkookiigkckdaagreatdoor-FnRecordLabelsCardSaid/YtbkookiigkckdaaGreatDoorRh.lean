/- 'laws.FnRecordLabels': for every slice of labels and every slice of bytes the call returns true, and its arguments read afterwards as they read before: labels with unique names that are not empty (at most 12, of at most 600 bytes) are encoded and decoded, and the bytes behind them (at most 100) are left. Conditions: the package variable encoding.ErrInvalidSize reads as the program's text lays it (tied by the card). -/
import Derived.Test.YtbkookiigkckdaaGreatDoorRg
import Derived.Test.YtbkookiigkckdaaGreatDoorCb
namespace Go.Proofs.YtbkookiigkckdaaGreatDoor
open Go Go.ChangeShapes Go.WideShapes Go.ChangeAt Go.RowKit
set_option linter.unusedVariables false
set_option linter.unusedSimpArgs false

theorem reclab_named : Tryz.prog.funcNamed "pub-quillon/laws.FnRecordLabels" = some 13 := by kernel_rfl
theorem reclab_instance : Tryz.f13.isInstance Tryz.prog Rows.fnRecordLabelsRow.origin Rows.fnRecordLabelsRow.targs := of_decide_eq_true (by kernel_rfl)
theorem reclab_wrapper : Tryz.f13.isWrapper Tryz.prog Rows.fnRecordLabelsRow.wrapper Rows.fnRecordLabelsRow.mainSum := by
  unfold Func.isWrapper
  first | (rw [if_pos (by decide +kernel)]; kernel_rfl) | (rw [if_neg (by decide +kernel)]; exact ⟨rfl, rfl⟩)
theorem reclab_wf : Rows.fnRecordLabelsRow.wfByText (OpenSpec.ofChange Rows.fnRecordLabelsSpec) = true := by kernel_rfl
theorem reclab_main : Tryz.prog.mainIs = some (true, "2013f6a409768eab55667db855df5ae58df30dc7a0f573b2f9cf8a757ae4012f".toList) := by kernel_rfl
theorem reclab_looks : true = Tryz.prog.looks [] := by kernel_rfl
theorem reclab_goes : false = Rows.fnRecordLabelsRow.goesBy Tryz.prog := by kernel_rfl
theorem reclab_stand : ([31, 44].all fun u => !Tryz.prog.wantsStandIn u) = true := by kernel_rfl

theorem fnRecordLabels_row : Rows.FnRecordLabelsSaid :=
  OpenClaim.holds_of_wide 13 Tryz.f13 rfl rfl rfl rfl rfl rfl rfl ⟨rfl, rfl, rfl, rfl, rfl⟩ rfl rfl rfl rfl rfl reclab_named Tryz.func13 reclab_closed
    reclab_instance reclab_wrapper (fun os started H enc _ => reclab_lifted os started H enc)

/-- THE TIED CARD. -/
theorem fnRecordLabels_holds : Rows.FnRecordLabelsCardSaid :=
  Claim7.holds_tied_plain_at .later [] [.sentinel] true (true, "2013f6a409768eab55667db855df5ae58df30dc7a0f573b2f9cf8a757ae4012f") true
    fnRecordLabels_row (fun _ h => by cases h) reclab_wf (fun _ h => by cases h) fnRecordLabels_row_tie rfl ⟨rfl, rfl⟩ reclab_main rfl
    (fun f fn hf hfn => by
      obtain rfl : f = 13 := Option.some.inj (reclab_named.symm.trans hf) |>.symm
      obtain rfl : fn = Tryz.f13 := (Option.some.inj (Tryz.func13.symm.trans hfn)).symm
      exact ⟨reclab_looks, fun j t ht => by
        rw [Tryz.params13] at ht
        have hm : t ∈ [31, 44] := by simpa using Array.mem_of_getElem? ht
        exact (show Tryz.prog.wantsStandIn t = false by simpa using List.all_eq_true.1 reclab_stand t hm)⟩)
    reclab_goes
#print axioms fnRecordLabels_holds
end Go.Proofs.YtbkookiigkckdaaGreatDoor
