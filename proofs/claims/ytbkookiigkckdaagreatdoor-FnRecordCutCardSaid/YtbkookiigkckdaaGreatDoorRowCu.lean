/- 'laws.FnRecordCut': for every number, all parts and every place of a cut the call returns true, and its arguments read afterwards as they read before: of a record of right parts (at most 12, of the kind alone) that is cut off behind some byte either nothing is accepted, or what is decoded is the same, with labels in any order, as some of its parts, from the first one on. Conditions: none beyond the seat's own (a row over sized arguments; the listed variable is laid by the card). -/
import Derived.Test.YtbkookiigkckdaaGreatDoorKC29
import Derived.Test.YtbkookiigkckdaaGreatDoorC6
namespace Go.Proofs.YtbkookiigkckdaaGreatDoor
open Go Go.ChangeShapes Go.WideShapes Go.ChangeAt Go.RowKit
set_option linter.unusedVariables false
set_option linter.unusedSimpArgs false

theorem cut_named : Tryz.prog.funcNamed "pub-quillon/laws.FnRecordCut" = some 10 := by kernel_rfl
theorem cut_instance : Tryz.f10.isInstance Tryz.prog Rows.fnRecordCutRow.origin Rows.fnRecordCutRow.targs := of_decide_eq_true (by kernel_rfl)
theorem cut_wrapper : Tryz.f10.isWrapper Tryz.prog Rows.fnRecordCutRow.wrapper Rows.fnRecordCutRow.mainSum := by
  unfold Func.isWrapper
  first | (rw [if_pos (by decide +kernel)]; kernel_rfl) | (rw [if_neg (by decide +kernel)]; exact ⟨rfl, rfl⟩)
theorem cut_wf : Rows.fnRecordCutRow.wfByText (OpenSpec.ofChange Rows.fnRecordCutSpec) = true := by kernel_rfl
theorem cut_main : Tryz.prog.mainIs = some (true, "2013f6a409768eab55667db855df5ae58df30dc7a0f573b2f9cf8a757ae4012f".toList) := by kernel_rfl
theorem cut_looks : true = Tryz.prog.looks [] := by kernel_rfl
theorem cut_goes : false = Rows.fnRecordCutRow.goesBy Tryz.prog := by kernel_rfl
theorem cut_stand : ([5, 54, 70].all fun u => !Tryz.prog.wantsStandIn u) = true := by kernel_rfl

theorem fnRecordCut_row : Rows.FnRecordCutSaid :=
  OpenClaim.holds_of_wide 10 Tryz.f10 rfl rfl rfl rfl rfl rfl rfl ⟨rfl, rfl, rfl, rfl, rfl⟩ rfl rfl rfl rfl rfl cut_named Tryz.func10 cut_closed
    cut_instance cut_wrapper (fun os started H enc _ => cut_lifted os started H enc)

/-- THE TIED CARD. -/
theorem fnRecordCut_holds : Rows.FnRecordCutCardSaid :=
  Claim7.holds_tied_plain_at .later [] [.sentinel] true (true, "2013f6a409768eab55667db855df5ae58df30dc7a0f573b2f9cf8a757ae4012f") true
    fnRecordCut_row (fun _ h => by cases h) cut_wf (fun _ h => by cases h) fnRecordCut_row_tie rfl ⟨rfl, rfl⟩ cut_main rfl
    (fun f fn hf hfn => by
      obtain rfl : f = 10 := Option.some.inj (cut_named.symm.trans hf) |>.symm
      obtain rfl : fn = Tryz.f10 := (Option.some.inj (Tryz.func10.symm.trans hfn)).symm
      exact ⟨cut_looks, fun j t ht => by
        rw [Tryz.params10] at ht
        have hm : t ∈ [5, 54, 70] := by simpa using Array.mem_of_getElem? ht
        exact (show Tryz.prog.wantsStandIn t = false by simpa using List.all_eq_true.1 cut_stand t hm)⟩)
    cut_goes
#print axioms fnRecordCut_holds
end Go.Proofs.YtbkookiigkckdaaGreatDoor
