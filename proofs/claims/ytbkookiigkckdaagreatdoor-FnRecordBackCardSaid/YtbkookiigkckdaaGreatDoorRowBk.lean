/- 'laws.FnRecordBack': for every number and all parts the call returns true, and its arguments read afterwards as they read before: what is encoded as a record of right parts (at most 12, of the kind alone) is decoded to those parts, with labels in any order, of tombstones one interval each, and of histograms those that are not handed back, which are handed back as they were. Conditions: none beyond the seat's own (a row over sized arguments; the listed variable is laid by the card). -/
import Derived.Test.YtbkookiigkckdaaGreatDoorK29
import Derived.Test.YtbkookiigkckdaaGreatDoorJ37
namespace Go.Proofs.YtbkookiigkckdaaGreatDoor
open Go Go.ChangeShapes Go.WideShapes Go.ChangeAt Go.RowKit
set_option linter.unusedVariables false
set_option linter.unusedSimpArgs false

theorem back_named : Tryz.prog.funcNamed "pub-quillon/laws.FnRecordBack" = some 8 := by kernel_rfl
theorem back_instance : Tryz.f8.isInstance Tryz.prog Rows.fnRecordBackRow.origin Rows.fnRecordBackRow.targs := of_decide_eq_true (by kernel_rfl)
theorem back_wrapper : Tryz.f8.isWrapper Tryz.prog Rows.fnRecordBackRow.wrapper Rows.fnRecordBackRow.mainSum := by
  unfold Func.isWrapper
  first | (rw [if_pos (by decide +kernel)]; kernel_rfl) | (rw [if_neg (by decide +kernel)]; exact ⟨rfl, rfl⟩)
theorem back_wf : Rows.fnRecordBackRow.wfByText (OpenSpec.ofChange Rows.fnRecordBackSpec) = true := by kernel_rfl
theorem back_main : Tryz.prog.mainIs = some (true, "2013f6a409768eab55667db855df5ae58df30dc7a0f573b2f9cf8a757ae4012f".toList) := by kernel_rfl
theorem back_looks : true = Tryz.prog.looks [] := by kernel_rfl
theorem back_goes : false = Rows.fnRecordBackRow.goesBy Tryz.prog := by kernel_rfl
theorem back_stand : ([5, 54].all fun u => !Tryz.prog.wantsStandIn u) = true := by kernel_rfl

theorem fnRecordBack_row : Rows.FnRecordBackSaid :=
  OpenClaim.holds_of_wide 8 Tryz.f8 rfl rfl rfl rfl rfl rfl rfl ⟨rfl, rfl, rfl, rfl, rfl⟩ rfl rfl rfl rfl rfl back_named Tryz.func8 back_closed
    back_instance back_wrapper (fun os started H enc _ => back_lifted os started H enc)

/-- THE TIED CARD. -/
theorem fnRecordBack_holds : Rows.FnRecordBackCardSaid :=
  Claim7.holds_tied_plain_at .later [] [.sentinel] true (true, "2013f6a409768eab55667db855df5ae58df30dc7a0f573b2f9cf8a757ae4012f") true
    fnRecordBack_row (fun _ h => by cases h) back_wf (fun _ h => by cases h) fnRecordBack_row_tie rfl ⟨rfl, rfl⟩ back_main rfl
    (fun f fn hf hfn => by
      obtain rfl : f = 8 := Option.some.inj (back_named.symm.trans hf) |>.symm
      obtain rfl : fn = Tryz.f8 := (Option.some.inj (Tryz.func8.symm.trans hfn)).symm
      exact ⟨back_looks, fun j t ht => by
        rw [Tryz.params8] at ht
        have hm : t ∈ [5, 54] := by simpa using Array.mem_of_getElem? ht
        exact (show Tryz.prog.wantsStandIn t = false by simpa using List.all_eq_true.1 back_stand t hm)⟩)
    back_goes
#print axioms fnRecordBack_holds
end Go.Proofs.YtbkookiigkckdaaGreatDoor
