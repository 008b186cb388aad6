/- 'laws.FnRecordBehind': for every number, all parts, all parts ahead and every slice of bytes the call returns true, and its arguments read afterwards as they read before: a record of right parts (at most 12, of the kind alone) that is written behind bytes (at most 100) is these bytes and the record, and its parts are decoded behind right parts ahead (none of samples), with labels in any order. Conditions: none beyond the seat's own (a row over sized arguments; the listed variable is laid by the card). -/
import Derived.Test.YtbkookiigkckdaaGreatDoorKD34
import Derived.Test.YtbkookiigkckdaaGreatDoorB8
namespace Go.Proofs.YtbkookiigkckdaaGreatDoor
open Go Go.ChangeShapes Go.WideShapes Go.ChangeAt Go.RowKit
set_option linter.unusedVariables false
set_option linter.unusedSimpArgs false

theorem behind_named : Tryz.prog.funcNamed "pub-quillon/laws.FnRecordBehind" = some 9 := by kernel_rfl
theorem behind_instance : Tryz.f9.isInstance Tryz.prog Rows.fnRecordBehindRow.origin Rows.fnRecordBehindRow.targs := of_decide_eq_true (by kernel_rfl)
theorem behind_wrapper : Tryz.f9.isWrapper Tryz.prog Rows.fnRecordBehindRow.wrapper Rows.fnRecordBehindRow.mainSum := by
  unfold Func.isWrapper
  first | (rw [if_pos (by decide +kernel)]; kernel_rfl) | (rw [if_neg (by decide +kernel)]; exact ⟨rfl, rfl⟩)
theorem behind_wf : Rows.fnRecordBehindRow.wfByText (OpenSpec.ofChange Rows.fnRecordBehindSpec) = true := by kernel_rfl
theorem behind_main : Tryz.prog.mainIs = some (true, "2013f6a409768eab55667db855df5ae58df30dc7a0f573b2f9cf8a757ae4012f".toList) := by kernel_rfl
theorem behind_looks : true = Tryz.prog.looks [] := by kernel_rfl
theorem behind_goes : false = Rows.fnRecordBehindRow.goesBy Tryz.prog := by kernel_rfl
theorem behind_stand : ([5, 54, 44].all fun u => !Tryz.prog.wantsStandIn u) = true := by kernel_rfl

theorem fnRecordBehind_row : Rows.FnRecordBehindSaid :=
  OpenClaim.holds_of_wide 9 Tryz.f9 rfl rfl rfl rfl rfl rfl rfl ⟨rfl, rfl, rfl, rfl, rfl⟩ rfl rfl rfl rfl rfl behind_named Tryz.func9 behind_closed
    behind_instance behind_wrapper (fun os started H enc _ => behind_lifted os started H enc)

/-- THE TIED CARD. -/
theorem fnRecordBehind_holds : Rows.FnRecordBehindCardSaid :=
  Claim7.holds_tied_plain_at .later [] [.sentinel] true (true, "2013f6a409768eab55667db855df5ae58df30dc7a0f573b2f9cf8a757ae4012f") true
    fnRecordBehind_row (fun _ h => by cases h) behind_wf (fun _ h => by cases h) fnRecordBehind_row_tie rfl ⟨rfl, rfl⟩ behind_main rfl
    (fun f fn hf hfn => by
      obtain rfl : f = 9 := Option.some.inj (behind_named.symm.trans hf) |>.symm
      obtain rfl : fn = Tryz.f9 := (Option.some.inj (Tryz.func9.symm.trans hfn)).symm
      exact ⟨behind_looks, fun j t ht => by
        rw [Tryz.params9] at ht
        have hm : t ∈ [5, 54, 44] := by simpa using Array.mem_of_getElem? ht
        exact (show Tryz.prog.wantsStandIn t = false by simpa using List.all_eq_true.1 behind_stand t hm)⟩)
    behind_goes
#print axioms fnRecordBehind_holds
end Go.Proofs.YtbkookiigkckdaaGreatDoor
