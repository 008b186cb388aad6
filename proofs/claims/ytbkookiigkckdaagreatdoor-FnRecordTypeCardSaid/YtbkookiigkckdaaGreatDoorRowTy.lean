/- 'laws.FnRecordType': for every number, all parts and every slice of bytes the call returns true, and its arguments read afterwards as they read before: the type of a record that is encoded of right parts (at most 12, of the kind alone) is its kind; bytes that begin with no known one have the type Unknown. Conditions: the package variable encoding.ErrInvalidSize reads as the program's text lays it (tied by the card). -/
import Derived.Test.YtbkookiigkckdaaGreatDoorK22
import Derived.Test.YtbkookiigkckdaaGreatDoorH18
namespace Go.Proofs.YtbkookiigkckdaaGreatDoor
open Go Go.ChangeShapes Go.WideShapes Go.ChangeAt Go.RowKit
set_option linter.unusedVariables false
set_option linter.unusedSimpArgs false

theorem rectype_named : Tryz.prog.funcNamed "pub-quillon/laws.FnRecordType" = some 12 := by kernel_rfl
theorem rectype_instance : Tryz.f12.isInstance Tryz.prog Rows.fnRecordTypeRow.origin Rows.fnRecordTypeRow.targs := of_decide_eq_true (by kernel_rfl)
theorem rectype_wrapper : Tryz.f12.isWrapper Tryz.prog Rows.fnRecordTypeRow.wrapper Rows.fnRecordTypeRow.mainSum := by
  unfold Func.isWrapper
  first | (rw [if_pos (by decide +kernel)]; kernel_rfl) | (rw [if_neg (by decide +kernel)]; exact ⟨rfl, rfl⟩)
theorem rectype_wf : Rows.fnRecordTypeRow.wfByText (OpenSpec.ofChange Rows.fnRecordTypeSpec) = true := by kernel_rfl
theorem rectype_main : Tryz.prog.mainIs = some (true, "2013f6a409768eab55667db855df5ae58df30dc7a0f573b2f9cf8a757ae4012f".toList) := by kernel_rfl
theorem rectype_looks : true = Tryz.prog.looks [] := by kernel_rfl
theorem rectype_goes : false = Rows.fnRecordTypeRow.goesBy Tryz.prog := by kernel_rfl
theorem rectype_stand : ([5, 54, 44].all fun u => !Tryz.prog.wantsStandIn u) = true := by kernel_rfl

theorem fnRecordType_row : Rows.FnRecordTypeSaid :=
  OpenClaim.holds_of_wide 12 Tryz.f12 rfl rfl rfl rfl rfl rfl rfl ⟨rfl, rfl, rfl, rfl, rfl⟩ rfl rfl rfl rfl rfl rectype_named Tryz.func12 rectype_closed
    rectype_instance rectype_wrapper (fun os started H enc _ => rectype_lifted os started H enc)

/-- THE TIED CARD. -/
theorem fnRecordType_holds : Rows.FnRecordTypeCardSaid :=
  Claim7.holds_tied_plain_at .later [] [.sentinel] true (true, "2013f6a409768eab55667db855df5ae58df30dc7a0f573b2f9cf8a757ae4012f") true
    fnRecordType_row (fun _ h => by cases h) rectype_wf (fun _ h => by cases h) fnRecordType_row_tie rfl ⟨rfl, rfl⟩ rectype_main rfl
    (fun f fn hf hfn => by
      obtain rfl : f = 12 := Option.some.inj (rectype_named.symm.trans hf) |>.symm
      obtain rfl : fn = Tryz.f12 := (Option.some.inj (Tryz.func12.symm.trans hfn)).symm
      exact ⟨rectype_looks, fun j t ht => by
        rw [Tryz.params12] at ht
        have hm : t ∈ [5, 54, 44] := by simpa using Array.mem_of_getElem? ht
        exact (show Tryz.prog.wantsStandIn t = false by simpa using List.all_eq_true.1 rectype_stand t hm)⟩)
    rectype_goes
#print axioms fnRecordType_holds
end Go.Proofs.YtbkookiigkckdaaGreatDoor
