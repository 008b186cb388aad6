/- 'laws.FnRecordAny': for every number and every slice of bytes the call returns true, and its arguments read afterwards as they read before: whatever bytes (at most 400) are accepted as samples, tombstones or markers, their parts, encoded again, are decoded to the same parts. Conditions: the package variable encoding.ErrInvalidSize reads as the program's text lays it (tied by the card). -/
import Derived.Test.YtbkookiigkckdaaGreatDoorRn
import Derived.Test.YtbkookiigkckdaaGreatDoorCa
namespace Go.Proofs.YtbkookiigkckdaaGreatDoor
open Go Go.ChangeShapes Go.WideShapes Go.ChangeAt Go.RowKit
set_option linter.unusedVariables false
set_option linter.unusedSimpArgs false

theorem anyrec_named : Tryz.prog.funcNamed "pub-quillon/laws.FnRecordAny" = some 7 := by kernel_rfl
theorem anyrec_instance : Tryz.f7.isInstance Tryz.prog Rows.fnRecordAnyRow.origin Rows.fnRecordAnyRow.targs := of_decide_eq_true (by kernel_rfl)
theorem anyrec_wrapper : Tryz.f7.isWrapper Tryz.prog Rows.fnRecordAnyRow.wrapper Rows.fnRecordAnyRow.mainSum := by
  unfold Func.isWrapper
  first | (rw [if_pos (by decide +kernel)]; kernel_rfl) | (rw [if_neg (by decide +kernel)]; exact ⟨rfl, rfl⟩)
theorem anyrec_wf : Rows.fnRecordAnyRow.wfByText (OpenSpec.ofChange Rows.fnRecordAnySpec) = true := by kernel_rfl
theorem anyrec_main : Tryz.prog.mainIs = some (true, "2013f6a409768eab55667db855df5ae58df30dc7a0f573b2f9cf8a757ae4012f".toList) := by kernel_rfl
theorem anyrec_looks : true = Tryz.prog.looks [] := by kernel_rfl
theorem anyrec_goes : false = Rows.fnRecordAnyRow.goesBy Tryz.prog := by kernel_rfl
theorem anyrec_stand : ([5, 44].all fun u => !Tryz.prog.wantsStandIn u) = true := by kernel_rfl

theorem fnRecordAny_row : Rows.FnRecordAnySaid :=
  OpenClaim.holds_of_wide 7 Tryz.f7 rfl rfl rfl rfl rfl rfl rfl ⟨rfl, rfl, rfl, rfl, rfl⟩ rfl rfl rfl rfl rfl anyrec_named Tryz.func7 any_closed
    anyrec_instance anyrec_wrapper (fun os started H enc _ => any_lifted os started H enc)

/-- THE TIED CARD. -/
theorem fnRecordAny_holds : Rows.FnRecordAnyCardSaid :=
  Claim7.holds_tied_plain_at .later [] [.sentinel] true (true, "2013f6a409768eab55667db855df5ae58df30dc7a0f573b2f9cf8a757ae4012f") true
    fnRecordAny_row (fun _ h => by cases h) anyrec_wf (fun _ h => by cases h) fnRecordAny_row_tie rfl ⟨rfl, rfl⟩ anyrec_main rfl
    (fun f fn hf hfn => by
      obtain rfl : f = 7 := Option.some.inj (anyrec_named.symm.trans hf) |>.symm
      obtain rfl : fn = Tryz.f7 := (Option.some.inj (Tryz.func7.symm.trans hfn)).symm
      exact ⟨anyrec_looks, fun j t ht => by
        rw [Tryz.params7] at ht
        have hm : t ∈ [5, 44] := by simpa using Array.mem_of_getElem? ht
        exact (show Tryz.prog.wantsStandIn t = false by simpa using List.all_eq_true.1 anyrec_stand t hm)⟩)
    anyrec_goes
#print axioms fnRecordAny_holds
end Go.Proofs.YtbkookiigkckdaaGreatDoor
