/- 'laws.FnRecordMetrics': for every number m the call returns true, and its argument reads afterwards as it read before: the types of metrics are encoded by the numbers 1 to 7 and come back, all others are 0. Conditions: the package variable encoding.ErrInvalidSize reads as the program's text lays it (tied by the card). -/
import Derived.Test.YtbkookiigkckdaaGreatDoorRm
import Derived.Test.YtbkookiigkckdaaGreatDoorCm
namespace Go.Proofs.YtbkookiigkckdaaGreatDoor
open Go Go.ChangeShapes Go.WideShapes Go.ChangeAt Go.RowKit
set_option linter.unusedVariables false
set_option linter.unusedSimpArgs false

theorem metrics_named : Tryz.prog.funcNamed "pub-quillon/laws.FnRecordMetrics" = some 14 := by kernel_rfl
theorem metrics_instance : Tryz.f14.isInstance Tryz.prog Rows.fnRecordMetricsRow.origin Rows.fnRecordMetricsRow.targs := of_decide_eq_true (by kernel_rfl)
theorem metrics_wrapper : Tryz.f14.isWrapper Tryz.prog Rows.fnRecordMetricsRow.wrapper Rows.fnRecordMetricsRow.mainSum := by
  unfold Func.isWrapper
  first | (rw [if_pos (by decide +kernel)]; kernel_rfl) | (rw [if_neg (by decide +kernel)]; exact ⟨rfl, rfl⟩)
theorem metrics_wf : Rows.fnRecordMetricsRow.wfByText (OpenSpec.ofChange Rows.fnRecordMetricsSpec) = true := by kernel_rfl
theorem metrics_main : Tryz.prog.mainIs = some (true, "2013f6a409768eab55667db855df5ae58df30dc7a0f573b2f9cf8a757ae4012f".toList) := by kernel_rfl
theorem metrics_looks : true = Tryz.prog.looks [] := by kernel_rfl
theorem metrics_goes : false = Rows.fnRecordMetricsRow.goesBy Tryz.prog := by kernel_rfl
theorem metrics_stand : ([5].all fun u => !Tryz.prog.wantsStandIn u) = true := by kernel_rfl

theorem fnRecordMetrics_row : Rows.FnRecordMetricsSaid :=
  OpenClaim.holds_of_wide 14 Tryz.f14 rfl rfl rfl rfl rfl rfl rfl ⟨rfl, rfl, rfl, rfl, rfl⟩ rfl rfl rfl rfl rfl metrics_named Tryz.func14 metrics_closed
    metrics_instance metrics_wrapper (fun os started H enc _ => metrics_lifted os started H enc)

/-- THE TIED CARD. -/
theorem fnRecordMetrics_holds : Rows.FnRecordMetricsCardSaid :=
  Claim7.holds_tied_plain_at .later [] [.sentinel] true (true, "2013f6a409768eab55667db855df5ae58df30dc7a0f573b2f9cf8a757ae4012f") true
    fnRecordMetrics_row (fun _ h => by cases h) metrics_wf (fun _ h => by cases h) fnRecordMetrics_row_tie rfl ⟨rfl, rfl⟩ metrics_main rfl
    (fun f fn hf hfn => by
      obtain rfl : f = 14 := Option.some.inj (metrics_named.symm.trans hf) |>.symm
      obtain rfl : fn = Tryz.f14 := (Option.some.inj (Tryz.func14.symm.trans hfn)).symm
      exact ⟨metrics_looks, fun j t ht => by
        rw [Tryz.params14] at ht
        have hm : t ∈ [5] := by simpa using Array.mem_of_getElem? ht
        exact (show Tryz.prog.wantsStandIn t = false by simpa using List.all_eq_true.1 metrics_stand t hm)⟩)
    metrics_goes
#print axioms fnRecordMetrics_holds
end Go.Proofs.YtbkookiigkckdaaGreatDoor
