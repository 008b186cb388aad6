/- FnRecordCut: the row's closed facts. -/
import Derived.Test.YtbkookiigkckdaaGreatDoorRows
import Derived.Test.YtbkookiigkckdaaGreatDoorCards
import Derived.JoinedOf
import Derived.SevenTiedAt
namespace Go.Proofs.YtbkookiigkckdaaGreatDoor
open Go
set_option maxHeartbeats 0 in
theorem cut_closed : joinedFacts Tryz.prog 10 Tryz.f10 Rows.fnRecordCutSpec Rows.fnRecordCutRow = true := by
  unfold joinedFacts
  simp only [Bool.and_eq_true]
  and_intros <;> as_aux_lemma => kernel_rfl
end Go.Proofs.YtbkookiigkckdaaGreatDoor
