/- FnRecordBehind: the row's closed facts. -/
import Derived.Test.YtbkookiigkckdaaGreatDoorRows
import Derived.Test.YtbkookiigkckdaaGreatDoorCards
import Derived.JoinedOf
import Derived.SevenTiedAt
namespace Go.Proofs.YtbkookiigkckdaaGreatDoor
open Go
set_option maxHeartbeats 0 in
theorem behind_closed : joinedFacts Tryz.prog 9 Tryz.f9 Rows.fnRecordBehindSpec Rows.fnRecordBehindRow = true := by
  unfold joinedFacts
  simp only [Bool.and_eq_true]
  and_intros <;> as_aux_lemma => kernel_rfl
end Go.Proofs.YtbkookiigkckdaaGreatDoor
