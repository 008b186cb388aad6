/- FnRecordBack: the row's closed facts. -/
import Derived.Test.YtbkookiigkckdaaGreatDoorRows
import Derived.Test.YtbkookiigkckdaaGreatDoorCards
import Derived.JoinedOf
import Derived.SevenTiedAt
namespace Go.Proofs.YtbkookiigkckdaaGreatDoor
open Go
set_option maxHeartbeats 0 in
theorem back_closed : joinedFacts Tryz.prog 8 Tryz.f8 Rows.fnRecordBackSpec Rows.fnRecordBackRow = true := by
  unfold joinedFacts
  simp only [Bool.and_eq_true]
  and_intros <;> as_aux_lemma => kernel_rfl
end Go.Proofs.YtbkookiigkckdaaGreatDoor
