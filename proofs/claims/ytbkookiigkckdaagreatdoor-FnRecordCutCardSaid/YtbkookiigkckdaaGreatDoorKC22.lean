/- Texts of this seat, merged and shortened. -/
import Derived.Test.YtbkookiigkckdaaGreatDoorKC20
import Derived.Test.YtbkookiigkckdaaGreatDoorRows
import Derived.Test.YtbkookiigkckdaaGreatDoorTie
import Derived.Test.YtbkookiigkckdaaGreatDoorCards
import Derived.ChangeSame
import Derived.ChangeVars
import Derived.JoinedOf
import Derived.ProofKit
import Derived.LaidMore
import Derived.OpenShut
import Derived.Stop.Joined
import Derived.Stop.LaidErr
import Derived.LaidLaws
import Derived.SevenTiedAt
set_option linter.unusedVariables false
set_option linter.unusedSimpArgs false
set_option maxRecDepth 100000
set_option maxHeartbeats 8000000
namespace Go.Proofs.YtbkookiigkckdaaGreatDoor
open Go Go.ChangeShapes Go.WideShapes Go.ChangeAt Go.RowKit Go.Proofs.Tryz
theorem ownKnobs : ownKnob prog.godebug = none := by kernel_rfl
theorem gErr : prog.globalNamed "pub-quillon/pub/prometheus/tsdb/encoding.ErrInvalidSize" = some 2 := by kernel_rfl
theorem gErrType : (prog.globals[2]?).map (·.type) = some 92 := by kernel_rfl
theorem cells356 : prog.cellsOf 356 = 1 := by kernel_rfl
theorem cells9 : prog.cellsOf 9 = 1 := by kernel_rfl
theorem starred : "*" ++ "errors.errorString" = "*errors.errorString" := by decide
theorem row354 (u : TypeId) (h : prog.typeName? 3 u = some "*errors.errorString") : u = 354 :=
 typeName_ptr_named (nm := "errors.errorString") (by rw [starred]; kernel_rfl) (by kernel_rfl) (by decide) u (by rw [starred]; exact h)
theorem errCell {W : World} (h : laidMetH prog [("pub-quillon/pub/prometheus/tsdb/encoding.ErrInvalidSize", Rows.laid_pub_quillon_pub_prometheus_tsdb_encoding_ErrInvalidSize)] W) : ∃ te pe, W.cell? ⟨2, 0, none⟩ = some (.iface te pe) := by
 rw [MakeChecks.laidMetH_plain _ _ _ (by kernel_rfl)] at h; obtain ⟨a0, s0, eX, _⟩ := laid_sentinel h gErr gErrType underlying92 row354 underlying354 underlying356 rfl rfl underlying9 cells356 cells9; exact ⟨_, _, by simpa using World.var?_cell gErr eX 0⟩
theorem door_met (os : Os) (args : Array Value) : laidMetH prog [("pub-quillon/pub/prometheus/tsdb/encoding.ErrInvalidSize", Rows.laid_pub_quillon_pub_prometheus_tsdb_encoding_ErrInvalidSize)] ((World.doorLaid prog 400 os).forCall (fun _ _ => 0) ⟨#[], args, []⟩).memory :=
 laidMetH_of_parts3 (fuel := 8) (laidMet_of_run' 8 (by kernel_rfl) (by kernel_rfl)) (by kernel_rfl) (by kernel_rfl)
end Go.Proofs.YtbkookiigkckdaaGreatDoor
