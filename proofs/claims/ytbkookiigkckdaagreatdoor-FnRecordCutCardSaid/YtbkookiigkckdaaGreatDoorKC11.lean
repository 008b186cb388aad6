/- Texts of this seat, merged and shortened. -/
import Derived.Test.YtbkookiigkckdaaGreatDoorKC10
import Derived.Deep.DeepCutAuto
set_option linter.unusedVariables false
set_option linter.unusedSimpArgs false
set_option maxRecDepth 100000
set_option maxHeartbeats 8000000
namespace Go.Proofs.YtbkookiigkckdaaGreatDoor
open Go.RowKit Go.Proofs.Tryz
theorem zen {n : Nat} (h : n <= 1000) : i64 n = (n : Int) := by unfold i64 wrap64; omega
theorem zdq : prog.underlying 286 = some (.slice 135) := by kernel_rfl
theorem zeA : prog.underlying 285 = some (.slice 361) := by kernel_rfl
theorem zeB : prog.underlying 189 = some (.slice 2) := by kernel_rfl
theorem zeO (P : Program) (t e : TypeId) (zc : Array Value) (z bytes : Nat) (i : TypeInfo) (zv : Value) (ht : P.underlying t = some (.slice e)) (hi : P.info? e = some i) (hz : i.zero = some zv) (hs : i.size = z) (hb : i.bytes = bytes) (hc : zv.cells = zc) (hb2 : bytes <= 64) (n : Nat) (hn : n <= 1000) :
 ∀ W : World, (Instr.makeSlice t (.int .i64 (n : Int)) (.int .i64 (n : Int))).run P W = .ok (.slice (some ⟨W.heap.size, 0, none⟩) n n) (W.alloc (.cells (madeCells zc (n * z)) e)) := fun W => by
 have bN : bytes * n <= 64 * 1000 := Nat.mul_le_mul hb2 hn; have h8 : ((bytes * n : Nat) : Int) <= 64000 := by omega
 rw [Int.natCast_mul] at h8; have hr := run_make (P := P) W t e i zv ht hi hz .i64 .i64 n n (by omega) (by omega) (by rw [hb]; exact Int.le_trans h8 (by decide)) (by omega); simp only [zm6] at hr; rw [hc, hs] at hr; exact hr
def HEndsW (te : TypeId) (pe : Value) (d g0 : Nat) (cur : Array Value) (g : Nat) (w : World) (b : Nat) (x1 : Int) (x2 x3 x4 x5 : Nat) (pos neg : List (Int × Nat)) (ups downs : List Int) (cus : List Nat) (g8 : St) (r : Ending) (w' : World) : Prop :=
 r = .returned (.tuple #[]) /\ ∃ v1 v2 v3 v4 v5, DH te pe d g0 cur g 288 w w' g8 (cW b x1 x2 x3 x4 x5 v1 v2 v3 v4 v5) [⟨135, 1, v5, cus.length, cus.flatMap f1⟩, ⟨2, 1, v4, downs.length, downs.flatMap i1⟩, ⟨2, 1, v3, ups.length, ups.flatMap i1⟩, ⟨361, 2, v2, neg.length, neg.flatMap spc⟩, ⟨361, 2, v1, pos.length, pos.flatMap spc⟩]
end Go.Proofs.YtbkookiigkckdaaGreatDoor
