/- Texts of this seat, merged: UvA. -/
import Derived.Test.YtbkookiigkckdaaGreatDoorK01
import Derived.Lib.VarintBits
import Derived.Lib.VarintDec
/- dennwc's Uvarint at every slice of bytes: what binary.Uvarint's plain function says where it reads a number; (0, m) with m at most 0 elsewhere. Printed by genuv.py. -/
namespace Go.Proofs.YtbkookiigkckdaaGreatDoor
open Go.RowKit
set_option linter.unusedVariables false
set_option linter.unusedSimpArgs false

/-- Two numbers are handed back, the world is as it was. -/
def Two (w : World) (p : Int → Int → Prop) (r : Ending) (w' : World) : Prop := ∃ x k, r = .returned (.tuple #[.int .u64 x, .int .i64 k]) ∧ p x k ∧ w = w'

set_option maxRecDepth 100000 in
set_option maxHeartbeats 2000000 in
theorem uvF0 (g o n c : Nat) (b0 : UInt8) (w : World) (h0 : w.cell? ⟨g, o, none⟩ = some (.int .u8 b0.toNat)) (hn : 10 ≤ n) (hn' : n ≤ 9223372036854775807)  (t0 : (b0.toNat : Int) < 128) :
    Calls Tryz.prog 231 #[.slice (some ⟨g, o, none⟩) n c] w (Two w fun x m => x = (b0.toNat : Int) ∧ m = 1) := by
  have hz : ((n : Int) == 0) = false := by simp; omega
  have q0 := b0.toNat_lt
  have i0 : (0 : Int) < (n : Int) := by omega
  go_enter Tryz.func231, Tryz.ntmps231
  go_wp2
  go_ret2
  refine ⟨_, _, rfl, ?_, rfl⟩
  exact ⟨rfl, rfl⟩

set_option maxRecDepth 100000 in
set_option maxHeartbeats 2000000 in
theorem uvF1 (g o n c : Nat) (b0 b1 : UInt8) (w : World) (h0 : w.cell? ⟨g, o, none⟩ = some (.int .u8 b0.toNat)) (h1 : w.cell? ⟨g, o + 1, none⟩ = some (.int .u8 b1.toNat)) (hn : 10 ≤ n) (hn' : n ≤ 9223372036854775807) (t0 : (128 : Int) ≤ b0.toNat) (t1 : (b1.toNat : Int) < 128) :
    Calls Tryz.prog 231 #[.slice (some ⟨g, o, none⟩) n c] w (Two w fun x m => x = ((b0.toNat : Int) % 128) + (b1.toNat : Int) * 128 ∧ m = 2) := by
  have hz : ((n : Int) == 0) = false := by simp; omega
  have q0 := b0.toNat_lt
  have i0 : (0 : Int) < (n : Int) := by omega
  have q1 := b1.toNat_lt
  have i1 : (1 : Int) < (n : Int) := by omega
  go_enter Tryz.func231, Tryz.ntmps231
  go_wp2
  go_ret2
  refine ⟨_, _, rfl, ?_, rfl⟩
  refine ⟨?_, rfl⟩
  simp (disch := omega) only [u64_wrap_id, u8_and127, u64_orv7, u64_orv14, u64_orv21, u64_orv28, u64_orv35, u64_orv42, u64_orv49, u64_orv56, u64_orv63]

set_option maxRecDepth 100000 in
set_option maxHeartbeats 2000000 in
theorem uvF2 (g o n c : Nat) (b0 b1 b2 : UInt8) (w : World) (h0 : w.cell? ⟨g, o, none⟩ = some (.int .u8 b0.toNat)) (h1 : w.cell? ⟨g, o + 1, none⟩ = some (.int .u8 b1.toNat)) (h2 : w.cell? ⟨g, o + 2, none⟩ = some (.int .u8 b2.toNat)) (hn : 10 ≤ n) (hn' : n ≤ 9223372036854775807) (t0 : (128 : Int) ≤ b0.toNat) (t1 : (128 : Int) ≤ b1.toNat) (t2 : (b2.toNat : Int) < 128) :
    Calls Tryz.prog 231 #[.slice (some ⟨g, o, none⟩) n c] w (Two w fun x m => x = ((b0.toNat : Int) % 128) + ((b1.toNat : Int) % 128) * 128 + (b2.toNat : Int) * 16384 ∧ m = 3) := by
  have hz : ((n : Int) == 0) = false := by simp; omega
  have q0 := b0.toNat_lt
  have i0 : (0 : Int) < (n : Int) := by omega
  have q1 := b1.toNat_lt
  have i1 : (1 : Int) < (n : Int) := by omega
  have q2 := b2.toNat_lt
  have i2 : (2 : Int) < (n : Int) := by omega
  go_enter Tryz.func231, Tryz.ntmps231
  go_wp2
  go_ret2
  refine ⟨_, _, rfl, ?_, rfl⟩
  refine ⟨?_, rfl⟩
  simp (disch := omega) only [u64_wrap_id, u8_and127, u64_orv7, u64_orv14, u64_orv21, u64_orv28, u64_orv35, u64_orv42, u64_orv49, u64_orv56, u64_orv63]

set_option maxRecDepth 100000 in
set_option maxHeartbeats 2000000 in
theorem uvF3 (g o n c : Nat) (b0 b1 b2 b3 : UInt8) (w : World) (h0 : w.cell? ⟨g, o, none⟩ = some (.int .u8 b0.toNat)) (h1 : w.cell? ⟨g, o + 1, none⟩ = some (.int .u8 b1.toNat)) (h2 : w.cell? ⟨g, o + 2, none⟩ = some (.int .u8 b2.toNat)) (h3 : w.cell? ⟨g, o + 3, none⟩ = some (.int .u8 b3.toNat)) (hn : 10 ≤ n) (hn' : n ≤ 9223372036854775807) (t0 : (128 : Int) ≤ b0.toNat) (t1 : (128 : Int) ≤ b1.toNat) (t2 : (128 : Int) ≤ b2.toNat) (t3 : (b3.toNat : Int) < 128) :
    Calls Tryz.prog 231 #[.slice (some ⟨g, o, none⟩) n c] w (Two w fun x m => x = ((b0.toNat : Int) % 128) + ((b1.toNat : Int) % 128) * 128 + ((b2.toNat : Int) % 128) * 16384 + (b3.toNat : Int) * 2097152 ∧ m = 4) := by
  have hz : ((n : Int) == 0) = false := by simp; omega
  have q0 := b0.toNat_lt
  have i0 : (0 : Int) < (n : Int) := by omega
  have q1 := b1.toNat_lt
  have i1 : (1 : Int) < (n : Int) := by omega
  have q2 := b2.toNat_lt
  have i2 : (2 : Int) < (n : Int) := by omega
  have q3 := b3.toNat_lt
  have i3 : (3 : Int) < (n : Int) := by omega
  go_enter Tryz.func231, Tryz.ntmps231
  go_wp2
  go_ret2
  refine ⟨_, _, rfl, ?_, rfl⟩
  refine ⟨?_, rfl⟩
  simp (disch := omega) only [u64_wrap_id, u8_and127, u64_orv7, u64_orv14, u64_orv21, u64_orv28, u64_orv35, u64_orv42, u64_orv49, u64_orv56, u64_orv63]

set_option maxRecDepth 100000 in
set_option maxHeartbeats 2000000 in
theorem uvF4 (g o n c : Nat) (b0 b1 b2 b3 b4 : UInt8) (w : World) (h0 : w.cell? ⟨g, o, none⟩ = some (.int .u8 b0.toNat)) (h1 : w.cell? ⟨g, o + 1, none⟩ = some (.int .u8 b1.toNat)) (h2 : w.cell? ⟨g, o + 2, none⟩ = some (.int .u8 b2.toNat)) (h3 : w.cell? ⟨g, o + 3, none⟩ = some (.int .u8 b3.toNat)) (h4 : w.cell? ⟨g, o + 4, none⟩ = some (.int .u8 b4.toNat)) (hn : 10 ≤ n) (hn' : n ≤ 9223372036854775807) (t0 : (128 : Int) ≤ b0.toNat) (t1 : (128 : Int) ≤ b1.toNat) (t2 : (128 : Int) ≤ b2.toNat) (t3 : (128 : Int) ≤ b3.toNat) (t4 : (b4.toNat : Int) < 128) :
    Calls Tryz.prog 231 #[.slice (some ⟨g, o, none⟩) n c] w (Two w fun x m => x = ((b0.toNat : Int) % 128) + ((b1.toNat : Int) % 128) * 128 + ((b2.toNat : Int) % 128) * 16384 + ((b3.toNat : Int) % 128) * 2097152 + (b4.toNat : Int) * 268435456 ∧ m = 5) := by
  have hz : ((n : Int) == 0) = false := by simp; omega
  have q0 := b0.toNat_lt
  have i0 : (0 : Int) < (n : Int) := by omega
  have q1 := b1.toNat_lt
  have i1 : (1 : Int) < (n : Int) := by omega
  have q2 := b2.toNat_lt
  have i2 : (2 : Int) < (n : Int) := by omega
  have q3 := b3.toNat_lt
  have i3 : (3 : Int) < (n : Int) := by omega
  have q4 := b4.toNat_lt
  have i4 : (4 : Int) < (n : Int) := by omega
  go_enter Tryz.func231, Tryz.ntmps231
  go_wp2
  go_ret2
  refine ⟨_, _, rfl, ?_, rfl⟩
  refine ⟨?_, rfl⟩
  simp (disch := omega) only [u64_wrap_id, u8_and127, u64_orv7, u64_orv14, u64_orv21, u64_orv28, u64_orv35, u64_orv42, u64_orv49, u64_orv56, u64_orv63]

set_option maxRecDepth 100000 in
set_option maxHeartbeats 2000000 in
theorem uvF5 (g o n c : Nat) (b0 b1 b2 b3 b4 b5 : UInt8) (w : World) (h0 : w.cell? ⟨g, o, none⟩ = some (.int .u8 b0.toNat)) (h1 : w.cell? ⟨g, o + 1, none⟩ = some (.int .u8 b1.toNat)) (h2 : w.cell? ⟨g, o + 2, none⟩ = some (.int .u8 b2.toNat)) (h3 : w.cell? ⟨g, o + 3, none⟩ = some (.int .u8 b3.toNat)) (h4 : w.cell? ⟨g, o + 4, none⟩ = some (.int .u8 b4.toNat)) (h5 : w.cell? ⟨g, o + 5, none⟩ = some (.int .u8 b5.toNat)) (hn : 10 ≤ n) (hn' : n ≤ 9223372036854775807) (t0 : (128 : Int) ≤ b0.toNat) (t1 : (128 : Int) ≤ b1.toNat) (t2 : (128 : Int) ≤ b2.toNat) (t3 : (128 : Int) ≤ b3.toNat) (t4 : (128 : Int) ≤ b4.toNat) (t5 : (b5.toNat : Int) < 128) :
    Calls Tryz.prog 231 #[.slice (some ⟨g, o, none⟩) n c] w (Two w fun x m => x = ((b0.toNat : Int) % 128) + ((b1.toNat : Int) % 128) * 128 + ((b2.toNat : Int) % 128) * 16384 + ((b3.toNat : Int) % 128) * 2097152 + ((b4.toNat : Int) % 128) * 268435456 + (b5.toNat : Int) * 34359738368 ∧ m = 6) := by
  have hz : ((n : Int) == 0) = false := by simp; omega
  have q0 := b0.toNat_lt
  have i0 : (0 : Int) < (n : Int) := by omega
  have q1 := b1.toNat_lt
  have i1 : (1 : Int) < (n : Int) := by omega
  have q2 := b2.toNat_lt
  have i2 : (2 : Int) < (n : Int) := by omega
  have q3 := b3.toNat_lt
  have i3 : (3 : Int) < (n : Int) := by omega
  have q4 := b4.toNat_lt
  have i4 : (4 : Int) < (n : Int) := by omega
  have q5 := b5.toNat_lt
  have i5 : (5 : Int) < (n : Int) := by omega
  go_enter Tryz.func231, Tryz.ntmps231
  go_wp2
  go_ret2
  refine ⟨_, _, rfl, ?_, rfl⟩
  refine ⟨?_, rfl⟩
  simp (disch := omega) only [u64_wrap_id, u8_and127, u64_orv7, u64_orv14, u64_orv21, u64_orv28, u64_orv35, u64_orv42, u64_orv49, u64_orv56, u64_orv63]

end Go.Proofs.YtbkookiigkckdaaGreatDoor

