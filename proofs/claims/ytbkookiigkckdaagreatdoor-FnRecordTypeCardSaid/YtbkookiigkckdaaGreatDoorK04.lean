/- Texts of this seat, merged: UvC. -/
import Derived.Test.YtbkookiigkckdaaGreatDoorK02
import Derived.Lib.VarintBits
import Derived.Lib.VarintDec
/- dennwc's Uvarint at every slice of bytes: what binary.Uvarint's plain function says where it reads a number; (0, m) with m at most 0 elsewhere. Printed by genuv.py. -/
namespace Go.Proofs.YtbkookiigkckdaaGreatDoor
open Go.RowKit
set_option linter.unusedVariables false
set_option linter.unusedSimpArgs false


set_option maxRecDepth 100000 in
set_option maxHeartbeats 2000000 in
theorem uvS0 (g o n c : Nat) (b0 : UInt8) (w : World) (h0 : w.cell? ⟨g, o, none⟩ = some (.int .u8 b0.toNat)) (hn : n < 10) (hk : 0 < n)  (t0 : (b0.toNat : Int) < 128) :
    Calls Tryz.prog 231 #[.slice (some ⟨g, o, none⟩) n c] w (Two w fun x m => x = (b0.toNat : Int) ∧ m = 1) := by
  have hz : ((n : Int) == 0) = false := by simp; omega
  have q0 := b0.toNat_lt
  have i0 : (0 : Int) < (n : Int) := by omega
  go_enter Tryz.func231, Tryz.ntmps231
  go_wp2
  go_ret2
  refine ⟨_, _, rfl, ?_, rfl⟩
  exact ⟨rfl, rfl⟩

set_option maxRecDepth 100000 in
set_option maxHeartbeats 2000000 in
theorem uvS1 (g o n c : Nat) (b0 b1 : UInt8) (w : World) (h0 : w.cell? ⟨g, o, none⟩ = some (.int .u8 b0.toNat)) (h1 : w.cell? ⟨g, o + 1, none⟩ = some (.int .u8 b1.toNat)) (hn : n < 10) (hk : 1 < n) (t0 : (128 : Int) ≤ b0.toNat) (t1 : (b1.toNat : Int) < 128) :
    Calls Tryz.prog 231 #[.slice (some ⟨g, o, none⟩) n c] w (Two w fun x m => x = ((b0.toNat : Int) % 128) + (b1.toNat : Int) * 128 ∧ m = 2) := by
  have hz : ((n : Int) == 0) = false := by simp; omega
  have q0 := b0.toNat_lt
  have i0 : (0 : Int) < (n : Int) := by omega
  have q1 := b1.toNat_lt
  have i1 : (1 : Int) < (n : Int) := by omega
  have z1 : ((n : Int) == 1) = false := by simp; omega
  go_enter Tryz.func231, Tryz.ntmps231
  go_wp2
  go_ret2
  refine ⟨_, _, rfl, ?_, rfl⟩
  refine ⟨?_, rfl⟩
  simp (disch := omega) only [u64_wrap_id, u8_and127, u64_orv7, u64_orv14, u64_orv21, u64_orv28, u64_orv35, u64_orv42, u64_orv49, u64_orv56, u64_orv63]

set_option maxRecDepth 100000 in
set_option maxHeartbeats 2000000 in
theorem uvS2 (g o n c : Nat) (b0 b1 b2 : UInt8) (w : World) (h0 : w.cell? ⟨g, o, none⟩ = some (.int .u8 b0.toNat)) (h1 : w.cell? ⟨g, o + 1, none⟩ = some (.int .u8 b1.toNat)) (h2 : w.cell? ⟨g, o + 2, none⟩ = some (.int .u8 b2.toNat)) (hn : n < 10) (hk : 2 < n) (t0 : (128 : Int) ≤ b0.toNat) (t1 : (128 : Int) ≤ b1.toNat) (t2 : (b2.toNat : Int) < 128) :
    Calls Tryz.prog 231 #[.slice (some ⟨g, o, none⟩) n c] w (Two w fun x m => x = ((b0.toNat : Int) % 128) + ((b1.toNat : Int) % 128) * 128 + (b2.toNat : Int) * 16384 ∧ m = 3) := by
  have hz : ((n : Int) == 0) = false := by simp; omega
  have q0 := b0.toNat_lt
  have i0 : (0 : Int) < (n : Int) := by omega
  have q1 := b1.toNat_lt
  have i1 : (1 : Int) < (n : Int) := by omega
  have q2 := b2.toNat_lt
  have i2 : (2 : Int) < (n : Int) := by omega
  have z1 : ((n : Int) == 1) = false := by simp; omega
  have z2 : ((n : Int) == 2) = false := by simp; omega
  go_enter Tryz.func231, Tryz.ntmps231
  go_wp2
  go_ret2
  refine ⟨_, _, rfl, ?_, rfl⟩
  refine ⟨?_, rfl⟩
  simp (disch := omega) only [u64_wrap_id, u8_and127, u64_orv7, u64_orv14, u64_orv21, u64_orv28, u64_orv35, u64_orv42, u64_orv49, u64_orv56, u64_orv63]

set_option maxRecDepth 100000 in
set_option maxHeartbeats 2000000 in
theorem uvS3 (g o n c : Nat) (b0 b1 b2 b3 : UInt8) (w : World) (h0 : w.cell? ⟨g, o, none⟩ = some (.int .u8 b0.toNat)) (h1 : w.cell? ⟨g, o + 1, none⟩ = some (.int .u8 b1.toNat)) (h2 : w.cell? ⟨g, o + 2, none⟩ = some (.int .u8 b2.toNat)) (h3 : w.cell? ⟨g, o + 3, none⟩ = some (.int .u8 b3.toNat)) (hn : n < 10) (hk : 3 < n) (t0 : (128 : Int) ≤ b0.toNat) (t1 : (128 : Int) ≤ b1.toNat) (t2 : (128 : Int) ≤ b2.toNat) (t3 : (b3.toNat : Int) < 128) :
    Calls Tryz.prog 231 #[.slice (some ⟨g, o, none⟩) n c] w (Two w fun x m => x = ((b0.toNat : Int) % 128) + ((b1.toNat : Int) % 128) * 128 + ((b2.toNat : Int) % 128) * 16384 + (b3.toNat : Int) * 2097152 ∧ m = 4) := by
  have hz : ((n : Int) == 0) = false := by simp; omega
  have q0 := b0.toNat_lt
  have i0 : (0 : Int) < (n : Int) := by omega
  have q1 := b1.toNat_lt
  have i1 : (1 : Int) < (n : Int) := by omega
  have q2 := b2.toNat_lt
  have i2 : (2 : Int) < (n : Int) := by omega
  have q3 := b3.toNat_lt
  have i3 : (3 : Int) < (n : Int) := by omega
  have z1 : ((n : Int) == 1) = false := by simp; omega
  have z2 : ((n : Int) == 2) = false := by simp; omega
  have z3 : ((n : Int) == 3) = false := by simp; omega
  go_enter Tryz.func231, Tryz.ntmps231
  go_wp2
  go_ret2
  refine ⟨_, _, rfl, ?_, rfl⟩
  refine ⟨?_, rfl⟩
  simp (disch := omega) only [u64_wrap_id, u8_and127, u64_orv7, u64_orv14, u64_orv21, u64_orv28, u64_orv35, u64_orv42, u64_orv49, u64_orv56, u64_orv63]

set_option maxRecDepth 100000 in
set_option maxHeartbeats 2000000 in
theorem uvS4 (g o n c : Nat) (b0 b1 b2 b3 b4 : UInt8) (w : World) (h0 : w.cell? ⟨g, o, none⟩ = some (.int .u8 b0.toNat)) (h1 : w.cell? ⟨g, o + 1, none⟩ = some (.int .u8 b1.toNat)) (h2 : w.cell? ⟨g, o + 2, none⟩ = some (.int .u8 b2.toNat)) (h3 : w.cell? ⟨g, o + 3, none⟩ = some (.int .u8 b3.toNat)) (h4 : w.cell? ⟨g, o + 4, none⟩ = some (.int .u8 b4.toNat)) (hn : n < 10) (hk : 4 < n) (t0 : (128 : Int) ≤ b0.toNat) (t1 : (128 : Int) ≤ b1.toNat) (t2 : (128 : Int) ≤ b2.toNat) (t3 : (128 : Int) ≤ b3.toNat) (t4 : (b4.toNat : Int) < 128) :
    Calls Tryz.prog 231 #[.slice (some ⟨g, o, none⟩) n c] w (Two w fun x m => x = ((b0.toNat : Int) % 128) + ((b1.toNat : Int) % 128) * 128 + ((b2.toNat : Int) % 128) * 16384 + ((b3.toNat : Int) % 128) * 2097152 + (b4.toNat : Int) * 268435456 ∧ m = 5) := by
  have hz : ((n : Int) == 0) = false := by simp; omega
  have q0 := b0.toNat_lt
  have i0 : (0 : Int) < (n : Int) := by omega
  have q1 := b1.toNat_lt
  have i1 : (1 : Int) < (n : Int) := by omega
  have q2 := b2.toNat_lt
  have i2 : (2 : Int) < (n : Int) := by omega
  have q3 := b3.toNat_lt
  have i3 : (3 : Int) < (n : Int) := by omega
  have q4 := b4.toNat_lt
  have i4 : (4 : Int) < (n : Int) := by omega
  have z1 : ((n : Int) == 1) = false := by simp; omega
  have z2 : ((n : Int) == 2) = false := by simp; omega
  have z3 : ((n : Int) == 3) = false := by simp; omega
  have z4 : ((n : Int) == 4) = false := by simp; omega
  go_enter Tryz.func231, Tryz.ntmps231
  go_wp2
  go_ret2
  refine ⟨_, _, rfl, ?_, rfl⟩
  refine ⟨?_, rfl⟩
  simp (disch := omega) only [u64_wrap_id, u8_and127, u64_orv7, u64_orv14, u64_orv21, u64_orv28, u64_orv35, u64_orv42, u64_orv49, u64_orv56, u64_orv63]

set_option maxRecDepth 100000 in
set_option maxHeartbeats 2000000 in
theorem uvS5 (g o n c : Nat) (b0 b1 b2 b3 b4 b5 : UInt8) (w : World) (h0 : w.cell? ⟨g, o, none⟩ = some (.int .u8 b0.toNat)) (h1 : w.cell? ⟨g, o + 1, none⟩ = some (.int .u8 b1.toNat)) (h2 : w.cell? ⟨g, o + 2, none⟩ = some (.int .u8 b2.toNat)) (h3 : w.cell? ⟨g, o + 3, none⟩ = some (.int .u8 b3.toNat)) (h4 : w.cell? ⟨g, o + 4, none⟩ = some (.int .u8 b4.toNat)) (h5 : w.cell? ⟨g, o + 5, none⟩ = some (.int .u8 b5.toNat)) (hn : n < 10) (hk : 5 < n) (t0 : (128 : Int) ≤ b0.toNat) (t1 : (128 : Int) ≤ b1.toNat) (t2 : (128 : Int) ≤ b2.toNat) (t3 : (128 : Int) ≤ b3.toNat) (t4 : (128 : Int) ≤ b4.toNat) (t5 : (b5.toNat : Int) < 128) :
    Calls Tryz.prog 231 #[.slice (some ⟨g, o, none⟩) n c] w (Two w fun x m => x = ((b0.toNat : Int) % 128) + ((b1.toNat : Int) % 128) * 128 + ((b2.toNat : Int) % 128) * 16384 + ((b3.toNat : Int) % 128) * 2097152 + ((b4.toNat : Int) % 128) * 268435456 + (b5.toNat : Int) * 34359738368 ∧ m = 6) := by
  have hz : ((n : Int) == 0) = false := by simp; omega
  have q0 := b0.toNat_lt
  have i0 : (0 : Int) < (n : Int) := by omega
  have q1 := b1.toNat_lt
  have i1 : (1 : Int) < (n : Int) := by omega
  have q2 := b2.toNat_lt
  have i2 : (2 : Int) < (n : Int) := by omega
  have q3 := b3.toNat_lt
  have i3 : (3 : Int) < (n : Int) := by omega
  have q4 := b4.toNat_lt
  have i4 : (4 : Int) < (n : Int) := by omega
  have q5 := b5.toNat_lt
  have i5 : (5 : Int) < (n : Int) := by omega
  have z1 : ((n : Int) == 1) = false := by simp; omega
  have z2 : ((n : Int) == 2) = false := by simp; omega
  have z3 : ((n : Int) == 3) = false := by simp; omega
  have z4 : ((n : Int) == 4) = false := by simp; omega
  have z5 : ((n : Int) == 5) = false := by simp; omega
  go_enter Tryz.func231, Tryz.ntmps231
  go_wp2
  go_ret2
  refine ⟨_, _, rfl, ?_, rfl⟩
  refine ⟨?_, rfl⟩
  simp (disch := omega) only [u64_wrap_id, u8_and127, u64_orv7, u64_orv14, u64_orv21, u64_orv28, u64_orv35, u64_orv42, u64_orv49, u64_orv56, u64_orv63]

set_option maxRecDepth 100000 in
set_option maxHeartbeats 2000000 in
theorem uvS6 (g o n c : Nat) (b0 b1 b2 b3 b4 b5 b6 : UInt8) (w : World) (h0 : w.cell? ⟨g, o, none⟩ = some (.int .u8 b0.toNat)) (h1 : w.cell? ⟨g, o + 1, none⟩ = some (.int .u8 b1.toNat)) (h2 : w.cell? ⟨g, o + 2, none⟩ = some (.int .u8 b2.toNat)) (h3 : w.cell? ⟨g, o + 3, none⟩ = some (.int .u8 b3.toNat)) (h4 : w.cell? ⟨g, o + 4, none⟩ = some (.int .u8 b4.toNat)) (h5 : w.cell? ⟨g, o + 5, none⟩ = some (.int .u8 b5.toNat)) (h6 : w.cell? ⟨g, o + 6, none⟩ = some (.int .u8 b6.toNat)) (hn : n < 10) (hk : 6 < n) (t0 : (128 : Int) ≤ b0.toNat) (t1 : (128 : Int) ≤ b1.toNat) (t2 : (128 : Int) ≤ b2.toNat) (t3 : (128 : Int) ≤ b3.toNat) (t4 : (128 : Int) ≤ b4.toNat) (t5 : (128 : Int) ≤ b5.toNat) (t6 : (b6.toNat : Int) < 128) :
    Calls Tryz.prog 231 #[.slice (some ⟨g, o, none⟩) n c] w (Two w fun x m => x = ((b0.toNat : Int) % 128) + ((b1.toNat : Int) % 128) * 128 + ((b2.toNat : Int) % 128) * 16384 + ((b3.toNat : Int) % 128) * 2097152 + ((b4.toNat : Int) % 128) * 268435456 + ((b5.toNat : Int) % 128) * 34359738368 + (b6.toNat : Int) * 4398046511104 ∧ m = 7) := by
  have hz : ((n : Int) == 0) = false := by simp; omega
  have q0 := b0.toNat_lt
  have i0 : (0 : Int) < (n : Int) := by omega
  have q1 := b1.toNat_lt
  have i1 : (1 : Int) < (n : Int) := by omega
  have q2 := b2.toNat_lt
  have i2 : (2 : Int) < (n : Int) := by omega
  have q3 := b3.toNat_lt
  have i3 : (3 : Int) < (n : Int) := by omega
  have q4 := b4.toNat_lt
  have i4 : (4 : Int) < (n : Int) := by omega
  have q5 := b5.toNat_lt
  have i5 : (5 : Int) < (n : Int) := by omega
  have q6 := b6.toNat_lt
  have i6 : (6 : Int) < (n : Int) := by omega
  have z1 : ((n : Int) == 1) = false := by simp; omega
  have z2 : ((n : Int) == 2) = false := by simp; omega
  have z3 : ((n : Int) == 3) = false := by simp; omega
  have z4 : ((n : Int) == 4) = false := by simp; omega
  have z5 : ((n : Int) == 5) = false := by simp; omega
  have z6 : ((n : Int) == 6) = false := by simp; omega
  go_enter Tryz.func231, Tryz.ntmps231
  go_wp2
  go_ret2
  refine ⟨_, _, rfl, ?_, rfl⟩
  refine ⟨?_, rfl⟩
  simp (disch := omega) only [u64_wrap_id, u8_and127, u64_orv7, u64_orv14, u64_orv21, u64_orv28, u64_orv35, u64_orv42, u64_orv49, u64_orv56, u64_orv63]

set_option maxRecDepth 100000 in
set_option maxHeartbeats 2000000 in
theorem uvS7 (g o n c : Nat) (b0 b1 b2 b3 b4 b5 b6 b7 : UInt8) (w : World) (h0 : w.cell? ⟨g, o, none⟩ = some (.int .u8 b0.toNat)) (h1 : w.cell? ⟨g, o + 1, none⟩ = some (.int .u8 b1.toNat)) (h2 : w.cell? ⟨g, o + 2, none⟩ = some (.int .u8 b2.toNat)) (h3 : w.cell? ⟨g, o + 3, none⟩ = some (.int .u8 b3.toNat)) (h4 : w.cell? ⟨g, o + 4, none⟩ = some (.int .u8 b4.toNat)) (h5 : w.cell? ⟨g, o + 5, none⟩ = some (.int .u8 b5.toNat)) (h6 : w.cell? ⟨g, o + 6, none⟩ = some (.int .u8 b6.toNat)) (h7 : w.cell? ⟨g, o + 7, none⟩ = some (.int .u8 b7.toNat)) (hn : n < 10) (hk : 7 < n) (t0 : (128 : Int) ≤ b0.toNat) (t1 : (128 : Int) ≤ b1.toNat) (t2 : (128 : Int) ≤ b2.toNat) (t3 : (128 : Int) ≤ b3.toNat) (t4 : (128 : Int) ≤ b4.toNat) (t5 : (128 : Int) ≤ b5.toNat) (t6 : (128 : Int) ≤ b6.toNat) (t7 : (b7.toNat : Int) < 128) :
    Calls Tryz.prog 231 #[.slice (some ⟨g, o, none⟩) n c] w (Two w fun x m => x = ((b0.toNat : Int) % 128) + ((b1.toNat : Int) % 128) * 128 + ((b2.toNat : Int) % 128) * 16384 + ((b3.toNat : Int) % 128) * 2097152 + ((b4.toNat : Int) % 128) * 268435456 + ((b5.toNat : Int) % 128) * 34359738368 + ((b6.toNat : Int) % 128) * 4398046511104 + (b7.toNat : Int) * 562949953421312 ∧ m = 8) := by
  have hz : ((n : Int) == 0) = false := by simp; omega
  have q0 := b0.toNat_lt
  have i0 : (0 : Int) < (n : Int) := by omega
  have q1 := b1.toNat_lt
  have i1 : (1 : Int) < (n : Int) := by omega
  have q2 := b2.toNat_lt
  have i2 : (2 : Int) < (n : Int) := by omega
  have q3 := b3.toNat_lt
  have i3 : (3 : Int) < (n : Int) := by omega
  have q4 := b4.toNat_lt
  have i4 : (4 : Int) < (n : Int) := by omega
  have q5 := b5.toNat_lt
  have i5 : (5 : Int) < (n : Int) := by omega
  have q6 := b6.toNat_lt
  have i6 : (6 : Int) < (n : Int) := by omega
  have q7 := b7.toNat_lt
  have i7 : (7 : Int) < (n : Int) := by omega
  have z1 : ((n : Int) == 1) = false := by simp; omega
  have z2 : ((n : Int) == 2) = false := by simp; omega
  have z3 : ((n : Int) == 3) = false := by simp; omega
  have z4 : ((n : Int) == 4) = false := by simp; omega
  have z5 : ((n : Int) == 5) = false := by simp; omega
  have z6 : ((n : Int) == 6) = false := by simp; omega
  have z7 : ((n : Int) == 7) = false := by simp; omega
  go_enter Tryz.func231, Tryz.ntmps231
  go_wp2
  go_ret2
  refine ⟨_, _, rfl, ?_, rfl⟩
  refine ⟨?_, rfl⟩
  simp (disch := omega) only [u64_wrap_id, u8_and127, u64_orv7, u64_orv14, u64_orv21, u64_orv28, u64_orv35, u64_orv42, u64_orv49, u64_orv56, u64_orv63]

set_option maxRecDepth 100000 in
set_option maxHeartbeats 2000000 in
theorem uvS8 (g o n c : Nat) (b0 b1 b2 b3 b4 b5 b6 b7 b8 : UInt8) (w : World) (h0 : w.cell? ⟨g, o, none⟩ = some (.int .u8 b0.toNat)) (h1 : w.cell? ⟨g, o + 1, none⟩ = some (.int .u8 b1.toNat)) (h2 : w.cell? ⟨g, o + 2, none⟩ = some (.int .u8 b2.toNat)) (h3 : w.cell? ⟨g, o + 3, none⟩ = some (.int .u8 b3.toNat)) (h4 : w.cell? ⟨g, o + 4, none⟩ = some (.int .u8 b4.toNat)) (h5 : w.cell? ⟨g, o + 5, none⟩ = some (.int .u8 b5.toNat)) (h6 : w.cell? ⟨g, o + 6, none⟩ = some (.int .u8 b6.toNat)) (h7 : w.cell? ⟨g, o + 7, none⟩ = some (.int .u8 b7.toNat)) (h8 : w.cell? ⟨g, o + 8, none⟩ = some (.int .u8 b8.toNat)) (hn : n < 10) (hk : 8 < n) (t0 : (128 : Int) ≤ b0.toNat) (t1 : (128 : Int) ≤ b1.toNat) (t2 : (128 : Int) ≤ b2.toNat) (t3 : (128 : Int) ≤ b3.toNat) (t4 : (128 : Int) ≤ b4.toNat) (t5 : (128 : Int) ≤ b5.toNat) (t6 : (128 : Int) ≤ b6.toNat) (t7 : (128 : Int) ≤ b7.toNat) (t8 : (b8.toNat : Int) < 128) :
    Calls Tryz.prog 231 #[.slice (some ⟨g, o, none⟩) n c] w (Two w fun x m => x = ((b0.toNat : Int) % 128) + ((b1.toNat : Int) % 128) * 128 + ((b2.toNat : Int) % 128) * 16384 + ((b3.toNat : Int) % 128) * 2097152 + ((b4.toNat : Int) % 128) * 268435456 + ((b5.toNat : Int) % 128) * 34359738368 + ((b6.toNat : Int) % 128) * 4398046511104 + ((b7.toNat : Int) % 128) * 562949953421312 + (b8.toNat : Int) * 72057594037927936 ∧ m = 9) := by
  have hz : ((n : Int) == 0) = false := by simp; omega
  have q0 := b0.toNat_lt
  have i0 : (0 : Int) < (n : Int) := by omega
  have q1 := b1.toNat_lt
  have i1 : (1 : Int) < (n : Int) := by omega
  have q2 := b2.toNat_lt
  have i2 : (2 : Int) < (n : Int) := by omega
  have q3 := b3.toNat_lt
  have i3 : (3 : Int) < (n : Int) := by omega
  have q4 := b4.toNat_lt
  have i4 : (4 : Int) < (n : Int) := by omega
  have q5 := b5.toNat_lt
  have i5 : (5 : Int) < (n : Int) := by omega
  have q6 := b6.toNat_lt
  have i6 : (6 : Int) < (n : Int) := by omega
  have q7 := b7.toNat_lt
  have i7 : (7 : Int) < (n : Int) := by omega
  have q8 := b8.toNat_lt
  have i8 : (8 : Int) < (n : Int) := by omega
  have z1 : ((n : Int) == 1) = false := by simp; omega
  have z2 : ((n : Int) == 2) = false := by simp; omega
  have z3 : ((n : Int) == 3) = false := by simp; omega
  have z4 : ((n : Int) == 4) = false := by simp; omega
  have z5 : ((n : Int) == 5) = false := by simp; omega
  have z6 : ((n : Int) == 6) = false := by simp; omega
  have z7 : ((n : Int) == 7) = false := by simp; omega
  have z8 : ((n : Int) == 8) = false := by simp; omega
  go_enter Tryz.func231, Tryz.ntmps231
  go_wp2
  go_ret2
  refine ⟨_, _, rfl, ?_, rfl⟩
  refine ⟨?_, rfl⟩
  simp (disch := omega) only [u64_wrap_id, u8_and127, u64_orv7, u64_orv14, u64_orv21, u64_orv28, u64_orv35, u64_orv42, u64_orv49, u64_orv56, u64_orv63]

set_option maxRecDepth 100000 in
set_option maxHeartbeats 2000000 in
theorem uvE1 (g o n c : Nat) (b0 : UInt8) (w : World) (h0 : w.cell? ⟨g, o, none⟩ = some (.int .u8 b0.toNat)) (hk : n ≤ 1) (hk' : 1 ≤ n) (t0 : (128 : Int) ≤ b0.toNat) :
    Calls Tryz.prog 231 #[.slice (some ⟨g, o, none⟩) n c] w (Two w fun x m => x = 0 ∧ m ≤ 0) := by
  have hz : ((n : Int) == 0) = false := by simp; omega
  have q0 := b0.toNat_lt
  have i0 : (0 : Int) < (n : Int) := by omega
  have z1 : ((n : Int) == 1) = true := by simp; omega
  go_enter Tryz.func231, Tryz.ntmps231
  go_wp2
  go_ret2
  refine ⟨_, _, rfl, ?_, rfl⟩
  exact ⟨rfl, by decide⟩

set_option maxRecDepth 100000 in
set_option maxHeartbeats 2000000 in
theorem uvE2 (g o n c : Nat) (b0 b1 : UInt8) (w : World) (h0 : w.cell? ⟨g, o, none⟩ = some (.int .u8 b0.toNat)) (h1 : w.cell? ⟨g, o + 1, none⟩ = some (.int .u8 b1.toNat)) (hk : n ≤ 2) (hk' : 2 ≤ n) (t0 : (128 : Int) ≤ b0.toNat) (t1 : (128 : Int) ≤ b1.toNat) :
    Calls Tryz.prog 231 #[.slice (some ⟨g, o, none⟩) n c] w (Two w fun x m => x = 0 ∧ m ≤ 0) := by
  have hz : ((n : Int) == 0) = false := by simp; omega
  have q0 := b0.toNat_lt
  have i0 : (0 : Int) < (n : Int) := by omega
  have q1 := b1.toNat_lt
  have i1 : (1 : Int) < (n : Int) := by omega
  have z1 : ((n : Int) == 1) = false := by simp; omega
  have z2 : ((n : Int) == 2) = true := by simp; omega
  go_enter Tryz.func231, Tryz.ntmps231
  go_wp2
  go_ret2
  refine ⟨_, _, rfl, ?_, rfl⟩
  exact ⟨rfl, by decide⟩

set_option maxRecDepth 100000 in
set_option maxHeartbeats 2000000 in
theorem uvE3 (g o n c : Nat) (b0 b1 b2 : UInt8) (w : World) (h0 : w.cell? ⟨g, o, none⟩ = some (.int .u8 b0.toNat)) (h1 : w.cell? ⟨g, o + 1, none⟩ = some (.int .u8 b1.toNat)) (h2 : w.cell? ⟨g, o + 2, none⟩ = some (.int .u8 b2.toNat)) (hk : n ≤ 3) (hk' : 3 ≤ n) (t0 : (128 : Int) ≤ b0.toNat) (t1 : (128 : Int) ≤ b1.toNat) (t2 : (128 : Int) ≤ b2.toNat) :
    Calls Tryz.prog 231 #[.slice (some ⟨g, o, none⟩) n c] w (Two w fun x m => x = 0 ∧ m ≤ 0) := by
  have hz : ((n : Int) == 0) = false := by simp; omega
  have q0 := b0.toNat_lt
  have i0 : (0 : Int) < (n : Int) := by omega
  have q1 := b1.toNat_lt
  have i1 : (1 : Int) < (n : Int) := by omega
  have q2 := b2.toNat_lt
  have i2 : (2 : Int) < (n : Int) := by omega
  have z1 : ((n : Int) == 1) = false := by simp; omega
  have z2 : ((n : Int) == 2) = false := by simp; omega
  have z3 : ((n : Int) == 3) = true := by simp; omega
  go_enter Tryz.func231, Tryz.ntmps231
  go_wp2
  go_ret2
  refine ⟨_, _, rfl, ?_, rfl⟩
  exact ⟨rfl, by decide⟩

set_option maxRecDepth 100000 in
set_option maxHeartbeats 2000000 in
theorem uvE4 (g o n c : Nat) (b0 b1 b2 b3 : UInt8) (w : World) (h0 : w.cell? ⟨g, o, none⟩ = some (.int .u8 b0.toNat)) (h1 : w.cell? ⟨g, o + 1, none⟩ = some (.int .u8 b1.toNat)) (h2 : w.cell? ⟨g, o + 2, none⟩ = some (.int .u8 b2.toNat)) (h3 : w.cell? ⟨g, o + 3, none⟩ = some (.int .u8 b3.toNat)) (hk : n ≤ 4) (hk' : 4 ≤ n) (t0 : (128 : Int) ≤ b0.toNat) (t1 : (128 : Int) ≤ b1.toNat) (t2 : (128 : Int) ≤ b2.toNat) (t3 : (128 : Int) ≤ b3.toNat) :
    Calls Tryz.prog 231 #[.slice (some ⟨g, o, none⟩) n c] w (Two w fun x m => x = 0 ∧ m ≤ 0) := by
  have hz : ((n : Int) == 0) = false := by simp; omega
  have q0 := b0.toNat_lt
  have i0 : (0 : Int) < (n : Int) := by omega
  have q1 := b1.toNat_lt
  have i1 : (1 : Int) < (n : Int) := by omega
  have q2 := b2.toNat_lt
  have i2 : (2 : Int) < (n : Int) := by omega
  have q3 := b3.toNat_lt
  have i3 : (3 : Int) < (n : Int) := by omega
  have z1 : ((n : Int) == 1) = false := by simp; omega
  have z2 : ((n : Int) == 2) = false := by simp; omega
  have z3 : ((n : Int) == 3) = false := by simp; omega
  have z4 : ((n : Int) == 4) = true := by simp; omega
  go_enter Tryz.func231, Tryz.ntmps231
  go_wp2
  go_ret2
  refine ⟨_, _, rfl, ?_, rfl⟩
  exact ⟨rfl, by decide⟩

set_option maxRecDepth 100000 in
set_option maxHeartbeats 2000000 in
theorem uvE5 (g o n c : Nat) (b0 b1 b2 b3 b4 : UInt8) (w : World) (h0 : w.cell? ⟨g, o, none⟩ = some (.int .u8 b0.toNat)) (h1 : w.cell? ⟨g, o + 1, none⟩ = some (.int .u8 b1.toNat)) (h2 : w.cell? ⟨g, o + 2, none⟩ = some (.int .u8 b2.toNat)) (h3 : w.cell? ⟨g, o + 3, none⟩ = some (.int .u8 b3.toNat)) (h4 : w.cell? ⟨g, o + 4, none⟩ = some (.int .u8 b4.toNat)) (hk : n ≤ 5) (hk' : 5 ≤ n) (t0 : (128 : Int) ≤ b0.toNat) (t1 : (128 : Int) ≤ b1.toNat) (t2 : (128 : Int) ≤ b2.toNat) (t3 : (128 : Int) ≤ b3.toNat) (t4 : (128 : Int) ≤ b4.toNat) :
    Calls Tryz.prog 231 #[.slice (some ⟨g, o, none⟩) n c] w (Two w fun x m => x = 0 ∧ m ≤ 0) := by
  have hz : ((n : Int) == 0) = false := by simp; omega
  have q0 := b0.toNat_lt
  have i0 : (0 : Int) < (n : Int) := by omega
  have q1 := b1.toNat_lt
  have i1 : (1 : Int) < (n : Int) := by omega
  have q2 := b2.toNat_lt
  have i2 : (2 : Int) < (n : Int) := by omega
  have q3 := b3.toNat_lt
  have i3 : (3 : Int) < (n : Int) := by omega
  have q4 := b4.toNat_lt
  have i4 : (4 : Int) < (n : Int) := by omega
  have z1 : ((n : Int) == 1) = false := by simp; omega
  have z2 : ((n : Int) == 2) = false := by simp; omega
  have z3 : ((n : Int) == 3) = false := by simp; omega
  have z4 : ((n : Int) == 4) = false := by simp; omega
  have z5 : ((n : Int) == 5) = true := by simp; omega
  go_enter Tryz.func231, Tryz.ntmps231
  go_wp2
  go_ret2
  refine ⟨_, _, rfl, ?_, rfl⟩
  exact ⟨rfl, by decide⟩

set_option maxRecDepth 100000 in
set_option maxHeartbeats 2000000 in
theorem uvE6 (g o n c : Nat) (b0 b1 b2 b3 b4 b5 : UInt8) (w : World) (h0 : w.cell? ⟨g, o, none⟩ = some (.int .u8 b0.toNat)) (h1 : w.cell? ⟨g, o + 1, none⟩ = some (.int .u8 b1.toNat)) (h2 : w.cell? ⟨g, o + 2, none⟩ = some (.int .u8 b2.toNat)) (h3 : w.cell? ⟨g, o + 3, none⟩ = some (.int .u8 b3.toNat)) (h4 : w.cell? ⟨g, o + 4, none⟩ = some (.int .u8 b4.toNat)) (h5 : w.cell? ⟨g, o + 5, none⟩ = some (.int .u8 b5.toNat)) (hk : n ≤ 6) (hk' : 6 ≤ n) (t0 : (128 : Int) ≤ b0.toNat) (t1 : (128 : Int) ≤ b1.toNat) (t2 : (128 : Int) ≤ b2.toNat) (t3 : (128 : Int) ≤ b3.toNat) (t4 : (128 : Int) ≤ b4.toNat) (t5 : (128 : Int) ≤ b5.toNat) :
    Calls Tryz.prog 231 #[.slice (some ⟨g, o, none⟩) n c] w (Two w fun x m => x = 0 ∧ m ≤ 0) := by
  have hz : ((n : Int) == 0) = false := by simp; omega
  have q0 := b0.toNat_lt
  have i0 : (0 : Int) < (n : Int) := by omega
  have q1 := b1.toNat_lt
  have i1 : (1 : Int) < (n : Int) := by omega
  have q2 := b2.toNat_lt
  have i2 : (2 : Int) < (n : Int) := by omega
  have q3 := b3.toNat_lt
  have i3 : (3 : Int) < (n : Int) := by omega
  have q4 := b4.toNat_lt
  have i4 : (4 : Int) < (n : Int) := by omega
  have q5 := b5.toNat_lt
  have i5 : (5 : Int) < (n : Int) := by omega
  have z1 : ((n : Int) == 1) = false := by simp; omega
  have z2 : ((n : Int) == 2) = false := by simp; omega
  have z3 : ((n : Int) == 3) = false := by simp; omega
  have z4 : ((n : Int) == 4) = false := by simp; omega
  have z5 : ((n : Int) == 5) = false := by simp; omega
  have z6 : ((n : Int) == 6) = true := by simp; omega
  go_enter Tryz.func231, Tryz.ntmps231
  go_wp2
  go_ret2
  refine ⟨_, _, rfl, ?_, rfl⟩
  exact ⟨rfl, by decide⟩

set_option maxRecDepth 100000 in
set_option maxHeartbeats 2000000 in
theorem uvE7 (g o n c : Nat) (b0 b1 b2 b3 b4 b5 b6 : UInt8) (w : World) (h0 : w.cell? ⟨g, o, none⟩ = some (.int .u8 b0.toNat)) (h1 : w.cell? ⟨g, o + 1, none⟩ = some (.int .u8 b1.toNat)) (h2 : w.cell? ⟨g, o + 2, none⟩ = some (.int .u8 b2.toNat)) (h3 : w.cell? ⟨g, o + 3, none⟩ = some (.int .u8 b3.toNat)) (h4 : w.cell? ⟨g, o + 4, none⟩ = some (.int .u8 b4.toNat)) (h5 : w.cell? ⟨g, o + 5, none⟩ = some (.int .u8 b5.toNat)) (h6 : w.cell? ⟨g, o + 6, none⟩ = some (.int .u8 b6.toNat)) (hk : n ≤ 7) (hk' : 7 ≤ n) (t0 : (128 : Int) ≤ b0.toNat) (t1 : (128 : Int) ≤ b1.toNat) (t2 : (128 : Int) ≤ b2.toNat) (t3 : (128 : Int) ≤ b3.toNat) (t4 : (128 : Int) ≤ b4.toNat) (t5 : (128 : Int) ≤ b5.toNat) (t6 : (128 : Int) ≤ b6.toNat) :
    Calls Tryz.prog 231 #[.slice (some ⟨g, o, none⟩) n c] w (Two w fun x m => x = 0 ∧ m ≤ 0) := by
  have hz : ((n : Int) == 0) = false := by simp; omega
  have q0 := b0.toNat_lt
  have i0 : (0 : Int) < (n : Int) := by omega
  have q1 := b1.toNat_lt
  have i1 : (1 : Int) < (n : Int) := by omega
  have q2 := b2.toNat_lt
  have i2 : (2 : Int) < (n : Int) := by omega
  have q3 := b3.toNat_lt
  have i3 : (3 : Int) < (n : Int) := by omega
  have q4 := b4.toNat_lt
  have i4 : (4 : Int) < (n : Int) := by omega
  have q5 := b5.toNat_lt
  have i5 : (5 : Int) < (n : Int) := by omega
  have q6 := b6.toNat_lt
  have i6 : (6 : Int) < (n : Int) := by omega
  have z1 : ((n : Int) == 1) = false := by simp; omega
  have z2 : ((n : Int) == 2) = false := by simp; omega
  have z3 : ((n : Int) == 3) = false := by simp; omega
  have z4 : ((n : Int) == 4) = false := by simp; omega
  have z5 : ((n : Int) == 5) = false := by simp; omega
  have z6 : ((n : Int) == 6) = false := by simp; omega
  have z7 : ((n : Int) == 7) = true := by simp; omega
  go_enter Tryz.func231, Tryz.ntmps231
  go_wp2
  go_ret2
  refine ⟨_, _, rfl, ?_, rfl⟩
  exact ⟨rfl, by decide⟩

set_option maxRecDepth 100000 in
set_option maxHeartbeats 2000000 in
theorem uvE8 (g o n c : Nat) (b0 b1 b2 b3 b4 b5 b6 b7 : UInt8) (w : World) (h0 : w.cell? ⟨g, o, none⟩ = some (.int .u8 b0.toNat)) (h1 : w.cell? ⟨g, o + 1, none⟩ = some (.int .u8 b1.toNat)) (h2 : w.cell? ⟨g, o + 2, none⟩ = some (.int .u8 b2.toNat)) (h3 : w.cell? ⟨g, o + 3, none⟩ = some (.int .u8 b3.toNat)) (h4 : w.cell? ⟨g, o + 4, none⟩ = some (.int .u8 b4.toNat)) (h5 : w.cell? ⟨g, o + 5, none⟩ = some (.int .u8 b5.toNat)) (h6 : w.cell? ⟨g, o + 6, none⟩ = some (.int .u8 b6.toNat)) (h7 : w.cell? ⟨g, o + 7, none⟩ = some (.int .u8 b7.toNat)) (hk : n ≤ 8) (hk' : 8 ≤ n) (t0 : (128 : Int) ≤ b0.toNat) (t1 : (128 : Int) ≤ b1.toNat) (t2 : (128 : Int) ≤ b2.toNat) (t3 : (128 : Int) ≤ b3.toNat) (t4 : (128 : Int) ≤ b4.toNat) (t5 : (128 : Int) ≤ b5.toNat) (t6 : (128 : Int) ≤ b6.toNat) (t7 : (128 : Int) ≤ b7.toNat) :
    Calls Tryz.prog 231 #[.slice (some ⟨g, o, none⟩) n c] w (Two w fun x m => x = 0 ∧ m ≤ 0) := by
  have hz : ((n : Int) == 0) = false := by simp; omega
  have q0 := b0.toNat_lt
  have i0 : (0 : Int) < (n : Int) := by omega
  have q1 := b1.toNat_lt
  have i1 : (1 : Int) < (n : Int) := by omega
  have q2 := b2.toNat_lt
  have i2 : (2 : Int) < (n : Int) := by omega
  have q3 := b3.toNat_lt
  have i3 : (3 : Int) < (n : Int) := by omega
  have q4 := b4.toNat_lt
  have i4 : (4 : Int) < (n : Int) := by omega
  have q5 := b5.toNat_lt
  have i5 : (5 : Int) < (n : Int) := by omega
  have q6 := b6.toNat_lt
  have i6 : (6 : Int) < (n : Int) := by omega
  have q7 := b7.toNat_lt
  have i7 : (7 : Int) < (n : Int) := by omega
  have z1 : ((n : Int) == 1) = false := by simp; omega
  have z2 : ((n : Int) == 2) = false := by simp; omega
  have z3 : ((n : Int) == 3) = false := by simp; omega
  have z4 : ((n : Int) == 4) = false := by simp; omega
  have z5 : ((n : Int) == 5) = false := by simp; omega
  have z6 : ((n : Int) == 6) = false := by simp; omega
  have z7 : ((n : Int) == 7) = false := by simp; omega
  have z8 : ((n : Int) == 8) = true := by simp; omega
  go_enter Tryz.func231, Tryz.ntmps231
  go_wp2
  go_ret2
  refine ⟨_, _, rfl, ?_, rfl⟩
  exact ⟨rfl, by decide⟩

set_option maxRecDepth 100000 in
set_option maxHeartbeats 2000000 in
theorem uvE9 (g o n c : Nat) (b0 b1 b2 b3 b4 b5 b6 b7 b8 : UInt8) (w : World) (h0 : w.cell? ⟨g, o, none⟩ = some (.int .u8 b0.toNat)) (h1 : w.cell? ⟨g, o + 1, none⟩ = some (.int .u8 b1.toNat)) (h2 : w.cell? ⟨g, o + 2, none⟩ = some (.int .u8 b2.toNat)) (h3 : w.cell? ⟨g, o + 3, none⟩ = some (.int .u8 b3.toNat)) (h4 : w.cell? ⟨g, o + 4, none⟩ = some (.int .u8 b4.toNat)) (h5 : w.cell? ⟨g, o + 5, none⟩ = some (.int .u8 b5.toNat)) (h6 : w.cell? ⟨g, o + 6, none⟩ = some (.int .u8 b6.toNat)) (h7 : w.cell? ⟨g, o + 7, none⟩ = some (.int .u8 b7.toNat)) (h8 : w.cell? ⟨g, o + 8, none⟩ = some (.int .u8 b8.toNat)) (hk : n ≤ 9) (hk' : 9 ≤ n) (t0 : (128 : Int) ≤ b0.toNat) (t1 : (128 : Int) ≤ b1.toNat) (t2 : (128 : Int) ≤ b2.toNat) (t3 : (128 : Int) ≤ b3.toNat) (t4 : (128 : Int) ≤ b4.toNat) (t5 : (128 : Int) ≤ b5.toNat) (t6 : (128 : Int) ≤ b6.toNat) (t7 : (128 : Int) ≤ b7.toNat) (t8 : (128 : Int) ≤ b8.toNat) :
    Calls Tryz.prog 231 #[.slice (some ⟨g, o, none⟩) n c] w (Two w fun x m => x = 0 ∧ m ≤ 0) := by
  have hz : ((n : Int) == 0) = false := by simp; omega
  have q0 := b0.toNat_lt
  have i0 : (0 : Int) < (n : Int) := by omega
  have q1 := b1.toNat_lt
  have i1 : (1 : Int) < (n : Int) := by omega
  have q2 := b2.toNat_lt
  have i2 : (2 : Int) < (n : Int) := by omega
  have q3 := b3.toNat_lt
  have i3 : (3 : Int) < (n : Int) := by omega
  have q4 := b4.toNat_lt
  have i4 : (4 : Int) < (n : Int) := by omega
  have q5 := b5.toNat_lt
  have i5 : (5 : Int) < (n : Int) := by omega
  have q6 := b6.toNat_lt
  have i6 : (6 : Int) < (n : Int) := by omega
  have q7 := b7.toNat_lt
  have i7 : (7 : Int) < (n : Int) := by omega
  have q8 := b8.toNat_lt
  have i8 : (8 : Int) < (n : Int) := by omega
  have z1 : ((n : Int) == 1) = false := by simp; omega
  have z2 : ((n : Int) == 2) = false := by simp; omega
  have z3 : ((n : Int) == 3) = false := by simp; omega
  have z4 : ((n : Int) == 4) = false := by simp; omega
  have z5 : ((n : Int) == 5) = false := by simp; omega
  have z6 : ((n : Int) == 6) = false := by simp; omega
  have z7 : ((n : Int) == 7) = false := by simp; omega
  have z8 : ((n : Int) == 8) = false := by simp; omega
  have z9 : ((n : Int) == 9) = true := by simp; omega
  go_enter Tryz.func231, Tryz.ntmps231
  go_wp2
  go_ret2
  refine ⟨_, _, rfl, ?_, rfl⟩
  exact ⟨rfl, by decide⟩

end Go.Proofs.YtbkookiigkckdaaGreatDoor

