/- Texts of this seat, merged and shortened: UvC, Uv. -/
import Derived.Test.YtbkookiigkckdaaGreatDoorK01
import Derived.Test.YtbkookiigkckdaaGreatDoorK02
import Derived.Lib.VarintBits
import Derived.Lib.VarintDec
import Derived.LoopTactic
set_option linter.unusedVariables false
set_option linter.unusedSimpArgs false
set_option maxRecDepth 100000
set_option maxHeartbeats 8000000
namespace Go.Proofs.YtbkookiigkckdaaGreatDoor
open Go.RowKit
theorem uvS0 (g o n c : Nat) (b0 : UInt8) (w : World) (h0 : w.cell? ⟨g, o, none⟩ = some (.int .u8 b0.toNat)) (hn : n < 10) (hk : 0 < n)  (t0 : (b0.toNat : Int) < 128) :
 Calls Tryz.prog 231 #[.slice (some ⟨g, o, none⟩) n c] w (Two w fun x m => x = (b0.toNat : Int) ∧ m = 1) := by
 have hz : ((n : Int) == 0) = false := by simp; omega
 have q0 := b0.toNat_lt; have i0 : (0 : Int) < (n : Int) := by omega
 go_enter Tryz.func231, Tryz.ntmps231; go_wp2; go_ret2; refine ⟨_, _, rfl, ?_, rfl⟩; exact ⟨rfl, rfl⟩
theorem uvS1 (g o n c : Nat) (b0 b1 : UInt8) (w : World) (h0 : w.cell? ⟨g, o, none⟩ = some (.int .u8 b0.toNat)) (h1 : w.cell? ⟨g, o + 1, none⟩ = some (.int .u8 b1.toNat)) (hn : n < 10) (hk : 1 < n) (t0 : (128 : Int) ≤ b0.toNat) (t1 : (b1.toNat : Int) < 128) :
 Calls Tryz.prog 231 #[.slice (some ⟨g, o, none⟩) n c] w (Two w fun x m => x = ((b0.toNat : Int) % 128) + (b1.toNat : Int) * 128 ∧ m = 2) := by
 have hz : ((n : Int) == 0) = false := by simp; omega
 have q0 := b0.toNat_lt; have i0 : (0 : Int) < (n : Int) := by omega
 have q1 := b1.toNat_lt; have i1 : (1 : Int) < (n : Int) := by omega
 have z1 : ((n : Int) == 1) = false := by simp; omega
 go_enter Tryz.func231, Tryz.ntmps231; go_wp2; go_ret2; refine ⟨_, _, rfl, ?_, rfl⟩; refine ⟨?_, rfl⟩; simp (disch := omega) only [u64_wrap_id, u8_and127, u64_orv7, u64_orv14, u64_orv21, u64_orv28, u64_orv35, u64_orv42, u64_orv49, u64_orv56, u64_orv63]
theorem uvS2 (g o n c : Nat) (b0 b1 b2 : UInt8) (w : World) (h0 : w.cell? ⟨g, o, none⟩ = some (.int .u8 b0.toNat)) (h1 : w.cell? ⟨g, o + 1, none⟩ = some (.int .u8 b1.toNat)) (h2 : w.cell? ⟨g, o + 2, none⟩ = some (.int .u8 b2.toNat)) (hn : n < 10) (hk : 2 < n) (t0 : (128 : Int) ≤ b0.toNat) (t1 : (128 : Int) ≤ b1.toNat) (t2 : (b2.toNat : Int) < 128) :
 Calls Tryz.prog 231 #[.slice (some ⟨g, o, none⟩) n c] w (Two w fun x m => x = ((b0.toNat : Int) % 128) + ((b1.toNat : Int) % 128) * 128 + (b2.toNat : Int) * 16384 ∧ m = 3) := by
 have hz : ((n : Int) == 0) = false := by simp; omega
 have q0 := b0.toNat_lt; have i0 : (0 : Int) < (n : Int) := by omega
 have q1 := b1.toNat_lt; have i1 : (1 : Int) < (n : Int) := by omega
 have q2 := b2.toNat_lt; have i2 : (2 : Int) < (n : Int) := by omega
 have z1 : ((n : Int) == 1) = false := by simp; omega
 have z2 : ((n : Int) == 2) = false := by simp; omega
 go_enter Tryz.func231, Tryz.ntmps231; go_wp2; go_ret2; refine ⟨_, _, rfl, ?_, rfl⟩; refine ⟨?_, rfl⟩; simp (disch := omega) only [u64_wrap_id, u8_and127, u64_orv7, u64_orv14, u64_orv21, u64_orv28, u64_orv35, u64_orv42, u64_orv49, u64_orv56, u64_orv63]
theorem uvS3 (g o n c : Nat) (b0 b1 b2 b3 : UInt8) (w : World) (h0 : w.cell? ⟨g, o, none⟩ = some (.int .u8 b0.toNat)) (h1 : w.cell? ⟨g, o + 1, none⟩ = some (.int .u8 b1.toNat)) (h2 : w.cell? ⟨g, o + 2, none⟩ = some (.int .u8 b2.toNat)) (h3 : w.cell? ⟨g, o + 3, none⟩ = some (.int .u8 b3.toNat)) (hn : n < 10) (hk : 3 < n) (t0 : (128 : Int) ≤ b0.toNat) (t1 : (128 : Int) ≤ b1.toNat) (t2 : (128 : Int) ≤ b2.toNat) (t3 : (b3.toNat : Int) < 128) :
 Calls Tryz.prog 231 #[.slice (some ⟨g, o, none⟩) n c] w (Two w fun x m => x = ((b0.toNat : Int) % 128) + ((b1.toNat : Int) % 128) * 128 + ((b2.toNat : Int) % 128) * 16384 + (b3.toNat : Int) * 2097152 ∧ m = 4) := by
 have hz : ((n : Int) == 0) = false := by simp; omega
 have q0 := b0.toNat_lt; have i0 : (0 : Int) < (n : Int) := by omega
 have q1 := b1.toNat_lt; have i1 : (1 : Int) < (n : Int) := by omega
 have q2 := b2.toNat_lt; have i2 : (2 : Int) < (n : Int) := by omega
 have q3 := b3.toNat_lt; have i3 : (3 : Int) < (n : Int) := by omega
 have z1 : ((n : Int) == 1) = false := by simp; omega
 have z2 : ((n : Int) == 2) = false := by simp; omega
 have z3 : ((n : Int) == 3) = false := by simp; omega
 go_enter Tryz.func231, Tryz.ntmps231; go_wp2; go_ret2; refine ⟨_, _, rfl, ?_, rfl⟩; refine ⟨?_, rfl⟩; simp (disch := omega) only [u64_wrap_id, u8_and127, u64_orv7, u64_orv14, u64_orv21, u64_orv28, u64_orv35, u64_orv42, u64_orv49, u64_orv56, u64_orv63]
theorem uvS4 (g o n c : Nat) (b0 b1 b2 b3 b4 : UInt8) (w : World) (h0 : w.cell? ⟨g, o, none⟩ = some (.int .u8 b0.toNat)) (h1 : w.cell? ⟨g, o + 1, none⟩ = some (.int .u8 b1.toNat)) (h2 : w.cell? ⟨g, o + 2, none⟩ = some (.int .u8 b2.toNat)) (h3 : w.cell? ⟨g, o + 3, none⟩ = some (.int .u8 b3.toNat)) (h4 : w.cell? ⟨g, o + 4, none⟩ = some (.int .u8 b4.toNat)) (hn : n < 10) (hk : 4 < n) (t0 : (128 : Int) ≤ b0.toNat) (t1 : (128 : Int) ≤ b1.toNat) (t2 : (128 : Int) ≤ b2.toNat) (t3 : (128 : Int) ≤ b3.toNat) (t4 : (b4.toNat : Int) < 128) :
 Calls Tryz.prog 231 #[.slice (some ⟨g, o, none⟩) n c] w (Two w fun x m => x = ((b0.toNat : Int) % 128) + ((b1.toNat : Int) % 128) * 128 + ((b2.toNat : Int) % 128) * 16384 + ((b3.toNat : Int) % 128) * 2097152 + (b4.toNat : Int) * 268435456 ∧ m = 5) := by
 have hz : ((n : Int) == 0) = false := by simp; omega
 have q0 := b0.toNat_lt; have i0 : (0 : Int) < (n : Int) := by omega
 have q1 := b1.toNat_lt; have i1 : (1 : Int) < (n : Int) := by omega
 have q2 := b2.toNat_lt; have i2 : (2 : Int) < (n : Int) := by omega
 have q3 := b3.toNat_lt; have i3 : (3 : Int) < (n : Int) := by omega
 have q4 := b4.toNat_lt; have i4 : (4 : Int) < (n : Int) := by omega
 have z1 : ((n : Int) == 1) = false := by simp; omega
 have z2 : ((n : Int) == 2) = false := by simp; omega
 have z3 : ((n : Int) == 3) = false := by simp; omega
 have z4 : ((n : Int) == 4) = false := by simp; omega
 go_enter Tryz.func231, Tryz.ntmps231; go_wp2; go_ret2; refine ⟨_, _, rfl, ?_, rfl⟩; refine ⟨?_, rfl⟩; simp (disch := omega) only [u64_wrap_id, u8_and127, u64_orv7, u64_orv14, u64_orv21, u64_orv28, u64_orv35, u64_orv42, u64_orv49, u64_orv56, u64_orv63]
theorem uvS5 (g o n c : Nat) (b0 b1 b2 b3 b4 b5 : UInt8) (w : World) (h0 : w.cell? ⟨g, o, none⟩ = some (.int .u8 b0.toNat)) (h1 : w.cell? ⟨g, o + 1, none⟩ = some (.int .u8 b1.toNat)) (h2 : w.cell? ⟨g, o + 2, none⟩ = some (.int .u8 b2.toNat)) (h3 : w.cell? ⟨g, o + 3, none⟩ = some (.int .u8 b3.toNat)) (h4 : w.cell? ⟨g, o + 4, none⟩ = some (.int .u8 b4.toNat)) (h5 : w.cell? ⟨g, o + 5, none⟩ = some (.int .u8 b5.toNat)) (hn : n < 10) (hk : 5 < n) (t0 : (128 : Int) ≤ b0.toNat) (t1 : (128 : Int) ≤ b1.toNat) (t2 : (128 : Int) ≤ b2.toNat) (t3 : (128 : Int) ≤ b3.toNat) (t4 : (128 : Int) ≤ b4.toNat) (t5 : (b5.toNat : Int) < 128) :
 Calls Tryz.prog 231 #[.slice (some ⟨g, o, none⟩) n c] w (Two w fun x m => x = ((b0.toNat : Int) % 128) + ((b1.toNat : Int) % 128) * 128 + ((b2.toNat : Int) % 128) * 16384 + ((b3.toNat : Int) % 128) * 2097152 + ((b4.toNat : Int) % 128) * 268435456 + (b5.toNat : Int) * 34359738368 ∧ m = 6) := by
 have hz : ((n : Int) == 0) = false := by simp; omega
 have q0 := b0.toNat_lt; have i0 : (0 : Int) < (n : Int) := by omega
 have q1 := b1.toNat_lt; have i1 : (1 : Int) < (n : Int) := by omega
 have q2 := b2.toNat_lt; have i2 : (2 : Int) < (n : Int) := by omega
 have q3 := b3.toNat_lt; have i3 : (3 : Int) < (n : Int) := by omega
 have q4 := b4.toNat_lt; have i4 : (4 : Int) < (n : Int) := by omega
 have q5 := b5.toNat_lt; have i5 : (5 : Int) < (n : Int) := by omega
 have z1 : ((n : Int) == 1) = false := by simp; omega
 have z2 : ((n : Int) == 2) = false := by simp; omega
 have z3 : ((n : Int) == 3) = false := by simp; omega
 have z4 : ((n : Int) == 4) = false := by simp; omega
 have z5 : ((n : Int) == 5) = false := by simp; omega
 go_enter Tryz.func231, Tryz.ntmps231; go_wp2; go_ret2; refine ⟨_, _, rfl, ?_, rfl⟩; refine ⟨?_, rfl⟩; simp (disch := omega) only [u64_wrap_id, u8_and127, u64_orv7, u64_orv14, u64_orv21, u64_orv28, u64_orv35, u64_orv42, u64_orv49, u64_orv56, u64_orv63]
theorem uvS6 (g o n c : Nat) (b0 b1 b2 b3 b4 b5 b6 : UInt8) (w : World) (h0 : w.cell? ⟨g, o, none⟩ = some (.int .u8 b0.toNat)) (h1 : w.cell? ⟨g, o + 1, none⟩ = some (.int .u8 b1.toNat)) (h2 : w.cell? ⟨g, o + 2, none⟩ = some (.int .u8 b2.toNat)) (h3 : w.cell? ⟨g, o + 3, none⟩ = some (.int .u8 b3.toNat)) (h4 : w.cell? ⟨g, o + 4, none⟩ = some (.int .u8 b4.toNat)) (h5 : w.cell? ⟨g, o + 5, none⟩ = some (.int .u8 b5.toNat)) (h6 : w.cell? ⟨g, o + 6, none⟩ = some (.int .u8 b6.toNat)) (hn : n < 10) (hk : 6 < n) (t0 : (128 : Int) ≤ b0.toNat) (t1 : (128 : Int) ≤ b1.toNat) (t2 : (128 : Int) ≤ b2.toNat) (t3 : (128 : Int) ≤ b3.toNat) (t4 : (128 : Int) ≤ b4.toNat) (t5 : (128 : Int) ≤ b5.toNat) (t6 : (b6.toNat : Int) < 128) :
 Calls Tryz.prog 231 #[.slice (some ⟨g, o, none⟩) n c] w (Two w fun x m => x = ((b0.toNat : Int) % 128) + ((b1.toNat : Int) % 128) * 128 + ((b2.toNat : Int) % 128) * 16384 + ((b3.toNat : Int) % 128) * 2097152 + ((b4.toNat : Int) % 128) * 268435456 + ((b5.toNat : Int) % 128) * 34359738368 + (b6.toNat : Int) * 4398046511104 ∧ m = 7) := by
 have hz : ((n : Int) == 0) = false := by simp; omega
 have q0 := b0.toNat_lt; have i0 : (0 : Int) < (n : Int) := by omega
 have q1 := b1.toNat_lt; have i1 : (1 : Int) < (n : Int) := by omega
 have q2 := b2.toNat_lt; have i2 : (2 : Int) < (n : Int) := by omega
 have q3 := b3.toNat_lt; have i3 : (3 : Int) < (n : Int) := by omega
 have q4 := b4.toNat_lt; have i4 : (4 : Int) < (n : Int) := by omega
 have q5 := b5.toNat_lt; have i5 : (5 : Int) < (n : Int) := by omega
 have q6 := b6.toNat_lt; have i6 : (6 : Int) < (n : Int) := by omega
 have z1 : ((n : Int) == 1) = false := by simp; omega
 have z2 : ((n : Int) == 2) = false := by simp; omega
 have z3 : ((n : Int) == 3) = false := by simp; omega
 have z4 : ((n : Int) == 4) = false := by simp; omega
 have z5 : ((n : Int) == 5) = false := by simp; omega
 have z6 : ((n : Int) == 6) = false := by simp; omega
 go_enter Tryz.func231, Tryz.ntmps231; go_wp2; go_ret2; refine ⟨_, _, rfl, ?_, rfl⟩; refine ⟨?_, rfl⟩; simp (disch := omega) only [u64_wrap_id, u8_and127, u64_orv7, u64_orv14, u64_orv21, u64_orv28, u64_orv35, u64_orv42, u64_orv49, u64_orv56, u64_orv63]
theorem uvS7 (g o n c : Nat) (b0 b1 b2 b3 b4 b5 b6 b7 : UInt8) (w : World) (h0 : w.cell? ⟨g, o, none⟩ = some (.int .u8 b0.toNat)) (h1 : w.cell? ⟨g, o + 1, none⟩ = some (.int .u8 b1.toNat)) (h2 : w.cell? ⟨g, o + 2, none⟩ = some (.int .u8 b2.toNat)) (h3 : w.cell? ⟨g, o + 3, none⟩ = some (.int .u8 b3.toNat)) (h4 : w.cell? ⟨g, o + 4, none⟩ = some (.int .u8 b4.toNat)) (h5 : w.cell? ⟨g, o + 5, none⟩ = some (.int .u8 b5.toNat)) (h6 : w.cell? ⟨g, o + 6, none⟩ = some (.int .u8 b6.toNat)) (h7 : w.cell? ⟨g, o + 7, none⟩ = some (.int .u8 b7.toNat)) (hn : n < 10) (hk : 7 < n) (t0 : (128 : Int) ≤ b0.toNat) (t1 : (128 : Int) ≤ b1.toNat) (t2 : (128 : Int) ≤ b2.toNat) (t3 : (128 : Int) ≤ b3.toNat) (t4 : (128 : Int) ≤ b4.toNat) (t5 : (128 : Int) ≤ b5.toNat) (t6 : (128 : Int) ≤ b6.toNat) (t7 : (b7.toNat : Int) < 128) :
 Calls Tryz.prog 231 #[.slice (some ⟨g, o, none⟩) n c] w (Two w fun x m => x = ((b0.toNat : Int) % 128) + ((b1.toNat : Int) % 128) * 128 + ((b2.toNat : Int) % 128) * 16384 + ((b3.toNat : Int) % 128) * 2097152 + ((b4.toNat : Int) % 128) * 268435456 + ((b5.toNat : Int) % 128) * 34359738368 + ((b6.toNat : Int) % 128) * 4398046511104 + (b7.toNat : Int) * 562949953421312 ∧ m = 8) := by
 have hz : ((n : Int) == 0) = false := by simp; omega
 have q0 := b0.toNat_lt; have i0 : (0 : Int) < (n : Int) := by omega
 have q1 := b1.toNat_lt; have i1 : (1 : Int) < (n : Int) := by omega
 have q2 := b2.toNat_lt; have i2 : (2 : Int) < (n : Int) := by omega
 have q3 := b3.toNat_lt; have i3 : (3 : Int) < (n : Int) := by omega
 have q4 := b4.toNat_lt; have i4 : (4 : Int) < (n : Int) := by omega
 have q5 := b5.toNat_lt; have i5 : (5 : Int) < (n : Int) := by omega
 have q6 := b6.toNat_lt; have i6 : (6 : Int) < (n : Int) := by omega
 have q7 := b7.toNat_lt; have i7 : (7 : Int) < (n : Int) := by omega
 have z1 : ((n : Int) == 1) = false := by simp; omega
 have z2 : ((n : Int) == 2) = false := by simp; omega
 have z3 : ((n : Int) == 3) = false := by simp; omega
 have z4 : ((n : Int) == 4) = false := by simp; omega
 have z5 : ((n : Int) == 5) = false := by simp; omega
 have z6 : ((n : Int) == 6) = false := by simp; omega
 have z7 : ((n : Int) == 7) = false := by simp; omega
 go_enter Tryz.func231, Tryz.ntmps231; go_wp2; go_ret2; refine ⟨_, _, rfl, ?_, rfl⟩; refine ⟨?_, rfl⟩; simp (disch := omega) only [u64_wrap_id, u8_and127, u64_orv7, u64_orv14, u64_orv21, u64_orv28, u64_orv35, u64_orv42, u64_orv49, u64_orv56, u64_orv63]
theorem uvS8 (g o n c : Nat) (b0 b1 b2 b3 b4 b5 b6 b7 b8 : UInt8) (w : World) (h0 : w.cell? ⟨g, o, none⟩ = some (.int .u8 b0.toNat)) (h1 : w.cell? ⟨g, o + 1, none⟩ = some (.int .u8 b1.toNat)) (h2 : w.cell? ⟨g, o + 2, none⟩ = some (.int .u8 b2.toNat)) (h3 : w.cell? ⟨g, o + 3, none⟩ = some (.int .u8 b3.toNat)) (h4 : w.cell? ⟨g, o + 4, none⟩ = some (.int .u8 b4.toNat)) (h5 : w.cell? ⟨g, o + 5, none⟩ = some (.int .u8 b5.toNat)) (h6 : w.cell? ⟨g, o + 6, none⟩ = some (.int .u8 b6.toNat)) (h7 : w.cell? ⟨g, o + 7, none⟩ = some (.int .u8 b7.toNat)) (h8 : w.cell? ⟨g, o + 8, none⟩ = some (.int .u8 b8.toNat)) (hn : n < 10) (hk : 8 < n) (t0 : (128 : Int) ≤ b0.toNat) (t1 : (128 : Int) ≤ b1.toNat) (t2 : (128 : Int) ≤ b2.toNat) (t3 : (128 : Int) ≤ b3.toNat) (t4 : (128 : Int) ≤ b4.toNat) (t5 : (128 : Int) ≤ b5.toNat) (t6 : (128 : Int) ≤ b6.toNat) (t7 : (128 : Int) ≤ b7.toNat) (t8 : (b8.toNat : Int) < 128) :
 Calls Tryz.prog 231 #[.slice (some ⟨g, o, none⟩) n c] w (Two w fun x m => x = ((b0.toNat : Int) % 128) + ((b1.toNat : Int) % 128) * 128 + ((b2.toNat : Int) % 128) * 16384 + ((b3.toNat : Int) % 128) * 2097152 + ((b4.toNat : Int) % 128) * 268435456 + ((b5.toNat : Int) % 128) * 34359738368 + ((b6.toNat : Int) % 128) * 4398046511104 + ((b7.toNat : Int) % 128) * 562949953421312 + (b8.toNat : Int) * 72057594037927936 ∧ m = 9) := by
 have hz : ((n : Int) == 0) = false := by simp; omega
 have q0 := b0.toNat_lt; have i0 : (0 : Int) < (n : Int) := by omega
 have q1 := b1.toNat_lt; have i1 : (1 : Int) < (n : Int) := by omega
 have q2 := b2.toNat_lt; have i2 : (2 : Int) < (n : Int) := by omega
 have q3 := b3.toNat_lt; have i3 : (3 : Int) < (n : Int) := by omega
 have q4 := b4.toNat_lt; have i4 : (4 : Int) < (n : Int) := by omega
 have q5 := b5.toNat_lt; have i5 : (5 : Int) < (n : Int) := by omega
 have q6 := b6.toNat_lt; have i6 : (6 : Int) < (n : Int) := by omega
 have q7 := b7.toNat_lt; have i7 : (7 : Int) < (n : Int) := by omega
 have q8 := b8.toNat_lt; have i8 : (8 : Int) < (n : Int) := by omega
 have z1 : ((n : Int) == 1) = false := by simp; omega
 have z2 : ((n : Int) == 2) = false := by simp; omega
 have z3 : ((n : Int) == 3) = false := by simp; omega
 have z4 : ((n : Int) == 4) = false := by simp; omega
 have z5 : ((n : Int) == 5) = false := by simp; omega
 have z6 : ((n : Int) == 6) = false := by simp; omega
 have z7 : ((n : Int) == 7) = false := by simp; omega
 have z8 : ((n : Int) == 8) = false := by simp; omega
 go_enter Tryz.func231, Tryz.ntmps231; go_wp2; go_ret2; refine ⟨_, _, rfl, ?_, rfl⟩; refine ⟨?_, rfl⟩; simp (disch := omega) only [u64_wrap_id, u8_and127, u64_orv7, u64_orv14, u64_orv21, u64_orv28, u64_orv35, u64_orv42, u64_orv49, u64_orv56, u64_orv63]
theorem uvE1 (g o n c : Nat) (b0 : UInt8) (w : World) (h0 : w.cell? ⟨g, o, none⟩ = some (.int .u8 b0.toNat)) (hk : n ≤ 1) (hk' : 1 ≤ n) (t0 : (128 : Int) ≤ b0.toNat) :
 Calls Tryz.prog 231 #[.slice (some ⟨g, o, none⟩) n c] w (Two w fun x m => x = 0 ∧ m ≤ 0) := by
 have hz : ((n : Int) == 0) = false := by simp; omega
 have q0 := b0.toNat_lt; have i0 : (0 : Int) < (n : Int) := by omega
 have z1 : ((n : Int) == 1) = true := by simp; omega
 go_enter Tryz.func231, Tryz.ntmps231; go_wp2; go_ret2; refine ⟨_, _, rfl, ?_, rfl⟩; exact ⟨rfl, by decide⟩
theorem uvE2 (g o n c : Nat) (b0 b1 : UInt8) (w : World) (h0 : w.cell? ⟨g, o, none⟩ = some (.int .u8 b0.toNat)) (h1 : w.cell? ⟨g, o + 1, none⟩ = some (.int .u8 b1.toNat)) (hk : n ≤ 2) (hk' : 2 ≤ n) (t0 : (128 : Int) ≤ b0.toNat) (t1 : (128 : Int) ≤ b1.toNat) :
 Calls Tryz.prog 231 #[.slice (some ⟨g, o, none⟩) n c] w (Two w fun x m => x = 0 ∧ m ≤ 0) := by
 have hz : ((n : Int) == 0) = false := by simp; omega
 have q0 := b0.toNat_lt; have i0 : (0 : Int) < (n : Int) := by omega
 have q1 := b1.toNat_lt; have i1 : (1 : Int) < (n : Int) := by omega
 have z1 : ((n : Int) == 1) = false := by simp; omega
 have z2 : ((n : Int) == 2) = true := by simp; omega
 go_enter Tryz.func231, Tryz.ntmps231; go_wp2; go_ret2; refine ⟨_, _, rfl, ?_, rfl⟩; exact ⟨rfl, by decide⟩
theorem uvE3 (g o n c : Nat) (b0 b1 b2 : UInt8) (w : World) (h0 : w.cell? ⟨g, o, none⟩ = some (.int .u8 b0.toNat)) (h1 : w.cell? ⟨g, o + 1, none⟩ = some (.int .u8 b1.toNat)) (h2 : w.cell? ⟨g, o + 2, none⟩ = some (.int .u8 b2.toNat)) (hk : n ≤ 3) (hk' : 3 ≤ n) (t0 : (128 : Int) ≤ b0.toNat) (t1 : (128 : Int) ≤ b1.toNat) (t2 : (128 : Int) ≤ b2.toNat) :
 Calls Tryz.prog 231 #[.slice (some ⟨g, o, none⟩) n c] w (Two w fun x m => x = 0 ∧ m ≤ 0) := by
 have hz : ((n : Int) == 0) = false := by simp; omega
 have q0 := b0.toNat_lt; have i0 : (0 : Int) < (n : Int) := by omega
 have q1 := b1.toNat_lt; have i1 : (1 : Int) < (n : Int) := by omega
 have q2 := b2.toNat_lt; have i2 : (2 : Int) < (n : Int) := by omega
 have z1 : ((n : Int) == 1) = false := by simp; omega
 have z2 : ((n : Int) == 2) = false := by simp; omega
 have z3 : ((n : Int) == 3) = true := by simp; omega
 go_enter Tryz.func231, Tryz.ntmps231; go_wp2; go_ret2; refine ⟨_, _, rfl, ?_, rfl⟩; exact ⟨rfl, by decide⟩
theorem uvE4 (g o n c : Nat) (b0 b1 b2 b3 : UInt8) (w : World) (h0 : w.cell? ⟨g, o, none⟩ = some (.int .u8 b0.toNat)) (h1 : w.cell? ⟨g, o + 1, none⟩ = some (.int .u8 b1.toNat)) (h2 : w.cell? ⟨g, o + 2, none⟩ = some (.int .u8 b2.toNat)) (h3 : w.cell? ⟨g, o + 3, none⟩ = some (.int .u8 b3.toNat)) (hk : n ≤ 4) (hk' : 4 ≤ n) (t0 : (128 : Int) ≤ b0.toNat) (t1 : (128 : Int) ≤ b1.toNat) (t2 : (128 : Int) ≤ b2.toNat) (t3 : (128 : Int) ≤ b3.toNat) :
 Calls Tryz.prog 231 #[.slice (some ⟨g, o, none⟩) n c] w (Two w fun x m => x = 0 ∧ m ≤ 0) := by
 have hz : ((n : Int) == 0) = false := by simp; omega
 have q0 := b0.toNat_lt; have i0 : (0 : Int) < (n : Int) := by omega
 have q1 := b1.toNat_lt; have i1 : (1 : Int) < (n : Int) := by omega
 have q2 := b2.toNat_lt; have i2 : (2 : Int) < (n : Int) := by omega
 have q3 := b3.toNat_lt; have i3 : (3 : Int) < (n : Int) := by omega
 have z1 : ((n : Int) == 1) = false := by simp; omega
 have z2 : ((n : Int) == 2) = false := by simp; omega
 have z3 : ((n : Int) == 3) = false := by simp; omega
 have z4 : ((n : Int) == 4) = true := by simp; omega
 go_enter Tryz.func231, Tryz.ntmps231; go_wp2; go_ret2; refine ⟨_, _, rfl, ?_, rfl⟩; exact ⟨rfl, by decide⟩
theorem uvE5 (g o n c : Nat) (b0 b1 b2 b3 b4 : UInt8) (w : World) (h0 : w.cell? ⟨g, o, none⟩ = some (.int .u8 b0.toNat)) (h1 : w.cell? ⟨g, o + 1, none⟩ = some (.int .u8 b1.toNat)) (h2 : w.cell? ⟨g, o + 2, none⟩ = some (.int .u8 b2.toNat)) (h3 : w.cell? ⟨g, o + 3, none⟩ = some (.int .u8 b3.toNat)) (h4 : w.cell? ⟨g, o + 4, none⟩ = some (.int .u8 b4.toNat)) (hk : n ≤ 5) (hk' : 5 ≤ n) (t0 : (128 : Int) ≤ b0.toNat) (t1 : (128 : Int) ≤ b1.toNat) (t2 : (128 : Int) ≤ b2.toNat) (t3 : (128 : Int) ≤ b3.toNat) (t4 : (128 : Int) ≤ b4.toNat) :
 Calls Tryz.prog 231 #[.slice (some ⟨g, o, none⟩) n c] w (Two w fun x m => x = 0 ∧ m ≤ 0) := by
 have hz : ((n : Int) == 0) = false := by simp; omega
 have q0 := b0.toNat_lt; have i0 : (0 : Int) < (n : Int) := by omega
 have q1 := b1.toNat_lt; have i1 : (1 : Int) < (n : Int) := by omega
 have q2 := b2.toNat_lt; have i2 : (2 : Int) < (n : Int) := by omega
 have q3 := b3.toNat_lt; have i3 : (3 : Int) < (n : Int) := by omega
 have q4 := b4.toNat_lt; have i4 : (4 : Int) < (n : Int) := by omega
 have z1 : ((n : Int) == 1) = false := by simp; omega
 have z2 : ((n : Int) == 2) = false := by simp; omega
 have z3 : ((n : Int) == 3) = false := by simp; omega
 have z4 : ((n : Int) == 4) = false := by simp; omega
 have z5 : ((n : Int) == 5) = true := by simp; omega
 go_enter Tryz.func231, Tryz.ntmps231; go_wp2; go_ret2; refine ⟨_, _, rfl, ?_, rfl⟩; exact ⟨rfl, by decide⟩
theorem uvE6 (g o n c : Nat) (b0 b1 b2 b3 b4 b5 : UInt8) (w : World) (h0 : w.cell? ⟨g, o, none⟩ = some (.int .u8 b0.toNat)) (h1 : w.cell? ⟨g, o + 1, none⟩ = some (.int .u8 b1.toNat)) (h2 : w.cell? ⟨g, o + 2, none⟩ = some (.int .u8 b2.toNat)) (h3 : w.cell? ⟨g, o + 3, none⟩ = some (.int .u8 b3.toNat)) (h4 : w.cell? ⟨g, o + 4, none⟩ = some (.int .u8 b4.toNat)) (h5 : w.cell? ⟨g, o + 5, none⟩ = some (.int .u8 b5.toNat)) (hk : n ≤ 6) (hk' : 6 ≤ n) (t0 : (128 : Int) ≤ b0.toNat) (t1 : (128 : Int) ≤ b1.toNat) (t2 : (128 : Int) ≤ b2.toNat) (t3 : (128 : Int) ≤ b3.toNat) (t4 : (128 : Int) ≤ b4.toNat) (t5 : (128 : Int) ≤ b5.toNat) :
 Calls Tryz.prog 231 #[.slice (some ⟨g, o, none⟩) n c] w (Two w fun x m => x = 0 ∧ m ≤ 0) := by
 have hz : ((n : Int) == 0) = false := by simp; omega
 have q0 := b0.toNat_lt; have i0 : (0 : Int) < (n : Int) := by omega
 have q1 := b1.toNat_lt; have i1 : (1 : Int) < (n : Int) := by omega
 have q2 := b2.toNat_lt; have i2 : (2 : Int) < (n : Int) := by omega
 have q3 := b3.toNat_lt; have i3 : (3 : Int) < (n : Int) := by omega
 have q4 := b4.toNat_lt; have i4 : (4 : Int) < (n : Int) := by omega
 have q5 := b5.toNat_lt; have i5 : (5 : Int) < (n : Int) := by omega
 have z1 : ((n : Int) == 1) = false := by simp; omega
 have z2 : ((n : Int) == 2) = false := by simp; omega
 have z3 : ((n : Int) == 3) = false := by simp; omega
 have z4 : ((n : Int) == 4) = false := by simp; omega
 have z5 : ((n : Int) == 5) = false := by simp; omega
 have z6 : ((n : Int) == 6) = true := by simp; omega
 go_enter Tryz.func231, Tryz.ntmps231; go_wp2; go_ret2; refine ⟨_, _, rfl, ?_, rfl⟩; exact ⟨rfl, by decide⟩
theorem uvE7 (g o n c : Nat) (b0 b1 b2 b3 b4 b5 b6 : UInt8) (w : World) (h0 : w.cell? ⟨g, o, none⟩ = some (.int .u8 b0.toNat)) (h1 : w.cell? ⟨g, o + 1, none⟩ = some (.int .u8 b1.toNat)) (h2 : w.cell? ⟨g, o + 2, none⟩ = some (.int .u8 b2.toNat)) (h3 : w.cell? ⟨g, o + 3, none⟩ = some (.int .u8 b3.toNat)) (h4 : w.cell? ⟨g, o + 4, none⟩ = some (.int .u8 b4.toNat)) (h5 : w.cell? ⟨g, o + 5, none⟩ = some (.int .u8 b5.toNat)) (h6 : w.cell? ⟨g, o + 6, none⟩ = some (.int .u8 b6.toNat)) (hk : n ≤ 7) (hk' : 7 ≤ n) (t0 : (128 : Int) ≤ b0.toNat) (t1 : (128 : Int) ≤ b1.toNat) (t2 : (128 : Int) ≤ b2.toNat) (t3 : (128 : Int) ≤ b3.toNat) (t4 : (128 : Int) ≤ b4.toNat) (t5 : (128 : Int) ≤ b5.toNat) (t6 : (128 : Int) ≤ b6.toNat) :
 Calls Tryz.prog 231 #[.slice (some ⟨g, o, none⟩) n c] w (Two w fun x m => x = 0 ∧ m ≤ 0) := by
 have hz : ((n : Int) == 0) = false := by simp; omega
 have q0 := b0.toNat_lt; have i0 : (0 : Int) < (n : Int) := by omega
 have q1 := b1.toNat_lt; have i1 : (1 : Int) < (n : Int) := by omega
 have q2 := b2.toNat_lt; have i2 : (2 : Int) < (n : Int) := by omega
 have q3 := b3.toNat_lt; have i3 : (3 : Int) < (n : Int) := by omega
 have q4 := b4.toNat_lt; have i4 : (4 : Int) < (n : Int) := by omega
 have q5 := b5.toNat_lt; have i5 : (5 : Int) < (n : Int) := by omega
 have q6 := b6.toNat_lt; have i6 : (6 : Int) < (n : Int) := by omega
 have z1 : ((n : Int) == 1) = false := by simp; omega
 have z2 : ((n : Int) == 2) = false := by simp; omega
 have z3 : ((n : Int) == 3) = false := by simp; omega
 have z4 : ((n : Int) == 4) = false := by simp; omega
 have z5 : ((n : Int) == 5) = false := by simp; omega
 have z6 : ((n : Int) == 6) = false := by simp; omega
 have z7 : ((n : Int) == 7) = true := by simp; omega
 go_enter Tryz.func231, Tryz.ntmps231; go_wp2; go_ret2; refine ⟨_, _, rfl, ?_, rfl⟩; exact ⟨rfl, by decide⟩
theorem uvE8 (g o n c : Nat) (b0 b1 b2 b3 b4 b5 b6 b7 : UInt8) (w : World) (h0 : w.cell? ⟨g, o, none⟩ = some (.int .u8 b0.toNat)) (h1 : w.cell? ⟨g, o + 1, none⟩ = some (.int .u8 b1.toNat)) (h2 : w.cell? ⟨g, o + 2, none⟩ = some (.int .u8 b2.toNat)) (h3 : w.cell? ⟨g, o + 3, none⟩ = some (.int .u8 b3.toNat)) (h4 : w.cell? ⟨g, o + 4, none⟩ = some (.int .u8 b4.toNat)) (h5 : w.cell? ⟨g, o + 5, none⟩ = some (.int .u8 b5.toNat)) (h6 : w.cell? ⟨g, o + 6, none⟩ = some (.int .u8 b6.toNat)) (h7 : w.cell? ⟨g, o + 7, none⟩ = some (.int .u8 b7.toNat)) (hk : n ≤ 8) (hk' : 8 ≤ n) (t0 : (128 : Int) ≤ b0.toNat) (t1 : (128 : Int) ≤ b1.toNat) (t2 : (128 : Int) ≤ b2.toNat) (t3 : (128 : Int) ≤ b3.toNat) (t4 : (128 : Int) ≤ b4.toNat) (t5 : (128 : Int) ≤ b5.toNat) (t6 : (128 : Int) ≤ b6.toNat) (t7 : (128 : Int) ≤ b7.toNat) :
 Calls Tryz.prog 231 #[.slice (some ⟨g, o, none⟩) n c] w (Two w fun x m => x = 0 ∧ m ≤ 0) := by
 have hz : ((n : Int) == 0) = false := by simp; omega
 have q0 := b0.toNat_lt; have i0 : (0 : Int) < (n : Int) := by omega
 have q1 := b1.toNat_lt; have i1 : (1 : Int) < (n : Int) := by omega
 have q2 := b2.toNat_lt; have i2 : (2 : Int) < (n : Int) := by omega
 have q3 := b3.toNat_lt; have i3 : (3 : Int) < (n : Int) := by omega
 have q4 := b4.toNat_lt; have i4 : (4 : Int) < (n : Int) := by omega
 have q5 := b5.toNat_lt; have i5 : (5 : Int) < (n : Int) := by omega
 have q6 := b6.toNat_lt; have i6 : (6 : Int) < (n : Int) := by omega
 have q7 := b7.toNat_lt; have i7 : (7 : Int) < (n : Int) := by omega
 have z1 : ((n : Int) == 1) = false := by simp; omega
 have z2 : ((n : Int) == 2) = false := by simp; omega
 have z3 : ((n : Int) == 3) = false := by simp; omega
 have z4 : ((n : Int) == 4) = false := by simp; omega
 have z5 : ((n : Int) == 5) = false := by simp; omega
 have z6 : ((n : Int) == 6) = false := by simp; omega
 have z7 : ((n : Int) == 7) = false := by simp; omega
 have z8 : ((n : Int) == 8) = true := by simp; omega
 go_enter Tryz.func231, Tryz.ntmps231; go_wp2; go_ret2; refine ⟨_, _, rfl, ?_, rfl⟩; exact ⟨rfl, by decide⟩
theorem uvE9 (g o n c : Nat) (b0 b1 b2 b3 b4 b5 b6 b7 b8 : UInt8) (w : World) (h0 : w.cell? ⟨g, o, none⟩ = some (.int .u8 b0.toNat)) (h1 : w.cell? ⟨g, o + 1, none⟩ = some (.int .u8 b1.toNat)) (h2 : w.cell? ⟨g, o + 2, none⟩ = some (.int .u8 b2.toNat)) (h3 : w.cell? ⟨g, o + 3, none⟩ = some (.int .u8 b3.toNat)) (h4 : w.cell? ⟨g, o + 4, none⟩ = some (.int .u8 b4.toNat)) (h5 : w.cell? ⟨g, o + 5, none⟩ = some (.int .u8 b5.toNat)) (h6 : w.cell? ⟨g, o + 6, none⟩ = some (.int .u8 b6.toNat)) (h7 : w.cell? ⟨g, o + 7, none⟩ = some (.int .u8 b7.toNat)) (h8 : w.cell? ⟨g, o + 8, none⟩ = some (.int .u8 b8.toNat)) (hk : n ≤ 9) (hk' : 9 ≤ n) (t0 : (128 : Int) ≤ b0.toNat) (t1 : (128 : Int) ≤ b1.toNat) (t2 : (128 : Int) ≤ b2.toNat) (t3 : (128 : Int) ≤ b3.toNat) (t4 : (128 : Int) ≤ b4.toNat) (t5 : (128 : Int) ≤ b5.toNat) (t6 : (128 : Int) ≤ b6.toNat) (t7 : (128 : Int) ≤ b7.toNat) (t8 : (128 : Int) ≤ b8.toNat) :
 Calls Tryz.prog 231 #[.slice (some ⟨g, o, none⟩) n c] w (Two w fun x m => x = 0 ∧ m ≤ 0) := by
 have hz : ((n : Int) == 0) = false := by simp; omega
 have q0 := b0.toNat_lt; have i0 : (0 : Int) < (n : Int) := by omega
 have q1 := b1.toNat_lt; have i1 : (1 : Int) < (n : Int) := by omega
 have q2 := b2.toNat_lt; have i2 : (2 : Int) < (n : Int) := by omega
 have q3 := b3.toNat_lt; have i3 : (3 : Int) < (n : Int) := by omega
 have q4 := b4.toNat_lt; have i4 : (4 : Int) < (n : Int) := by omega
 have q5 := b5.toNat_lt; have i5 : (5 : Int) < (n : Int) := by omega
 have q6 := b6.toNat_lt; have i6 : (6 : Int) < (n : Int) := by omega
 have q7 := b7.toNat_lt; have i7 : (7 : Int) < (n : Int) := by omega
 have q8 := b8.toNat_lt; have i8 : (8 : Int) < (n : Int) := by omega
 have z1 : ((n : Int) == 1) = false := by simp; omega
 have z2 : ((n : Int) == 2) = false := by simp; omega
 have z3 : ((n : Int) == 3) = false := by simp; omega
 have z4 : ((n : Int) == 4) = false := by simp; omega
 have z5 : ((n : Int) == 5) = false := by simp; omega
 have z6 : ((n : Int) == 6) = false := by simp; omega
 have z7 : ((n : Int) == 7) = false := by simp; omega
 have z8 : ((n : Int) == 8) = false := by simp; omega
 have z9 : ((n : Int) == 9) = true := by simp; omega
 go_enter Tryz.func231, Tryz.ntmps231; go_wp2; go_ret2; refine ⟨_, _, rfl, ?_, rfl⟩; exact ⟨rfl, by decide⟩
theorem uvFlong (g o n c : Nat) (w : World) (b0 b1 b2 b3 b4 b5 b6 b7 b8 b9 : UInt8)
 (h0 : w.cell? ⟨g, o, none⟩ = some (.int .u8 b0.toNat)) (h1 : w.cell? ⟨g, o + 1, none⟩ = some (.int .u8 b1.toNat)) (h2 : w.cell? ⟨g, o + 2, none⟩ = some (.int .u8 b2.toNat)) (h3 : w.cell? ⟨g, o + 3, none⟩ = some (.int .u8 b3.toNat)) (h4 : w.cell? ⟨g, o + 4, none⟩ = some (.int .u8 b4.toNat)) (h5 : w.cell? ⟨g, o + 5, none⟩ = some (.int .u8 b5.toNat)) (h6 : w.cell? ⟨g, o + 6, none⟩ = some (.int .u8 b6.toNat)) (h7 : w.cell? ⟨g, o + 7, none⟩ = some (.int .u8 b7.toNat)) (h8 : w.cell? ⟨g, o + 8, none⟩ = some (.int .u8 b8.toNat)) (h9 : w.cell? ⟨g, o + 9, none⟩ = some (.int .u8 b9.toNat))
 (hn : 11 ≤ n) (hnc : n ≤ c) (hn' : n ≤ 9223372036854775807) (t0 : (128 : Int) ≤ b0.toNat) (t1 : (128 : Int) ≤ b1.toNat) (t2 : (128 : Int) ≤ b2.toNat) (t3 : (128 : Int) ≤ b3.toNat) (t4 : (128 : Int) ≤ b4.toNat) (t5 : (128 : Int) ≤ b5.toNat) (t6 : (128 : Int) ≤ b6.toNat) (t7 : (128 : Int) ≤ b7.toNat) (t8 : (128 : Int) ≤ b8.toNat) (t9 : (128 : Int) ≤ b9.toNat)
 (hall : Hid (∀ j, j < n → ∃ b : UInt8, w.cell? ⟨g, o + j, none⟩ = some (.int .u8 b.toNat))) :
 Calls Tryz.prog 231 #[.slice (some ⟨g, o, none⟩) n c] w (Two w fun x m => x = 0 ∧ m ≤ 0) := by
 have hz : ((n : Int) == 0) = false := by simp; omega
 have hten : ((n : Int) == 10) = false := by simp; omega
 have i0 : (0 : Int) < (n : Int) := by omega
 have i1 : (1 : Int) < (n : Int) := by omega
 have i2 : (2 : Int) < (n : Int) := by omega
 have i3 : (3 : Int) < (n : Int) := by omega
 have i4 : (4 : Int) < (n : Int) := by omega
 have i5 : (5 : Int) < (n : Int) := by omega
 have i6 : (6 : Int) < (n : Int) := by omega
 have i7 : (7 : Int) < (n : Int) := by omega
 have i8 : (8 : Int) < (n : Int) := by omega
 have i9 : (9 : Int) < (n : Int) := by omega
 have hc10 : ¬ c = 10 := by omega
 go_enter Tryz.func231, Tryz.ntmps231; go_wp2; clear h0 h1 h2 h3 h4 h5 h6 h7 h8 h9 t0 t1 t2 t3 t4 t5 t6 t7 t8 t9 i0 i1 i2 i3 i4 i5 i6 i7 i8 i9; go_loop [209] (fun i => ∃ k : Nat, k ≤ n - 10 ∧ i = .int .i64 k) (fun i => n - 10 - (intOf i).toNat)
 case atStart => exact ⟨0, zli _, rfl⟩
 case round =>
  obtain ⟨k, hk, rfl⟩ := hrel; by_cases hlt : k < n - 10
  ·obtain ⟨b, hb⟩ := hall.out (10 + k) (by omega)
   have hb' : w.cell? ⟨g, o + 10 + k, none⟩ = some (.int .u8 b.toNat) := by rw [← hb]; congr 2; omega
   clear hb; go_wp2
   ·go_ret2
    refine ⟨_, _, rfl, ?_, rfl⟩; exact ⟨rfl, by first | omega | (simp only []; omega) | (unfold wrap64; omega)⟩
   ·go_round
    case rel => exact ⟨k + 1, by omega, by go_num⟩
    case measure => simp [intOf]; omega
  ·go_wp2
   go_ret2; exact ⟨_, _, rfl, ⟨rfl, by decide⟩, rfl⟩
theorem uvE0 (A : Option Addr) (c : Nat) (w : World) : Calls Tryz.prog 231 #[.slice A 0 c] w (Two w fun x m => x = 0 ∧ m ≤ 0) := by
 go_enter Tryz.func231, Tryz.ntmps231; go_wp2; go_ret2; exact ⟨_, _, rfl, ⟨rfl, by decide⟩, rfl⟩
theorem zab {i acc : Nat} {b : UInt8} {r : List UInt8} (p : Nat) (hi : i < 10) (hp : 2 ^ (7 * i) = p) (hb : 128 ≤ b.toNat) : Lib.uvarintFrom i acc (b :: r) = Lib.uvarintFrom (i + 1) (acc + b.toNat % 128 * p) r := by
 rw [Lib.uvarintFrom, if_neg (by omega), if_neg (by omega), hp]
theorem zcE {i acc : Nat} {b : UInt8} {r : List UInt8} (p : Nat) (hi : i < 10) (hp : 2 ^ (7 * i) = p) (hb : b.toNat < 128) (h9 : i = 9 → b.toNat ≤ 1) : Lib.uvarintFrom i acc (b :: r) = (acc + b.toNat * p, (i : Int) + 1) := by
 rw [Lib.uvarintFrom, if_neg (by omega), if_pos hb, if_neg (by omega), hp]
theorem from_over {acc : Nat} {b : UInt8} {r : List UInt8} (hb : b.toNat < 128) (h9 : 1 < b.toNat) : Lib.uvarintFrom 9 acc (b :: r) = (0, -10) := by
 rw [Lib.uvarintFrom, if_neg (by omega), if_pos hb, if_pos ⟨rfl, h9⟩]; rfl
theorem from_ten {acc : Nat} : ∀ (r : List UInt8), (Lib.uvarintFrom 10 acc r).2 < 1
 | [] => by simp [Lib.uvarintFrom]
 | b :: r => by rw [Lib.uvarintFrom, if_pos rfl]; decide
theorem all_cells {w : World} {g o n : Nat} {l : List UInt8} (hn : l.length = n) (hc : ∀ j b, l[j]? = some b → w.cell? ⟨g, o + j, none⟩ = some (.int .u8 b.toNat)) : ∀ j, j < n → ∃ b : UInt8, w.cell? ⟨g, o + j, none⟩ = some (.int .u8 b.toNat) := fun j hj =>
 ⟨_, hc j _ (zk9 (by rw [hn]; exact hj))⟩
def zj9 (w : World) (l : List UInt8) (r : Ending) (w' : World) : Prop :=
 ∃ x k : Int, r = .returned (.tuple #[.int .u64 x, .int .i64 k]) ∧ w = w' ∧ (1 ≤ (Lib.uvarintDec l).2 → x = (Lib.uvarintDec l).1 ∧ k = (Lib.uvarintDec l).2) ∧ ((Lib.uvarintDec l).2 < 1 → x = 0 ∧ k < 1)
theorem zbA {w : World} {l : List UInt8} {X K : Int} {N : Nat} {K' : Int} {f : FuncId} {args : Array Value} (h : Calls Tryz.prog f args w (Two w fun x m => x = X ∧ m = K)) (hd : Lib.uvarintDec l = (N, K')) (hX : X = (N : Int)) (hK : K' = K ∧ 1 ≤ K) : Calls Tryz.prog f args w (zj9 w l) :=
 h.mono fun r w' ⟨x, k, hr, ⟨hx, hk⟩, hw⟩ => ⟨x, k, hr, hw, fun _ => by rw [hd]; exact ⟨hx.trans hX, hk.trans hK.1.symm⟩, fun h1 => by rw [hd] at h1; have h2 : K' < 1 := h1; omega⟩
theorem zdt {w : World} {l : List UInt8} {f : FuncId} {args : Array Value} (h : Calls Tryz.prog f args w (Two w fun x m => x = 0 ∧ m ≤ 0)) (hd : (Lib.uvarintDec l).2 < 1) : Calls Tryz.prog f args w (zj9 w l) :=
 h.mono fun r w' ⟨x, k, hr, ⟨hx, hk⟩, hw⟩ => ⟨x, k, hr, hw, fun h1 => by omega, fun _ => ⟨hx, by omega⟩⟩
theorem ud0 (b0 : UInt8) (r : List UInt8)  (t0 : b0.toNat < 128) : Lib.uvarintDec (b0 :: r) = (0 + b0.toNat * 1, ((0 : Nat) : Int) + 1) := by
 rw [Lib.uvarintDec, zcE (i := 0) 1 (by decide) (by decide) t0 (fun h => absurd h (by decide))]
theorem ux0 (b0 : UInt8) : (b0.toNat : Int) = ((0 + b0.toNat * 1 : Nat) : Int) := by omega
theorem ud1 (b0 b1 : UInt8) (r : List UInt8) (s0 : 128 ≤ b0.toNat) (t1 : b1.toNat < 128) : Lib.uvarintDec (b0 :: b1 :: r) = (0 + b0.toNat % 128 * 1 + b1.toNat * 128, ((1 : Nat) : Int) + 1) := by
 rw [Lib.uvarintDec, zab (i := 0) 1 (by decide) (by decide) s0, zcE (i := 1) 128 (by decide) (by decide) t1 (fun h => absurd h (by decide))]
theorem ux1 (b0 b1 : UInt8) : ((b0.toNat : Int) % 128) + (b1.toNat : Int) * 128 = ((0 + b0.toNat % 128 * 1 + b1.toNat * 128 : Nat) : Int) := by omega
theorem ud2 (b0 b1 b2 : UInt8) (r : List UInt8) (s0 : 128 ≤ b0.toNat) (s1 : 128 ≤ b1.toNat) (t2 : b2.toNat < 128) : Lib.uvarintDec (b0 :: b1 :: b2 :: r) = (0 + b0.toNat % 128 * 1 + b1.toNat % 128 * 128 + b2.toNat * 16384, ((2 : Nat) : Int) + 1) := by
 rw [Lib.uvarintDec, zab (i := 0) 1 (by decide) (by decide) s0, zab (i := 1) 128 (by decide) (by decide) s1, zcE (i := 2) 16384 (by decide) (by decide) t2 (fun h => absurd h (by decide))]
theorem ux2 (b0 b1 b2 : UInt8) : ((b0.toNat : Int) % 128) + ((b1.toNat : Int) % 128) * 128 + (b2.toNat : Int) * 16384 = ((0 + b0.toNat % 128 * 1 + b1.toNat % 128 * 128 + b2.toNat * 16384 : Nat) : Int) := by omega
theorem ud3 (b0 b1 b2 b3 : UInt8) (r : List UInt8) (s0 : 128 ≤ b0.toNat) (s1 : 128 ≤ b1.toNat) (s2 : 128 ≤ b2.toNat) (t3 : b3.toNat < 128) : Lib.uvarintDec (b0 :: b1 :: b2 :: b3 :: r) = (0 + b0.toNat % 128 * 1 + b1.toNat % 128 * 128 + b2.toNat % 128 * 16384 + b3.toNat * 2097152, ((3 : Nat) : Int) + 1) := by
 rw [Lib.uvarintDec, zab (i := 0) 1 (by decide) (by decide) s0, zab (i := 1) 128 (by decide) (by decide) s1, zab (i := 2) 16384 (by decide) (by decide) s2, zcE (i := 3) 2097152 (by decide) (by decide) t3 (fun h => absurd h (by decide))]
theorem ux3 (b0 b1 b2 b3 : UInt8) : ((b0.toNat : Int) % 128) + ((b1.toNat : Int) % 128) * 128 + ((b2.toNat : Int) % 128) * 16384 + (b3.toNat : Int) * 2097152 = ((0 + b0.toNat % 128 * 1 + b1.toNat % 128 * 128 + b2.toNat % 128 * 16384 + b3.toNat * 2097152 : Nat) : Int) := by omega
theorem ud4 (b0 b1 b2 b3 b4 : UInt8) (r : List UInt8) (s0 : 128 ≤ b0.toNat) (s1 : 128 ≤ b1.toNat) (s2 : 128 ≤ b2.toNat) (s3 : 128 ≤ b3.toNat) (t4 : b4.toNat < 128) : Lib.uvarintDec (b0 :: b1 :: b2 :: b3 :: b4 :: r) = (0 + b0.toNat % 128 * 1 + b1.toNat % 128 * 128 + b2.toNat % 128 * 16384 + b3.toNat % 128 * 2097152 + b4.toNat * 268435456, ((4 : Nat) : Int) + 1) := by
 rw [Lib.uvarintDec, zab (i := 0) 1 (by decide) (by decide) s0, zab (i := 1) 128 (by decide) (by decide) s1, zab (i := 2) 16384 (by decide) (by decide) s2, zab (i := 3) 2097152 (by decide) (by decide) s3, zcE (i := 4) 268435456 (by decide) (by decide) t4 (fun h => absurd h (by decide))]
theorem ux4 (b0 b1 b2 b3 b4 : UInt8) : ((b0.toNat : Int) % 128) + ((b1.toNat : Int) % 128) * 128 + ((b2.toNat : Int) % 128) * 16384 + ((b3.toNat : Int) % 128) * 2097152 + (b4.toNat : Int) * 268435456 = ((0 + b0.toNat % 128 * 1 + b1.toNat % 128 * 128 + b2.toNat % 128 * 16384 + b3.toNat % 128 * 2097152 + b4.toNat * 268435456 : Nat) : Int) := by omega
theorem ud5 (b0 b1 b2 b3 b4 b5 : UInt8) (r : List UInt8) (s0 : 128 ≤ b0.toNat) (s1 : 128 ≤ b1.toNat) (s2 : 128 ≤ b2.toNat) (s3 : 128 ≤ b3.toNat) (s4 : 128 ≤ b4.toNat) (t5 : b5.toNat < 128) : Lib.uvarintDec (b0 :: b1 :: b2 :: b3 :: b4 :: b5 :: r) = (0 + b0.toNat % 128 * 1 + b1.toNat % 128 * 128 + b2.toNat % 128 * 16384 + b3.toNat % 128 * 2097152 + b4.toNat % 128 * 268435456 + b5.toNat * 34359738368, ((5 : Nat) : Int) + 1) := by
 rw [Lib.uvarintDec, zab (i := 0) 1 (by decide) (by decide) s0, zab (i := 1) 128 (by decide) (by decide) s1, zab (i := 2) 16384 (by decide) (by decide) s2, zab (i := 3) 2097152 (by decide) (by decide) s3, zab (i := 4) 268435456 (by decide) (by decide) s4, zcE (i := 5) 34359738368 (by decide) (by decide) t5 (fun h => absurd h (by decide))]
theorem ux5 (b0 b1 b2 b3 b4 b5 : UInt8) : ((b0.toNat : Int) % 128) + ((b1.toNat : Int) % 128) * 128 + ((b2.toNat : Int) % 128) * 16384 + ((b3.toNat : Int) % 128) * 2097152 + ((b4.toNat : Int) % 128) * 268435456 + (b5.toNat : Int) * 34359738368 = ((0 + b0.toNat % 128 * 1 + b1.toNat % 128 * 128 + b2.toNat % 128 * 16384 + b3.toNat % 128 * 2097152 + b4.toNat % 128 * 268435456 + b5.toNat * 34359738368 : Nat) : Int) := by omega
theorem ud6 (b0 b1 b2 b3 b4 b5 b6 : UInt8) (r : List UInt8) (s0 : 128 ≤ b0.toNat) (s1 : 128 ≤ b1.toNat) (s2 : 128 ≤ b2.toNat) (s3 : 128 ≤ b3.toNat) (s4 : 128 ≤ b4.toNat) (s5 : 128 ≤ b5.toNat) (t6 : b6.toNat < 128) : Lib.uvarintDec (b0 :: b1 :: b2 :: b3 :: b4 :: b5 :: b6 :: r) = (0 + b0.toNat % 128 * 1 + b1.toNat % 128 * 128 + b2.toNat % 128 * 16384 + b3.toNat % 128 * 2097152 + b4.toNat % 128 * 268435456 + b5.toNat % 128 * 34359738368 + b6.toNat * 4398046511104, ((6 : Nat) : Int) + 1) := by
 rw [Lib.uvarintDec, zab (i := 0) 1 (by decide) (by decide) s0, zab (i := 1) 128 (by decide) (by decide) s1, zab (i := 2) 16384 (by decide) (by decide) s2, zab (i := 3) 2097152 (by decide) (by decide) s3, zab (i := 4) 268435456 (by decide) (by decide) s4, zab (i := 5) 34359738368 (by decide) (by decide) s5, zcE (i := 6) 4398046511104 (by decide) (by decide) t6 (fun h => absurd h (by decide))]
theorem ux6 (b0 b1 b2 b3 b4 b5 b6 : UInt8) : ((b0.toNat : Int) % 128) + ((b1.toNat : Int) % 128) * 128 + ((b2.toNat : Int) % 128) * 16384 + ((b3.toNat : Int) % 128) * 2097152 + ((b4.toNat : Int) % 128) * 268435456 + ((b5.toNat : Int) % 128) * 34359738368 + (b6.toNat : Int) * 4398046511104 = ((0 + b0.toNat % 128 * 1 + b1.toNat % 128 * 128 + b2.toNat % 128 * 16384 + b3.toNat % 128 * 2097152 + b4.toNat % 128 * 268435456 + b5.toNat % 128 * 34359738368 + b6.toNat * 4398046511104 : Nat) : Int) := by omega
theorem ud7 (b0 b1 b2 b3 b4 b5 b6 b7 : UInt8) (r : List UInt8) (s0 : 128 ≤ b0.toNat) (s1 : 128 ≤ b1.toNat) (s2 : 128 ≤ b2.toNat) (s3 : 128 ≤ b3.toNat) (s4 : 128 ≤ b4.toNat) (s5 : 128 ≤ b5.toNat) (s6 : 128 ≤ b6.toNat) (t7 : b7.toNat < 128) : Lib.uvarintDec (b0 :: b1 :: b2 :: b3 :: b4 :: b5 :: b6 :: b7 :: r) = (0 + b0.toNat % 128 * 1 + b1.toNat % 128 * 128 + b2.toNat % 128 * 16384 + b3.toNat % 128 * 2097152 + b4.toNat % 128 * 268435456 + b5.toNat % 128 * 34359738368 + b6.toNat % 128 * 4398046511104 + b7.toNat * 562949953421312, ((7 : Nat) : Int) + 1) := by
 rw [Lib.uvarintDec, zab (i := 0) 1 (by decide) (by decide) s0, zab (i := 1) 128 (by decide) (by decide) s1, zab (i := 2) 16384 (by decide) (by decide) s2, zab (i := 3) 2097152 (by decide) (by decide) s3, zab (i := 4) 268435456 (by decide) (by decide) s4, zab (i := 5) 34359738368 (by decide) (by decide) s5, zab (i := 6) 4398046511104 (by decide) (by decide) s6, zcE (i := 7) 562949953421312 (by decide) (by decide) t7 (fun h => absurd h (by decide))]
theorem ux7 (b0 b1 b2 b3 b4 b5 b6 b7 : UInt8) : ((b0.toNat : Int) % 128) + ((b1.toNat : Int) % 128) * 128 + ((b2.toNat : Int) % 128) * 16384 + ((b3.toNat : Int) % 128) * 2097152 + ((b4.toNat : Int) % 128) * 268435456 + ((b5.toNat : Int) % 128) * 34359738368 + ((b6.toNat : Int) % 128) * 4398046511104 + (b7.toNat : Int) * 562949953421312 = ((0 + b0.toNat % 128 * 1 + b1.toNat % 128 * 128 + b2.toNat % 128 * 16384 + b3.toNat % 128 * 2097152 + b4.toNat % 128 * 268435456 + b5.toNat % 128 * 34359738368 + b6.toNat % 128 * 4398046511104 + b7.toNat * 562949953421312 : Nat) : Int) := by omega
theorem ud8 (b0 b1 b2 b3 b4 b5 b6 b7 b8 : UInt8) (r : List UInt8) (s0 : 128 ≤ b0.toNat) (s1 : 128 ≤ b1.toNat) (s2 : 128 ≤ b2.toNat) (s3 : 128 ≤ b3.toNat) (s4 : 128 ≤ b4.toNat) (s5 : 128 ≤ b5.toNat) (s6 : 128 ≤ b6.toNat) (s7 : 128 ≤ b7.toNat) (t8 : b8.toNat < 128) : Lib.uvarintDec (b0 :: b1 :: b2 :: b3 :: b4 :: b5 :: b6 :: b7 :: b8 :: r) = (0 + b0.toNat % 128 * 1 + b1.toNat % 128 * 128 + b2.toNat % 128 * 16384 + b3.toNat % 128 * 2097152 + b4.toNat % 128 * 268435456 + b5.toNat % 128 * 34359738368 + b6.toNat % 128 * 4398046511104 + b7.toNat % 128 * 562949953421312 + b8.toNat * 72057594037927936, ((8 : Nat) : Int) + 1) := by
 rw [Lib.uvarintDec, zab (i := 0) 1 (by decide) (by decide) s0, zab (i := 1) 128 (by decide) (by decide) s1, zab (i := 2) 16384 (by decide) (by decide) s2, zab (i := 3) 2097152 (by decide) (by decide) s3, zab (i := 4) 268435456 (by decide) (by decide) s4, zab (i := 5) 34359738368 (by decide) (by decide) s5, zab (i := 6) 4398046511104 (by decide) (by decide) s6, zab (i := 7) 562949953421312 (by decide) (by decide) s7, zcE (i := 8) 72057594037927936 (by decide) (by decide) t8 (fun h => absurd h (by decide))]
theorem ux8 (b0 b1 b2 b3 b4 b5 b6 b7 b8 : UInt8) : ((b0.toNat : Int) % 128) + ((b1.toNat : Int) % 128) * 128 + ((b2.toNat : Int) % 128) * 16384 + ((b3.toNat : Int) % 128) * 2097152 + ((b4.toNat : Int) % 128) * 268435456 + ((b5.toNat : Int) % 128) * 34359738368 + ((b6.toNat : Int) % 128) * 4398046511104 + ((b7.toNat : Int) % 128) * 562949953421312 + (b8.toNat : Int) * 72057594037927936 = ((0 + b0.toNat % 128 * 1 + b1.toNat % 128 * 128 + b2.toNat % 128 * 16384 + b3.toNat % 128 * 2097152 + b4.toNat % 128 * 268435456 + b5.toNat % 128 * 34359738368 + b6.toNat % 128 * 4398046511104 + b7.toNat % 128 * 562949953421312 + b8.toNat * 72057594037927936 : Nat) : Int) := by omega
theorem ud9 (b0 b1 b2 b3 b4 b5 b6 b7 b8 b9 : UInt8) (r : List UInt8) (s0 : 128 ≤ b0.toNat) (s1 : 128 ≤ b1.toNat) (s2 : 128 ≤ b2.toNat) (s3 : 128 ≤ b3.toNat) (s4 : 128 ≤ b4.toNat) (s5 : 128 ≤ b5.toNat) (s6 : 128 ≤ b6.toNat) (s7 : 128 ≤ b7.toNat) (s8 : 128 ≤ b8.toNat) (t9 : b9.toNat < 128) (u9 : b9.toNat ≤ 1) : Lib.uvarintDec (b0 :: b1 :: b2 :: b3 :: b4 :: b5 :: b6 :: b7 :: b8 :: b9 :: r) = (0 + b0.toNat % 128 * 1 + b1.toNat % 128 * 128 + b2.toNat % 128 * 16384 + b3.toNat % 128 * 2097152 + b4.toNat % 128 * 268435456 + b5.toNat % 128 * 34359738368 + b6.toNat % 128 * 4398046511104 + b7.toNat % 128 * 562949953421312 + b8.toNat % 128 * 72057594037927936 + b9.toNat * 9223372036854775808, ((9 : Nat) : Int) + 1) := by
 rw [Lib.uvarintDec, zab (i := 0) 1 (by decide) (by decide) s0, zab (i := 1) 128 (by decide) (by decide) s1, zab (i := 2) 16384 (by decide) (by decide) s2, zab (i := 3) 2097152 (by decide) (by decide) s3, zab (i := 4) 268435456 (by decide) (by decide) s4, zab (i := 5) 34359738368 (by decide) (by decide) s5, zab (i := 6) 4398046511104 (by decide) (by decide) s6, zab (i := 7) 562949953421312 (by decide) (by decide) s7, zab (i := 8) 72057594037927936 (by decide) (by decide) s8, zcE (i := 9) 9223372036854775808 (by decide) (by decide) t9 (fun _ => u9)]
theorem ux9 (b0 b1 b2 b3 b4 b5 b6 b7 b8 b9 : UInt8) : ((b0.toNat : Int) % 128) + ((b1.toNat : Int) % 128) * 128 + ((b2.toNat : Int) % 128) * 16384 + ((b3.toNat : Int) % 128) * 2097152 + ((b4.toNat : Int) % 128) * 268435456 + ((b5.toNat : Int) % 128) * 34359738368 + ((b6.toNat : Int) % 128) * 4398046511104 + ((b7.toNat : Int) % 128) * 562949953421312 + ((b8.toNat : Int) % 128) * 72057594037927936 + (b9.toNat : Int) * 9223372036854775808 = ((0 + b0.toNat % 128 * 1 + b1.toNat % 128 * 128 + b2.toNat % 128 * 16384 + b3.toNat % 128 * 2097152 + b4.toNat % 128 * 268435456 + b5.toNat % 128 * 34359738368 + b6.toNat % 128 * 4398046511104 + b7.toNat % 128 * 562949953421312 + b8.toNat % 128 * 72057594037927936 + b9.toNat * 9223372036854775808 : Nat) : Int) := by omega
theorem ue1 (b0 : UInt8) (s0 : 128 ≤ b0.toNat) : (Lib.uvarintDec (b0 :: [])).2 < 1 := by
 rw [Lib.uvarintDec, zab (i := 0) 1 (by decide) (by decide) s0, Lib.uvarintFrom]; decide
theorem ue2 (b0 b1 : UInt8) (s0 : 128 ≤ b0.toNat) (s1 : 128 ≤ b1.toNat) : (Lib.uvarintDec (b0 :: b1 :: [])).2 < 1 := by
 rw [Lib.uvarintDec, zab (i := 0) 1 (by decide) (by decide) s0, zab (i := 1) 128 (by decide) (by decide) s1, Lib.uvarintFrom]; decide
theorem ue3 (b0 b1 b2 : UInt8) (s0 : 128 ≤ b0.toNat) (s1 : 128 ≤ b1.toNat) (s2 : 128 ≤ b2.toNat) : (Lib.uvarintDec (b0 :: b1 :: b2 :: [])).2 < 1 := by
 rw [Lib.uvarintDec, zab (i := 0) 1 (by decide) (by decide) s0, zab (i := 1) 128 (by decide) (by decide) s1, zab (i := 2) 16384 (by decide) (by decide) s2, Lib.uvarintFrom]; decide
theorem ue4 (b0 b1 b2 b3 : UInt8) (s0 : 128 ≤ b0.toNat) (s1 : 128 ≤ b1.toNat) (s2 : 128 ≤ b2.toNat) (s3 : 128 ≤ b3.toNat) : (Lib.uvarintDec (b0 :: b1 :: b2 :: b3 :: [])).2 < 1 := by
 rw [Lib.uvarintDec, zab (i := 0) 1 (by decide) (by decide) s0, zab (i := 1) 128 (by decide) (by decide) s1, zab (i := 2) 16384 (by decide) (by decide) s2, zab (i := 3) 2097152 (by decide) (by decide) s3, Lib.uvarintFrom]; decide
theorem ue5 (b0 b1 b2 b3 b4 : UInt8) (s0 : 128 ≤ b0.toNat) (s1 : 128 ≤ b1.toNat) (s2 : 128 ≤ b2.toNat) (s3 : 128 ≤ b3.toNat) (s4 : 128 ≤ b4.toNat) : (Lib.uvarintDec (b0 :: b1 :: b2 :: b3 :: b4 :: [])).2 < 1 := by
 rw [Lib.uvarintDec, zab (i := 0) 1 (by decide) (by decide) s0, zab (i := 1) 128 (by decide) (by decide) s1, zab (i := 2) 16384 (by decide) (by decide) s2, zab (i := 3) 2097152 (by decide) (by decide) s3, zab (i := 4) 268435456 (by decide) (by decide) s4, Lib.uvarintFrom]; decide
theorem ue6 (b0 b1 b2 b3 b4 b5 : UInt8) (s0 : 128 ≤ b0.toNat) (s1 : 128 ≤ b1.toNat) (s2 : 128 ≤ b2.toNat) (s3 : 128 ≤ b3.toNat) (s4 : 128 ≤ b4.toNat) (s5 : 128 ≤ b5.toNat) : (Lib.uvarintDec (b0 :: b1 :: b2 :: b3 :: b4 :: b5 :: [])).2 < 1 := by
 rw [Lib.uvarintDec, zab (i := 0) 1 (by decide) (by decide) s0, zab (i := 1) 128 (by decide) (by decide) s1, zab (i := 2) 16384 (by decide) (by decide) s2, zab (i := 3) 2097152 (by decide) (by decide) s3, zab (i := 4) 268435456 (by decide) (by decide) s4, zab (i := 5) 34359738368 (by decide) (by decide) s5, Lib.uvarintFrom]; decide
theorem ue7 (b0 b1 b2 b3 b4 b5 b6 : UInt8) (s0 : 128 ≤ b0.toNat) (s1 : 128 ≤ b1.toNat) (s2 : 128 ≤ b2.toNat) (s3 : 128 ≤ b3.toNat) (s4 : 128 ≤ b4.toNat) (s5 : 128 ≤ b5.toNat) (s6 : 128 ≤ b6.toNat) : (Lib.uvarintDec (b0 :: b1 :: b2 :: b3 :: b4 :: b5 :: b6 :: [])).2 < 1 := by
 rw [Lib.uvarintDec, zab (i := 0) 1 (by decide) (by decide) s0, zab (i := 1) 128 (by decide) (by decide) s1, zab (i := 2) 16384 (by decide) (by decide) s2, zab (i := 3) 2097152 (by decide) (by decide) s3, zab (i := 4) 268435456 (by decide) (by decide) s4, zab (i := 5) 34359738368 (by decide) (by decide) s5, zab (i := 6) 4398046511104 (by decide) (by decide) s6, Lib.uvarintFrom]
 decide
theorem ue8 (b0 b1 b2 b3 b4 b5 b6 b7 : UInt8) (s0 : 128 ≤ b0.toNat) (s1 : 128 ≤ b1.toNat) (s2 : 128 ≤ b2.toNat) (s3 : 128 ≤ b3.toNat) (s4 : 128 ≤ b4.toNat) (s5 : 128 ≤ b5.toNat) (s6 : 128 ≤ b6.toNat) (s7 : 128 ≤ b7.toNat) : (Lib.uvarintDec (b0 :: b1 :: b2 :: b3 :: b4 :: b5 :: b6 :: b7 :: [])).2 < 1 := by
 rw [Lib.uvarintDec, zab (i := 0) 1 (by decide) (by decide) s0, zab (i := 1) 128 (by decide) (by decide) s1, zab (i := 2) 16384 (by decide) (by decide) s2, zab (i := 3) 2097152 (by decide) (by decide) s3, zab (i := 4) 268435456 (by decide) (by decide) s4, zab (i := 5) 34359738368 (by decide) (by decide) s5, zab (i := 6) 4398046511104 (by decide) (by decide) s6, zab (i := 7) 562949953421312 (by decide) (by decide) s7, Lib.uvarintFrom]
 decide
theorem ue9 (b0 b1 b2 b3 b4 b5 b6 b7 b8 : UInt8) (s0 : 128 ≤ b0.toNat) (s1 : 128 ≤ b1.toNat) (s2 : 128 ≤ b2.toNat) (s3 : 128 ≤ b3.toNat) (s4 : 128 ≤ b4.toNat) (s5 : 128 ≤ b5.toNat) (s6 : 128 ≤ b6.toNat) (s7 : 128 ≤ b7.toNat) (s8 : 128 ≤ b8.toNat) : (Lib.uvarintDec (b0 :: b1 :: b2 :: b3 :: b4 :: b5 :: b6 :: b7 :: b8 :: [])).2 < 1 := by
 rw [Lib.uvarintDec, zab (i := 0) 1 (by decide) (by decide) s0, zab (i := 1) 128 (by decide) (by decide) s1, zab (i := 2) 16384 (by decide) (by decide) s2, zab (i := 3) 2097152 (by decide) (by decide) s3, zab (i := 4) 268435456 (by decide) (by decide) s4, zab (i := 5) 34359738368 (by decide) (by decide) s5, zab (i := 6) 4398046511104 (by decide) (by decide) s6, zab (i := 7) 562949953421312 (by decide) (by decide) s7, zab (i := 8) 72057594037927936 (by decide) (by decide) s8, Lib.uvarintFrom]
 decide
theorem uover (b0 b1 b2 b3 b4 b5 b6 b7 b8 b9 : UInt8) (r : List UInt8) (s0 : 128 ≤ b0.toNat) (s1 : 128 ≤ b1.toNat) (s2 : 128 ≤ b2.toNat) (s3 : 128 ≤ b3.toNat) (s4 : 128 ≤ b4.toNat) (s5 : 128 ≤ b5.toNat) (s6 : 128 ≤ b6.toNat) (s7 : 128 ≤ b7.toNat) (s8 : 128 ≤ b8.toNat) (t9 : b9.toNat < 128) (u9 : 1 < b9.toNat) : (Lib.uvarintDec (b0 :: b1 :: b2 :: b3 :: b4 :: b5 :: b6 :: b7 :: b8 :: b9 :: r)).2 < 1 := by
 rw [Lib.uvarintDec, zab (i := 0) 1 (by decide) (by decide) s0, zab (i := 1) 128 (by decide) (by decide) s1, zab (i := 2) 16384 (by decide) (by decide) s2, zab (i := 3) 2097152 (by decide) (by decide) s3, zab (i := 4) 268435456 (by decide) (by decide) s4, zab (i := 5) 34359738368 (by decide) (by decide) s5, zab (i := 6) 4398046511104 (by decide) (by decide) s6, zab (i := 7) 562949953421312 (by decide) (by decide) s7, zab (i := 8) 72057594037927936 (by decide) (by decide) s8, from_over t9 u9]
 decide
theorem uten (b0 b1 b2 b3 b4 b5 b6 b7 b8 b9 : UInt8) (r : List UInt8) (s0 : 128 ≤ b0.toNat) (s1 : 128 ≤ b1.toNat) (s2 : 128 ≤ b2.toNat) (s3 : 128 ≤ b3.toNat) (s4 : 128 ≤ b4.toNat) (s5 : 128 ≤ b5.toNat) (s6 : 128 ≤ b6.toNat) (s7 : 128 ≤ b7.toNat) (s8 : 128 ≤ b8.toNat) (s9 : 128 ≤ b9.toNat) : (Lib.uvarintDec (b0 :: b1 :: b2 :: b3 :: b4 :: b5 :: b6 :: b7 :: b8 :: b9 :: r)).2 < 1 := by
 rw [Lib.uvarintDec, zab (i := 0) 1 (by decide) (by decide) s0, zab (i := 1) 128 (by decide) (by decide) s1, zab (i := 2) 16384 (by decide) (by decide) s2, zab (i := 3) 2097152 (by decide) (by decide) s3, zab (i := 4) 268435456 (by decide) (by decide) s4, zab (i := 5) 34359738368 (by decide) (by decide) s5, zab (i := 6) 4398046511104 (by decide) (by decide) s6, zab (i := 7) 562949953421312 (by decide) (by decide) s7, zab (i := 8) 72057594037927936 (by decide) (by decide) s8, zab (i := 9) 9223372036854775808 (by decide) (by decide) s9]
 exact from_ten _
theorem uvAny (g o n c : Nat) (w : World) (l : List UInt8) (hn : l.length = n) (hnc : n ≤ c) (hm : c ≤ 9223372036854775807) (hc : ∀ j b, l[j]? = some b → w.cell? ⟨g, o + j, none⟩ = some (.int .u8 b.toNat)) :
 Calls Tryz.prog 231 #[.slice (some ⟨g, o, none⟩) n c] w (zj9 w l) := by
 have hm' : n ≤ 9223372036854775807 := zlQ hnc hm; rcases l with _ | ⟨b0, l1⟩
 ·obtain rfl : n = 0 := by simpa using hn.symm
  exact zdt (uvE0 _ _ _) (by decide)
 ·have h0 := hc 0 b0 rfl
  simp only [Nat.add_zero] at h0; have n0 : 0 < n := by rw [← hn]; simp only [zlp]; omega
  by_cases t0 : b0.toNat < 128
  ·by_cases hf : 10 ≤ n
   ·exact zbA (uvF0 g o n c b0 w h0 hf hm'  (Int.ofNat_lt.2 t0)) (ud0 b0 _  t0) (ux0 b0) (by decide)
   ·exact zbA (uvS0 g o n c b0 w h0 (Nat.lt_of_not_le hf) n0  (Int.ofNat_lt.2 t0)) (ud0 b0 _  t0) (ux0 b0) (by decide)
  ·have s0 : 128 ≤ b0.toNat := Nat.le_of_not_lt t0
   have c0 : (128 : Int) ≤ b0.toNat := Int.ofNat_le.2 s0; rcases l1 with _ | ⟨b1, l2⟩
   ·have e : n = 1 := hn.symm
    exact zdt (uvE1 g o n c b0 w h0 (Nat.le_of_eq e) (Nat.le_of_eq e.symm) c0) (ue1 b0 s0)
   ·have h1 := hc 1 b1 rfl
    have n1 : 1 < n := by rw [← hn]; simp only [zlp]; omega
    by_cases t1 : b1.toNat < 128
    ·by_cases hf : 10 ≤ n
     ·exact zbA (uvF1 g o n c b0 b1 w h0 h1 hf hm' c0 (Int.ofNat_lt.2 t1)) (ud1 b0 b1 _ s0 t1) (ux1 b0 b1) (by decide)
     ·exact zbA (uvS1 g o n c b0 b1 w h0 h1 (Nat.lt_of_not_le hf) n1 c0 (Int.ofNat_lt.2 t1)) (ud1 b0 b1 _ s0 t1) (ux1 b0 b1) (by decide)
    ·have s1 : 128 ≤ b1.toNat := Nat.le_of_not_lt t1
     have c1 : (128 : Int) ≤ b1.toNat := Int.ofNat_le.2 s1; rcases l2 with _ | ⟨b2, l3⟩
     ·have e : n = 2 := hn.symm
      exact zdt (uvE2 g o n c b0 b1 w h0 h1 (Nat.le_of_eq e) (Nat.le_of_eq e.symm) c0 c1) (ue2 b0 b1 s0 s1)
     ·have h2 := hc 2 b2 rfl
      have n2 : 2 < n := by rw [← hn]; simp only [zlp]; omega
      by_cases t2 : b2.toNat < 128
      ·by_cases hf : 10 ≤ n
       ·exact zbA (uvF2 g o n c b0 b1 b2 w h0 h1 h2 hf hm' c0 c1 (Int.ofNat_lt.2 t2)) (ud2 b0 b1 b2 _ s0 s1 t2) (ux2 b0 b1 b2) (by decide)
       ·exact zbA (uvS2 g o n c b0 b1 b2 w h0 h1 h2 (Nat.lt_of_not_le hf) n2 c0 c1 (Int.ofNat_lt.2 t2)) (ud2 b0 b1 b2 _ s0 s1 t2) (ux2 b0 b1 b2) (by decide)
      ·have s2 : 128 ≤ b2.toNat := Nat.le_of_not_lt t2
       have c2 : (128 : Int) ≤ b2.toNat := Int.ofNat_le.2 s2; rcases l3 with _ | ⟨b3, l4⟩
       ·have e : n = 3 := hn.symm
        exact zdt (uvE3 g o n c b0 b1 b2 w h0 h1 h2 (Nat.le_of_eq e) (Nat.le_of_eq e.symm) c0 c1 c2) (ue3 b0 b1 b2 s0 s1 s2)
       ·have h3 := hc 3 b3 rfl
        have n3 : 3 < n := by rw [← hn]; simp only [zlp]; omega
        by_cases t3 : b3.toNat < 128
        ·by_cases hf : 10 ≤ n
         ·exact zbA (uvF3 g o n c b0 b1 b2 b3 w h0 h1 h2 h3 hf hm' c0 c1 c2 (Int.ofNat_lt.2 t3)) (ud3 b0 b1 b2 b3 _ s0 s1 s2 t3) (ux3 b0 b1 b2 b3) (by decide)
         ·exact zbA (uvS3 g o n c b0 b1 b2 b3 w h0 h1 h2 h3 (Nat.lt_of_not_le hf) n3 c0 c1 c2 (Int.ofNat_lt.2 t3)) (ud3 b0 b1 b2 b3 _ s0 s1 s2 t3) (ux3 b0 b1 b2 b3) (by decide)
        ·have s3 : 128 ≤ b3.toNat := Nat.le_of_not_lt t3
         have c3 : (128 : Int) ≤ b3.toNat := Int.ofNat_le.2 s3; rcases l4 with _ | ⟨b4, l5⟩
         ·have e : n = 4 := hn.symm
          exact zdt (uvE4 g o n c b0 b1 b2 b3 w h0 h1 h2 h3 (Nat.le_of_eq e) (Nat.le_of_eq e.symm) c0 c1 c2 c3) (ue4 b0 b1 b2 b3 s0 s1 s2 s3)
         ·have h4 := hc 4 b4 rfl
          have n4 : 4 < n := by rw [← hn]; simp only [zlp]; omega
          by_cases t4 : b4.toNat < 128
          ·by_cases hf : 10 ≤ n
           ·exact zbA (uvF4 g o n c b0 b1 b2 b3 b4 w h0 h1 h2 h3 h4 hf hm' c0 c1 c2 c3 (Int.ofNat_lt.2 t4)) (ud4 b0 b1 b2 b3 b4 _ s0 s1 s2 s3 t4) (ux4 b0 b1 b2 b3 b4) (by decide)
           ·exact zbA (uvS4 g o n c b0 b1 b2 b3 b4 w h0 h1 h2 h3 h4 (Nat.lt_of_not_le hf) n4 c0 c1 c2 c3 (Int.ofNat_lt.2 t4)) (ud4 b0 b1 b2 b3 b4 _ s0 s1 s2 s3 t4) (ux4 b0 b1 b2 b3 b4) (by decide)
          ·have s4 : 128 ≤ b4.toNat := Nat.le_of_not_lt t4
           have c4 : (128 : Int) ≤ b4.toNat := Int.ofNat_le.2 s4; rcases l5 with _ | ⟨b5, l6⟩
           ·have e : n = 5 := hn.symm
            exact zdt (uvE5 g o n c b0 b1 b2 b3 b4 w h0 h1 h2 h3 h4 (Nat.le_of_eq e) (Nat.le_of_eq e.symm) c0 c1 c2 c3 c4) (ue5 b0 b1 b2 b3 b4 s0 s1 s2 s3 s4)
           ·have h5 := hc 5 b5 rfl
            have n5 : 5 < n := by rw [← hn]; simp only [zlp]; omega
            by_cases t5 : b5.toNat < 128
            ·by_cases hf : 10 ≤ n
             ·exact zbA (uvF5 g o n c b0 b1 b2 b3 b4 b5 w h0 h1 h2 h3 h4 h5 hf hm' c0 c1 c2 c3 c4 (Int.ofNat_lt.2 t5)) (ud5 b0 b1 b2 b3 b4 b5 _ s0 s1 s2 s3 s4 t5) (ux5 b0 b1 b2 b3 b4 b5) (by decide)
             ·exact zbA (uvS5 g o n c b0 b1 b2 b3 b4 b5 w h0 h1 h2 h3 h4 h5 (Nat.lt_of_not_le hf) n5 c0 c1 c2 c3 c4 (Int.ofNat_lt.2 t5)) (ud5 b0 b1 b2 b3 b4 b5 _ s0 s1 s2 s3 s4 t5) (ux5 b0 b1 b2 b3 b4 b5) (by decide)
            ·have s5 : 128 ≤ b5.toNat := Nat.le_of_not_lt t5
             have c5 : (128 : Int) ≤ b5.toNat := Int.ofNat_le.2 s5; rcases l6 with _ | ⟨b6, l7⟩
             ·have e : n = 6 := hn.symm
              exact zdt (uvE6 g o n c b0 b1 b2 b3 b4 b5 w h0 h1 h2 h3 h4 h5 (Nat.le_of_eq e) (Nat.le_of_eq e.symm) c0 c1 c2 c3 c4 c5) (ue6 b0 b1 b2 b3 b4 b5 s0 s1 s2 s3 s4 s5)
             ·have h6 := hc 6 b6 rfl
              have n6 : 6 < n := by rw [← hn]; simp only [zlp]; omega
              by_cases t6 : b6.toNat < 128
              ·by_cases hf : 10 ≤ n
               ·exact zbA (uvF6 g o n c b0 b1 b2 b3 b4 b5 b6 w h0 h1 h2 h3 h4 h5 h6 hf hm' c0 c1 c2 c3 c4 c5 (Int.ofNat_lt.2 t6)) (ud6 b0 b1 b2 b3 b4 b5 b6 _ s0 s1 s2 s3 s4 s5 t6) (ux6 b0 b1 b2 b3 b4 b5 b6) (by decide)
               ·exact zbA (uvS6 g o n c b0 b1 b2 b3 b4 b5 b6 w h0 h1 h2 h3 h4 h5 h6 (Nat.lt_of_not_le hf) n6 c0 c1 c2 c3 c4 c5 (Int.ofNat_lt.2 t6)) (ud6 b0 b1 b2 b3 b4 b5 b6 _ s0 s1 s2 s3 s4 s5 t6) (ux6 b0 b1 b2 b3 b4 b5 b6) (by decide)
              ·have s6 : 128 ≤ b6.toNat := Nat.le_of_not_lt t6
               have c6 : (128 : Int) ≤ b6.toNat := Int.ofNat_le.2 s6; rcases l7 with _ | ⟨b7, l8⟩
               ·have e : n = 7 := hn.symm
                exact zdt (uvE7 g o n c b0 b1 b2 b3 b4 b5 b6 w h0 h1 h2 h3 h4 h5 h6 (Nat.le_of_eq e) (Nat.le_of_eq e.symm) c0 c1 c2 c3 c4 c5 c6) (ue7 b0 b1 b2 b3 b4 b5 b6 s0 s1 s2 s3 s4 s5 s6)
               ·have h7 := hc 7 b7 rfl
                have n7 : 7 < n := by rw [← hn]; simp only [zlp]; omega
                by_cases t7 : b7.toNat < 128
                ·by_cases hf : 10 ≤ n
                 ·exact zbA (uvF7 g o n c b0 b1 b2 b3 b4 b5 b6 b7 w h0 h1 h2 h3 h4 h5 h6 h7 hf hm' c0 c1 c2 c3 c4 c5 c6 (Int.ofNat_lt.2 t7)) (ud7 b0 b1 b2 b3 b4 b5 b6 b7 _ s0 s1 s2 s3 s4 s5 s6 t7) (ux7 b0 b1 b2 b3 b4 b5 b6 b7) (by decide)
                 ·exact zbA (uvS7 g o n c b0 b1 b2 b3 b4 b5 b6 b7 w h0 h1 h2 h3 h4 h5 h6 h7 (Nat.lt_of_not_le hf) n7 c0 c1 c2 c3 c4 c5 c6 (Int.ofNat_lt.2 t7)) (ud7 b0 b1 b2 b3 b4 b5 b6 b7 _ s0 s1 s2 s3 s4 s5 s6 t7) (ux7 b0 b1 b2 b3 b4 b5 b6 b7) (by decide)
                ·have s7 : 128 ≤ b7.toNat := Nat.le_of_not_lt t7
                 have c7 : (128 : Int) ≤ b7.toNat := Int.ofNat_le.2 s7; rcases l8 with _ | ⟨b8, l9⟩
                 ·have e : n = 8 := hn.symm
                  exact zdt (uvE8 g o n c b0 b1 b2 b3 b4 b5 b6 b7 w h0 h1 h2 h3 h4 h5 h6 h7 (Nat.le_of_eq e) (Nat.le_of_eq e.symm) c0 c1 c2 c3 c4 c5 c6 c7) (ue8 b0 b1 b2 b3 b4 b5 b6 b7 s0 s1 s2 s3 s4 s5 s6 s7)
                 ·have h8 := hc 8 b8 rfl
                  have n8 : 8 < n := by rw [← hn]; simp only [zlp]; omega
                  by_cases t8 : b8.toNat < 128
                  ·by_cases hf : 10 ≤ n
                   ·exact zbA (uvF8 g o n c b0 b1 b2 b3 b4 b5 b6 b7 b8 w h0 h1 h2 h3 h4 h5 h6 h7 h8 hf hm' c0 c1 c2 c3 c4 c5 c6 c7 (Int.ofNat_lt.2 t8)) (ud8 b0 b1 b2 b3 b4 b5 b6 b7 b8 _ s0 s1 s2 s3 s4 s5 s6 s7 t8) (ux8 b0 b1 b2 b3 b4 b5 b6 b7 b8) (by decide)
                   ·exact zbA (uvS8 g o n c b0 b1 b2 b3 b4 b5 b6 b7 b8 w h0 h1 h2 h3 h4 h5 h6 h7 h8 (Nat.lt_of_not_le hf) n8 c0 c1 c2 c3 c4 c5 c6 c7 (Int.ofNat_lt.2 t8)) (ud8 b0 b1 b2 b3 b4 b5 b6 b7 b8 _ s0 s1 s2 s3 s4 s5 s6 s7 t8) (ux8 b0 b1 b2 b3 b4 b5 b6 b7 b8) (by decide)
                  ·have s8 : 128 ≤ b8.toNat := Nat.le_of_not_lt t8
                   have c8 : (128 : Int) ≤ b8.toNat := Int.ofNat_le.2 s8; rcases l9 with _ | ⟨b9, l10⟩
                   ·have e : n = 9 := hn.symm
                    exact zdt (uvE9 g o n c b0 b1 b2 b3 b4 b5 b6 b7 b8 w h0 h1 h2 h3 h4 h5 h6 h7 h8 (Nat.le_of_eq e) (Nat.le_of_eq e.symm) c0 c1 c2 c3 c4 c5 c6 c7 c8) (ue9 b0 b1 b2 b3 b4 b5 b6 b7 b8 s0 s1 s2 s3 s4 s5 s6 s7 s8)
                   ·have h9 := hc 9 b9 rfl
                    have n9 : 9 < n := by rw [← hn]; simp only [zlp]; omega
                    by_cases t9 : b9.toNat < 128
                    ·by_cases u9 : b9.toNat ≤ 1
                     ·exact zbA (uvF9 g o n c b0 b1 b2 b3 b4 b5 b6 b7 b8 b9 w h0 h1 h2 h3 h4 h5 h6 h7 h8 h9 n9 hm' c0 c1 c2 c3 c4 c5 c6 c7 c8 (Int.ofNat_lt.2 t9) (Int.ofNat_le.2 u9)) (ud9 b0 b1 b2 b3 b4 b5 b6 b7 b8 b9 _ s0 s1 s2 s3 s4 s5 s6 s7 s8 t9 u9) (ux9 b0 b1 b2 b3 b4 b5 b6 b7 b8 b9) (by decide)
                     ·exact zdt (uvFover g o n c b0 b1 b2 b3 b4 b5 b6 b7 b8 b9 w h0 h1 h2 h3 h4 h5 h6 h7 h8 h9 n9 hm' c0 c1 c2 c3 c4 c5 c6 c7 c8 (Int.ofNat_lt.2 t9) (Int.ofNat_lt.2 (Nat.lt_of_not_le u9))) (uover b0 b1 b2 b3 b4 b5 b6 b7 b8 b9 _ s0 s1 s2 s3 s4 s5 s6 s7 s8 t9 (Nat.lt_of_not_le u9))
                    ·have s9 : 128 ≤ b9.toNat := Nat.le_of_not_lt t9
                     have c9 : (128 : Int) ≤ b9.toNat := Int.ofNat_le.2 s9; by_cases hf : n ≤ 10
                     ·exact zdt (uvFten g o n c b0 b1 b2 b3 b4 b5 b6 b7 b8 b9 w h0 h1 h2 h3 h4 h5 h6 h7 h8 h9 n9 hf c0 c1 c2 c3 c4 c5 c6 c7 c8 c9) (uten b0 b1 b2 b3 b4 b5 b6 b7 b8 b9 _ s0 s1 s2 s3 s4 s5 s6 s7 s8 s9)
                     ·exact zdt (uvFlong g o n c w b0 b1 b2 b3 b4 b5 b6 b7 b8 b9 h0 h1 h2 h3 h4 h5 h6 h7 h8 h9 (Nat.lt_of_not_le hf) hnc hm' c0 c1 c2 c3 c4 c5 c6 c7 c8 c9 (zk7 (all_cells hn hc))) (uten b0 b1 b2 b3 b4 b5 b6 b7 b8 b9 _ s0 s1 s2 s3 s4 s5 s6 s7 s8 s9)
end Go.Proofs.YtbkookiigkckdaaGreatDoor
