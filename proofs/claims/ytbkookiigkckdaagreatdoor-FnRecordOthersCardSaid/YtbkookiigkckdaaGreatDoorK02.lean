/- Texts of this seat, merged and shortened: UvB. -/
import Derived.Test.YtbkookiigkckdaaGreatDoorK01
import Derived.Lib.VarintBits
import Derived.Lib.VarintDec
set_option linter.unusedVariables false
set_option linter.unusedSimpArgs false
set_option maxRecDepth 100000
set_option maxHeartbeats 8000000
namespace Go.Proofs.YtbkookiigkckdaaGreatDoor
open Go.RowKit
theorem uvF6 (g o n c : Nat) (b0 b1 b2 b3 b4 b5 b6 : UInt8) (w : World) (h0 : w.cell? ⟨g, o, none⟩ = some (.int .u8 b0.toNat)) (h1 : w.cell? ⟨g, o + 1, none⟩ = some (.int .u8 b1.toNat)) (h2 : w.cell? ⟨g, o + 2, none⟩ = some (.int .u8 b2.toNat)) (h3 : w.cell? ⟨g, o + 3, none⟩ = some (.int .u8 b3.toNat)) (h4 : w.cell? ⟨g, o + 4, none⟩ = some (.int .u8 b4.toNat)) (h5 : w.cell? ⟨g, o + 5, none⟩ = some (.int .u8 b5.toNat)) (h6 : w.cell? ⟨g, o + 6, none⟩ = some (.int .u8 b6.toNat)) (hn : 10 ≤ n) (hn' : n ≤ 9223372036854775807) (t0 : (128 : Int) ≤ b0.toNat) (t1 : (128 : Int) ≤ b1.toNat) (t2 : (128 : Int) ≤ b2.toNat) (t3 : (128 : Int) ≤ b3.toNat) (t4 : (128 : Int) ≤ b4.toNat) (t5 : (128 : Int) ≤ b5.toNat) (t6 : (b6.toNat : Int) < 128) :
 Calls Tryz.prog 231 #[.slice (some ⟨g, o, none⟩) n c] w (Two w fun x m => x = ((b0.toNat : Int) % 128) + ((b1.toNat : Int) % 128) * 128 + ((b2.toNat : Int) % 128) * 16384 + ((b3.toNat : Int) % 128) * 2097152 + ((b4.toNat : Int) % 128) * 268435456 + ((b5.toNat : Int) % 128) * 34359738368 + (b6.toNat : Int) * 4398046511104 ∧ m = 7) := by
 have hz : ((n : Int) == 0) = false := by simp; omega
 have q0 := b0.toNat_lt; have i0 : (0 : Int) < (n : Int) := by omega
 have q1 := b1.toNat_lt; have i1 : (1 : Int) < (n : Int) := by omega
 have q2 := b2.toNat_lt; have i2 : (2 : Int) < (n : Int) := by omega
 have q3 := b3.toNat_lt; have i3 : (3 : Int) < (n : Int) := by omega
 have q4 := b4.toNat_lt; have i4 : (4 : Int) < (n : Int) := by omega
 have q5 := b5.toNat_lt; have i5 : (5 : Int) < (n : Int) := by omega
 have q6 := b6.toNat_lt; have i6 : (6 : Int) < (n : Int) := by omega
 go_enter Tryz.func231, Tryz.ntmps231; go_wp2; go_ret2; refine ⟨_, _, rfl, ?_, rfl⟩; refine ⟨?_, rfl⟩; simp (disch := omega) only [u64_wrap_id, u8_and127, u64_orv7, u64_orv14, u64_orv21, u64_orv28, u64_orv35, u64_orv42, u64_orv49, u64_orv56, u64_orv63]
theorem uvF7 (g o n c : Nat) (b0 b1 b2 b3 b4 b5 b6 b7 : UInt8) (w : World) (h0 : w.cell? ⟨g, o, none⟩ = some (.int .u8 b0.toNat)) (h1 : w.cell? ⟨g, o + 1, none⟩ = some (.int .u8 b1.toNat)) (h2 : w.cell? ⟨g, o + 2, none⟩ = some (.int .u8 b2.toNat)) (h3 : w.cell? ⟨g, o + 3, none⟩ = some (.int .u8 b3.toNat)) (h4 : w.cell? ⟨g, o + 4, none⟩ = some (.int .u8 b4.toNat)) (h5 : w.cell? ⟨g, o + 5, none⟩ = some (.int .u8 b5.toNat)) (h6 : w.cell? ⟨g, o + 6, none⟩ = some (.int .u8 b6.toNat)) (h7 : w.cell? ⟨g, o + 7, none⟩ = some (.int .u8 b7.toNat)) (hn : 10 ≤ n) (hn' : n ≤ 9223372036854775807) (t0 : (128 : Int) ≤ b0.toNat) (t1 : (128 : Int) ≤ b1.toNat) (t2 : (128 : Int) ≤ b2.toNat) (t3 : (128 : Int) ≤ b3.toNat) (t4 : (128 : Int) ≤ b4.toNat) (t5 : (128 : Int) ≤ b5.toNat) (t6 : (128 : Int) ≤ b6.toNat) (t7 : (b7.toNat : Int) < 128) :
 Calls Tryz.prog 231 #[.slice (some ⟨g, o, none⟩) n c] w (Two w fun x m => x = ((b0.toNat : Int) % 128) + ((b1.toNat : Int) % 128) * 128 + ((b2.toNat : Int) % 128) * 16384 + ((b3.toNat : Int) % 128) * 2097152 + ((b4.toNat : Int) % 128) * 268435456 + ((b5.toNat : Int) % 128) * 34359738368 + ((b6.toNat : Int) % 128) * 4398046511104 + (b7.toNat : Int) * 562949953421312 ∧ m = 8) := by
 have hz : ((n : Int) == 0) = false := by simp; omega
 have q0 := b0.toNat_lt; have i0 : (0 : Int) < (n : Int) := by omega
 have q1 := b1.toNat_lt; have i1 : (1 : Int) < (n : Int) := by omega
 have q2 := b2.toNat_lt; have i2 : (2 : Int) < (n : Int) := by omega
 have q3 := b3.toNat_lt; have i3 : (3 : Int) < (n : Int) := by omega
 have q4 := b4.toNat_lt; have i4 : (4 : Int) < (n : Int) := by omega
 have q5 := b5.toNat_lt; have i5 : (5 : Int) < (n : Int) := by omega
 have q6 := b6.toNat_lt; have i6 : (6 : Int) < (n : Int) := by omega
 have q7 := b7.toNat_lt; have i7 : (7 : Int) < (n : Int) := by omega
 go_enter Tryz.func231, Tryz.ntmps231; go_wp2; go_ret2; refine ⟨_, _, rfl, ?_, rfl⟩; refine ⟨?_, rfl⟩; simp (disch := omega) only [u64_wrap_id, u8_and127, u64_orv7, u64_orv14, u64_orv21, u64_orv28, u64_orv35, u64_orv42, u64_orv49, u64_orv56, u64_orv63]
theorem uvF8 (g o n c : Nat) (b0 b1 b2 b3 b4 b5 b6 b7 b8 : UInt8) (w : World) (h0 : w.cell? ⟨g, o, none⟩ = some (.int .u8 b0.toNat)) (h1 : w.cell? ⟨g, o + 1, none⟩ = some (.int .u8 b1.toNat)) (h2 : w.cell? ⟨g, o + 2, none⟩ = some (.int .u8 b2.toNat)) (h3 : w.cell? ⟨g, o + 3, none⟩ = some (.int .u8 b3.toNat)) (h4 : w.cell? ⟨g, o + 4, none⟩ = some (.int .u8 b4.toNat)) (h5 : w.cell? ⟨g, o + 5, none⟩ = some (.int .u8 b5.toNat)) (h6 : w.cell? ⟨g, o + 6, none⟩ = some (.int .u8 b6.toNat)) (h7 : w.cell? ⟨g, o + 7, none⟩ = some (.int .u8 b7.toNat)) (h8 : w.cell? ⟨g, o + 8, none⟩ = some (.int .u8 b8.toNat)) (hn : 10 ≤ n) (hn' : n ≤ 9223372036854775807) (t0 : (128 : Int) ≤ b0.toNat) (t1 : (128 : Int) ≤ b1.toNat) (t2 : (128 : Int) ≤ b2.toNat) (t3 : (128 : Int) ≤ b3.toNat) (t4 : (128 : Int) ≤ b4.toNat) (t5 : (128 : Int) ≤ b5.toNat) (t6 : (128 : Int) ≤ b6.toNat) (t7 : (128 : Int) ≤ b7.toNat) (t8 : (b8.toNat : Int) < 128) :
 Calls Tryz.prog 231 #[.slice (some ⟨g, o, none⟩) n c] w (Two w fun x m => x = ((b0.toNat : Int) % 128) + ((b1.toNat : Int) % 128) * 128 + ((b2.toNat : Int) % 128) * 16384 + ((b3.toNat : Int) % 128) * 2097152 + ((b4.toNat : Int) % 128) * 268435456 + ((b5.toNat : Int) % 128) * 34359738368 + ((b6.toNat : Int) % 128) * 4398046511104 + ((b7.toNat : Int) % 128) * 562949953421312 + (b8.toNat : Int) * 72057594037927936 ∧ m = 9) := by
 have hz : ((n : Int) == 0) = false := by simp; omega
 have q0 := b0.toNat_lt; have i0 : (0 : Int) < (n : Int) := by omega
 have q1 := b1.toNat_lt; have i1 : (1 : Int) < (n : Int) := by omega
 have q2 := b2.toNat_lt; have i2 : (2 : Int) < (n : Int) := by omega
 have q3 := b3.toNat_lt; have i3 : (3 : Int) < (n : Int) := by omega
 have q4 := b4.toNat_lt; have i4 : (4 : Int) < (n : Int) := by omega
 have q5 := b5.toNat_lt; have i5 : (5 : Int) < (n : Int) := by omega
 have q6 := b6.toNat_lt; have i6 : (6 : Int) < (n : Int) := by omega
 have q7 := b7.toNat_lt; have i7 : (7 : Int) < (n : Int) := by omega
 have q8 := b8.toNat_lt; have i8 : (8 : Int) < (n : Int) := by omega
 go_enter Tryz.func231, Tryz.ntmps231; go_wp2; go_ret2; refine ⟨_, _, rfl, ?_, rfl⟩; refine ⟨?_, rfl⟩; simp (disch := omega) only [u64_wrap_id, u8_and127, u64_orv7, u64_orv14, u64_orv21, u64_orv28, u64_orv35, u64_orv42, u64_orv49, u64_orv56, u64_orv63]
theorem uvF9 (g o n c : Nat) (b0 b1 b2 b3 b4 b5 b6 b7 b8 b9 : UInt8) (w : World) (h0 : w.cell? ⟨g, o, none⟩ = some (.int .u8 b0.toNat)) (h1 : w.cell? ⟨g, o + 1, none⟩ = some (.int .u8 b1.toNat)) (h2 : w.cell? ⟨g, o + 2, none⟩ = some (.int .u8 b2.toNat)) (h3 : w.cell? ⟨g, o + 3, none⟩ = some (.int .u8 b3.toNat)) (h4 : w.cell? ⟨g, o + 4, none⟩ = some (.int .u8 b4.toNat)) (h5 : w.cell? ⟨g, o + 5, none⟩ = some (.int .u8 b5.toNat)) (h6 : w.cell? ⟨g, o + 6, none⟩ = some (.int .u8 b6.toNat)) (h7 : w.cell? ⟨g, o + 7, none⟩ = some (.int .u8 b7.toNat)) (h8 : w.cell? ⟨g, o + 8, none⟩ = some (.int .u8 b8.toNat)) (h9 : w.cell? ⟨g, o + 9, none⟩ = some (.int .u8 b9.toNat)) (hn : 10 ≤ n) (hn' : n ≤ 9223372036854775807) (t0 : (128 : Int) ≤ b0.toNat) (t1 : (128 : Int) ≤ b1.toNat) (t2 : (128 : Int) ≤ b2.toNat) (t3 : (128 : Int) ≤ b3.toNat) (t4 : (128 : Int) ≤ b4.toNat) (t5 : (128 : Int) ≤ b5.toNat) (t6 : (128 : Int) ≤ b6.toNat) (t7 : (128 : Int) ≤ b7.toNat) (t8 : (128 : Int) ≤ b8.toNat) (t9 : (b9.toNat : Int) < 128) (u9 : (b9.toNat : Int) ≤ 1) :
 Calls Tryz.prog 231 #[.slice (some ⟨g, o, none⟩) n c] w (Two w fun x m => x = ((b0.toNat : Int) % 128) + ((b1.toNat : Int) % 128) * 128 + ((b2.toNat : Int) % 128) * 16384 + ((b3.toNat : Int) % 128) * 2097152 + ((b4.toNat : Int) % 128) * 268435456 + ((b5.toNat : Int) % 128) * 34359738368 + ((b6.toNat : Int) % 128) * 4398046511104 + ((b7.toNat : Int) % 128) * 562949953421312 + ((b8.toNat : Int) % 128) * 72057594037927936 + (b9.toNat : Int) * 9223372036854775808 ∧ m = 10) := by
 have hz : ((n : Int) == 0) = false := by simp; omega
 have q0 := b0.toNat_lt; have i0 : (0 : Int) < (n : Int) := by omega
 have q1 := b1.toNat_lt; have i1 : (1 : Int) < (n : Int) := by omega
 have q2 := b2.toNat_lt; have i2 : (2 : Int) < (n : Int) := by omega
 have q3 := b3.toNat_lt; have i3 : (3 : Int) < (n : Int) := by omega
 have q4 := b4.toNat_lt; have i4 : (4 : Int) < (n : Int) := by omega
 have q5 := b5.toNat_lt; have i5 : (5 : Int) < (n : Int) := by omega
 have q6 := b6.toNat_lt; have i6 : (6 : Int) < (n : Int) := by omega
 have q7 := b7.toNat_lt; have i7 : (7 : Int) < (n : Int) := by omega
 have q8 := b8.toNat_lt; have i8 : (8 : Int) < (n : Int) := by omega
 have q9 := b9.toNat_lt; have i9 : (9 : Int) < (n : Int) := by omega
 go_enter Tryz.func231, Tryz.ntmps231; go_wp2; go_ret2; refine ⟨_, _, rfl, ?_, rfl⟩; refine ⟨?_, rfl⟩; simp (disch := omega) only [u64_wrap_id, u8_and127, u64_orv7, u64_orv14, u64_orv21, u64_orv28, u64_orv35, u64_orv42, u64_orv49, u64_orv56, u64_orv63]
theorem uvFover (g o n c : Nat) (b0 b1 b2 b3 b4 b5 b6 b7 b8 b9 : UInt8) (w : World) (h0 : w.cell? ⟨g, o, none⟩ = some (.int .u8 b0.toNat)) (h1 : w.cell? ⟨g, o + 1, none⟩ = some (.int .u8 b1.toNat)) (h2 : w.cell? ⟨g, o + 2, none⟩ = some (.int .u8 b2.toNat)) (h3 : w.cell? ⟨g, o + 3, none⟩ = some (.int .u8 b3.toNat)) (h4 : w.cell? ⟨g, o + 4, none⟩ = some (.int .u8 b4.toNat)) (h5 : w.cell? ⟨g, o + 5, none⟩ = some (.int .u8 b5.toNat)) (h6 : w.cell? ⟨g, o + 6, none⟩ = some (.int .u8 b6.toNat)) (h7 : w.cell? ⟨g, o + 7, none⟩ = some (.int .u8 b7.toNat)) (h8 : w.cell? ⟨g, o + 8, none⟩ = some (.int .u8 b8.toNat)) (h9 : w.cell? ⟨g, o + 9, none⟩ = some (.int .u8 b9.toNat)) (hn : 10 ≤ n) (hn' : n ≤ 9223372036854775807) (t0 : (128 : Int) ≤ b0.toNat) (t1 : (128 : Int) ≤ b1.toNat) (t2 : (128 : Int) ≤ b2.toNat) (t3 : (128 : Int) ≤ b3.toNat) (t4 : (128 : Int) ≤ b4.toNat) (t5 : (128 : Int) ≤ b5.toNat) (t6 : (128 : Int) ≤ b6.toNat) (t7 : (128 : Int) ≤ b7.toNat) (t8 : (128 : Int) ≤ b8.toNat) (t9 : (b9.toNat : Int) < 128) (u9 : (1 : Int) < b9.toNat) :
 Calls Tryz.prog 231 #[.slice (some ⟨g, o, none⟩) n c] w (Two w fun x m => x = 0 ∧ m ≤ 0) := by
 have hz : ((n : Int) == 0) = false := by simp; omega
 have q0 := b0.toNat_lt; have i0 : (0 : Int) < (n : Int) := by omega
 have q1 := b1.toNat_lt; have i1 : (1 : Int) < (n : Int) := by omega
 have q2 := b2.toNat_lt; have i2 : (2 : Int) < (n : Int) := by omega
 have q3 := b3.toNat_lt; have i3 : (3 : Int) < (n : Int) := by omega
 have q4 := b4.toNat_lt; have i4 : (4 : Int) < (n : Int) := by omega
 have q5 := b5.toNat_lt; have i5 : (5 : Int) < (n : Int) := by omega
 have q6 := b6.toNat_lt; have i6 : (6 : Int) < (n : Int) := by omega
 have q7 := b7.toNat_lt; have i7 : (7 : Int) < (n : Int) := by omega
 have q8 := b8.toNat_lt; have i8 : (8 : Int) < (n : Int) := by omega
 have q9 := b9.toNat_lt; have i9 : (9 : Int) < (n : Int) := by omega
 go_enter Tryz.func231, Tryz.ntmps231; go_wp2; go_ret2; refine ⟨_, _, rfl, ?_, rfl⟩; exact ⟨rfl, by decide⟩
theorem uvFten (g o n c : Nat) (b0 b1 b2 b3 b4 b5 b6 b7 b8 b9 : UInt8) (w : World) (h0 : w.cell? ⟨g, o, none⟩ = some (.int .u8 b0.toNat)) (h1 : w.cell? ⟨g, o + 1, none⟩ = some (.int .u8 b1.toNat)) (h2 : w.cell? ⟨g, o + 2, none⟩ = some (.int .u8 b2.toNat)) (h3 : w.cell? ⟨g, o + 3, none⟩ = some (.int .u8 b3.toNat)) (h4 : w.cell? ⟨g, o + 4, none⟩ = some (.int .u8 b4.toNat)) (h5 : w.cell? ⟨g, o + 5, none⟩ = some (.int .u8 b5.toNat)) (h6 : w.cell? ⟨g, o + 6, none⟩ = some (.int .u8 b6.toNat)) (h7 : w.cell? ⟨g, o + 7, none⟩ = some (.int .u8 b7.toNat)) (h8 : w.cell? ⟨g, o + 8, none⟩ = some (.int .u8 b8.toNat)) (h9 : w.cell? ⟨g, o + 9, none⟩ = some (.int .u8 b9.toNat)) (hn : 10 ≤ n) (hm : n ≤ 10) (t0 : (128 : Int) ≤ b0.toNat) (t1 : (128 : Int) ≤ b1.toNat) (t2 : (128 : Int) ≤ b2.toNat) (t3 : (128 : Int) ≤ b3.toNat) (t4 : (128 : Int) ≤ b4.toNat) (t5 : (128 : Int) ≤ b5.toNat) (t6 : (128 : Int) ≤ b6.toNat) (t7 : (128 : Int) ≤ b7.toNat) (t8 : (128 : Int) ≤ b8.toNat) (t9 : (128 : Int) ≤ b9.toNat) :
 Calls Tryz.prog 231 #[.slice (some ⟨g, o, none⟩) n c] w (Two w fun x m => x = 0 ∧ m ≤ 0) := by
 have hz : ((n : Int) == 0) = false := by simp; omega
 have q0 := b0.toNat_lt; have i0 : (0 : Int) < (n : Int) := by omega
 have q1 := b1.toNat_lt; have i1 : (1 : Int) < (n : Int) := by omega
 have q2 := b2.toNat_lt; have i2 : (2 : Int) < (n : Int) := by omega
 have q3 := b3.toNat_lt; have i3 : (3 : Int) < (n : Int) := by omega
 have q4 := b4.toNat_lt; have i4 : (4 : Int) < (n : Int) := by omega
 have q5 := b5.toNat_lt; have i5 : (5 : Int) < (n : Int) := by omega
 have q6 := b6.toNat_lt; have i6 : (6 : Int) < (n : Int) := by omega
 have q7 := b7.toNat_lt; have i7 : (7 : Int) < (n : Int) := by omega
 have q8 := b8.toNat_lt; have i8 : (8 : Int) < (n : Int) := by omega
 have q9 := b9.toNat_lt; have i9 : (9 : Int) < (n : Int) := by omega
 have hten : ((n : Int) == 10) = true := by simp; omega
 go_enter Tryz.func231, Tryz.ntmps231; go_wp2; go_ret2; refine ⟨_, _, rfl, ?_, rfl⟩; exact ⟨rfl, by decide⟩
end Go.Proofs.YtbkookiigkckdaaGreatDoor
