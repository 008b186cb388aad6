/- Texts of this seat, merged: Uv, DecB, Sd, Ps, Pt, Wb, Mk. -/
import Derived.Test.YtbkookiigkckdaaGreatDoorK03
import Derived.Test.YtbkookiigkckdaaGreatDoorK04
import Derived.Test.YtbkookiigkckdaaGreatDoorK02
import Derived.Test.YtbkookiigkckdaaGreatDoorK01
import Derived.LoopTactic
import Derived.Lib.Zigzag
import Derived.Shelf.Bin.PutVarint
import Derived.Laws.MakeOwn
import Derived.Lib.EndianMore
import Derived.BigRegion
/- dennwc's Uvarint at every slice of bytes, joined out of its ways. Printed by genuv2.py. -/
namespace Go.Proofs.YtbkookiigkckdaaGreatDoor
open Go.RowKit
set_option linter.unusedVariables false
set_option linter.unusedSimpArgs false

set_option maxRecDepth 100000 in
set_option maxHeartbeats 2000000 in
theorem uvFlong (g o n c : Nat) (w : World) (b0 b1 b2 b3 b4 b5 b6 b7 b8 b9 : UInt8)
    (h0 : w.cell? ⟨g, o, none⟩ = some (.int .u8 b0.toNat)) (h1 : w.cell? ⟨g, o + 1, none⟩ = some (.int .u8 b1.toNat)) (h2 : w.cell? ⟨g, o + 2, none⟩ = some (.int .u8 b2.toNat)) (h3 : w.cell? ⟨g, o + 3, none⟩ = some (.int .u8 b3.toNat)) (h4 : w.cell? ⟨g, o + 4, none⟩ = some (.int .u8 b4.toNat)) (h5 : w.cell? ⟨g, o + 5, none⟩ = some (.int .u8 b5.toNat)) (h6 : w.cell? ⟨g, o + 6, none⟩ = some (.int .u8 b6.toNat)) (h7 : w.cell? ⟨g, o + 7, none⟩ = some (.int .u8 b7.toNat)) (h8 : w.cell? ⟨g, o + 8, none⟩ = some (.int .u8 b8.toNat)) (h9 : w.cell? ⟨g, o + 9, none⟩ = some (.int .u8 b9.toNat))
    (hn : 11 ≤ n) (hnc : n ≤ c) (hn' : n ≤ 9223372036854775807) (t0 : (128 : Int) ≤ b0.toNat) (t1 : (128 : Int) ≤ b1.toNat) (t2 : (128 : Int) ≤ b2.toNat) (t3 : (128 : Int) ≤ b3.toNat) (t4 : (128 : Int) ≤ b4.toNat) (t5 : (128 : Int) ≤ b5.toNat) (t6 : (128 : Int) ≤ b6.toNat) (t7 : (128 : Int) ≤ b7.toNat) (t8 : (128 : Int) ≤ b8.toNat) (t9 : (128 : Int) ≤ b9.toNat)
    (hall : Hid (∀ j, j < n → ∃ b : UInt8, w.cell? ⟨g, o + j, none⟩ = some (.int .u8 b.toNat))) :
    Calls Tryz.prog 231 #[.slice (some ⟨g, o, none⟩) n c] w (Two w fun x m => x = 0 ∧ m ≤ 0) := by
  have hz : ((n : Int) == 0) = false := by simp; omega
  have hten : ((n : Int) == 10) = false := by simp; omega
  have i0 : (0 : Int) < (n : Int) := by omega
  have i1 : (1 : Int) < (n : Int) := by omega
  have i2 : (2 : Int) < (n : Int) := by omega
  have i3 : (3 : Int) < (n : Int) := by omega
  have i4 : (4 : Int) < (n : Int) := by omega
  have i5 : (5 : Int) < (n : Int) := by omega
  have i6 : (6 : Int) < (n : Int) := by omega
  have i7 : (7 : Int) < (n : Int) := by omega
  have i8 : (8 : Int) < (n : Int) := by omega
  have i9 : (9 : Int) < (n : Int) := by omega
  have hc10 : ¬ c = 10 := by omega
  go_enter Tryz.func231, Tryz.ntmps231
  go_wp2
  clear h0 h1 h2 h3 h4 h5 h6 h7 h8 h9 t0 t1 t2 t3 t4 t5 t6 t7 t8 t9 i0 i1 i2 i3 i4 i5 i6 i7 i8 i9
  go_loop [209] (fun i => ∃ k : Nat, k ≤ n - 10 ∧ i = .int .i64 k) (fun i => n - 10 - (intOf i).toNat)
  case atStart => exact ⟨0, Nat.zero_le _, rfl⟩
  case round =>
    obtain ⟨k, hk, rfl⟩ := hrel
    by_cases hlt : k < n - 10
    · obtain ⟨b, hb⟩ := hall.out (10 + k) (by omega)
      have hb' : w.cell? ⟨g, o + 10 + k, none⟩ = some (.int .u8 b.toNat) := by rw [← hb]; congr 2; omega
      clear hb
      go_wp2
      · go_ret2
        refine ⟨_, _, rfl, ?_, rfl⟩
        exact ⟨rfl, by first | omega | (simp only []; omega) | (unfold wrap64; omega)⟩
      · go_round
        case rel => exact ⟨k + 1, by omega, by go_num⟩
        case measure => simp [intOf]; omega
    · go_wp2
      go_ret2
      exact ⟨_, _, rfl, ⟨rfl, by decide⟩, rfl⟩


set_option maxRecDepth 100000 in
set_option maxHeartbeats 400000 in
theorem uvE0 (A : Option Addr) (c : Nat) (w : World) : Calls Tryz.prog 231 #[.slice A 0 c] w (Two w fun x m => x = 0 ∧ m ≤ 0) := by
  go_enter Tryz.func231, Tryz.ntmps231
  go_wp2
  go_ret2
  exact ⟨_, _, rfl, ⟨rfl, by decide⟩, rfl⟩

theorem from_cont {i acc : Nat} {b : UInt8} {r : List UInt8} (p : Nat) (hi : i < 10) (hp : 2 ^ (7 * i) = p) (hb : 128 ≤ b.toNat) : Lib.uvarintFrom i acc (b :: r) = Lib.uvarintFrom (i + 1) (acc + b.toNat % 128 * p) r := by
  rw [Lib.uvarintFrom, if_neg (by omega), if_neg (by omega), hp]
theorem from_end {i acc : Nat} {b : UInt8} {r : List UInt8} (p : Nat) (hi : i < 10) (hp : 2 ^ (7 * i) = p) (hb : b.toNat < 128) (h9 : i = 9 → b.toNat ≤ 1) : Lib.uvarintFrom i acc (b :: r) = (acc + b.toNat * p, (i : Int) + 1) := by
  rw [Lib.uvarintFrom, if_neg (by omega), if_pos hb, if_neg (by omega), hp]
theorem from_over {acc : Nat} {b : UInt8} {r : List UInt8} (hb : b.toNat < 128) (h9 : 1 < b.toNat) : Lib.uvarintFrom 9 acc (b :: r) = (0, -10) := by
  rw [Lib.uvarintFrom, if_neg (by omega), if_pos hb, if_pos ⟨rfl, h9⟩]
  rfl
theorem from_ten {acc : Nat} : ∀ (r : List UInt8), (Lib.uvarintFrom 10 acc r).2 < 1
  | [] => by simp [Lib.uvarintFrom]
  | b :: r => by rw [Lib.uvarintFrom, if_pos rfl]; decide

theorem all_cells {w : World} {g o n : Nat} {l : List UInt8} (hn : l.length = n) (hc : ∀ j b, l[j]? = some b → w.cell? ⟨g, o + j, none⟩ = some (.int .u8 b.toNat)) : ∀ j, j < n → ∃ b : UInt8, w.cell? ⟨g, o + j, none⟩ = some (.int .u8 b.toNat) := fun j hj =>
  ⟨_, hc j _ (List.getElem?_eq_getElem (by rw [hn]; exact hj))⟩

/-- What Uvarint hands back, of the bytes l. -/
def UvEnds (w : World) (l : List UInt8) (r : Ending) (w' : World) : Prop :=
  ∃ x k : Int, r = .returned (.tuple #[.int .u64 x, .int .i64 k]) ∧ w = w' ∧ (1 ≤ (Lib.uvarintDec l).2 → x = (Lib.uvarintDec l).1 ∧ k = (Lib.uvarintDec l).2) ∧ ((Lib.uvarintDec l).2 < 1 → x = 0 ∧ k < 1)

theorem uv_good {w : World} {l : List UInt8} {X K : Int} {N : Nat} {K' : Int} {f : FuncId} {args : Array Value} (h : Calls Tryz.prog f args w (Two w fun x m => x = X ∧ m = K)) (hd : Lib.uvarintDec l = (N, K')) (hX : X = (N : Int)) (hK : K' = K ∧ 1 ≤ K) : Calls Tryz.prog f args w (UvEnds w l) :=
  h.mono fun r w' ⟨x, k, hr, ⟨hx, hk⟩, hw⟩ => ⟨x, k, hr, hw, fun _ => by rw [hd]; exact ⟨hx.trans hX, hk.trans hK.1.symm⟩, fun h1 => by rw [hd] at h1; have h2 : K' < 1 := h1; omega⟩
theorem uv_bad {w : World} {l : List UInt8} {f : FuncId} {args : Array Value} (h : Calls Tryz.prog f args w (Two w fun x m => x = 0 ∧ m ≤ 0)) (hd : (Lib.uvarintDec l).2 < 1) : Calls Tryz.prog f args w (UvEnds w l) :=
  h.mono fun r w' ⟨x, k, hr, ⟨hx, hk⟩, hw⟩ => ⟨x, k, hr, hw, fun h1 => by omega, fun _ => ⟨hx, by omega⟩⟩

theorem ud0 (b0 : UInt8) (r : List UInt8)  (t0 : b0.toNat < 128) : Lib.uvarintDec (b0 :: r) = (0 + b0.toNat * 1, ((0 : Nat) : Int) + 1) := by
  rw [Lib.uvarintDec, from_end (i := 0) 1 (by decide) (by decide) t0 (fun h => absurd h (by decide))]
theorem ux0 (b0 : UInt8) : (b0.toNat : Int) = ((0 + b0.toNat * 1 : Nat) : Int) := by omega
theorem ud1 (b0 b1 : UInt8) (r : List UInt8) (s0 : 128 ≤ b0.toNat) (t1 : b1.toNat < 128) : Lib.uvarintDec (b0 :: b1 :: r) = (0 + b0.toNat % 128 * 1 + b1.toNat * 128, ((1 : Nat) : Int) + 1) := by
  rw [Lib.uvarintDec, from_cont (i := 0) 1 (by decide) (by decide) s0, from_end (i := 1) 128 (by decide) (by decide) t1 (fun h => absurd h (by decide))]
theorem ux1 (b0 b1 : UInt8) : ((b0.toNat : Int) % 128) + (b1.toNat : Int) * 128 = ((0 + b0.toNat % 128 * 1 + b1.toNat * 128 : Nat) : Int) := by omega
theorem ud2 (b0 b1 b2 : UInt8) (r : List UInt8) (s0 : 128 ≤ b0.toNat) (s1 : 128 ≤ b1.toNat) (t2 : b2.toNat < 128) : Lib.uvarintDec (b0 :: b1 :: b2 :: r) = (0 + b0.toNat % 128 * 1 + b1.toNat % 128 * 128 + b2.toNat * 16384, ((2 : Nat) : Int) + 1) := by
  rw [Lib.uvarintDec, from_cont (i := 0) 1 (by decide) (by decide) s0, from_cont (i := 1) 128 (by decide) (by decide) s1, from_end (i := 2) 16384 (by decide) (by decide) t2 (fun h => absurd h (by decide))]
theorem ux2 (b0 b1 b2 : UInt8) : ((b0.toNat : Int) % 128) + ((b1.toNat : Int) % 128) * 128 + (b2.toNat : Int) * 16384 = ((0 + b0.toNat % 128 * 1 + b1.toNat % 128 * 128 + b2.toNat * 16384 : Nat) : Int) := by omega
theorem ud3 (b0 b1 b2 b3 : UInt8) (r : List UInt8) (s0 : 128 ≤ b0.toNat) (s1 : 128 ≤ b1.toNat) (s2 : 128 ≤ b2.toNat) (t3 : b3.toNat < 128) : Lib.uvarintDec (b0 :: b1 :: b2 :: b3 :: r) = (0 + b0.toNat % 128 * 1 + b1.toNat % 128 * 128 + b2.toNat % 128 * 16384 + b3.toNat * 2097152, ((3 : Nat) : Int) + 1) := by
  rw [Lib.uvarintDec, from_cont (i := 0) 1 (by decide) (by decide) s0, from_cont (i := 1) 128 (by decide) (by decide) s1, from_cont (i := 2) 16384 (by decide) (by decide) s2, from_end (i := 3) 2097152 (by decide) (by decide) t3 (fun h => absurd h (by decide))]
theorem ux3 (b0 b1 b2 b3 : UInt8) : ((b0.toNat : Int) % 128) + ((b1.toNat : Int) % 128) * 128 + ((b2.toNat : Int) % 128) * 16384 + (b3.toNat : Int) * 2097152 = ((0 + b0.toNat % 128 * 1 + b1.toNat % 128 * 128 + b2.toNat % 128 * 16384 + b3.toNat * 2097152 : Nat) : Int) := by omega
theorem ud4 (b0 b1 b2 b3 b4 : UInt8) (r : List UInt8) (s0 : 128 ≤ b0.toNat) (s1 : 128 ≤ b1.toNat) (s2 : 128 ≤ b2.toNat) (s3 : 128 ≤ b3.toNat) (t4 : b4.toNat < 128) : Lib.uvarintDec (b0 :: b1 :: b2 :: b3 :: b4 :: r) = (0 + b0.toNat % 128 * 1 + b1.toNat % 128 * 128 + b2.toNat % 128 * 16384 + b3.toNat % 128 * 2097152 + b4.toNat * 268435456, ((4 : Nat) : Int) + 1) := by
  rw [Lib.uvarintDec, from_cont (i := 0) 1 (by decide) (by decide) s0, from_cont (i := 1) 128 (by decide) (by decide) s1, from_cont (i := 2) 16384 (by decide) (by decide) s2, from_cont (i := 3) 2097152 (by decide) (by decide) s3, from_end (i := 4) 268435456 (by decide) (by decide) t4 (fun h => absurd h (by decide))]
theorem ux4 (b0 b1 b2 b3 b4 : UInt8) : ((b0.toNat : Int) % 128) + ((b1.toNat : Int) % 128) * 128 + ((b2.toNat : Int) % 128) * 16384 + ((b3.toNat : Int) % 128) * 2097152 + (b4.toNat : Int) * 268435456 = ((0 + b0.toNat % 128 * 1 + b1.toNat % 128 * 128 + b2.toNat % 128 * 16384 + b3.toNat % 128 * 2097152 + b4.toNat * 268435456 : Nat) : Int) := by omega
theorem ud5 (b0 b1 b2 b3 b4 b5 : UInt8) (r : List UInt8) (s0 : 128 ≤ b0.toNat) (s1 : 128 ≤ b1.toNat) (s2 : 128 ≤ b2.toNat) (s3 : 128 ≤ b3.toNat) (s4 : 128 ≤ b4.toNat) (t5 : b5.toNat < 128) : Lib.uvarintDec (b0 :: b1 :: b2 :: b3 :: b4 :: b5 :: r) = (0 + b0.toNat % 128 * 1 + b1.toNat % 128 * 128 + b2.toNat % 128 * 16384 + b3.toNat % 128 * 2097152 + b4.toNat % 128 * 268435456 + b5.toNat * 34359738368, ((5 : Nat) : Int) + 1) := by
  rw [Lib.uvarintDec, from_cont (i := 0) 1 (by decide) (by decide) s0, from_cont (i := 1) 128 (by decide) (by decide) s1, from_cont (i := 2) 16384 (by decide) (by decide) s2, from_cont (i := 3) 2097152 (by decide) (by decide) s3, from_cont (i := 4) 268435456 (by decide) (by decide) s4, from_end (i := 5) 34359738368 (by decide) (by decide) t5 (fun h => absurd h (by decide))]
theorem ux5 (b0 b1 b2 b3 b4 b5 : UInt8) : ((b0.toNat : Int) % 128) + ((b1.toNat : Int) % 128) * 128 + ((b2.toNat : Int) % 128) * 16384 + ((b3.toNat : Int) % 128) * 2097152 + ((b4.toNat : Int) % 128) * 268435456 + (b5.toNat : Int) * 34359738368 = ((0 + b0.toNat % 128 * 1 + b1.toNat % 128 * 128 + b2.toNat % 128 * 16384 + b3.toNat % 128 * 2097152 + b4.toNat % 128 * 268435456 + b5.toNat * 34359738368 : Nat) : Int) := by omega
theorem ud6 (b0 b1 b2 b3 b4 b5 b6 : UInt8) (r : List UInt8) (s0 : 128 ≤ b0.toNat) (s1 : 128 ≤ b1.toNat) (s2 : 128 ≤ b2.toNat) (s3 : 128 ≤ b3.toNat) (s4 : 128 ≤ b4.toNat) (s5 : 128 ≤ b5.toNat) (t6 : b6.toNat < 128) : Lib.uvarintDec (b0 :: b1 :: b2 :: b3 :: b4 :: b5 :: b6 :: r) = (0 + b0.toNat % 128 * 1 + b1.toNat % 128 * 128 + b2.toNat % 128 * 16384 + b3.toNat % 128 * 2097152 + b4.toNat % 128 * 268435456 + b5.toNat % 128 * 34359738368 + b6.toNat * 4398046511104, ((6 : Nat) : Int) + 1) := by
  rw [Lib.uvarintDec, from_cont (i := 0) 1 (by decide) (by decide) s0, from_cont (i := 1) 128 (by decide) (by decide) s1, from_cont (i := 2) 16384 (by decide) (by decide) s2, from_cont (i := 3) 2097152 (by decide) (by decide) s3, from_cont (i := 4) 268435456 (by decide) (by decide) s4, from_cont (i := 5) 34359738368 (by decide) (by decide) s5, from_end (i := 6) 4398046511104 (by decide) (by decide) t6 (fun h => absurd h (by decide))]
theorem ux6 (b0 b1 b2 b3 b4 b5 b6 : UInt8) : ((b0.toNat : Int) % 128) + ((b1.toNat : Int) % 128) * 128 + ((b2.toNat : Int) % 128) * 16384 + ((b3.toNat : Int) % 128) * 2097152 + ((b4.toNat : Int) % 128) * 268435456 + ((b5.toNat : Int) % 128) * 34359738368 + (b6.toNat : Int) * 4398046511104 = ((0 + b0.toNat % 128 * 1 + b1.toNat % 128 * 128 + b2.toNat % 128 * 16384 + b3.toNat % 128 * 2097152 + b4.toNat % 128 * 268435456 + b5.toNat % 128 * 34359738368 + b6.toNat * 4398046511104 : Nat) : Int) := by omega
theorem ud7 (b0 b1 b2 b3 b4 b5 b6 b7 : UInt8) (r : List UInt8) (s0 : 128 ≤ b0.toNat) (s1 : 128 ≤ b1.toNat) (s2 : 128 ≤ b2.toNat) (s3 : 128 ≤ b3.toNat) (s4 : 128 ≤ b4.toNat) (s5 : 128 ≤ b5.toNat) (s6 : 128 ≤ b6.toNat) (t7 : b7.toNat < 128) : Lib.uvarintDec (b0 :: b1 :: b2 :: b3 :: b4 :: b5 :: b6 :: b7 :: r) = (0 + b0.toNat % 128 * 1 + b1.toNat % 128 * 128 + b2.toNat % 128 * 16384 + b3.toNat % 128 * 2097152 + b4.toNat % 128 * 268435456 + b5.toNat % 128 * 34359738368 + b6.toNat % 128 * 4398046511104 + b7.toNat * 562949953421312, ((7 : Nat) : Int) + 1) := by
  rw [Lib.uvarintDec, from_cont (i := 0) 1 (by decide) (by decide) s0, from_cont (i := 1) 128 (by decide) (by decide) s1, from_cont (i := 2) 16384 (by decide) (by decide) s2, from_cont (i := 3) 2097152 (by decide) (by decide) s3, from_cont (i := 4) 268435456 (by decide) (by decide) s4, from_cont (i := 5) 34359738368 (by decide) (by decide) s5, from_cont (i := 6) 4398046511104 (by decide) (by decide) s6, from_end (i := 7) 562949953421312 (by decide) (by decide) t7 (fun h => absurd h (by decide))]
theorem ux7 (b0 b1 b2 b3 b4 b5 b6 b7 : UInt8) : ((b0.toNat : Int) % 128) + ((b1.toNat : Int) % 128) * 128 + ((b2.toNat : Int) % 128) * 16384 + ((b3.toNat : Int) % 128) * 2097152 + ((b4.toNat : Int) % 128) * 268435456 + ((b5.toNat : Int) % 128) * 34359738368 + ((b6.toNat : Int) % 128) * 4398046511104 + (b7.toNat : Int) * 562949953421312 = ((0 + b0.toNat % 128 * 1 + b1.toNat % 128 * 128 + b2.toNat % 128 * 16384 + b3.toNat % 128 * 2097152 + b4.toNat % 128 * 268435456 + b5.toNat % 128 * 34359738368 + b6.toNat % 128 * 4398046511104 + b7.toNat * 562949953421312 : Nat) : Int) := by omega
theorem ud8 (b0 b1 b2 b3 b4 b5 b6 b7 b8 : UInt8) (r : List UInt8) (s0 : 128 ≤ b0.toNat) (s1 : 128 ≤ b1.toNat) (s2 : 128 ≤ b2.toNat) (s3 : 128 ≤ b3.toNat) (s4 : 128 ≤ b4.toNat) (s5 : 128 ≤ b5.toNat) (s6 : 128 ≤ b6.toNat) (s7 : 128 ≤ b7.toNat) (t8 : b8.toNat < 128) : Lib.uvarintDec (b0 :: b1 :: b2 :: b3 :: b4 :: b5 :: b6 :: b7 :: b8 :: r) = (0 + b0.toNat % 128 * 1 + b1.toNat % 128 * 128 + b2.toNat % 128 * 16384 + b3.toNat % 128 * 2097152 + b4.toNat % 128 * 268435456 + b5.toNat % 128 * 34359738368 + b6.toNat % 128 * 4398046511104 + b7.toNat % 128 * 562949953421312 + b8.toNat * 72057594037927936, ((8 : Nat) : Int) + 1) := by
  rw [Lib.uvarintDec, from_cont (i := 0) 1 (by decide) (by decide) s0, from_cont (i := 1) 128 (by decide) (by decide) s1, from_cont (i := 2) 16384 (by decide) (by decide) s2, from_cont (i := 3) 2097152 (by decide) (by decide) s3, from_cont (i := 4) 268435456 (by decide) (by decide) s4, from_cont (i := 5) 34359738368 (by decide) (by decide) s5, from_cont (i := 6) 4398046511104 (by decide) (by decide) s6, from_cont (i := 7) 562949953421312 (by decide) (by decide) s7, from_end (i := 8) 72057594037927936 (by decide) (by decide) t8 (fun h => absurd h (by decide))]
theorem ux8 (b0 b1 b2 b3 b4 b5 b6 b7 b8 : UInt8) : ((b0.toNat : Int) % 128) + ((b1.toNat : Int) % 128) * 128 + ((b2.toNat : Int) % 128) * 16384 + ((b3.toNat : Int) % 128) * 2097152 + ((b4.toNat : Int) % 128) * 268435456 + ((b5.toNat : Int) % 128) * 34359738368 + ((b6.toNat : Int) % 128) * 4398046511104 + ((b7.toNat : Int) % 128) * 562949953421312 + (b8.toNat : Int) * 72057594037927936 = ((0 + b0.toNat % 128 * 1 + b1.toNat % 128 * 128 + b2.toNat % 128 * 16384 + b3.toNat % 128 * 2097152 + b4.toNat % 128 * 268435456 + b5.toNat % 128 * 34359738368 + b6.toNat % 128 * 4398046511104 + b7.toNat % 128 * 562949953421312 + b8.toNat * 72057594037927936 : Nat) : Int) := by omega
theorem ud9 (b0 b1 b2 b3 b4 b5 b6 b7 b8 b9 : UInt8) (r : List UInt8) (s0 : 128 ≤ b0.toNat) (s1 : 128 ≤ b1.toNat) (s2 : 128 ≤ b2.toNat) (s3 : 128 ≤ b3.toNat) (s4 : 128 ≤ b4.toNat) (s5 : 128 ≤ b5.toNat) (s6 : 128 ≤ b6.toNat) (s7 : 128 ≤ b7.toNat) (s8 : 128 ≤ b8.toNat) (t9 : b9.toNat < 128) (u9 : b9.toNat ≤ 1) : Lib.uvarintDec (b0 :: b1 :: b2 :: b3 :: b4 :: b5 :: b6 :: b7 :: b8 :: b9 :: r) = (0 + b0.toNat % 128 * 1 + b1.toNat % 128 * 128 + b2.toNat % 128 * 16384 + b3.toNat % 128 * 2097152 + b4.toNat % 128 * 268435456 + b5.toNat % 128 * 34359738368 + b6.toNat % 128 * 4398046511104 + b7.toNat % 128 * 562949953421312 + b8.toNat % 128 * 72057594037927936 + b9.toNat * 9223372036854775808, ((9 : Nat) : Int) + 1) := by
  rw [Lib.uvarintDec, from_cont (i := 0) 1 (by decide) (by decide) s0, from_cont (i := 1) 128 (by decide) (by decide) s1, from_cont (i := 2) 16384 (by decide) (by decide) s2, from_cont (i := 3) 2097152 (by decide) (by decide) s3, from_cont (i := 4) 268435456 (by decide) (by decide) s4, from_cont (i := 5) 34359738368 (by decide) (by decide) s5, from_cont (i := 6) 4398046511104 (by decide) (by decide) s6, from_cont (i := 7) 562949953421312 (by decide) (by decide) s7, from_cont (i := 8) 72057594037927936 (by decide) (by decide) s8, from_end (i := 9) 9223372036854775808 (by decide) (by decide) t9 (fun _ => u9)]
theorem ux9 (b0 b1 b2 b3 b4 b5 b6 b7 b8 b9 : UInt8) : ((b0.toNat : Int) % 128) + ((b1.toNat : Int) % 128) * 128 + ((b2.toNat : Int) % 128) * 16384 + ((b3.toNat : Int) % 128) * 2097152 + ((b4.toNat : Int) % 128) * 268435456 + ((b5.toNat : Int) % 128) * 34359738368 + ((b6.toNat : Int) % 128) * 4398046511104 + ((b7.toNat : Int) % 128) * 562949953421312 + ((b8.toNat : Int) % 128) * 72057594037927936 + (b9.toNat : Int) * 9223372036854775808 = ((0 + b0.toNat % 128 * 1 + b1.toNat % 128 * 128 + b2.toNat % 128 * 16384 + b3.toNat % 128 * 2097152 + b4.toNat % 128 * 268435456 + b5.toNat % 128 * 34359738368 + b6.toNat % 128 * 4398046511104 + b7.toNat % 128 * 562949953421312 + b8.toNat % 128 * 72057594037927936 + b9.toNat * 9223372036854775808 : Nat) : Int) := by omega
theorem ue1 (b0 : UInt8) (s0 : 128 ≤ b0.toNat) : (Lib.uvarintDec (b0 :: [])).2 < 1 := by
  rw [Lib.uvarintDec, from_cont (i := 0) 1 (by decide) (by decide) s0, Lib.uvarintFrom]
  decide
theorem ue2 (b0 b1 : UInt8) (s0 : 128 ≤ b0.toNat) (s1 : 128 ≤ b1.toNat) : (Lib.uvarintDec (b0 :: b1 :: [])).2 < 1 := by
  rw [Lib.uvarintDec, from_cont (i := 0) 1 (by decide) (by decide) s0, from_cont (i := 1) 128 (by decide) (by decide) s1, Lib.uvarintFrom]
  decide
theorem ue3 (b0 b1 b2 : UInt8) (s0 : 128 ≤ b0.toNat) (s1 : 128 ≤ b1.toNat) (s2 : 128 ≤ b2.toNat) : (Lib.uvarintDec (b0 :: b1 :: b2 :: [])).2 < 1 := by
  rw [Lib.uvarintDec, from_cont (i := 0) 1 (by decide) (by decide) s0, from_cont (i := 1) 128 (by decide) (by decide) s1, from_cont (i := 2) 16384 (by decide) (by decide) s2, Lib.uvarintFrom]
  decide
theorem ue4 (b0 b1 b2 b3 : UInt8) (s0 : 128 ≤ b0.toNat) (s1 : 128 ≤ b1.toNat) (s2 : 128 ≤ b2.toNat) (s3 : 128 ≤ b3.toNat) : (Lib.uvarintDec (b0 :: b1 :: b2 :: b3 :: [])).2 < 1 := by
  rw [Lib.uvarintDec, from_cont (i := 0) 1 (by decide) (by decide) s0, from_cont (i := 1) 128 (by decide) (by decide) s1, from_cont (i := 2) 16384 (by decide) (by decide) s2, from_cont (i := 3) 2097152 (by decide) (by decide) s3, Lib.uvarintFrom]
  decide
theorem ue5 (b0 b1 b2 b3 b4 : UInt8) (s0 : 128 ≤ b0.toNat) (s1 : 128 ≤ b1.toNat) (s2 : 128 ≤ b2.toNat) (s3 : 128 ≤ b3.toNat) (s4 : 128 ≤ b4.toNat) : (Lib.uvarintDec (b0 :: b1 :: b2 :: b3 :: b4 :: [])).2 < 1 := by
  rw [Lib.uvarintDec, from_cont (i := 0) 1 (by decide) (by decide) s0, from_cont (i := 1) 128 (by decide) (by decide) s1, from_cont (i := 2) 16384 (by decide) (by decide) s2, from_cont (i := 3) 2097152 (by decide) (by decide) s3, from_cont (i := 4) 268435456 (by decide) (by decide) s4, Lib.uvarintFrom]
  decide
theorem ue6 (b0 b1 b2 b3 b4 b5 : UInt8) (s0 : 128 ≤ b0.toNat) (s1 : 128 ≤ b1.toNat) (s2 : 128 ≤ b2.toNat) (s3 : 128 ≤ b3.toNat) (s4 : 128 ≤ b4.toNat) (s5 : 128 ≤ b5.toNat) : (Lib.uvarintDec (b0 :: b1 :: b2 :: b3 :: b4 :: b5 :: [])).2 < 1 := by
  rw [Lib.uvarintDec, from_cont (i := 0) 1 (by decide) (by decide) s0, from_cont (i := 1) 128 (by decide) (by decide) s1, from_cont (i := 2) 16384 (by decide) (by decide) s2, from_cont (i := 3) 2097152 (by decide) (by decide) s3, from_cont (i := 4) 268435456 (by decide) (by decide) s4, from_cont (i := 5) 34359738368 (by decide) (by decide) s5, Lib.uvarintFrom]
  decide
theorem ue7 (b0 b1 b2 b3 b4 b5 b6 : UInt8) (s0 : 128 ≤ b0.toNat) (s1 : 128 ≤ b1.toNat) (s2 : 128 ≤ b2.toNat) (s3 : 128 ≤ b3.toNat) (s4 : 128 ≤ b4.toNat) (s5 : 128 ≤ b5.toNat) (s6 : 128 ≤ b6.toNat) : (Lib.uvarintDec (b0 :: b1 :: b2 :: b3 :: b4 :: b5 :: b6 :: [])).2 < 1 := by
  rw [Lib.uvarintDec, from_cont (i := 0) 1 (by decide) (by decide) s0, from_cont (i := 1) 128 (by decide) (by decide) s1, from_cont (i := 2) 16384 (by decide) (by decide) s2, from_cont (i := 3) 2097152 (by decide) (by decide) s3, from_cont (i := 4) 268435456 (by decide) (by decide) s4, from_cont (i := 5) 34359738368 (by decide) (by decide) s5, from_cont (i := 6) 4398046511104 (by decide) (by decide) s6, Lib.uvarintFrom]
  decide
theorem ue8 (b0 b1 b2 b3 b4 b5 b6 b7 : UInt8) (s0 : 128 ≤ b0.toNat) (s1 : 128 ≤ b1.toNat) (s2 : 128 ≤ b2.toNat) (s3 : 128 ≤ b3.toNat) (s4 : 128 ≤ b4.toNat) (s5 : 128 ≤ b5.toNat) (s6 : 128 ≤ b6.toNat) (s7 : 128 ≤ b7.toNat) : (Lib.uvarintDec (b0 :: b1 :: b2 :: b3 :: b4 :: b5 :: b6 :: b7 :: [])).2 < 1 := by
  rw [Lib.uvarintDec, from_cont (i := 0) 1 (by decide) (by decide) s0, from_cont (i := 1) 128 (by decide) (by decide) s1, from_cont (i := 2) 16384 (by decide) (by decide) s2, from_cont (i := 3) 2097152 (by decide) (by decide) s3, from_cont (i := 4) 268435456 (by decide) (by decide) s4, from_cont (i := 5) 34359738368 (by decide) (by decide) s5, from_cont (i := 6) 4398046511104 (by decide) (by decide) s6, from_cont (i := 7) 562949953421312 (by decide) (by decide) s7, Lib.uvarintFrom]
  decide
theorem ue9 (b0 b1 b2 b3 b4 b5 b6 b7 b8 : UInt8) (s0 : 128 ≤ b0.toNat) (s1 : 128 ≤ b1.toNat) (s2 : 128 ≤ b2.toNat) (s3 : 128 ≤ b3.toNat) (s4 : 128 ≤ b4.toNat) (s5 : 128 ≤ b5.toNat) (s6 : 128 ≤ b6.toNat) (s7 : 128 ≤ b7.toNat) (s8 : 128 ≤ b8.toNat) : (Lib.uvarintDec (b0 :: b1 :: b2 :: b3 :: b4 :: b5 :: b6 :: b7 :: b8 :: [])).2 < 1 := by
  rw [Lib.uvarintDec, from_cont (i := 0) 1 (by decide) (by decide) s0, from_cont (i := 1) 128 (by decide) (by decide) s1, from_cont (i := 2) 16384 (by decide) (by decide) s2, from_cont (i := 3) 2097152 (by decide) (by decide) s3, from_cont (i := 4) 268435456 (by decide) (by decide) s4, from_cont (i := 5) 34359738368 (by decide) (by decide) s5, from_cont (i := 6) 4398046511104 (by decide) (by decide) s6, from_cont (i := 7) 562949953421312 (by decide) (by decide) s7, from_cont (i := 8) 72057594037927936 (by decide) (by decide) s8, Lib.uvarintFrom]
  decide
theorem uover (b0 b1 b2 b3 b4 b5 b6 b7 b8 b9 : UInt8) (r : List UInt8) (s0 : 128 ≤ b0.toNat) (s1 : 128 ≤ b1.toNat) (s2 : 128 ≤ b2.toNat) (s3 : 128 ≤ b3.toNat) (s4 : 128 ≤ b4.toNat) (s5 : 128 ≤ b5.toNat) (s6 : 128 ≤ b6.toNat) (s7 : 128 ≤ b7.toNat) (s8 : 128 ≤ b8.toNat) (t9 : b9.toNat < 128) (u9 : 1 < b9.toNat) : (Lib.uvarintDec (b0 :: b1 :: b2 :: b3 :: b4 :: b5 :: b6 :: b7 :: b8 :: b9 :: r)).2 < 1 := by
  rw [Lib.uvarintDec, from_cont (i := 0) 1 (by decide) (by decide) s0, from_cont (i := 1) 128 (by decide) (by decide) s1, from_cont (i := 2) 16384 (by decide) (by decide) s2, from_cont (i := 3) 2097152 (by decide) (by decide) s3, from_cont (i := 4) 268435456 (by decide) (by decide) s4, from_cont (i := 5) 34359738368 (by decide) (by decide) s5, from_cont (i := 6) 4398046511104 (by decide) (by decide) s6, from_cont (i := 7) 562949953421312 (by decide) (by decide) s7, from_cont (i := 8) 72057594037927936 (by decide) (by decide) s8, from_over t9 u9]
  decide
theorem uten (b0 b1 b2 b3 b4 b5 b6 b7 b8 b9 : UInt8) (r : List UInt8) (s0 : 128 ≤ b0.toNat) (s1 : 128 ≤ b1.toNat) (s2 : 128 ≤ b2.toNat) (s3 : 128 ≤ b3.toNat) (s4 : 128 ≤ b4.toNat) (s5 : 128 ≤ b5.toNat) (s6 : 128 ≤ b6.toNat) (s7 : 128 ≤ b7.toNat) (s8 : 128 ≤ b8.toNat) (s9 : 128 ≤ b9.toNat) : (Lib.uvarintDec (b0 :: b1 :: b2 :: b3 :: b4 :: b5 :: b6 :: b7 :: b8 :: b9 :: r)).2 < 1 := by
  rw [Lib.uvarintDec, from_cont (i := 0) 1 (by decide) (by decide) s0, from_cont (i := 1) 128 (by decide) (by decide) s1, from_cont (i := 2) 16384 (by decide) (by decide) s2, from_cont (i := 3) 2097152 (by decide) (by decide) s3, from_cont (i := 4) 268435456 (by decide) (by decide) s4, from_cont (i := 5) 34359738368 (by decide) (by decide) s5, from_cont (i := 6) 4398046511104 (by decide) (by decide) s6, from_cont (i := 7) 562949953421312 (by decide) (by decide) s7, from_cont (i := 8) 72057594037927936 (by decide) (by decide) s8, from_cont (i := 9) 9223372036854775808 (by decide) (by decide) s9]
  exact from_ten _
set_option maxRecDepth 100000 in
set_option maxHeartbeats 4000000 in
theorem uvAny (g o n c : Nat) (w : World) (l : List UInt8) (hn : l.length = n) (hnc : n ≤ c) (hm : c ≤ 9223372036854775807) (hc : ∀ j b, l[j]? = some b → w.cell? ⟨g, o + j, none⟩ = some (.int .u8 b.toNat)) :
    Calls Tryz.prog 231 #[.slice (some ⟨g, o, none⟩) n c] w (UvEnds w l) := by
  have hm' : n ≤ 9223372036854775807 := Nat.le_trans hnc hm
  rcases l with _ | ⟨b0, l1⟩
  · obtain rfl : n = 0 := by simpa using hn.symm
    exact uv_bad (uvE0 _ _ _) (by decide)
  · have h0 := hc 0 b0 rfl
    simp only [Nat.add_zero] at h0
    have n0 : 0 < n := by rw [← hn]; simp only [List.length_cons]; omega
    by_cases t0 : b0.toNat < 128
    · by_cases hf : 10 ≤ n
      · exact uv_good (uvF0 g o n c b0 w h0 hf hm'  (Int.ofNat_lt.2 t0)) (ud0 b0 _  t0) (ux0 b0) (by decide)
      · exact uv_good (uvS0 g o n c b0 w h0 (Nat.lt_of_not_le hf) n0  (Int.ofNat_lt.2 t0)) (ud0 b0 _  t0) (ux0 b0) (by decide)
    · have s0 : 128 ≤ b0.toNat := Nat.le_of_not_lt t0
      have c0 : (128 : Int) ≤ b0.toNat := Int.ofNat_le.2 s0
      rcases l1 with _ | ⟨b1, l2⟩
      · have e : n = 1 := hn.symm
        exact uv_bad (uvE1 g o n c b0 w h0 (Nat.le_of_eq e) (Nat.le_of_eq e.symm) c0) (ue1 b0 s0)
      · have h1 := hc 1 b1 rfl
        have n1 : 1 < n := by rw [← hn]; simp only [List.length_cons]; omega
        by_cases t1 : b1.toNat < 128
        · by_cases hf : 10 ≤ n
          · exact uv_good (uvF1 g o n c b0 b1 w h0 h1 hf hm' c0 (Int.ofNat_lt.2 t1)) (ud1 b0 b1 _ s0 t1) (ux1 b0 b1) (by decide)
          · exact uv_good (uvS1 g o n c b0 b1 w h0 h1 (Nat.lt_of_not_le hf) n1 c0 (Int.ofNat_lt.2 t1)) (ud1 b0 b1 _ s0 t1) (ux1 b0 b1) (by decide)
        · have s1 : 128 ≤ b1.toNat := Nat.le_of_not_lt t1
          have c1 : (128 : Int) ≤ b1.toNat := Int.ofNat_le.2 s1
          rcases l2 with _ | ⟨b2, l3⟩
          · have e : n = 2 := hn.symm
            exact uv_bad (uvE2 g o n c b0 b1 w h0 h1 (Nat.le_of_eq e) (Nat.le_of_eq e.symm) c0 c1) (ue2 b0 b1 s0 s1)
          · have h2 := hc 2 b2 rfl
            have n2 : 2 < n := by rw [← hn]; simp only [List.length_cons]; omega
            by_cases t2 : b2.toNat < 128
            · by_cases hf : 10 ≤ n
              · exact uv_good (uvF2 g o n c b0 b1 b2 w h0 h1 h2 hf hm' c0 c1 (Int.ofNat_lt.2 t2)) (ud2 b0 b1 b2 _ s0 s1 t2) (ux2 b0 b1 b2) (by decide)
              · exact uv_good (uvS2 g o n c b0 b1 b2 w h0 h1 h2 (Nat.lt_of_not_le hf) n2 c0 c1 (Int.ofNat_lt.2 t2)) (ud2 b0 b1 b2 _ s0 s1 t2) (ux2 b0 b1 b2) (by decide)
            · have s2 : 128 ≤ b2.toNat := Nat.le_of_not_lt t2
              have c2 : (128 : Int) ≤ b2.toNat := Int.ofNat_le.2 s2
              rcases l3 with _ | ⟨b3, l4⟩
              · have e : n = 3 := hn.symm
                exact uv_bad (uvE3 g o n c b0 b1 b2 w h0 h1 h2 (Nat.le_of_eq e) (Nat.le_of_eq e.symm) c0 c1 c2) (ue3 b0 b1 b2 s0 s1 s2)
              · have h3 := hc 3 b3 rfl
                have n3 : 3 < n := by rw [← hn]; simp only [List.length_cons]; omega
                by_cases t3 : b3.toNat < 128
                · by_cases hf : 10 ≤ n
                  · exact uv_good (uvF3 g o n c b0 b1 b2 b3 w h0 h1 h2 h3 hf hm' c0 c1 c2 (Int.ofNat_lt.2 t3)) (ud3 b0 b1 b2 b3 _ s0 s1 s2 t3) (ux3 b0 b1 b2 b3) (by decide)
                  · exact uv_good (uvS3 g o n c b0 b1 b2 b3 w h0 h1 h2 h3 (Nat.lt_of_not_le hf) n3 c0 c1 c2 (Int.ofNat_lt.2 t3)) (ud3 b0 b1 b2 b3 _ s0 s1 s2 t3) (ux3 b0 b1 b2 b3) (by decide)
                · have s3 : 128 ≤ b3.toNat := Nat.le_of_not_lt t3
                  have c3 : (128 : Int) ≤ b3.toNat := Int.ofNat_le.2 s3
                  rcases l4 with _ | ⟨b4, l5⟩
                  · have e : n = 4 := hn.symm
                    exact uv_bad (uvE4 g o n c b0 b1 b2 b3 w h0 h1 h2 h3 (Nat.le_of_eq e) (Nat.le_of_eq e.symm) c0 c1 c2 c3) (ue4 b0 b1 b2 b3 s0 s1 s2 s3)
                  · have h4 := hc 4 b4 rfl
                    have n4 : 4 < n := by rw [← hn]; simp only [List.length_cons]; omega
                    by_cases t4 : b4.toNat < 128
                    · by_cases hf : 10 ≤ n
                      · exact uv_good (uvF4 g o n c b0 b1 b2 b3 b4 w h0 h1 h2 h3 h4 hf hm' c0 c1 c2 c3 (Int.ofNat_lt.2 t4)) (ud4 b0 b1 b2 b3 b4 _ s0 s1 s2 s3 t4) (ux4 b0 b1 b2 b3 b4) (by decide)
                      · exact uv_good (uvS4 g o n c b0 b1 b2 b3 b4 w h0 h1 h2 h3 h4 (Nat.lt_of_not_le hf) n4 c0 c1 c2 c3 (Int.ofNat_lt.2 t4)) (ud4 b0 b1 b2 b3 b4 _ s0 s1 s2 s3 t4) (ux4 b0 b1 b2 b3 b4) (by decide)
                    · have s4 : 128 ≤ b4.toNat := Nat.le_of_not_lt t4
                      have c4 : (128 : Int) ≤ b4.toNat := Int.ofNat_le.2 s4
                      rcases l5 with _ | ⟨b5, l6⟩
                      · have e : n = 5 := hn.symm
                        exact uv_bad (uvE5 g o n c b0 b1 b2 b3 b4 w h0 h1 h2 h3 h4 (Nat.le_of_eq e) (Nat.le_of_eq e.symm) c0 c1 c2 c3 c4) (ue5 b0 b1 b2 b3 b4 s0 s1 s2 s3 s4)
                      · have h5 := hc 5 b5 rfl
                        have n5 : 5 < n := by rw [← hn]; simp only [List.length_cons]; omega
                        by_cases t5 : b5.toNat < 128
                        · by_cases hf : 10 ≤ n
                          · exact uv_good (uvF5 g o n c b0 b1 b2 b3 b4 b5 w h0 h1 h2 h3 h4 h5 hf hm' c0 c1 c2 c3 c4 (Int.ofNat_lt.2 t5)) (ud5 b0 b1 b2 b3 b4 b5 _ s0 s1 s2 s3 s4 t5) (ux5 b0 b1 b2 b3 b4 b5) (by decide)
                          · exact uv_good (uvS5 g o n c b0 b1 b2 b3 b4 b5 w h0 h1 h2 h3 h4 h5 (Nat.lt_of_not_le hf) n5 c0 c1 c2 c3 c4 (Int.ofNat_lt.2 t5)) (ud5 b0 b1 b2 b3 b4 b5 _ s0 s1 s2 s3 s4 t5) (ux5 b0 b1 b2 b3 b4 b5) (by decide)
                        · have s5 : 128 ≤ b5.toNat := Nat.le_of_not_lt t5
                          have c5 : (128 : Int) ≤ b5.toNat := Int.ofNat_le.2 s5
                          rcases l6 with _ | ⟨b6, l7⟩
                          · have e : n = 6 := hn.symm
                            exact uv_bad (uvE6 g o n c b0 b1 b2 b3 b4 b5 w h0 h1 h2 h3 h4 h5 (Nat.le_of_eq e) (Nat.le_of_eq e.symm) c0 c1 c2 c3 c4 c5) (ue6 b0 b1 b2 b3 b4 b5 s0 s1 s2 s3 s4 s5)
                          · have h6 := hc 6 b6 rfl
                            have n6 : 6 < n := by rw [← hn]; simp only [List.length_cons]; omega
                            by_cases t6 : b6.toNat < 128
                            · by_cases hf : 10 ≤ n
                              · exact uv_good (uvF6 g o n c b0 b1 b2 b3 b4 b5 b6 w h0 h1 h2 h3 h4 h5 h6 hf hm' c0 c1 c2 c3 c4 c5 (Int.ofNat_lt.2 t6)) (ud6 b0 b1 b2 b3 b4 b5 b6 _ s0 s1 s2 s3 s4 s5 t6) (ux6 b0 b1 b2 b3 b4 b5 b6) (by decide)
                              · exact uv_good (uvS6 g o n c b0 b1 b2 b3 b4 b5 b6 w h0 h1 h2 h3 h4 h5 h6 (Nat.lt_of_not_le hf) n6 c0 c1 c2 c3 c4 c5 (Int.ofNat_lt.2 t6)) (ud6 b0 b1 b2 b3 b4 b5 b6 _ s0 s1 s2 s3 s4 s5 t6) (ux6 b0 b1 b2 b3 b4 b5 b6) (by decide)
                            · have s6 : 128 ≤ b6.toNat := Nat.le_of_not_lt t6
                              have c6 : (128 : Int) ≤ b6.toNat := Int.ofNat_le.2 s6
                              rcases l7 with _ | ⟨b7, l8⟩
                              · have e : n = 7 := hn.symm
                                exact uv_bad (uvE7 g o n c b0 b1 b2 b3 b4 b5 b6 w h0 h1 h2 h3 h4 h5 h6 (Nat.le_of_eq e) (Nat.le_of_eq e.symm) c0 c1 c2 c3 c4 c5 c6) (ue7 b0 b1 b2 b3 b4 b5 b6 s0 s1 s2 s3 s4 s5 s6)
                              · have h7 := hc 7 b7 rfl
                                have n7 : 7 < n := by rw [← hn]; simp only [List.length_cons]; omega
                                by_cases t7 : b7.toNat < 128
                                · by_cases hf : 10 ≤ n
                                  · exact uv_good (uvF7 g o n c b0 b1 b2 b3 b4 b5 b6 b7 w h0 h1 h2 h3 h4 h5 h6 h7 hf hm' c0 c1 c2 c3 c4 c5 c6 (Int.ofNat_lt.2 t7)) (ud7 b0 b1 b2 b3 b4 b5 b6 b7 _ s0 s1 s2 s3 s4 s5 s6 t7) (ux7 b0 b1 b2 b3 b4 b5 b6 b7) (by decide)
                                  · exact uv_good (uvS7 g o n c b0 b1 b2 b3 b4 b5 b6 b7 w h0 h1 h2 h3 h4 h5 h6 h7 (Nat.lt_of_not_le hf) n7 c0 c1 c2 c3 c4 c5 c6 (Int.ofNat_lt.2 t7)) (ud7 b0 b1 b2 b3 b4 b5 b6 b7 _ s0 s1 s2 s3 s4 s5 s6 t7) (ux7 b0 b1 b2 b3 b4 b5 b6 b7) (by decide)
                                · have s7 : 128 ≤ b7.toNat := Nat.le_of_not_lt t7
                                  have c7 : (128 : Int) ≤ b7.toNat := Int.ofNat_le.2 s7
                                  rcases l8 with _ | ⟨b8, l9⟩
                                  · have e : n = 8 := hn.symm
                                    exact uv_bad (uvE8 g o n c b0 b1 b2 b3 b4 b5 b6 b7 w h0 h1 h2 h3 h4 h5 h6 h7 (Nat.le_of_eq e) (Nat.le_of_eq e.symm) c0 c1 c2 c3 c4 c5 c6 c7) (ue8 b0 b1 b2 b3 b4 b5 b6 b7 s0 s1 s2 s3 s4 s5 s6 s7)
                                  · have h8 := hc 8 b8 rfl
                                    have n8 : 8 < n := by rw [← hn]; simp only [List.length_cons]; omega
                                    by_cases t8 : b8.toNat < 128
                                    · by_cases hf : 10 ≤ n
                                      · exact uv_good (uvF8 g o n c b0 b1 b2 b3 b4 b5 b6 b7 b8 w h0 h1 h2 h3 h4 h5 h6 h7 h8 hf hm' c0 c1 c2 c3 c4 c5 c6 c7 (Int.ofNat_lt.2 t8)) (ud8 b0 b1 b2 b3 b4 b5 b6 b7 b8 _ s0 s1 s2 s3 s4 s5 s6 s7 t8) (ux8 b0 b1 b2 b3 b4 b5 b6 b7 b8) (by decide)
                                      · exact uv_good (uvS8 g o n c b0 b1 b2 b3 b4 b5 b6 b7 b8 w h0 h1 h2 h3 h4 h5 h6 h7 h8 (Nat.lt_of_not_le hf) n8 c0 c1 c2 c3 c4 c5 c6 c7 (Int.ofNat_lt.2 t8)) (ud8 b0 b1 b2 b3 b4 b5 b6 b7 b8 _ s0 s1 s2 s3 s4 s5 s6 s7 t8) (ux8 b0 b1 b2 b3 b4 b5 b6 b7 b8) (by decide)
                                    · have s8 : 128 ≤ b8.toNat := Nat.le_of_not_lt t8
                                      have c8 : (128 : Int) ≤ b8.toNat := Int.ofNat_le.2 s8
                                      rcases l9 with _ | ⟨b9, l10⟩
                                      · have e : n = 9 := hn.symm
                                        exact uv_bad (uvE9 g o n c b0 b1 b2 b3 b4 b5 b6 b7 b8 w h0 h1 h2 h3 h4 h5 h6 h7 h8 (Nat.le_of_eq e) (Nat.le_of_eq e.symm) c0 c1 c2 c3 c4 c5 c6 c7 c8) (ue9 b0 b1 b2 b3 b4 b5 b6 b7 b8 s0 s1 s2 s3 s4 s5 s6 s7 s8)
                                      · have h9 := hc 9 b9 rfl
                                        have n9 : 9 < n := by rw [← hn]; simp only [List.length_cons]; omega
                                        by_cases t9 : b9.toNat < 128
                                        · by_cases u9 : b9.toNat ≤ 1
                                          · exact uv_good (uvF9 g o n c b0 b1 b2 b3 b4 b5 b6 b7 b8 b9 w h0 h1 h2 h3 h4 h5 h6 h7 h8 h9 n9 hm' c0 c1 c2 c3 c4 c5 c6 c7 c8 (Int.ofNat_lt.2 t9) (Int.ofNat_le.2 u9)) (ud9 b0 b1 b2 b3 b4 b5 b6 b7 b8 b9 _ s0 s1 s2 s3 s4 s5 s6 s7 s8 t9 u9) (ux9 b0 b1 b2 b3 b4 b5 b6 b7 b8 b9) (by decide)
                                          · exact uv_bad (uvFover g o n c b0 b1 b2 b3 b4 b5 b6 b7 b8 b9 w h0 h1 h2 h3 h4 h5 h6 h7 h8 h9 n9 hm' c0 c1 c2 c3 c4 c5 c6 c7 c8 (Int.ofNat_lt.2 t9) (Int.ofNat_lt.2 (Nat.lt_of_not_le u9))) (uover b0 b1 b2 b3 b4 b5 b6 b7 b8 b9 _ s0 s1 s2 s3 s4 s5 s6 s7 s8 t9 (Nat.lt_of_not_le u9))
                                        · have s9 : 128 ≤ b9.toNat := Nat.le_of_not_lt t9
                                          have c9 : (128 : Int) ≤ b9.toNat := Int.ofNat_le.2 s9
                                          by_cases hf : n ≤ 10
                                          · exact uv_bad (uvFten g o n c b0 b1 b2 b3 b4 b5 b6 b7 b8 b9 w h0 h1 h2 h3 h4 h5 h6 h7 h8 h9 n9 hf c0 c1 c2 c3 c4 c5 c6 c7 c8 c9) (uten b0 b1 b2 b3 b4 b5 b6 b7 b8 b9 _ s0 s1 s2 s3 s4 s5 s6 s7 s8 s9)
                                          · exact uv_bad (uvFlong g o n c w b0 b1 b2 b3 b4 b5 b6 b7 b8 b9 h0 h1 h2 h3 h4 h5 h6 h7 h8 h9 (Nat.lt_of_not_le hf) hnc hm' c0 c1 c2 c3 c4 c5 c6 c7 c8 c9 (Lib.hid (all_cells hn hc))) (uten b0 b1 b2 b3 b4 b5 b6 b7 b8 b9 _ s0 s1 s2 s3 s4 s5 s6 s7 s8 s9)

end Go.Proofs.YtbkookiigkckdaaGreatDoor

/- The Decbuf: its varints, its numbers, its error and its length. -/
namespace Go.Proofs.YtbkookiigkckdaaGreatDoor
open Go.RowKit
set_option linter.unusedVariables false
set_option linter.unusedSimpArgs false

theorem uvFrom_le : ∀ (l : List UInt8) (i acc : Nat), (Lib.uvarintFrom i acc l).2 ≤ i + l.length
  | [], i, acc => by simp only [Lib.uvarintFrom, List.length_nil]; omega
  | b :: r, i, acc => by
    rw [Lib.uvarintFrom]
    have := uvFrom_le r (i + 1) (acc + b.toNat % 128 * 2 ^ (7 * i))
    simp only [List.length_cons]
    repeat' split
    all_goals first | omega | (simp only []; omega)
theorem uvDec_le (l : List UInt8) : (Lib.uvarintDec l).2 ≤ l.length := by have := uvFrom_le l 0 0; rw [Lib.uvarintDec]; omega

def gUv : St → Nat × St
  | some l => if 1 ≤ (Lib.uvarintDec l).2 then ((Lib.uvarintDec l).1, some (l.drop (Lib.uvarintDec l).2.toNat)) else (0, none)
  | none => (0, none)

/-- The world and the values of a Uvarint over a Decbuf's bytes. -/
theorem uv_read {w : World} {g off c n : Nat} {cur : Array Value} {l : List UInt8} (hg : Blk w g 5 cur) (hr : ∀ j u, (bc l)[j]? = some u → cur[off + j]? = some u) (hn : l.length = n) (hl : n ≤ c) (hm : c ≤ 9223372036854775807) :
    Calls Tryz.prog 231 #[.slice (some ⟨g, off, none⟩) n c] w (UvEnds w l) :=
  uvAny g off n c w l hn hl hm (fun j b hb => by
    have := hr j (.int .u8 b.toNat) (by rw [bc_get, hb]; rfl)
    rw [hg.cell, this])

set_option maxHeartbeats 1000000 in
theorem decUv (te : TypeId) (pe : Value) (d g : Nat) (cur : Array Value) (st : St) (w : World) (h : Dec te pe w d g cur st) :
    Calls Tryz.prog 171 #[.pointer (some ⟨d, 0, none⟩)] w (DecEnds te pe w d g cur (.int .u64 (gUv st).1) (gUv st).2) := by
  rcases st with _ | l
  · obtain ⟨rest, h⟩ := h
    have H := Lib.hid h
    obtain ⟨off, c, hb, hg, hl, hm, hr, hE⟩ := h
    have hc1 := hb.cell 1
    simp at hc1
    clear hb hr hg
    go_enter Tryz.func171, Tryz.ntmps171
    go_wp2
    go_ret
    exact ⟨rfl, ⟨_, H.out⟩, Fr.refl _ _⟩
  · have h : DecOk (.iface te pe) w d g cur l .nilIface := h
    have H := Lib.hid h
    obtain ⟨off, c, hb, hg, hl, hm, hr, hE⟩ := h
    obtain ⟨n, hn⟩ : ∃ n, l.length = n := ⟨_, rfl⟩
    rw [hn] at hb hl
    have hc0 := hb.cell 0
    have hc1 := hb.cell 1
    simp at hc0 hc1
    have HB := Lib.hid hb
    have HR := Lib.hid hr
    have HN := Lib.hid hn
    have hP := uv_read (c := c) hg hr hn hl hm.1
    have hle := uvDec_le l
    have hf0 := hb.frozen 0
    have hf1 := hb.frozen 1
    by_cases hk : 1 ≤ (Lib.uvarintDec l).2
    · obtain ⟨k, hK⟩ : ∃ k : Nat, (Lib.uvarintDec l).2 = k := ⟨(Lib.uvarintDec l).2.toNat, by omega⟩
      have hP' : Calls Tryz.prog 231 #[.slice (some ⟨g, off, none⟩) n c] w fun r w' => r = .returned (.tuple #[.int .u64 (Lib.uvarintDec l).1, .int .i64 k]) ∧ w = w' :=
        hP.mono fun r w' ⟨x, y, h1, h2, h3, _⟩ => ⟨by rw [h1, (h3 hk).1, (h3 hk).2, hK], h2⟩
      have hg2 : gUv (some l) = ((Lib.uvarintDec l).1, some (l.drop k)) := by show (if 1 ≤ (Lib.uvarintDec l).2 then ((Lib.uvarintDec l).1, some (l.drop (Lib.uvarintDec l).2.toNat)) else (0, none)) = _; rw [if_pos hk, hK]; rfl
      rw [hg2]
      simp only []
      have hkn : k ≤ n := by omega
      have hk1 : (1 : Int) ≤ (k : Int) := by omega
      obtain ⟨off', ho, hoff⟩ := cut44 g off n c k .i64 k rfl hkn
      have HO := Lib.hid ho
      have HK := Lib.hid hK
      clear hb hr hg hn ho hP hle hk hg2 hK
      generalize (Lib.uvarintDec l).1 = x at hP' ⊢
      go_enter Tryz.func171, Tryz.ntmps171
      go_wp2_with (go_at_call 231; refine hP'.mono ?_; rintro r w' ⟨rfl, rfl⟩)
      go_ret
      exact ⟨rfl, DecOk.cut H.out (Fr.refl _ _) HB.out HR.out HN.out hl ⟨hm.1, HN.out ▸ hm.2⟩ hkn HO.out, Fr.at_ _ _ _ _⟩
    · have hP' : Calls Tryz.prog 231 #[.slice (some ⟨g, off, none⟩) n c] w fun r w' => ∃ y : Int, r = .returned (.tuple #[.int .u64 0, .int .i64 y]) ∧ y < 1 ∧ w = w' :=
        hP.mono fun r w' ⟨x, y, h1, h2, _, h4⟩ => ⟨y, by rw [h1, (h4 (by omega)).1], (h4 (by omega)).2, h2⟩
      have hg2 : gUv (some l) = (0, none) := by show (if 1 ≤ (Lib.uvarintDec l).2 then ((Lib.uvarintDec l).1, some (l.drop (Lib.uvarintDec l).2.toNat)) else (0, none)) = _; rw [if_neg hk]
      rw [hg2]
      simp only []
      clear hb hr hg hn hP hle hk hg2
      go_enter Tryz.func171, Tryz.ntmps171
      go_wp2_with (go_at_call 231; refine hP'.mono ?_; rintro r w' ⟨y, rfl, hy, rfl⟩)
      go_ret
      refine ⟨rfl, ⟨l, H.out.move (Fr.at_ _ _ _ _) (off' := off) (c' := c) ?_ (by rw [HN.out]; exact hl) hm HR.out⟩, Fr.at_ _ _ _ _⟩
      rw [HN.out]
      simpa using HB.out.set_ 1 (Value.iface te pe)

def gVar (st : St) : Int × St := (Lib.unzigzag (gUv st).1, (gUv st).2)

set_option maxHeartbeats 1000000 in
theorem decVar (te : TypeId) (pe : Value) (d g : Nat) (cur : Array Value) (st : St) (w : World) (h : Dec te pe w d g cur st) :
    Calls Tryz.prog 165 #[.pointer (some ⟨d, 0, none⟩)] w (DecEnds te pe w d g cur (.int .i64 (gVar st).1) (gVar st).2) := by
  rcases st with _ | l
  · obtain ⟨rest, h⟩ := h
    have H := Lib.hid h
    obtain ⟨off, c, hb, hg, hl, hm, hr, hE⟩ := h
    have hc1 := hb.cell 1
    simp at hc1
    clear hb hr hg
    go_enter Tryz.func165, Tryz.ntmps165
    go_wp2
    go_ret
    exact ⟨rfl, ⟨_, H.out⟩, Fr.refl _ _⟩
  · have h : DecOk (.iface te pe) w d g cur l .nilIface := h
    have H := Lib.hid h
    obtain ⟨off, c, hb, hg, hl, hm, hr, hE⟩ := h
    obtain ⟨n, hn⟩ : ∃ n, l.length = n := ⟨_, rfl⟩
    rw [hn] at hb hl
    have hc0 := hb.cell 0
    have hc1 := hb.cell 1
    simp at hc0 hc1
    have HB := Lib.hid hb
    have HR := Lib.hid hr
    have HN := Lib.hid hn
    have hP := uv_read (c := c) hg hr hn hl hm.1
    have hle := uvDec_le l
    have hf0 := hb.frozen 0
    have hf1 := hb.frozen 1
    by_cases hk : 1 ≤ (Lib.uvarintDec l).2
    · obtain ⟨k, hK⟩ : ∃ k : Nat, (Lib.uvarintDec l).2 = k := ⟨(Lib.uvarintDec l).2.toNat, by omega⟩
      have hP' : Calls Tryz.prog 231 #[.slice (some ⟨g, off, none⟩) n c] w fun r w' => r = .returned (.tuple #[.int .u64 (Lib.uvarintDec l).1, .int .i64 k]) ∧ w = w' :=
        hP.mono fun r w' ⟨x, y, h1, h2, h3, _⟩ => ⟨by rw [h1, (h3 hk).1, (h3 hk).2, hK], h2⟩
      have hg2 : gVar (some l) = (Lib.unzigzag (Lib.uvarintDec l).1, some (l.drop k)) := by
        show (Lib.unzigzag (if 1 ≤ (Lib.uvarintDec l).2 then ((Lib.uvarintDec l).1, some (l.drop (Lib.uvarintDec l).2.toNat)) else (0, none)).1, (if 1 ≤ (Lib.uvarintDec l).2 then ((Lib.uvarintDec l).1, some (l.drop (Lib.uvarintDec l).2.toNat)) else (0, none)).2) = _
        rw [if_pos hk, hK]; rfl
      rw [hg2]
      simp only []
      have hkn : k ≤ n := by omega
      have hk1 : (1 : Int) ≤ (k : Int) := by omega
      obtain ⟨off', ho, hoff⟩ := cut44 g off n c k .i64 k rfl hkn
      have HO := Lib.hid ho
      have HK := Lib.hid hK
      have hu := Lib.uvarintDec_lt l
      clear hb hr hg hn ho hP hle hk hg2 hK
      generalize (Lib.uvarintDec l).1 = u at hP' hu ⊢
      have hand := Lib.u64_and1 (u : Int) (by omega) (by omega)
      by_cases hodd : u % 2 = 0
      · have hand0 : bits .and .u64 (u : Int) 1 = 0 := by rw [hand]; omega
        have hz : Lib.unzigzag u = (u : Int) / 2 := by simp [Lib.unzigzag, hodd]
        rw [hz]
        clear hand hz
        go_enter Tryz.func165, Tryz.ntmps165
        go_wp2_with (go_at_call 231; refine hP'.mono ?_; rintro r w' ⟨rfl, rfl⟩)
        go_ret
        exact ⟨rfl, DecOk.cut H.out (Fr.refl _ _) HB.out HR.out HN.out hl ⟨hm.1, HN.out ▸ hm.2⟩ hkn HO.out, Fr.at_ _ _ _ _⟩
      · have hand1 : bits .and .u64 (u : Int) 1 = 1 := by rw [hand]; omega
        have hnot : bits .xor .i64 (-1) ((u : Int) / 2) = -((u : Int) / 2) - 1 := by
          have h3 := Lib.i64_not (u / 2) (by omega)
          rw [show (((u / 2 : Nat) : Int)) = (u : Int) / 2 by omega] at h3
          exact h3
        have hz : Lib.unzigzag u = -((u : Int) / 2) - 1 := by simp [Lib.unzigzag, hodd]
        rw [hz]
        clear hand hz
        go_enter Tryz.func165, Tryz.ntmps165
        go_wp2_with (go_at_call 231; refine hP'.mono ?_; rintro r w' ⟨rfl, rfl⟩)
        go_ret
        exact ⟨rfl, DecOk.cut H.out (Fr.refl _ _) HB.out HR.out HN.out hl ⟨hm.1, HN.out ▸ hm.2⟩ hkn HO.out, Fr.at_ _ _ _ _⟩
    · have hP' : Calls Tryz.prog 231 #[.slice (some ⟨g, off, none⟩) n c] w fun r w' => ∃ y : Int, r = .returned (.tuple #[.int .u64 0, .int .i64 y]) ∧ y < 1 ∧ w = w' :=
        hP.mono fun r w' ⟨x, y, h1, h2, _, h4⟩ => ⟨y, by rw [h1, (h4 (by omega)).1], (h4 (by omega)).2, h2⟩
      have hg2 : gVar (some l) = (0, none) := by
        show (Lib.unzigzag (if 1 ≤ (Lib.uvarintDec l).2 then ((Lib.uvarintDec l).1, some (l.drop (Lib.uvarintDec l).2.toNat)) else (0, none)).1, (if 1 ≤ (Lib.uvarintDec l).2 then ((Lib.uvarintDec l).1, some (l.drop (Lib.uvarintDec l).2.toNat)) else (0, none)).2) = _
        rw [if_neg hk]; rfl
      rw [hg2]
      simp only []
      clear hb hr hg hn hP hle hk hg2
      go_enter Tryz.func165, Tryz.ntmps165
      go_wp2_with (go_at_call 231; refine hP'.mono ?_; rintro r w' ⟨y, rfl, hy, rfl⟩)
      go_ret
      refine ⟨rfl, ⟨l, H.out.move (Fr.at_ _ _ _ _) (off' := off) (c' := c) ?_ (by rw [HN.out]; exact hl) hm HR.out⟩, Fr.at_ _ _ _ _⟩
      rw [HN.out]
      simpa using HB.out.set_ 1 (Value.iface te pe)

/-- A uint64 as an int64. -/
def i64 (n : Nat) : Int := wrap64 n
def gBe64i (st : St) : Int × St := (i64 (gBe64 st).1, (gBe64 st).2)

set_option maxHeartbeats 400000 in
theorem decBe64i (te : TypeId) (pe : Value) (d g : Nat) (cur : Array Value) (st : St) (w : World) (h : Dec te pe w d g cur st) :
    Calls Tryz.prog 164 #[.pointer (some ⟨d, 0, none⟩)] w (DecEnds te pe w d g cur (.int .i64 (gBe64i st).1) (gBe64i st).2) := by
  have hP := decBe64 te pe d g cur st w h
  have he : gBe64i st = (i64 (gBe64 st).1, (gBe64 st).2) := rfl
  rw [he]
  clear h he
  obtain ⟨⟨x, st'⟩, hx⟩ : ∃ x, gBe64 st = x := ⟨_, rfl⟩
  rw [hx] at hP ⊢
  clear hx
  simp only [] at hP ⊢
  unfold i64
  go_enter Tryz.func164, Tryz.ntmps164
  go_wp2_with (go_at_call 162; refine hP.mono ?_; rintro r w1 ⟨rfl, hd, hf⟩)
  go_ret
  exact ⟨rfl, hd, hf⟩

set_option maxHeartbeats 400000 in
theorem decUvarint (te : TypeId) (pe : Value) (d g : Nat) (cur : Array Value) (st : St) (w : World) (h : Dec te pe w d g cur st) :
    Calls Tryz.prog 172 #[.pointer (some ⟨d, 0, none⟩)] w (DecEnds te pe w d g cur (.int .i64 (i64 (gUv st).1)) (gUv st).2) := by
  have hP := decUv te pe d g cur st w h
  clear h
  obtain ⟨⟨x, st'⟩, hx⟩ : ∃ x, gUv st = x := ⟨_, rfl⟩
  rw [hx] at hP ⊢
  clear hx
  simp only [] at hP ⊢
  unfold i64
  go_enter Tryz.func172, Tryz.ntmps172
  go_wp2_with (go_at_call 171; refine hP.mono ?_; rintro r w1 ⟨rfl, hd, hf⟩)
  go_ret
  exact ⟨rfl, hd, hf⟩

set_option maxHeartbeats 400000 in
theorem decUvarint32 (te : TypeId) (pe : Value) (d g : Nat) (cur : Array Value) (st : St) (w : World) (h : Dec te pe w d g cur st) :
    Calls Tryz.prog 232 #[.pointer (some ⟨d, 0, none⟩)] w (DecEnds te pe w d g cur (.int .u32 (IntKind.u32.wrap (gUv st).1)) (gUv st).2) := by
  have hP := decUv te pe d g cur st w h
  clear h
  obtain ⟨⟨x, st'⟩, hx⟩ : ∃ x, gUv st = x := ⟨_, rfl⟩
  rw [hx] at hP ⊢
  clear hx
  simp only [] at hP ⊢
  go_enter Tryz.func232, Tryz.ntmps232
  go_wp2_with (go_at_call 171; refine hP.mono ?_; rintro r w1 ⟨rfl, hd, hf⟩)
  go_ret
  exact ⟨rfl, hd, hf⟩

set_option maxHeartbeats 400000 in
theorem decBe64f (te : TypeId) (pe : Value) (d g : Nat) (cur : Array Value) (st : St) (w : World) (h : Dec te pe w d g cur st) :
    Calls Tryz.prog 234 #[.pointer (some ⟨d, 0, none⟩)] w (DecEnds te pe w d g cur (.float .f64 (gBe64 st).1) (gBe64 st).2) := by
  have hP := decBe64 te pe d g cur st w h
  have hr := run166
  clear h
  obtain ⟨⟨x, st'⟩, hx⟩ : ∃ x, gBe64 st = x := ⟨_, rfl⟩
  rw [hx] at hP ⊢
  clear hx
  simp only [] at hP ⊢
  go_enter Tryz.func234, Tryz.ntmps234
  go_wp2_with (go_at_call 162; refine hP.mono ?_; rintro r w1 ⟨rfl, hd, hf⟩)
  go_ret
  exact ⟨rfl, hd, hf⟩

/-- The error as a value: nil, or that of the variable. -/
def errV (te : TypeId) (pe : Value) : St → Value
  | some _ => .nilIface
  | none => .iface te pe

set_option maxHeartbeats 400000 in
theorem decErr (te : TypeId) (pe : Value) (d g : Nat) (cur : Array Value) (st : St) (w : World) (h : Dec te pe w d g cur st) :
    Calls Tryz.prog 119 #[.pointer (some ⟨d, 0, none⟩)] w fun r w' => r = .returned (errV te pe st) ∧ w = w' := by
  rcases st with _ | l
  · obtain ⟨rest, off, c, hb, hg, hl, hm, hr, hE⟩ := h
    have hc1 := hb.cell 1
    simp at hc1
    clear hb hr hg
    go_enter Tryz.func119, Tryz.ntmps119
    go_wp2
    go_ret
    exact ⟨rfl, rfl⟩
  · obtain ⟨off, c, hb, hg, hl, hm, hr, hE⟩ := h
    have hc1 := hb.cell 1
    simp at hc1
    clear hb hr hg
    go_enter Tryz.func119, Tryz.ntmps119
    go_wp2
    go_ret
    exact ⟨rfl, rfl⟩

/-- The length that is left: known where there is no error. -/
def lenEnds (w : World) (st : St) (r : Ending) (w' : World) : Prop := ∃ n : Nat, r = .returned (.int .i64 n) ∧ (∀ l, st = some l → n = l.length) ∧ n ≤ 9223372036854775807 ∧ w = w'

set_option maxHeartbeats 400000 in
theorem decLen (te : TypeId) (pe : Value) (d g : Nat) (cur : Array Value) (st : St) (w : World) (h : Dec te pe w d g cur st) :
    Calls Tryz.prog 118 #[.pointer (some ⟨d, 0, none⟩)] w (lenEnds w st) := by
  have hx : ∃ (n off c : Nat) (E : Value), Blk w d 229 #[.slice (some ⟨g, off, none⟩) n c, E] ∧ (∀ l, st = some l → n = l.length) ∧ n ≤ 9223372036854775807 := by
    rcases st with _ | l
    · obtain ⟨rest, off, c, hb, hg, hl, hm, _⟩ := h
      exact ⟨_, _, _, _, hb, (fun _ e => by cases e), by omega⟩
    · obtain ⟨off, c, hb, hg, hl, hm, _⟩ := h
      exact ⟨_, _, _, _, hb, (fun _ e => by cases e; rfl), by omega⟩
  obtain ⟨n, off, c, E, hb, H1, H2⟩ := hx
  have hc0 := hb.cell 0
  simp at hc0
  have HH := Lib.hid H1
  clear hb h H1
  go_enter Tryz.func118, Tryz.ntmps118
  go_wp2
  go_ret
  exact ⟨n, rfl, HH.out, H2, rfl⟩

end Go.Proofs.YtbkookiigkckdaaGreatDoor

/- Samples: the decoder. -/
namespace Go.Proofs.YtbkookiigkckdaaGreatDoor
open Go.RowKit
set_option linter.unusedVariables false
set_option linter.unusedSimpArgs false

def smpStep (br : Nat) (bt : Int) (st : St) : Smp × St :=
  (⟨u64 (wrap64 (i64 br + (gVar st).1)), wrap64 (bt + (gVar (gVar st).2).1), (gBe64 (gVar (gVar st).2).2).1⟩, (gBe64 (gVar (gVar st).2).2).2)

def smpLoop (br : Nat) (bt : Int) : Nat → St → List Smp → List Smp × St
  | k + 1, some (c :: r), acc => smpLoop br bt k (smpStep br bt (some (c :: r))).2 (acc ++ [(smpStep br bt (some (c :: r))).1])
  | _, st, acc => (acc, st)

theorem smp_cells (br : Nat) (bt : Int) (st : St) : (#[Value.int IntKind.u64 (IntKind.u64.wrap (wrap64 (wrap64 ↑br + (gVar st).fst))), Value.int IntKind.i64 (wrap64 (bt + (gVar (gVar st).snd).fst)), Value.float FloatKind.f64 (gBe64 (gVar (gVar st).snd).snd).fst] : Array Value) = (Smp.b (smpStep br bt st).1).toArray := by
  have h : ∀ x : Int, IntKind.u64.wrap x = (u64 x : Int) := fun x => by rw [IntKind.wrap_u64]; unfold u64; omega
  simp only [smpStep, Smp.b, h]
  rfl

/-- What Decoder.Samples reads. -/
def decSamples (xs : List UInt8) : Option (List Smp) :=
  match xs with
  | [] => none
  | b :: rest => if b = 2 then (if rest = [] then some [] else
      match smpLoop (gBe64 (some rest)).1 (gBe64i (gBe64 (some rest)).2).1 rest.length (gBe64i (gBe64 (some rest)).2).2 [] with
      | (l, some _) => some l
      | (_, none) => none) else none

theorem gUv_len {st : St} {l : List UInt8} (h : (gUv st).2 = some l) : ∃ l0, st = some l0 ∧ l.length < l0.length := by
  rcases st with _ | l0
  · cases h
  · refine ⟨l0, rfl, ?_⟩
    unfold gUv at h
    simp only [] at h
    by_cases hk : 1 ≤ (Lib.uvarintDec l0).2
    · rw [if_pos hk] at h
      injection h with h
      have := uvDec_le l0
      rw [← h, List.length_drop]; omega
    · rw [if_neg hk] at h; cases h
theorem gBe_len {st : St} {l : List UInt8} (h : (gBe64 st).2 = some l) : ∃ l0, st = some l0 ∧ l.length < l0.length := by
  rcases st with _ | l0
  · cases h
  · refine ⟨l0, rfl, ?_⟩
    by_cases hk : 8 ≤ l0.length
    · rw [gBe64_long hk] at h; injection h with h; rw [← h, List.length_drop]; omega
    · rw [gBe64_short (by omega)] at h; cases h
theorem smpStep_len {br : Nat} {bt : Int} {l0 l : List UInt8} (h : (smpStep br bt (some l0)).2 = some l) : l.length < l0.length := by
  obtain ⟨l1, h1, h1'⟩ := gBe_len h
  obtain ⟨l2, h2, h2'⟩ := gUv_len (st := (gVar (some l0)).2) h1
  obtain ⟨l3, h3, h3'⟩ := gUv_len (st := some l0) h2
  injection h3 with h3; subst h3; omega

theorem Dec.fr {te : TypeId} {pe : Value} {w w' : World} {d g : Nat} {cur : Array Value} {st : St} {S : Nat → Prop} (h : Dec te pe w d g cur st) (hf : Fr S w w') (hd : ¬ S d) (hg : ¬ S g) (h2 : ¬ S 2) : Dec te pe w' d g cur st := by
  have go : ∀ {rest : List UInt8} {E : Value}, DecOk (.iface te pe) w d g cur rest E → DecOk (.iface te pe) w' d g cur rest E := by
    rintro rest E ⟨off, c, hb, hg', hl, hm, hr, hE⟩
    refine ⟨off, c, hb.fr hf hd, hg'.fr hf hg, hl, hm, hr, ?_⟩
    rw [hf.cell (p := ⟨2, 0, none⟩) (World.block_lt_of_cell? w _ hE) h2]; exact hE
  rcases st with _ | l
  · obtain ⟨rest, h⟩ := h; exact ⟨rest, go h⟩
  · exact go h

/-- A measure of what is left to read: nothing, where there is an error. -/
def decM (d : Nat) (w : World) : Nat :=
  match w.cell? ⟨d, 1, none⟩, w.cell? ⟨d, 0, none⟩ with
  | some .nilIface, some (.slice _ n _) => n + 1
  | _, _ => 0
theorem decM_some {te : TypeId} {pe : Value} {w : World} {d g : Nat} {cur : Array Value} {l : List UInt8} (h : Dec te pe w d g cur (some l)) : decM d w = l.length + 1 := by
  obtain ⟨off, c, hb, _⟩ := h
  have h0 := hb.cell 0
  have h1 := hb.cell 1
  simp at h0 h1
  simp [decM, h0, h1]
theorem decM_none {te : TypeId} {pe : Value} {w : World} {d g : Nat} {cur : Array Value} (h : Dec te pe w d g cur none) : decM d w = 0 := by
  obtain ⟨rest, off, c, hb, _⟩ := h
  have h0 := hb.cell 0
  have h1 := hb.cell 1
  simp at h0 h1
  simp [decM, h0, h1]

/-- The cells of a Decbuf, as a walk reads them. -/
theorem Dec.open_ {te : TypeId} {pe : Value} {w : World} {d g : Nat} {cur : Array Value} {st : St} (h : Dec te pe w d g cur st) :
    ∃ (n : Nat) (off c : Nat), w.cell? ⟨d, 0, none⟩ = some (.slice (some ⟨g, off, none⟩) n c) ∧ w.cell? ⟨d, 1, none⟩ = some (errV te pe st) ∧ (∀ l, st = some l → n = l.length) ∧ n ≤ 1099511627776 ∧ d < w.heap.size ∧ g < w.heap.size ∧ 2 < w.heap.size := by
  have key : ∀ {rest : List UInt8} {E : Value}, DecOk (.iface te pe) w d g cur rest E → ∃ off c : Nat, w.cell? ⟨d, 0, none⟩ = some (.slice (some ⟨g, off, none⟩) rest.length c) ∧ w.cell? ⟨d, 1, none⟩ = some E ∧ rest.length ≤ 1099511627776 ∧ d < w.heap.size ∧ g < w.heap.size ∧ 2 < w.heap.size := by
    rintro rest E ⟨off, c, hb, hg', hl, hm, hr, hE⟩
    have h0 := hb.cell 0
    have h1 := hb.cell 1
    simp at h0 h1
    exact ⟨off, c, h0, h1, hm.2, hb.lt, hg'.lt, World.block_lt_of_cell? w _ hE⟩
  rcases st with _ | l
  · obtain ⟨rest, h⟩ := h
    obtain ⟨off, c, h0, h1, h2, h3⟩ := key h
    exact ⟨_, off, c, h0, h1, (fun _ e => by cases e), h2, h3⟩
  · obtain ⟨off, c, h0, h1, h2, h3⟩ := key h
    exact ⟨_, off, c, h0, h1, (fun _ e => by cases e; rfl), h2, h3⟩

/-- A call that hands back an error of its own. -/
def ErrNew (w : World) (r : Ending) (w' : World) : Prop := ∃ t a, r = .returned (.iface t a) ∧ Fr (fun _ => False) w w'

theorem errNew_any (s : ByteArray) (w : World) : Calls Tryz.prog 161 #[.string s] w (ErrNew w) := by
  go_enter Tryz.func161, Tryz.ntmps161
  go_wp2_with fail
  go_ret
  exact ⟨_, _, rfl, (Fr.refl _ w).alloc _⟩

theorem own_slice' {w : World} {base : Nat} {e : TypeId} {size n : Nat} {v : Value} {xs : List Value} (h : w.ownsRow base e size v n xs) : ∃ a c, v = .slice a n c := by
  rcases h.2 with ⟨rfl, rfl⟩ | ⟨g', cap, cur, rfl, _⟩
  · exact ⟨_, _, rfl⟩
  · exact ⟨_, _, rfl⟩

def LenEnds2 (w : World) (cur : Array Value) (st : St) (r : Ending) (w' : World) : Prop := ∃ n : Nat, r = .returned (.int .i64 n) ∧ (∀ l, st = some l → n = l.length) ∧ n ≤ 1099511627776 ∧ w = w'
theorem decLen2 (te : TypeId) (pe : Value) (d g : Nat) (cur : Array Value) (st : St) (w : World) (h : Dec te pe w d g cur st) : Calls Tryz.prog 118 #[.pointer (some ⟨d, 0, none⟩)] w (LenEnds2 w cur st) := by
  obtain ⟨n, off, c, hc0, _, H1, H2, _⟩ := h.open_
  have HH := Lib.hid H1
  clear h H1
  go_enter Tryz.func118, Tryz.ntmps118
  go_wp2
  go_ret
  exact ⟨n, rfl, HH.out, H2, rfl⟩

/-- The bytes of a record in block g, as a slice value. -/
def Rec (te : TypeId) (pe : Value) (w : World) (g : Nat) (cur : Array Value) (xs : List UInt8) (v : Value) : Prop :=
  ∃ off c, v = .slice (some ⟨g, off, none⟩) xs.length c ∧ Blk w g 5 cur ∧ xs.length ≤ c ∧ (c ≤ 9223372036854775807 ∧ xs.length ≤ 1099511627776) ∧ (∀ j u, (bc xs)[j]? = some u → cur[off + j]? = some u) ∧ w.cell? ⟨2, 0, none⟩ = some (.iface te pe)
theorem Rec.dec {te : TypeId} {pe : Value} {w : World} {g : Nat} {cur : Array Value} {xs : List UInt8} {v : Value} (h : Rec te pe w g cur xs v) : Dec te pe (w.alloc (.cells #[v, .nilIface] 229)) w.heap.size g cur (some xs) := by
  obtain ⟨off, c, rfl, hg, hl, hm, hr, hE⟩ := h
  refine ⟨off, c, Blk.new w 229 _, hg.alloc _, hl, hm, hr, ?_⟩
  rw [((Fr.refl (fun _ => False) w).alloc _).cell (p := ⟨2, 0, none⟩) (World.block_lt_of_cell? w _ hE) (fun e => e)]
  exact hE

def SamplesEnds (w : World) (base : Nat) (o : Option Nat) (xs : List UInt8) (r : Ending) (w' : World) : Prop :=
  Fr (fun k => some k = o) w w' ∧ match decSamples xs with
    | some l => ∃ v', r = .returned (.tuple #[v', .nilIface]) ∧ w'.ownsRow base 137 3 v' l.length (l.flatMap Smp.b)
    | none => ∃ t a, r = .returned (.tuple #[.slice none 0 0, .iface t a])

theorem samplesEnds_none {w w' : World} {base : Nat} {o : Option Nat} {xs : List UInt8} {t : TypeId} {a : Value} (hd : decSamples xs = none) (hf : Fr (fun k => some k = o) w w') : SamplesEnds w base o xs (.returned (.tuple #[.slice none 0 0, .iface t a])) w' := by
  unfold SamplesEnds; rw [hd]; exact ⟨hf, _, _, rfl⟩
theorem samplesEnds_some {w w' : World} {base : Nat} {o : Option Nat} {xs : List UInt8} {l : List Smp} {v : Value} (hd : decSamples xs = some l) (hf : Fr (fun k => some k = o) w w') (ho : w'.ownsRow base 137 3 v l.length (l.flatMap Smp.b)) : SamplesEnds w base o xs (.returned (.tuple #[v, .nilIface])) w' := by
  unfold SamplesEnds; rw [hd]; exact ⟨hf, _, rfl, ho⟩

set_option maxRecDepth 100000 in
set_option maxHeartbeats 1000000 in
theorem decSamples_type (te : TypeId) (pe : Value) (dv : Value) (g base : Nat) (cur : Array Value) (xs : List UInt8) (v sv : Value) (w : World) (h : Rec te pe w g cur xs v) (hx : (gByte (some xs)).1 ≠ 2) :
    Calls Tryz.prog 71 #[dv, v, sv] w (SamplesEnds w base sv.ownBlock xs) := by
  have hd : decSamples xs = none := by
    rcases xs with _ | ⟨b, r⟩
    · rfl
    · have : ¬ b = 2 := by rintro rfl; exact hx rfl
      simp [decSamples, this]
  unfold SamplesEnds
  rw [hd]
  clear hd
  have hD := h.dec
  obtain ⟨off, c, rfl, _⟩ := h
  have hQ := decByte te pe w.heap.size g cur _ _ hD
  have hx2 : ¬ ((gByte (some xs)).1 : Int) = 2 := by omega
  clear hD hx
  generalize (gByte (some xs)).1 = x at hQ hx2
  generalize (gByte (some xs)).2 = st at hQ
  go_enter Tryz.func71, Tryz.ntmps71
  go_wp2_with (first | (go_at_call 160; refine hQ.mono ?_; rintro r w1 ⟨rfl, hD1, hf1⟩) | (go_at_call 161; refine (errNew_any _ _).mono ?_; rintro r w2 ⟨t, a, rfl, hf2⟩))
  go_ret2
  refine ⟨?_, _, _, rfl⟩
  have f1 := (((Fr.refl (fun k => some k = sv.ownBlock) w).alloc (.cells #[.slice (some ⟨g, off, none⟩) xs.length c, .nilIface] 229)).trans hf1 (fun k hk e => by omega))
  exact f1.trans hf2 (fun _ _ e => e.elim)

set_option maxRecDepth 100000 in
set_option maxHeartbeats 1000000 in
theorem decSamples_empty (te : TypeId) (pe : Value) (dv : Value) (g base : Nat) (cur : Array Value) (v sv : Value) (w : World) (h : Rec te pe w g cur [2] v) (ho : w.ownsRow base 137 3 sv 0 []) (hb : g < base ∧ 2 < base) :
    Calls Tryz.prog 71 #[dv, v, sv] w (SamplesEnds w base sv.ownBlock [2]) := by
  have hD := h.dec
  obtain ⟨off, c, rfl, _⟩ := h
  have hQ := decByte te pe w.heap.size g cur _ _ hD
  have e1 : gByte (some [(2 : UInt8)]) = (2, some []) := rfl
  rw [e1] at hQ
  have HO := Lib.hid ho
  obtain ⟨a', n', k', rfl⟩ := own_slice ho
  clear hD e1 ho
  go_enter Tryz.func71, Tryz.ntmps71
  go_wp2_with (first | (go_at_call 160; refine hQ.mono ?_; rintro r w1 ⟨rfl, hD1, hf1⟩; have hL := decLen te pe _ _ _ _ _ hD1) | (go_at_call 118; refine hL.mono ?_; rintro r w2 ⟨n, rfl, hn, _, rfl⟩; have hn0 := hn _ rfl; subst hn0))
  go_ret2
  refine ⟨((Fr.refl _ w).alloc _).trans hf1 (fun k hk e => by omega), _, rfl, ?_⟩
  exact own_fr (HO.out.alloc _) hf1 (fun k hk => by have := own_lt HO.out hk; omega)

theorem Tryz.info137b : (Tryz.prog.info? 137).map (fun i => (i.zero, i.size, i.bytes)) = some (some (.agg #[.int .u64 0, .int .i64 0, .float .f64 0]), 3, 24) := Tryz.info137

set_option maxRecDepth 100000 in
set_option maxHeartbeats 2000000 in
theorem decSamples_main (te : TypeId) (pe : Value) (dv : Value) (g base : Nat) (cur : Array Value) (rest : List UInt8) (hne : rest ≠ []) (v sv : Value) (w : World) (h : Rec te pe w g cur (2 :: rest) v) (ho : w.ownsRow base 137 3 sv 0 []) (hb : g < base ∧ 2 < base ∧ base ≤ w.heap.size) :
    Calls Tryz.prog 71 #[dv, v, sv] w (SamplesEnds w base sv.ownBlock (2 :: rest)) := by
  obtain ⟨i0, hi0, hz0, hz1, hz2⟩ := info_parts Tryz.info137
  have hD := h.dec
  obtain ⟨off, c, rfl, _⟩ := h
  have hQ := decByte te pe w.heap.size g cur _ _ hD
  have e1 : gByte (some (2 :: rest)) = (2, some rest) := rfl
  rw [e1] at hQ
  have HO := Lib.hid ho
  obtain ⟨a', k', rfl⟩ := own_slice' ho
  have hms : ∀ (m : Int) (W : World), 0 ≤ m → m ≤ 1099511627776 → (Instr.makeSlice 131 (.int .i64 0) (.int .i64 m)).run Tryz.prog W = .ok (.slice (some ⟨W.heap.size, 0, none⟩) 0 m.toNat) (W.alloc (.cells (madeCells (Value.agg #[.int .u64 0, .int .i64 0, .float .f64 0]).cells (m.toNat * 3)) 137)) := fun m W h0 h1 => by
    have h := run_make (P := Tryz.prog) W 131 137 i0 _ Tryz.underlying131 hi0 hz0 .i64 .i64 0 m (by omega) (by omega) (by rw [hz2]; omega) (by omega)
    rw [hz1] at h
    exact h
  have hs1 : ∃ b st, gBe64 (some rest) = (b, st) := ⟨_, _, rfl⟩
  obtain ⟨bref, st1, hs1⟩ := hs1
  obtain ⟨bt, st2, hs2⟩ : ∃ b st, gBe64i st1 = (b, st) := ⟨_, _, rfl⟩
  have hdec : decSamples (2 :: rest) = match smpLoop bref bt rest.length st2 [] with | (l, some _) => some l | (_, none) => none := by
    show (if (2 : UInt8) = 2 then (if rest = [] then some [] else match smpLoop (gBe64 (some rest)).1 (gBe64i (gBe64 (some rest)).2).1 rest.length (gBe64i (gBe64 (some rest)).2).2 [] with | (l, some _) => some l | (_, none) => none) else none) = _
    rw [if_pos rfl, if_neg hne, hs1, hs2]
  have hst2 : ∀ l, st2 = some l → l.length ≤ rest.length := by
    rintro l rfl
    have e2 : (gBe64 st1).2 = some l := by have := congrArg Prod.snd hs2; exact this
    obtain ⟨l1, h1, h1'⟩ := gBe_len e2
    have e3 : (gBe64 (some rest)).2 = some l1 := by rw [hs1]; exact h1
    obtain ⟨l2, h2, h2'⟩ := gBe_len e3
    injection h2 with h2; subst h2; omega
  have hrl : rest.length ≤ 1099511627776 := by
    obtain ⟨n, off', c', _, _, hn, hnc, _⟩ := hD.open_
    have := hn _ rfl
    simp at this; omega
  have hr0 : 0 < rest.length := List.length_pos_iff.2 hne
  have HD2 := Lib.hid hst2
  have HDE := Lib.hid hdec
  clear hD e1 ho hdec hst2 hne
  go_enter Tryz.func71, Tryz.ntmps71
  go_wp2_with (first
    | (go_at_call 160; refine hQ.mono ?_; rintro r w1 ⟨rfl, hD1, hf1⟩; have hL := decLen te pe _ _ _ _ _ hD1; have hB := decBe64 te pe _ _ _ _ _ hD1; rw [hs1] at hB)
    | (go_at_call 118; refine hL.mono ?_; rintro r w2 ⟨n, rfl, hn, _, rfl⟩; have hn0 : n = rest.length := hn _ rfl; subst hn0; clear hL)
    | (go_at_call 162; refine hB.mono ?_; rintro r w3 ⟨rfl, hD3, hf3⟩; have hB4 := decBe64i te pe _ _ _ _ _ hD3; rw [hs2] at hB4)
    | (go_at_call 164; refine hB4.mono ?_; rintro r w4 ⟨rfl, hD4, hf4⟩; refine Hid.out ?_))
  have F4 : Fr (fun k => some k = (Value.slice a' 0 k').ownBlock) w w4 := (((((Fr.refl (fun k => some k = (Value.slice a' 0 k').ownBlock) w).alloc _).trans hf1 (fun k hk e => by omega)).trans hf3 (fun k hk e => by omega)).trans hf4 (fun k hk e => by omega))
  have f14 : Fr (fun k => k = w.heap.size) (w.alloc (.cells #[.slice (some ⟨g, off, none⟩) (2 :: rest).length c, .nilIface] 229)) w4 := (hf1.same hf3).same hf4
  have O4 : w4.ownsRow base 137 3 (.slice a' 0 k') 0 [] := own_fr (HO.out.alloc _) f14 (fun k hk => by have := own_lt HO.out hk; omega)
  have hs4 := F4.size
  have hn4 : ∀ k, (Value.slice a' 0 k').ownBlock = some k → k < w.heap.size := fun k hk => own_lt HO.out hk
  have hL2 := decLen2 te pe _ _ _ _ _ hD4
  obtain ⟨m4, off4, c4, q0, q1, _, _, hd4, _⟩ := hD4.open_
  have HF4 := Lib.hid F4
  have HO4 := Lib.hid O4
  have HD4 := Lib.hid hD4
  have HN4 := Lib.hid hn4
  clear hD1 hf1 hf3 hf4 hD3 hB hB4 hQ F4 f14 O4 hD4 hn4 q0 q1
  have hms' := hms
  clear hms
  have HMS := Lib.hid hms'
  clear hms'
  refine Lib.hid ?_
  go_wp2_with (first
    | (go_at_call 118; refine hL2.mono ?_; rintro r w5 ⟨n5, rfl, hn5, hnb5, rfl⟩; refine Hid.out ?_))
  have hm0 : (0 : Int) ≤ (n5 : Int) / 10 := by omega
  have hm1 : (n5 : Int) / 10 ≤ 1099511627776 := by omega
  have hms5 := HMS.out ((n5 : Int) / 10) w4 hm0 hm1
  have hO5 := World.ownsRow_made (base := base) (e := 137) (size := 3) w4 (madeCells #[.int .u64 0, .int .i64 0, .float .f64 0] (n5 / 10 * 3)) (n5 / 10) (by omega) (by unfold maxLen; omega) (size_madeCells _ _)
  have hD5 := HD4.out.fr ((Fr.refl (fun _ => False) w4).alloc (.cells (madeCells #[.int .u64 0, .int .i64 0, .float .f64 0] (n5 / 10 * 3)) 137)) (fun e => e) (fun e => e) (fun e => e)
  have hF5 := HF4.out.alloc (.cells (madeCells #[.int .u64 0, .int .i64 0, .float .f64 0] (n5 / 10 * 3)) 137)
  have HO5 := Lib.hid hO5
  have HD5 := Lib.hid hD5
  have HF5 := Lib.hid hF5
  clear hO5 hL2 hD5 hF5
  by_cases hcap : (k' : Int) < (n5 : Int) / 10
  case' pos =>
    refine Lib.hid ?_
    go_wp2_with fail
    have HB5 : Hid (∀ k, (Value.slice (some ⟨w4.heap.size, 0, none⟩) 0 (n5 / 10)).ownBlock = some k → (some k = (Value.slice a' 0 k').ownBlock ∨ w.heap.size < k)) := Lib.hid fun k hk => .inr (by have hk : w4.heap.size = k := Option.some.inj hk; omega)
    clear hms5 HO4 HD4 HF4 HMS
    generalize w4.alloc _ = W5 at HO5 HD5 HF5 ⊢
    clear hcap hm0 hm1 hnb5 hn5 hs4
    generalize (Value.slice (some ⟨w4.heap.size, 0, none⟩) 0 (n5 / 10)) = sv5 at HO5 HB5 ⊢
    clear hd4
  case' neg =>
    refine Lib.hid ?_
    go_wp2_with fail
    have HB5 : Hid (∀ k, (Value.slice a' 0 k').ownBlock = some k → (some k = (Value.slice a' 0 k').ownBlock ∨ w.heap.size < k)) := Lib.hid fun k hk => .inl hk.symm
    clear hms5 HO5 HD5 HF5 HMS
    have HO5 := HO4
    have HD5 := HD4
    have HF5 := HF4
    clear HO4 HD4 HF4 hcap hm0 hm1 hnb5 hn5 hs4 hd4
    generalize w4 = W5 at HO5 HD5 HF5 ⊢
  all_goals
    go_loopw [2] (fun sv wr => ∃ (st : St) (acc : List Smp) (j : Nat), Hid (Dec te pe wr w.heap.size g cur st) ∧ Hid (wr.ownsRow base 137 3 sv acc.length (acc.flatMap Smp.b)) ∧ Hid (Fr (fun k => some k = (Value.slice a' 0 k').ownBlock) w wr) ∧ Hid (∀ k, sv.ownBlock = some k → (some k = (Value.slice a' 0 k').ownBlock ∨ w.heap.size < k)) ∧
        Hid (smpLoop bref bt j st acc = smpLoop bref bt rest.length st2 []) ∧ Hid (∀ l, st = some l → l.length ≤ j ∧ acc.length + l.length ≤ rest.length) ∧ acc.length ≤ rest.length + 1) (fun _ wr => decM w.heap.size wr)
    case atStart => exact ⟨st2, [], rest.length, HD5, HO5, HF5, HB5, Lib.hid rfl, Lib.hid (fun l hl => ⟨HD2.out l hl, by simpa using HD2.out l hl⟩), by simp⟩
    case round =>
      obtain ⟨st, acc, j, HD, HO, HF, HB, HE, HL, hal⟩ := hrel
      obtain ⟨n6, off6, c6, p0, p1, hnl, hnc, hd, hg, h2⟩ := HD.out.open_
      have hE := decErr te pe _ _ _ _ _ HD.out
      obtain ⟨a6, k6, rfl⟩ := own_slice' HO.out
      rcases st with _ | l
      · clear hnl p1
        have hres : smpLoop bref bt rest.length st2 [] = (acc, none) := by rw [← HE.out]; unfold smpLoop; rcases j with _ | j <;> rfl
        have HR := Lib.hid (show decSamples (2 :: rest) = none by rw [HDE.out, hres])
        clear hres
        simp only [errV] at hE
        rcases Nat.eq_zero_or_pos n6 with rfl | hn6
        · go_wp2_with (go_at_call 119; refine hE.mono ?_; rintro r w7 ⟨rfl, rfl⟩)
          go_ret2
          exact samplesEnds_none HR.out HF.out
        · have hn7 : (0 : Int) < (n6 : Int) := by omega
          go_wp2_with (go_at_call 119; refine hE.mono ?_; rintro r w7 ⟨rfl, rfl⟩)
          go_ret2
          exact samplesEnds_none HR.out HF.out
      · obtain rfl : n6 = l.length := hnl l rfl
        simp only [errV] at hE
        rcases l with _ | ⟨x, r⟩
        · have hres : smpLoop bref bt rest.length st2 [] = (acc, some []) := by rw [← HE.out]; unfold smpLoop; rcases j with _ | j <;> rfl
          have HR := Lib.hid (show decSamples (2 :: rest) = some acc by rw [HDE.out, hres])
          clear hres hnl p1
          simp only [List.length_nil] at p0
          go_wp2_with (go_at_call 119; refine hE.mono ?_; rintro r w7 ⟨rfl, rfl⟩)
          go_ret2
          exact samplesEnds_some HR.out HF.out HO.out
        · obtain ⟨n7, hn7⟩ : ∃ n7, (x :: r).length = n7 := ⟨_, rfl⟩
          have hn8 : (0 : Int) < (n7 : Int) := by rw [← hn7]; simp
          have hlb := HL.out _ rfl
          have hM := decM_some HD.out
          rw [hn7] at p0 hlb hM
          have hV1 := decVar te pe _ _ _ _ _ HD.out
          have HN7 := Lib.hid hn7
          clear hnl p1 hn7
          go_wp2_with (first
            | (go_at_call 119; refine hE.mono ?_; rintro r w7 ⟨rfl, rfl⟩)
            | (go_at_call 165; refine hV1.mono ?_; rintro r w8 ⟨rfl, hD8, hf8⟩; refine Hid.out ?_))
          have s8 := hf8.size
          have D8 := Lib.hid hD8
          have hV2 := decVar te pe _ _ _ _ _ hD8
          have F8 := Lib.hid hf8
          clear hD8 hf8 hV1 p0
          refine Lib.hid ?_
          go_wp2_with (go_at_call 165; refine hV2.mono ?_; rintro r w9 ⟨rfl, hD9, hf9⟩; refine Hid.out ?_)
          have s9 := hf9.size
          have D9 := Lib.hid hD9
          have hV3 := decBe64 te pe _ _ _ _ _ hD9
          have F9 := Lib.hid hf9
          clear hD9 hf9 hV2
          refine Lib.hid ?_
          go_wp2_with (go_at_call 162; refine hV3.mono ?_; rintro r wA ⟨rfl, hDA, hfA⟩; refine Hid.out ?_)
          have FA : Fr (fun k => k = w.heap.size) wr wA := (F8.out.same F9.out).same hfA
          have sA := FA.size
          have DA := Lib.hid hDA
          have HFA := Lib.hid FA
          have OA : wA.ownsRow base 137 3 (.slice a6 acc.length k6) acc.length (acc.flatMap Smp.b) := own_fr HO.out FA (fun k hk e => by
            rcases HB.out k hk with h | h
            · have := HN4.out k h.symm; omega
            · omega)
          have HOA := Lib.hid OA
          have r6 := run166
          clear hDA hfA hV3 FA OA D8 F8 D9 F9
          refine Lib.hid ?_
          go_wp2_with (first
            | (at_builtin; refine Hid.out ?_))
          have hcells : (#[Value.int IntKind.u64 (IntKind.u64.wrap (wrap64 (wrap64 ↑bref + (gVar (some (x :: r))).fst))), Value.int IntKind.i64 (wrap64 (bt + (gVar (gVar (some (x :: r))).snd).fst)), Value.float FloatKind.f64 (gBe64 (gVar (gVar (some (x :: r))).snd).snd).fst] : Array Value) = (Smp.b (smpStep bref bt (some (x :: r))).1).toArray := smp_cells _ _ _
          rw [hcells]
          have hlen7 : ∀ l, (smpStep bref bt (some (x :: r))).2 = some l → l.length < n7 := fun l hl => HN7.out ▸ smpStep_len hl
          have hDS : Dec te pe wA w.heap.size g cur (smpStep bref bt (some (x :: r))).2 := DA.out
          have HE2 : Hid (∀ j', j = j' + 1 → smpLoop bref bt j' (smpStep bref bt (some (x :: r))).2 (acc ++ [(smpStep bref bt (some (x :: r))).1]) = smpLoop bref bt rest.length st2 []) := Lib.hid (by rintro j' rfl; exact HE.out)
          clear hcells DA hE HE
          generalize smpStep bref bt (some (x :: r)) = S at hDS hlen7 HE2 ⊢
          obtain ⟨s1, st9⟩ := S
          simp only [] at hDS hlen7 HE2 ⊢
          have hDS2 := Lib.hid hDS
          have hlen8 := Lib.hid hlen7
          clear hDS hlen7
          refine Lib.hid ?_
          refine wpList_append_src _ rfl _ _ 131 131 rfl base 137 i0 _ 3 24 Tryz.underlying131 hi0 hz0 hz1 hz2 rfl (by decide) (.slice a6 acc.length k6) acc.length (acc.flatMap Smp.b) rfl (HOA.out.alloc _) _ 1 (Smp.b s1) rfl (src_blk Tryz.underlying131 (Blk.new wA 137 (Smp.b s1).toArray) rfl (by simp [Smp.b, Value.oneCell'])) (by unfold maxLen; omega) (by omega) (by simp; omega) ?_
          intro v' w2 hown' hgrow hat
          obtain ⟨a9, k9, rfl⟩ := own_slice' hown'
          have hrow : ∀ k, (Value.slice a6 acc.length k6).ownBlock = some k → base ≤ k ∧ k ≠ w.heap.size := fun k hk => ⟨(HOA.out.lt k hk).1, by
            rcases HB.out k hk with h | h
            · have := HN4.out k h.symm; omega
            · omega⟩
          have hsG := hgrow.size
          simp at hsG
          have fG : Fr (fun k => some k = (Value.slice a6 acc.length k6).ownBlock) wA w2 := ((Fr.refl (fun k => some k = (Value.slice a6 acc.length k6).ownBlock) wA).alloc _).grown hgrow (fun k hk => .inl hk.symm)
          have rD : Dec te pe w2 w.heap.size g cur st9 := hDS2.out.fr fG (fun e => (hrow _ e.symm).2 rfl) (fun e => by have := (hrow _ e.symm).1; omega) (fun e => by have := (hrow _ e.symm).1; omega)
          have rO : w2.ownsRow base 137 3 (.slice a9 (acc.length + 1) k9) (acc ++ [s1]).length ((acc ++ [s1]).flatMap Smp.b) := by simpa using hown'
          have rF : Fr (fun k => some k = (Value.slice a' 0 k').ownBlock) w w2 := (HF.out.trans HFA.out (fun k hk e => by omega)).trans fG (fun k hk e => by
            rcases HB.out k e.symm with h | h
            · exact h
            · omega)
          have rB : ∀ k, (Value.slice a9 (acc.length + 1) k9).ownBlock = some k → (some k = (Value.slice a' 0 k').ownBlock ∨ w.heap.size < k) := fun k hk => by
            rcases hat with h | h
            · exact HB.out k (h ▸ hk)
            · rw [h] at hk; injection hk with hk; simp at hk; exact .inr (by omega)
          have rM : decM w.heap.size w2 < n7 + 1 := by
            rcases st9 with _ | l9
            · rw [decM_none rD]; omega
            · rw [decM_some rD]; have := hlen8.out l9 rfl; omega
          have RD := Lib.hid rD
          have RO := Lib.hid rO
          have RF := Lib.hid rF
          have RB := Lib.hid rB
          clear rD rO rF rB hown' hgrow hat hrow fG
          go_wp2
          go_roundw
          case rel =>
            obtain ⟨j', rfl⟩ : ∃ j', j = j' + 1 := ⟨j - 1, by have := HN7.out; simp at this; omega⟩
            refine ⟨st9, acc ++ [s1], j', RD, RO, RF, RB, Lib.hid (HE2.out j' rfl), Lib.hid (fun l hl => ?_), by simp; omega⟩
            have := hlen8.out l hl
            rw [List.length_append, List.length_singleton]
            omega
          case measure => rw [hM]; exact rM

/-- Decoder.Samples. -/
theorem decSamples_any (te : TypeId) (pe : Value) (dv : Value) (g base : Nat) (cur : Array Value) (xs : List UInt8) (v sv : Value) (w : World) (h : Rec te pe w g cur xs v) (ho : w.ownsRow base 137 3 sv 0 []) (hb : g < base ∧ 2 < base ∧ base ≤ w.heap.size) :
    Calls Tryz.prog 71 #[dv, v, sv] w (SamplesEnds w base sv.ownBlock xs) := by
  by_cases hx : (gByte (some xs)).1 = 2
  · rcases xs with _ | ⟨b, rest⟩
    · exact absurd hx (by decide)
    · have hb2 : b = 2 := by
        have : b.toNat = (2 : UInt8).toNat := hx
        exact UInt8.toNat_inj.1 this
      subst hb2
      by_cases hr : rest = []
      · subst hr; exact decSamples_empty te pe dv g base cur v sv w h ho ⟨hb.1, hb.2.1⟩
      · exact decSamples_main te pe dv g base cur rest hr v sv w h ho hb
  · exact decSamples_type te pe dv g base cur xs v sv w h hx

end Go.Proofs.YtbkookiigkckdaaGreatDoor

/- Records of samples: what is written is what is read, in plain Lean. -/
namespace Go.Proofs.YtbkookiigkckdaaGreatDoor
open Go.RowKit
set_option linter.unusedVariables false
set_option linter.unusedSimpArgs false

/-- Reading back what uvarint writes. -/
theorem uvFrom_uv : ∀ (i x acc : Nat) (r : List UInt8), i ≤ 9 → x * 2 ^ (7 * i) < 18446744073709551616 →
    Lib.uvarintFrom i acc (Lib.uvarint x ++ r) = (acc + x * 2 ^ (7 * i), (i : Int) + (Lib.uvarint x).length) := by
  intro i x
  induction x using Nat.strongRecOn generalizing i with
  | _ x ih =>
    intro acc r hi hx
    rcases Nat.lt_or_ge x 128 with h | h
    · rw [Lib.uvarint_small h]
      show Lib.uvarintFrom i acc (x.toUInt8 :: r) = _
      have hn : (x.toUInt8).toNat = x := by simp; omega
      rw [Lib.uvarintFrom, if_neg (by omega), if_pos (by omega), hn]
      rw [if_neg]
      · simp
      · rintro ⟨rfl, h2⟩
        simp at hx
        omega
    · rw [Lib.uvarint_big h]
      show Lib.uvarintFrom i acc ((x % 128 + 128).toUInt8 :: (Lib.uvarint (x / 128) ++ r)) = _
      have hn : ((x % 128 + 128).toUInt8).toNat = x % 128 + 128 := by simp; omega
      have hi9 : i < 9 := by
        rcases Nat.lt_or_ge i 9 with h' | h'
        · exact h'
        · obtain rfl : i = 9 := by omega
          simp at hx; omega
      have hp : 2 ^ (7 * (i + 1)) = 128 * 2 ^ (7 * i) := by rw [Nat.mul_add, Nat.pow_add]; simp [Nat.mul_comm]
      have hx2 : (x / 128) * 2 ^ (7 * (i + 1)) ≤ x * 2 ^ (7 * i) := by
        rw [hp, ← Nat.mul_assoc]
        exact Nat.mul_le_mul_right _ (Nat.div_mul_le_self x 128)
      rw [Lib.uvarintFrom, if_neg (by omega), if_neg (by omega), hn, ih (x / 128) (by omega) (i + 1) _ r (by omega) (by omega)]
      have he : x * 2 ^ (7 * i) = x % 128 * 2 ^ (7 * i) + x / 128 * 2 ^ (7 * (i + 1)) := by
        rw [hp, ← Nat.mul_assoc, ← Nat.add_mul]
        congr 1
        omega
      have e1 : (x % 128 + 128) % 128 = x % 128 := by omega
      rw [e1, he]
      simp only [List.length_cons]
      refine Prod.ext (by simp only []; omega) (by simp only []; omega)

theorem gUv_uv (x : Nat) (hx : x < 18446744073709551616) (r : List UInt8) : gUv (some (Lib.uvarint x ++ r)) = (x, some r) := by
  have h : Lib.uvarintDec (Lib.uvarint x ++ r) = (x, ((Lib.uvarint x).length : Int)) := by
    rw [Lib.uvarintDec, uvFrom_uv 0 x 0 r (by omega) (by simpa using hx)]
    simp
  have hp := Lib.uvarint_pos x
  unfold gUv
  simp only [h]
  rw [if_pos (by omega)]
  simp

theorem unzz (x : Int) : Lib.unzigzag (Lib.zigzag x) = x := by
  unfold Lib.unzigzag Lib.zigzag
  split <;> split <;> omega

theorem gVar_zz (x : Int) (h0 : -9223372036854775808 ≤ x) (h1 : x ≤ 9223372036854775807) (r : List UInt8) : gVar (some (Lib.uvarint (Lib.zigzag x) ++ r)) = (x, some r) := by
  unfold gVar
  rw [gUv_uv _ (by unfold Lib.zigzag; split <;> omega), unzz]

theorem gBe64_be (v : Nat) (hv : v < 18446744073709551616) (r : List UInt8) : gBe64 (some (Lib.beBytes 8 v ++ r)) = (v, some r) := by
  have h := Lib.beNat_beBytes 8 v (by simpa using hv)
  have hl := Lib.beBytes_length 8 v
  generalize Lib.beBytes 8 v = l at h hl ⊢
  match l, hl with
  | [b0, b1, b2, b3, b4, b5, b6, b7], _ => rw [← h]; rfl

theorem i64_u64 (t : Int) (h0 : -9223372036854775808 ≤ t) (h1 : t ≤ 9223372036854775807) : i64 (u64 t) = t := by
  unfold i64 u64 wrap64; omega

theorem ref_back (a b : Nat) (ha : a < 18446744073709551616) : u64 (wrap64 (wrap64 b + wrap64 (wrap64 a - wrap64 b))) = a := by
  have h : wrap64 (wrap64 b + wrap64 (wrap64 a - wrap64 b)) % 18446744073709551616 = (a : Int) := by unfold wrap64; omega
  rw [u64, h]; rfl
theorem t_back (a b : Int) (h0 : -9223372036854775808 ≤ a) (h1 : a ≤ 9223372036854775807) : wrap64 (b + wrap64 (a - b)) = a := by unfold wrap64; omega

theorem smpStep_of {br : Nat} {bt x y : Int} {v : Nat} {s0 s1 s2 s3 : St} (h1 : gVar s0 = (x, s1)) (h2 : gVar s1 = (y, s2)) (h3 : gBe64 s2 = (v, s3)) : smpStep br bt s0 = (⟨u64 (wrap64 (i64 br + x)), wrap64 (bt + y), v⟩, s3) := by
  unfold smpStep
  rw [h1]
  show (Smp.mk _ (wrap64 (bt + (gVar s1).1)) (gBe64 (gVar s1).2).1, (gBe64 (gVar s1).2).2) = _
  rw [h2]
  show (Smp.mk _ _ (gBe64 s2).1, (gBe64 s2).2) = _
  rw [h3]

theorem smpStep_enc (f s : Smp) (hf : f.wf) (hs : s.wf) (r : List UInt8) : smpStep f.ref f.t (some (encSmp f s ++ r)) = (s, some r) := by
  have e0 : encSmp f s ++ r = Lib.uvarint (Lib.zigzag (dRef f s)) ++ (Lib.uvarint (Lib.zigzag (dT f s)) ++ (Lib.beBytes 8 s.v ++ r)) := by simp only [encSmp, List.append_assoc]
  rw [e0, smpStep_of (gVar_zz (dRef f s) (wrap64_bd _).1 (wrap64_bd _).2 _) (gVar_zz (dT f s) (wrap64_bd _).1 (wrap64_bd _).2 _) (gBe64_be _ hs.2.2.2 _)]
  show (Smp.mk (u64 (wrap64 (wrap64 f.ref + wrap64 (wrap64 s.ref - wrap64 f.ref)))) (wrap64 (f.t + wrap64 (s.t - f.t))) s.v, some r) = _
  rw [ref_back _ _ hs.1, t_back _ _ hs.2.1 hs.2.2.1]

theorem encSmp_pos (f s : Smp) : ∃ c r, encSmp f s = c :: r := by
  have := Lib.uvarint_pos (Lib.zigzag (dRef f s))
  rcases h : encSmp f s with _ | ⟨c, r⟩
  · have : (encSmp f s).length = 0 := by rw [h]; rfl
    unfold encSmp at this
    simp only [List.length_append] at this; omega
  · exact ⟨c, r, rfl⟩

theorem smpLoop_enc (f : Smp) (hf : f.wf) : ∀ (l : List Smp) (k : Nat) (acc : List Smp), (∀ s ∈ l, s.wf) → l.length ≤ k → smpLoop f.ref f.t k (some (l.flatMap (encSmp f))) acc = (acc ++ l, some [])
  | [], k, acc, _, _ => by cases k <;> simp [smpLoop]
  | s :: l, 0, acc, _, h => by simp at h
  | s :: l, k + 1, acc, hw, h => by
    obtain ⟨c, r, e⟩ := encSmp_pos f s
    have hst := smpStep_enc f s hf (hw s (by simp)) (l.flatMap (encSmp f))
    rw [List.flatMap_cons]
    rw [e] at hst ⊢
    show smpLoop f.ref f.t (k + 1) (some (c :: (r ++ l.flatMap (encSmp f)))) acc = _
    have hst' : smpStep f.ref f.t (some (c :: (r ++ l.flatMap (encSmp f)))) = (s, some (l.flatMap (encSmp f))) := hst
    rw [smpLoop, hst']
    simp only []
    rw [smpLoop_enc f hf l k (acc ++ [s]) (fun x hx => hw x (by simp [hx])) (by simpa using h)]
    simp

theorem encSmp_lenpos (f : Smp) (l : List Smp) : l.length ≤ (l.flatMap (encSmp f)).length := by
  induction l with
  | nil => simp
  | cons s l ih =>
    obtain ⟨c, r, e⟩ := encSmp_pos f s
    rw [List.flatMap_cons, List.length_append, e]
    simp only [List.length_cons]
    omega

theorem dec_enc (l : List Smp) (hl : ∀ s ∈ l, s.wf) : decSamples (encSamples l) = some l := by
  rcases l with _ | ⟨f, r⟩
  · rfl
  · have hf := hl f (by simp)
    have hn := encSmp_lenpos f (f :: r)
    obtain ⟨X, hX⟩ : ∃ X, (f :: r).flatMap (encSmp f) = X := ⟨_, rfl⟩
    have h1 := gBe64_be f.ref hf.1 (Lib.beBytes 8 (u64 f.t) ++ X)
    have h2 := gBe64_be (u64 f.t) (u64_lt _) X
    have hL := smpLoop_enc f hf (f :: r) (Lib.beBytes 8 f.ref ++ (Lib.beBytes 8 (u64 f.t) ++ X)).length [] hl (by simp only [List.length_append]; rw [← hX]; omega)
    rw [hX] at hL
    have e0 : encSamples (f :: r) = 2 :: (Lib.beBytes 8 f.ref ++ (Lib.beBytes 8 (u64 f.t) ++ X)) := by
      rw [← hX]; simp only [encSamples, encHdr, List.append_assoc]; rfl
    rw [e0, decSamples, if_pos rfl, if_neg (by
      intro h
      have := congrArg List.length h
      simp [Lib.beBytes_length] at this)]
    have e3 : gBe64i (gBe64 (some (Lib.beBytes 8 f.ref ++ (Lib.beBytes 8 (u64 f.t) ++ X)))).2 = (f.t, some X) := by
      rw [h1]
      show (i64 (gBe64 (some (Lib.beBytes 8 (u64 f.t) ++ X))).1, (gBe64 (some (Lib.beBytes 8 (u64 f.t) ++ X))).2) = _
      rw [h2]
      show (i64 (u64 f.t), some X) = _
      rw [i64_u64 _ hf.2.1 hf.2.2.1]
    rw [e3, h1]
    show (match smpLoop f.ref f.t _ (some X) [] with | (l, some _) => some l | (_, none) => none) = _
    rw [hL]
    rfl

theorem beFrom_lt : ∀ (l : List UInt8) (acc k : Nat), acc < 256 ^ k → Lib.beFrom acc l < 256 ^ (k + l.length)
  | [], acc, k, h => by simpa [Lib.beFrom] using h
  | b :: r, acc, k, h => by
    have h1 : acc * 256 + b.toNat < 256 ^ (k + 1) := by
      rw [Nat.pow_succ]
      have := b.toNat_lt
      omega
    have h2 := beFrom_lt r (acc * 256 + b.toNat) (k + 1) h1
    rw [Lib.beFrom, List.length_cons, show k + (r.length + 1) = k + 1 + r.length by omega]
    exact h2
theorem gBe64_lt (st : St) : (gBe64 st).1 < 18446744073709551616 := by
  unfold gBe64
  split
  · rename_i b0 b1 b2 b3 b4 b5 b6 b7 r
    have h := beFrom_lt [b0, b1, b2, b3, b4, b5, b6, b7] 0 0 (by decide)
    have e : 256 ^ (0 + [b0, b1, b2, b3, b4, b5, b6, b7].length) = 18446744073709551616 := by simp
    exact Nat.lt_of_lt_of_eq h e
  · show 0 < 18446744073709551616
    omega
theorem mk_wf {a : Nat} {b : Int} {c : Nat} (h1 : a < 18446744073709551616) (h2 : -9223372036854775808 ≤ b ∧ b ≤ 9223372036854775807) (h3 : c < 18446744073709551616) : (Smp.mk a b c).wf := ⟨h1, h2.1, h2.2, h3⟩
theorem smpStep_wf (br : Nat) (bt : Int) (st : St) : (smpStep br bt st).1.wf := mk_wf (u64_lt _) (wrap64_bd _) (gBe64_lt _)
theorem smpLoop_wf (br : Nat) (bt : Int) : ∀ (k : Nat) (st : St) (acc : List Smp), (∀ s ∈ acc, s.wf) → ∀ s ∈ (smpLoop br bt k st acc).1, s.wf
  | 0, st, acc, h => by simpa [smpLoop] using h
  | k + 1, none, acc, h => by simpa [smpLoop] using h
  | k + 1, some [], acc, h => by simpa [smpLoop] using h
  | k + 1, some (c :: r), acc, h => by
    rw [smpLoop]
    exact smpLoop_wf br bt k _ _ (fun s hs => by
      rcases List.mem_append.1 hs with h1 | h1
      · exact h s h1
      · rw [List.mem_singleton] at h1; subst h1; exact smpStep_wf _ _ _)
theorem decSamples_wf (xs : List UInt8) (l : List Smp) (h : decSamples xs = some l) : ∀ s ∈ l, s.wf := by
  unfold decSamples at h
  split at h
  · cases h
  · split at h
    · split at h
      · cases h; simp
      · split at h
        · rename_i e
          injection h with h
          subst h
          exact fun s hs => smpLoop_wf _ _ _ _ [] (by simp) s (by rw [e]; exact hs)
        · cases h
    · cases h

end Go.Proofs.YtbkookiigkckdaaGreatDoor

/- Records of markers and of tombstones: what is written is what is read, in plain Lean. -/
namespace Go.Proofs.YtbkookiigkckdaaGreatDoor
open Go.RowKit
set_option linter.unusedVariables false
set_option linter.unusedSimpArgs false

/-- A decoder's loop: parts are read as long as bytes are left. -/
def recLoop {α : Type} (step : St → α × St) : Nat → St → List α → List α × St
  | k + 1, some (c :: r), acc => recLoop step k (step (some (c :: r))).2 (acc ++ [(step (some (c :: r))).1])
  | _, st, acc => (acc, st)

theorem recLoop_enc {α : Type} (step : St → α × St) (enc : α → List UInt8) (Q : α → Prop) (hs : ∀ x r, Q x → step (some (enc x ++ r)) = (x, some r)) (hp : ∀ x, ∃ c r, enc x = c :: r) :
    ∀ (l : List α) (k : Nat) (acc : List α), (∀ x ∈ l, Q x) → l.length ≤ k → recLoop step k (some (l.flatMap enc)) acc = (acc ++ l, some [])
  | [], k, acc, _, _ => by cases k <;> simp [recLoop]
  | x :: l, 0, acc, _, h => by simp at h
  | x :: l, k + 1, acc, hw, h => by
    obtain ⟨c, r, e⟩ := hp x
    have hst := hs x (l.flatMap enc) (hw x (by simp))
    rw [List.flatMap_cons]
    rw [e] at hst ⊢
    show recLoop step (k + 1) (some (c :: (r ++ l.flatMap enc))) acc = _
    have hst' : step (some (c :: (r ++ l.flatMap enc))) = (x, some (l.flatMap enc)) := hst
    rw [recLoop, hst']
    simp only []
    rw [recLoop_enc step enc Q hs hp l k (acc ++ [x]) (fun y hy => hw y (by simp [hy])) (by simpa using h)]
    simp

theorem recLoop_all {α : Type} (step : St → α × St) (Q : α → Prop) (hq : ∀ st, Q (step st).1) : ∀ (k : Nat) (st : St) (acc : List α), (∀ x ∈ acc, Q x) → ∀ x ∈ (recLoop step k st acc).1, Q x
  | 0, st, acc, h => by simpa [recLoop] using h
  | k + 1, none, acc, h => by simpa [recLoop] using h
  | k + 1, some [], acc, h => by simpa [recLoop] using h
  | k + 1, some (c :: r), acc, h => by
    rw [recLoop]
    exact recLoop_all step Q hq k _ _ (fun s hs => by
      rcases List.mem_append.1 hs with h1 | h1
      · exact h s h1
      · rw [List.mem_singleton] at h1; subst h1; exact hq _)

/-- A record of the type t whose parts stand one behind the other. -/
def decParts {α : Type} (t : UInt8) (step : St → α × St) (xs : List UInt8) : Option (List α) :=
  match xs with
  | [] => none
  | b :: rest => if b = t then (match recLoop step rest.length (some rest) [] with
      | (l, some _) => some l
      | (_, none) => none) else none

theorem flat_pos {α : Type} (enc : α → List UInt8) (hp : ∀ x, ∃ c r, enc x = c :: r) (l : List α) : l.length ≤ (l.flatMap enc).length := by
  induction l with
  | nil => simp
  | cons s l ih =>
    obtain ⟨c, r, e⟩ := hp s
    rw [List.flatMap_cons, List.length_append, e]
    simp only [List.length_cons]
    omega

theorem decParts_enc {α : Type} (t : UInt8) (step : St → α × St) (enc : α → List UInt8) (Q : α → Prop) (hs : ∀ x r, Q x → step (some (enc x ++ r)) = (x, some r)) (hp : ∀ x, ∃ c r, enc x = c :: r) (l : List α) (hl : ∀ x ∈ l, Q x) :
    decParts t step (t :: l.flatMap enc) = some l := by
  rw [decParts, if_pos rfl, recLoop_enc step enc Q hs hp l _ [] hl (flat_pos enc hp l)]
  rfl

theorem decParts_all {α : Type} (t : UInt8) (step : St → α × St) (Q : α → Prop) (hq : ∀ st, Q (step st).1) (xs : List UInt8) (l : List α) (h : decParts t step xs = some l) : ∀ x ∈ l, Q x := by
  unfold decParts at h
  split at h
  · cases h
  · split at h
    · split at h
      · rename_i e
        injection h with h
        subst h
        exact fun s hs => recLoop_all step Q hq _ _ [] (by simp) s (by rw [e]; exact hs)
      · cases h
    · cases h

/-- Markers. -/
structure Mrk where
  ref : Nat
  mm : Nat
def Mrk.wf (s : Mrk) : Prop := s.ref < 18446744073709551616 ∧ s.mm < 18446744073709551616
def mrkStep (st : St) : Mrk × St := (⟨(gBe64 st).1, (gBe64 (gBe64 st).2).1⟩, (gBe64 (gBe64 st).2).2)
def encMrk (s : Mrk) : List UInt8 := Lib.beBytes 8 s.ref ++ Lib.beBytes 8 s.mm
theorem encMrk_pos (s : Mrk) : ∃ c r, encMrk s = c :: r := by
  rcases h : encMrk s with _ | ⟨c, r⟩
  · have := congrArg List.length h
    simp [encMrk, Lib.beBytes_length] at this
  · exact ⟨c, r, rfl⟩
theorem mrkStep_of {a b : Nat} {s0 s1 s2 : St} (h1 : gBe64 s0 = (a, s1)) (h2 : gBe64 s1 = (b, s2)) : mrkStep s0 = (⟨a, b⟩, s2) := by
  unfold mrkStep
  rw [h1]
  show (Mrk.mk a (gBe64 s1).1, (gBe64 s1).2) = _
  rw [h2]
theorem mrkStep_enc (s : Mrk) (r : List UInt8) (hs : s.wf) : mrkStep (some (encMrk s ++ r)) = (s, some r) := by
  have e0 : encMrk s ++ r = Lib.beBytes 8 s.ref ++ (Lib.beBytes 8 s.mm ++ r) := by simp only [encMrk, List.append_assoc]
  rw [e0, mrkStep_of (gBe64_be _ hs.1 _) (gBe64_be _ hs.2 _)]
def encMarkers (l : List Mrk) : List UInt8 := 5 :: l.flatMap encMrk
def decMarkers (xs : List UInt8) : Option (List Mrk) := decParts 5 mrkStep xs
theorem decMarkers_enc (l : List Mrk) (hl : ∀ s ∈ l, s.wf) : decMarkers (encMarkers l) = some l := decParts_enc 5 mrkStep encMrk Mrk.wf mrkStep_enc encMrk_pos l hl
theorem mrkStep_wf (st : St) : (mrkStep st).1.wf := ⟨gBe64_lt _, gBe64_lt _⟩
theorem decMarkers_wf (xs : List UInt8) (l : List Mrk) (h : decMarkers xs = some l) : ∀ s ∈ l, s.wf := decParts_all 5 mrkStep Mrk.wf mrkStep_wf xs l h

/-- Tombstones of one interval. -/
structure Stn where
  ref : Nat
  lo : Int
  hi : Int
def Stn.wf (s : Stn) : Prop := s.ref < 18446744073709551616 ∧ (-9223372036854775808 ≤ s.lo ∧ s.lo ≤ 9223372036854775807) ∧ (-9223372036854775808 ≤ s.hi ∧ s.hi ≤ 9223372036854775807)
def stnStep (st : St) : Stn × St := (⟨(gBe64 st).1, (gVar (gBe64 st).2).1, (gVar (gVar (gBe64 st).2).2).1⟩, (gVar (gVar (gBe64 st).2).2).2)
def encStn (s : Stn) : List UInt8 := Lib.beBytes 8 s.ref ++ (Lib.uvarint (Lib.zigzag s.lo) ++ Lib.uvarint (Lib.zigzag s.hi))
theorem encStn_pos (s : Stn) : ∃ c r, encStn s = c :: r := by
  rcases h : encStn s with _ | ⟨c, r⟩
  · have := congrArg List.length h
    simp [encStn, Lib.beBytes_length] at this
  · exact ⟨c, r, rfl⟩
theorem stnStep_of {a : Nat} {b c : Int} {s0 s1 s2 s3 : St} (h1 : gBe64 s0 = (a, s1)) (h2 : gVar s1 = (b, s2)) (h3 : gVar s2 = (c, s3)) : stnStep s0 = (⟨a, b, c⟩, s3) := by
  unfold stnStep
  rw [h1]
  show (Stn.mk a (gVar s1).1 (gVar (gVar s1).2).1, (gVar (gVar s1).2).2) = _
  rw [h2]
  show (Stn.mk a b (gVar s2).1, (gVar s2).2) = _
  rw [h3]
theorem stnStep_enc (s : Stn) (r : List UInt8) (hs : s.wf) : stnStep (some (encStn s ++ r)) = (s, some r) := by
  have e0 : encStn s ++ r = Lib.beBytes 8 s.ref ++ (Lib.uvarint (Lib.zigzag s.lo) ++ (Lib.uvarint (Lib.zigzag s.hi) ++ r)) := by simp only [encStn, List.append_assoc]
  rw [e0, stnStep_of (gBe64_be _ hs.1 _) (gVar_zz _ hs.2.1.1 hs.2.1.2 _) (gVar_zz _ hs.2.2.1 hs.2.2.2 _)]
def encFlat (l : List Stn) : List UInt8 := 3 :: l.flatMap encStn
def decStones (xs : List UInt8) : Option (List Stn) := decParts 3 stnStep xs
theorem decStones_enc (l : List Stn) (hl : ∀ s ∈ l, s.wf) : decStones (encFlat l) = some l := decParts_enc 3 stnStep encStn Stn.wf stnStep_enc encStn_pos l hl
theorem gUv_lt (st : St) : (gUv st).1 < 18446744073709551616 := by
  rcases st with _ | l
  · decide
  · unfold gUv
    simp only []
    split
    · exact Lib.uvarintDec_lt l
    · show 0 < 18446744073709551616
      omega
theorem gVar_bd (st : St) : -9223372036854775808 ≤ (gVar st).1 ∧ (gVar st).1 ≤ 9223372036854775807 := by
  have h := gUv_lt st
  have e : (gVar st).1 = Lib.unzigzag (gUv st).1 := rfl
  rw [e]
  generalize (gUv st).1 = n at h
  unfold Lib.unzigzag
  split <;> omega
theorem mk_stn {a : Nat} {b c : Int} (h1 : a < 18446744073709551616) (h2 : -9223372036854775808 ≤ b ∧ b ≤ 9223372036854775807) (h3 : -9223372036854775808 ≤ c ∧ c ≤ 9223372036854775807) : (Stn.mk a b c).wf := ⟨h1, h2, h3⟩
theorem stnStep_wf (st : St) : (stnStep st).1.wf := mk_stn (gBe64_lt _) (gVar_bd _) (gVar_bd _)
theorem decStones_wf (xs : List UInt8) (l : List Stn) (h : decStones xs = some l) : ∀ s ∈ l, s.wf := decParts_all 3 stnStep Stn.wf stnStep_wf xs l h

end Go.Proofs.YtbkookiigkckdaaGreatDoor

namespace Go.Proofs.YtbkookiigkckdaaGreatDoor
open Go.RowKit
set_option linter.unusedVariables false
set_option linter.unusedSimpArgs false


theorem src_sl {P : Nat → Prop} {w : World} {v : Value} {size m tx e : Nat} {cs : List Value} (hk : Tryz.prog.underlying tx = some (.slice e)) (h : Sl P w v size m cs) (h1 : ∀ u ∈ cs, u.oneCell' = true) : Src Tryz.prog size tx v m cs w := by
  obtain ⟨A, c, rfl, hl, hc, hr⟩ := h
  rcases Nat.eq_zero_or_pos m with rfl | hm
  · have : cs = [] := List.eq_nil_of_length_eq_zero (by simpa using hl)
    subst this
    rcases A with _ | a
    · exact Src.ofNil (e' := e) _ hk c
    · exact Src.ofSlice (e' := e) _ hk a 0 c [] (by simp) (fun j u hj => by simp at hj) h1
  · obtain ⟨g, off, rfl, _, hcell⟩ := hr hm
    exact Src.ofSlice (e' := e) _ hk ⟨g, off, none⟩ m c cs hl (fun j u hj => by
      have e1 : (⟨g, off, none⟩ : Addr).add j = ⟨g, off + j, none⟩ := by unfold Addr.add; split <;> simp_all
      rw [e1]; exact hcell j u hj) h1

/-- What the closure of RecordWrite does, whatever the kind: the record's bytes, and what is handed back. -/
def W1Ends (L : Value → World → Prop) (w : World) (br bl : Nat) (o : Option Nat) (ys : List UInt8) (r : Ending) (w' : World) : Prop :=
  r = .returned (.tuple #[]) ∧ ∃ v' lv, Blk w' br 44 #[v'] ∧ Blk w' bl 52 #[lv] ∧ L lv w' ∧ w'.ownsRow 0 5 1 v' ys.length (bc ys) ∧ Fr (fun k => some k = o ∨ k = br ∨ k = bl) w w' ∧ (v'.ownBlock = o ∨ ∃ k, v'.ownBlock = some k ∧ w.heap.size ≤ k)

def WriteEnds (L : Value → World → Prop) (w : World) (ys : List UInt8) (r : Ending) (w' : World) : Prop :=
  ∃ v' lv, r = .returned (.tuple #[v', lv]) ∧ L lv w' ∧ w'.ownsRow w.heap.size 5 1 v' ys.length (bc ys) ∧ Fr (fun _ => False) w w'

theorem own_up {w : World} {base b : Nat} {e : TypeId} {size n : Nat} {v : Value} {xs : List Value} (h : w.ownsRow b e size v n xs) (hb : ∀ g, v.ownBlock = some g → base ≤ g) : w.ownsRow base e size v n xs :=
  ⟨h.1, h.2.imp id fun ⟨g, cap, cur, h1, h2, h3⟩ => ⟨g, cap, cur, h1, hb g (by rw [h1]; rfl), h3⟩⟩

/-- The world that RecordWrite has made when it calls its closure. -/
structure Laid (w W : World) (kind pv bv : Value) : Prop where
  k : Blk W w.heap.size 3 #[kind]
  p : Blk W (w.heap.size + 1) 54 pv.cells
  b : Blk W (w.heap.size + 2) 44 #[bv]
  r : Blk W (w.heap.size + 3) 44 #[.slice none 0 0]
  l : Blk W (w.heap.size + 4) 52 #[.slice none 0 0]
  f : Fr (fun _ => False) w W

theorem laid_mk (w : World) (kind bv : Value) (p : Array Value) :
    let W := ((((((w.alloc (.cells #[kind] 3)).alloc (.cells p 54)).alloc (.cells #[bv] 44)).alloc (.cells #[.slice none 0 0] 44)).alloc (.cells #[.slice none 0 0] 52)).alloc (.cells #[] 196)).alloc (.cells #[] 5)
    Blk W w.heap.size 3 #[kind] ∧ Blk W (w.heap.size + 1) 54 p ∧ Blk W (w.heap.size + 2) 44 #[bv] ∧ Blk W (w.heap.size + 3) 44 #[.slice none 0 0] ∧ Blk W (w.heap.size + 4) 52 #[.slice none 0 0] ∧ Fr (fun _ => False) w W ∧ W.heap.size = w.heap.size + 7 ∧ W.ownsRow w.heap.size 5 1 (.slice (some ⟨w.heap.size + 6, 0, none⟩) 0 0) 0 [] := by
  intro W
  have e : ∀ (w : World) (o : Obj), (w.alloc o).heap.size = w.heap.size + 1 := fun w o => by simp
  refine ⟨?_, ?_, ?_, ?_, ?_, ?_, ?_, ?_⟩
  · exact ((((((Blk.new w 3 _).alloc _).alloc _).alloc _).alloc _).alloc _).alloc _
  · have := (((((Blk.new (w.alloc (.cells #[kind] 3)) 54 p).alloc (.cells #[bv] 44)).alloc (.cells #[.slice none 0 0] 44)).alloc (.cells #[.slice none 0 0] 52)).alloc (.cells #[] 196)).alloc (.cells #[] 5)
    rwa [e] at this
  · have := ((((Blk.new ((w.alloc (.cells #[kind] 3)).alloc (.cells p 54)) 44 #[bv]).alloc (.cells #[.slice none 0 0] 44)).alloc (.cells #[.slice none 0 0] 52)).alloc (.cells #[] 196)).alloc (.cells #[] 5)
    rwa [e, e] at this
  · have := (((Blk.new (((w.alloc (.cells #[kind] 3)).alloc (.cells p 54)).alloc (.cells #[bv] 44)) 44 #[.slice none 0 0]).alloc (.cells #[.slice none 0 0] 52)).alloc (.cells #[] 196)).alloc (.cells #[] 5)
    rwa [e, e, e] at this
  · have := ((Blk.new ((((w.alloc (.cells #[kind] 3)).alloc (.cells p 54)).alloc (.cells #[bv] 44)).alloc (.cells #[.slice none 0 0] 44)) 52 #[.slice none 0 0]).alloc (.cells #[] 196)).alloc (.cells #[] 5)
    rwa [e, e, e, e] at this
  · exact (((((((Fr.refl _ w).alloc _).alloc _).alloc _).alloc _).alloc _).alloc _).alloc _
  · simp [W]
  · have := World.ownsRow_made (base := w.heap.size) (e := 5) (size := 1) ((((((w.alloc (.cells #[kind] 3)).alloc (.cells p 54)).alloc (.cells #[bv] 44)).alloc (.cells #[.slice none 0 0] 44)).alloc (.cells #[.slice none 0 0] 52)).alloc (.cells #[] 196)) #[] 0 (by simp; omega) (Nat.zero_le _) rfl
    simp only [e] at this
    exact this

theorem ne_own {g k n c : Nat} (h : g ≠ k) : some g ≠ (Value.slice (some ⟨k, 0, none⟩) n c).ownBlock := fun e => h (Option.some.inj e)
/-- A world in which only variables of the call's own have changed. -/
def Vars (W W' : World) : Prop := Fr (fun k => ∃ cs, Blk W k 4 cs ∨ Blk W k 44 cs ∨ Blk W k 52 cs) W W'

set_option maxRecDepth 100000 in
set_option maxHeartbeats 2000000 in
theorem recordWrite_of (kind : Int) (s0 s1 s2 s3 s4 s5 s6 bv : Value) (xs ys : List UInt8) (P : Nat → Prop) (L : Value → World → Prop) (w : World) (hb : Sl P w bv 1 xs.length (bc xs)) (hxl : xs.length ≤ 1073741824)
    (hsl : ∀ s ∈ [s0, s1, s2, s3, s4, s5, s6], ∃ A m c, s = .slice A m c) (hLs : ∀ lv W, L lv W → ∃ A m c, lv = .slice A m c)
    (hL : ∀ lv W W', L lv W → Vars W W' → L lv W')
    (hc : ∀ (bk be bp bb br bl : Nat) (v : Value) (W : World), Blk W bk 3 #[.int .i64 kind] → Blk W bp 54 #[s0, s1, s2, s3, s4, s5, s6] → Blk W bb 44 #[v] → Blk W br 44 #[.slice none 0 0] → Blk W bl 52 #[.slice none 0 0] → W.ownsRow w.heap.size 5 1 v xs.length (bc xs) →
      bb ≠ br → Fr (fun _ => False) w W → Calls Tryz.prog 90 #[.pointer (some ⟨bk, 0, none⟩), .pointer (some ⟨be, 0, none⟩), .pointer (some ⟨bp, 0, none⟩), .pointer (some ⟨bb, 0, none⟩), .pointer (some ⟨br, 0, none⟩), .pointer (some ⟨bl, 0, none⟩)] W (W1Ends L W br bl v.ownBlock ys)) :
    Calls Tryz.prog 31 #[.int .i64 kind, .agg #[s0, s1, s2, s3, s4, s5, s6], bv] w (WriteEnds L w ys) := by
  obtain ⟨i0, hi0, hz0, hz1, hz2⟩ := info_parts Tryz.info5
  have HB := Lib.hid hb
  have HC := Lib.hid hc
  have HL := Lib.hid hL
  have HLS := Lib.hid hLs
  have hbv : ∃ A m c, bv = .slice A m c := let ⟨A, c, h, _⟩ := hb; ⟨A, _, c, h⟩
  obtain ⟨A, m, c, rfl⟩ := hbv
  obtain ⟨A0, m0, c0, rfl⟩ := hsl s0 (by simp)
  obtain ⟨A1, m1, c1, rfl⟩ := hsl s1 (by simp)
  obtain ⟨A2, m2, c2, rfl⟩ := hsl s2 (by simp)
  obtain ⟨A3, m3, c3, rfl⟩ := hsl s3 (by simp)
  obtain ⟨A4, m4, c4, rfl⟩ := hsl s4 (by simp)
  obtain ⟨A5, m5, c5, rfl⟩ := hsl s5 (by simp)
  obtain ⟨A6, m6, c6, rfl⟩ := hsl s6 (by simp)
  clear hb hc hL hsl hLs
  have hmf : ∀ (fn : Fn) (first cap : Array Value) (w : World), (Instr.makeFunc fn first cap).run Tryz.prog w = .ok (.func fn first cap) w := fun _ _ _ _ => rfl
  go_enter Tryz.func31, Tryz.ntmps31
  go_wp2_with (at_builtin; refine Hid.out ?_)
  have hM := laid_mk w (.int .i64 kind) (.slice A m c) #[.slice A0 m0 c0, .slice A1 m1 c1, .slice A2 m2 c2, .slice A3 m3 c3, .slice A4 m4 c4, .slice A5 m5 c5, .slice A6 m6 c6]
  dsimp only at hM
  generalize hW : World.alloc _ (Obj.cells #[] 5) = W at hM ⊢
  clear hW
  obtain ⟨B3, B4, B5, B6, B7, hF, hS, hO⟩ := hM
  have HS := Lib.hid hS
  have hsrc := src_sl Tryz.underlying44 (HB.out.fr hF (fun _ _ e => e)) (bc_one xs)
  refine wpList_append_src _ rfl _ _ 44 44 rfl w.heap.size 5 i0 (.int .u8 0) 1 1 Tryz.underlying44 hi0 hz0 hz1 hz2 rfl (by decide) _ 0 [] rfl hO _ xs.length (bc xs) rfl hsrc (by unfold maxLen; omega) (by omega) (by omega) ?_
  intro v' w2 hown' hgrow hat
  rw [Nat.zero_add, List.nil_append] at hown'
  obtain ⟨a2, n2, k2, rfl⟩ := own_slice hown'
  have hge : ∀ g, (Value.slice a2 n2 k2).ownBlock = some g → w.heap.size + 6 ≤ g := fun g hg => by
    rcases hat with h | h <;> rw [h] at hg
    · injection hg with hg; exact Nat.le_of_eq hg
    · injection hg with hg; omega
  have g3 := B3.grown hgrow (ne_own (by omega))
  have g4 := B4.grown hgrow (ne_own (by omega))
  have g5 := B5.grown hgrow (ne_own (by omega))
  have g6 := B6.grown hgrow (ne_own (by omega))
  have g7 := B7.grown hgrow (ne_own (by omega))
  have gF := hF.grown hgrow (fun k hk => .inr (by have hk : w.heap.size + 6 = k := Option.some.inj hk; omega))
  have q2 : w2.cell? ⟨w.heap.size + 1 + 1, 0, none⟩ = some (.slice A m c) := by simpa using g5.cell 0
  have z2 : w2.frozen? ⟨w.heap.size + 1 + 1, 0, none⟩ = false := g5.frozen 0
  obtain ⟨W3, hW3⟩ : ∃ W3, w2.setCell ⟨w.heap.size + 1 + 1, 0, none⟩ (.slice a2 n2 k2) = W3 := ⟨_, rfl⟩
  have h3 : Blk W3 w.heap.size 3 #[.int .i64 kind] := hW3 ▸ g3.far (p := ⟨w.heap.size + 1 + 1, 0, none⟩) (by show w.heap.size ≠ w.heap.size + 1 + 1; omega) _
  have h4 : Blk W3 (w.heap.size + 1) 54 #[.slice A0 m0 c0, .slice A1 m1 c1, .slice A2 m2 c2, .slice A3 m3 c3, .slice A4 m4 c4, .slice A5 m5 c5, .slice A6 m6 c6] := hW3 ▸ g4.far (p := ⟨w.heap.size + 1 + 1, 0, none⟩) (by show w.heap.size + 1 ≠ w.heap.size + 1 + 1; omega) _
  have h5 : Blk W3 (w.heap.size + 2) 44 #[.slice a2 n2 k2] := hW3 ▸ (by simpa using g5.set_ 0 (.slice a2 n2 k2))
  have h6 : Blk W3 (w.heap.size + 3) 44 #[.slice none 0 0] := hW3 ▸ g6.far (p := ⟨w.heap.size + 1 + 1, 0, none⟩) (by show w.heap.size + 3 ≠ w.heap.size + 1 + 1; omega) _
  have h7 : Blk W3 (w.heap.size + 4) 52 #[.slice none 0 0] := hW3 ▸ g7.far (p := ⟨w.heap.size + 1 + 1, 0, none⟩) (by show w.heap.size + 4 ≠ w.heap.size + 1 + 1; omega) _
  have h8 : Fr (fun _ => False) w W3 := hW3 ▸ gF.setCell (p := ⟨w.heap.size + 1 + 1, 0, none⟩) (.inr (by show w.heap.size ≤ w.heap.size + 1 + 1; omega)) _
  have h9 : W3.ownsRow w.heap.size 5 1 (.slice a2 n2 k2) xs.length (bc xs) := hW3 ▸ own_fr hown' (Fr.put_ w2 (w.heap.size + 1 + 1) 0 _) (fun g hg e => by have := hge g hg; omega)
  have hlt3 := h7.lt
  have hcall := HC.out w.heap.size (w.heap.size + 1 + 1 + 1 + 1 + 1) (w.heap.size + 1) (w.heap.size + 1 + 1) (w.heap.size + 1 + 1 + 1) (w.heap.size + 1 + 1 + 1 + 1) (.slice a2 n2 k2) _ (h3.alloc (.cells #[.bool false] 4)) (h4.alloc _) (h5.alloc _) (h6.alloc _) (h7.alloc _) (h9.alloc _) (by omega) (h8.alloc _)
  have hsafe := safe_ok 90 _ W3 _ (enters_of Tryz.func90 (by kernel_rfl) rfl) (hcall.mono (fun r w' hr => ⟨hr.1, hr.2, by
    obtain ⟨_, v', lv, _, _, _, _, hf, _⟩ := hr
    refine (Blk.new W3 4 #[.bool false]).fr hf ?_
    rintro (h | h | h)
    · have := own_lt h9 h.symm; omega
    · omega
    · omega⟩))
  have HW3 := Lib.hid hW3
  clear hW3
  refine Lib.hid ?_
  have HH9 := Lib.hid h9
  have HH8 := Lib.hid h8
  have HH7 := Lib.hid hlt3
  have HGE := Lib.hid hge
  clear hcall h3 h4 h5 h6 h7 h8 h9 g3 g4 g5 g6 g7 gF B3 B4 B5 B6 B7 hF hO hsrc hgrow hat hown' HB HC hlt3 hge hS
  refine Hid.out ?_
  refine .inl ?_
  go_wp2_with (rw [HW3.out]; go_at_call 65; refine hsafe.mono ?_; rintro r w4 ⟨rfl, w5, hq, hb5, rfl⟩; refine Hid.out ?_)
  obtain ⟨v3, lv, q6, q7, qL, qO, qF, qA⟩ := hq
  obtain ⟨a3, n3, k3, rfl⟩ := own_slice qO
  obtain ⟨a4, n4, k4, rfl⟩ := HLS.out lv _ qL
  have s6 := q6.lt
  have s7 := q7.lt
  have hn3 := HH7.out
  have r6 : Blk ((w5.setCell ⟨W3.heap.size, 0, none⟩ (.bool true)).setCell ⟨W3.heap.size, 0, none⟩ (.bool true)) _ _ _ := (q6.far (p := ⟨W3.heap.size, 0, none⟩) (by show w.heap.size + 1 + 1 + 1 ≠ W3.heap.size; omega) _).far (p := ⟨W3.heap.size, 0, none⟩) (by show w.heap.size + 1 + 1 + 1 ≠ W3.heap.size; omega) _
  have r7 : Blk ((w5.setCell ⟨W3.heap.size, 0, none⟩ (.bool true)).setCell ⟨W3.heap.size, 0, none⟩ (.bool true)) _ _ _ := (q7.far (p := ⟨W3.heap.size, 0, none⟩) (by show w.heap.size + 1 + 1 + 1 + 1 ≠ W3.heap.size; omega) _).far (p := ⟨W3.heap.size, 0, none⟩) (by show w.heap.size + 1 + 1 + 1 + 1 ≠ W3.heap.size; omega) _
  have v5 : Vars w5 ((w5.setCell ⟨W3.heap.size, 0, none⟩ (.bool true)).setCell ⟨W3.heap.size, 0, none⟩ (.bool true)) :=
    ((Fr.refl _ w5).setCell (p := ⟨W3.heap.size, 0, none⟩) (.inl ⟨_, .inl hb5⟩) _).setCell (p := ⟨W3.heap.size, 0, none⟩) (.inl ⟨_, .inl hb5⟩) _
  have f5 : Fr (fun _ => False) w ((w5.setCell ⟨W3.heap.size, 0, none⟩ (.bool true)).setCell ⟨W3.heap.size, 0, none⟩ (.bool true)) := by
    have hle := HH8.out.size
    refine Fr.setCell (Fr.setCell ?_ (p := ⟨W3.heap.size, 0, none⟩) (.inr hle) _) (p := ⟨W3.heap.size, 0, none⟩) (.inr hle) _
    refine (HH8.out.alloc (.cells #[.bool false] 4)).trans qF ?_
    rintro k hk (h | h | h)
    · have := HGE.out k h.symm; omega
    · omega
    · omega
  have hown6 : ((w5.setCell ⟨W3.heap.size, 0, none⟩ (.bool true)).setCell ⟨W3.heap.size, 0, none⟩ (.bool true)).ownsRow w.heap.size 5 1 (.slice a3 n3 k3) ys.length (bc ys) := by
    refine own_up (own_fr qO (((Fr.refl (fun k => k = W3.heap.size) w5).setCell (p := ⟨W3.heap.size, 0, none⟩) (.inl rfl) _).setCell (p := ⟨W3.heap.size, 0, none⟩) (.inl rfl) _) (fun g hg e => own_ne qO hb5 (by decide) (by rw [hg, e]))) ?_
    intro g hg
    rcases qA with h | ⟨k, h, hk⟩
    · have := HGE.out g (h ▸ hg); omega
    · rw [h] at hg; injection hg with hg; simp at hk; omega
  have hL6 := HL.out _ _ _ qL v5
  refine Lib.hid ?_
  generalize World.setCell _ _ _ = w6 at r6 r7 v5 f5 hown6 hL6 ⊢
  have l6 := r6.cell 0
  have l7 := r7.cell 0
  have z6 := r6.frozen 0
  have z7 := r7.frozen 0
  simp at l6 l7
  have m6 : Blk (w6.setCell ⟨w.heap.size + 1 + 1 + 1, 0, none⟩ (.slice a3 n3 k3)) (w.heap.size + 1 + 1 + 1) 44 #[.slice a3 n3 k3] := by simpa using r6.set_ 0 (.slice a3 n3 k3)
  have m7 : Blk (w6.setCell ⟨w.heap.size + 1 + 1 + 1, 0, none⟩ (.slice a3 n3 k3)) (w.heap.size + 1 + 1 + 1 + 1) 52 #[.slice a4 n4 k4] := r7.far (p := ⟨w.heap.size + 1 + 1 + 1, 0, none⟩) (by show w.heap.size + 1 + 1 + 1 + 1 ≠ w.heap.size + 1 + 1 + 1; omega) _
  have j6 := m6.cell 0
  have j7 := m7.cell 0
  have m8 : Blk ((w6.setCell ⟨w.heap.size + 1 + 1 + 1, 0, none⟩ (.slice a3 n3 k3)).setCell ⟨w.heap.size + 1 + 1 + 1 + 1, 0, none⟩ (.slice a4 n4 k4)) (w.heap.size + 1 + 1 + 1) 44 #[.slice a3 n3 k3] := m6.far (p := ⟨w.heap.size + 1 + 1 + 1 + 1, 0, none⟩) (by show w.heap.size + 1 + 1 + 1 ≠ w.heap.size + 1 + 1 + 1 + 1; omega) _
  have m9 : Blk ((w6.setCell ⟨w.heap.size + 1 + 1 + 1, 0, none⟩ (.slice a3 n3 k3)).setCell ⟨w.heap.size + 1 + 1 + 1 + 1, 0, none⟩ (.slice a4 n4 k4)) (w.heap.size + 1 + 1 + 1 + 1) 52 #[.slice a4 n4 k4] := by simpa using m7.set_ 0 (.slice a4 n4 k4)
  have j8 := m8.cell 0
  have j9 := m9.cell 0
  simp at j6 j7 j8 j9
  have M8 := Lib.hid m8
  have M9 := Lib.hid m9
  clear m6 m7 m8 m9
  have R6 := Lib.hid r6
  have R7 := Lib.hid r7
  have F6 := Lib.hid f5
  have HO6 := Lib.hid hown6
  have HL6 := Lib.hid hL6
  clear hown6 hL6 r6 r7 v5 f5 qL qO qF qA q6 q7 hb5 hsafe q2 z2 HW3 s6 s7 hn3
  go_wp2_with fail
  go_region_held3 (fun w' => w'.cell? ⟨w.heap.size + 1 + 1 + 1, 0, none⟩ = some (.slice a3 n3 k3) ∧ w'.cell? ⟨w.heap.size + 1 + 1 + 1 + 1, 0, none⟩ = some (.slice a4 n4 k4))
    ((first | (go_split_ands; refine ⟨?_, ?_⟩ <;> first | exact j6 | exact j7) | (go_split_ands; refine ⟨?_, ?_⟩ <;> first | exact j8 | exact j9) | go_keep)) (fail)
  have HE : Fr (fun _ => False) w ((w6.setCell ⟨w.heap.size + 1 + 1 + 1, 0, none⟩ (.slice a3 n3 k3)).setCell ⟨w.heap.size + 1 + 1 + 1 + 1, 0, none⟩ (.slice a4 n4 k4)) :=
    (F6.out.setCell (p := ⟨w.heap.size + 1 + 1 + 1, 0, none⟩) (.inr (by show w.heap.size ≤ w.heap.size + 1 + 1 + 1; omega)) _).setCell (p := ⟨w.heap.size + 1 + 1 + 1 + 1, 0, none⟩) (.inr (by show w.heap.size ≤ w.heap.size + 1 + 1 + 1 + 1; omega)) _
  have HV : Vars w6 ((w6.setCell ⟨w.heap.size + 1 + 1 + 1, 0, none⟩ (.slice a3 n3 k3)).setCell ⟨w.heap.size + 1 + 1 + 1 + 1, 0, none⟩ (.slice a4 n4 k4)) :=
    ((Fr.refl _ w6).setCell (p := ⟨w.heap.size + 1 + 1 + 1, 0, none⟩) (.inl ⟨_, .inr (.inl R6.out)⟩) _).setCell (p := ⟨w.heap.size + 1 + 1 + 1 + 1, 0, none⟩) (.inl ⟨_, .inr (.inr R7.out)⟩) _
  have hown7 := own_fr HO6.out (((Fr.refl (fun k => k = w.heap.size + 1 + 1 + 1 ∨ k = w.heap.size + 1 + 1 + 1 + 1) w6).setCell (p := ⟨w.heap.size + 1 + 1 + 1, 0, none⟩) (.inl (.inl rfl)) (.slice a3 n3 k3)).setCell (p := ⟨w.heap.size + 1 + 1 + 1 + 1, 0, none⟩) (.inl (.inr rfl)) (.slice a4 n4 k4)) (by
    rintro g hg (e | e)
    · exact own_ne HO6.out R6.out (by decide) (by rw [hg, e])
    · exact own_ne HO6.out R7.out (by decide) (by rw [hg, e]))
  have HF := Lib.hid HE.drew
  have HL7 := Lib.hid (HL.out _ _ _ HL6.out HV.drew)
  have HO7 := Lib.hid (World.ownsRow.drew hown7)
  clear HE HV hown7
  go_wp2
  simp [Exit.then, bodyPost, results, Tryz.results31, go_sem, j8, j9]
  exact ⟨_, _, rfl, HL7.out, HO7.out, HF.out⟩

theorem wrote_w1 {w : World} {br bl : Nat} {v : Value} {n : Nat} {xs : List Value} {ys : List UInt8} {z : Value} (hown : w.ownsRow 0 5 1 v n xs) (hr : Blk w br 44 #[z]) (hl : Blk w bl 52 #[.slice none 0 0]) {r : Ending} {w' : World} (h : WroteEnds w br v.ownBlock ys r w') : W1Ends (fun lv _ => lv = .slice none 0 0) w br bl v.ownBlock ys r w' := by
  obtain ⟨rfl, v', hb, ho, hf, ha⟩ := h
  refine ⟨rfl, v', _, hb, hl.fr hf ?_, rfl, ho, hf.mono ?_, ha⟩
  · rintro (e | e)
    · exact own_ne hown hl (by decide) e.symm
    · exact Blk.ne_ hl hr (by decide) e
  · rintro k _ (e | e)
    · exact .inl e
    · exact .inr (.inl e)

/-- RecordWrite at samples. -/
theorem recordWrite_samples (s0 s1 s2 s3 s4 s5 s6 bv : Value) (xs : List UInt8) (l : List Smp) (P : Nat → Prop) (w : World) (hb : Sl P w bv 1 xs.length (bc xs)) (hxl : xs.length ≤ 1073741824)
    (hsl : ∀ s ∈ [s0, s1, s2, s3, s4, s5, s6], ∃ A m c, s = .slice A m c) (hs : Sl P w s1 3 l.length (l.flatMap Smp.a)) (hll : l.length ≤ 1073741824) (hwf : ∀ s ∈ l, s.wf) :
    Calls Tryz.prog 31 #[.int .i64 2, .agg #[s0, s1, s2, s3, s4, s5, s6], bv] w (WriteEnds (fun lv _ => lv = .slice none 0 0) w (xs ++ encSamples l)) := by
  refine recordWrite_of 2 s0 s1 s2 s3 s4 s5 s6 bv xs _ P _ w hb hxl hsl (by rintro lv W rfl; exact ⟨_, _, _, rfl⟩) (fun _ _ _ h _ => h) ?_
  intro bk be bp bb br bl v W hk hp hb' hr hl hown hbr hF
  exact (write1_samples bk bp bb br _ _ P s0 s1 s2 s3 s4 s5 s6 v _ xs l W hk hp hb' hr (own_mono hown (Nat.zero_le _)) (hs.fr hF (fun _ _ e => e)) hxl hll hwf hbr).mono fun r w' h => wrote_w1 (own_mono hown (Nat.zero_le _)) hr hl h

end Go.Proofs.YtbkookiigkckdaaGreatDoor

/- Markers: refMarkers, Encoder.MmapMarkers. -/
namespace Go.Proofs.YtbkookiigkckdaaGreatDoor
open Go.RowKit
set_option linter.unusedVariables false
set_option linter.unusedSimpArgs false

def Mrk.c (s : Mrk) : List Value := [.int .u64 s.ref, .int .u64 s.mm]
theorem Tryz.info166 : (Tryz.prog.info? 166).map (fun i => (i.zero, i.size, i.bytes)) = some (some (.agg #[.int .u64 0, .int .u64 0]), 2, 16) := by kernel_rfl
theorem Tryz.info168 : (Tryz.prog.info? 168).map (fun i => (i.zero, i.size, i.bytes)) = some (some (.agg #[.int .u64 0, .int .u64 0]), 2, 16) := by kernel_rfl

theorem flat2 {α : Type} (f : α → List Value) (h3 : ∀ x, (f x).length = 2) : ∀ (l : List α) (k : Nat) (x : α), l[k]? = some x → ∀ j, j < 2 → (l.flatMap f)[k * 2 + j]? = (f x)[j]?
  | [], k, x, h, j, hj => by simp at h
  | y :: l, 0, x, h, j, hj => by
    simp at h; subst h
    rw [List.flatMap_cons, List.getElem?_append_left (by rw [h3]; omega)]
    simp
  | y :: l, k + 1, x, h, j, hj => by
    rw [List.flatMap_cons, List.getElem?_append_right (by rw [h3]; omega), h3, show (k + 1) * 2 + j - 2 = k * 2 + j by omega]
    exact flat2 f h3 l k x (by simpa using h) j hj

def RefMarkersEnds (w : World) (l : List Mrk) (r : Ending) (w' : World) : Prop :=
  ∃ v, r = .returned v ∧ w'.ownsRow w.heap.size 166 2 v l.length (l.flatMap Mrk.c) ∧ Fr (fun _ => False) w w'

set_option maxHeartbeats 1000000 in
set_option maxRecDepth 100000 in
theorem refMarkers_any (P : Nat → Prop) (v : Value) (l : List Mrk) (w : World) (h : Sl P w v 2 l.length (l.flatMap Mrk.c)) (hl : l.length ≤ 1099511627776) :
    Calls Tryz.prog 80 #[v] w (RefMarkersEnds w l) := by
  obtain ⟨A, c, rfl, hlen, hnc, hr⟩ := h
  obtain ⟨n, hn⟩ : ∃ n, l.length = n := ⟨_, rfl⟩
  rw [hn] at hr hnc hl ⊢
  have HN := Lib.hid hn
  have HR := Lib.hid hr
  obtain ⟨i0, hi0, hz0, hz1, hz2⟩ := info_parts Tryz.info166
  clear hn hr hlen
  go_enter Tryz.func80, Tryz.ntmps80
  go_wp2
  go_loopw [2, 7] (fun v i wr => ∃ k : Nat, k ≤ n ∧ i = .int .i64 k ∧ wr.ownsRow w.heap.size 166 2 v k ((l.take k).flatMap Mrk.c) ∧ Fr (fun _ => False) w wr) (fun _ i _ => n - (intOf i).toNat)
  case atStart => exact ⟨0, Nat.zero_le _, rfl, World.ownsRow_nil _ _ _ _, Fr.refl _ _⟩
  case round =>
    obtain ⟨k, hk, rfl, hown, hf⟩ := hrel
    by_cases hlt : k < n
    · obtain ⟨g, off, rfl, _, hcell⟩ := HR.out (by omega)
      obtain ⟨x, hx⟩ : ∃ x, l[k]? = some x := ⟨_, List.getElem?_eq_getElem (by rw [HN.out]; exact hlt)⟩
      have cc : ∀ j, j < 2 → ∀ u, (Mrk.c x)[j]? = some u → wr.cell? ⟨g, off + (k * 2 + j), none⟩ = some u := fun j hj u hu => by
        have := hcell (k * 2 + j) u (by rw [flat2 Mrk.c (fun _ => rfl) l k x hx j hj]; exact hu)
        rw [hf.cell (p := ⟨g, off + (k * 2 + j), none⟩) (World.block_lt_of_cell? w _ this) (fun e => e)]
        exact this
      have c0 : wr.cell? ⟨g, off + k * 2, none⟩ = some (.int .u64 x.ref) := cc 0 (by omega) _ rfl
      have c1 : wr.cell? ⟨g, off + k * 2 + 1, none⟩ = some (.int .u64 x.mm) := cc 1 (by omega) _ rfl
      have HC := Lib.hid hcell
      have HO := Lib.hid hown
      have HX := Lib.hid hx
      obtain ⟨a', n', k', rfl⟩ := own_slice hown
      clear hcell cc hown hx
      go_wp2_with (at_builtin; refine Hid.out ?_)
      refine Lib.hid ?_
      refine wpList_append_src _ rfl _ _ 160 160 rfl w.heap.size 166 i0 _ 2 16 Tryz.underlying160 hi0 hz0 hz1 hz2 rfl (by decide) _ k ((l.take k).flatMap Mrk.c) rfl ((HO.out.alloc _).alloc _) _ 1 (Mrk.c x) rfl (src_blk Tryz.underlying160 (blk_new2 wr _ 166 (Mrk.c x).toArray) rfl (by simp [Mrk.c, Value.oneCell'])) (by unfold maxLen; omega) (by omega) (by first | omega | (simp; omega) | (have := hf.size; simp; omega)) ?_
      intro v' w2 hown' hgrow hat
      have hown2 : w2.ownsRow w.heap.size 166 2 v' (k + 1) ((l.take (k + 1)).flatMap Mrk.c) := by rw [flatMap_take_succ Mrk.c l k x HX.out]; exact hown'
      have hf2 : Fr (fun _ => False) w w2 := ((hf.alloc _).alloc _).grown hgrow (fun g hg => .inr (((HO.out.lt g hg)).1))
      have HO2 := Lib.hid hown2
      have HF2 := Lib.hid hf2
      clear hown' hgrow hown2 hf2 hf c0 c1 hat
      go_wp2
      go_roundw
      case rel => exact ⟨k + 1, by omega, by go_num, HO2.out, HF2.out⟩
      case measure => simp [intOf]; omega
    · go_wp2
      go_ret
      obtain rfl : k = n := by omega
      refine ⟨_, rfl, ?_, hf⟩
      rw [← HN.out] at hown ⊢
      rw [List.take_length] at hown
      exact hown

theorem encMrk_len (s : Mrk) : (encMrk s).length = 16 := by simp [encMrk, Lib.beBytes_length]

set_option maxRecDepth 100000 in
set_option maxHeartbeats 2000000 in
theorem encMarkers_any (ep : Value) (sv : Value) (P : Nat → Prop) (v : Value) (xs : List UInt8) (l : List Mrk) (w : World) (h : Sl P w sv 2 l.length (l.flatMap Mrk.c)) (hown : w.ownsRow 0 5 1 v xs.length (bc xs)) (hl : xs.length ≤ 1073741824)
    (hsl : l.length ≤ 1073741824) (hwf : ∀ s ∈ l, s.wf) (hP : ∀ g, P g → g < w.heap.size ∧ some g ≠ v.ownBlock) :
    Calls Tryz.prog 95 #[ep, sv, v] w (EncodeEnds w v.ownBlock (xs ++ encMarkers l)) := by
  obtain ⟨A, c, rfl, hlen, hnc, hr⟩ := h
  obtain ⟨a', n', k', rfl⟩ := own_slice hown
  obtain ⟨n, hn⟩ : ∃ n, l.length = n := ⟨_, rfl⟩
  rw [hn] at hnc hr hsl ⊢
  have hE := Enc.made (z := .int .u8 0) hown _ rfl
  have hQ := putByte w.heap.size _ xs 5 _ hE (by omega)
  have e2 : ((5 : UInt8).toNat : Int) = 5 := rfl
  rw [e2] at hQ
  have HN := Lib.hid hn
  have HR := Lib.hid hr
  have HP := Lib.hid hP
  have HE := Lib.hid hE
  clear hE hr e2 hn hlen hP
  go_enter Tryz.func95, Tryz.ntmps95
  go_wp2_with (go_at_call 180; refine hQ.mono ?_; rintro r1 w1 ⟨rfl, R⟩; refine Hid.out ?_)
  have HR1 := Lib.hid R
  clear R hQ
  refine Lib.hid ?_
  go_wp2_with fail
  have hFW : Fr (fun k => some k = (Value.slice a' n' k').ownBlock) w (w.alloc (.cells #[.slice a' n' k', .int .u8 0, .int .u8 0, .int .u8 0, .int .u8 0, .int .u8 0, .int .u8 0, .int .u8 0, .int .u8 0, .int .u8 0, .int .u8 0] 224)) := (Fr.refl _ w).alloc _
  generalize hWB : w.alloc _ = WB at HE HR1 hFW
  have hB : w.heap.size < WB.heap.size := by rw [← hWB]; simp
  clear hWB
  have HFW := Lib.hid hFW
  clear hFW
  go_loopw [15] (fun i wr => ∃ k : Nat, k ≤ n ∧ i = .int .i64 k ∧ Put WB w.heap.size (Value.slice a' n' k').ownBlock xs ([5] ++ (l.take k).flatMap encMrk) wr) (fun i _ => n - (intOf i).toNat)
  case atStart => exact ⟨0, Nat.zero_le _, rfl, by simpa using HR1.out⟩
  case round =>
    obtain ⟨k, hk, rfl, R⟩ := hrel
    by_cases hlt : k < n
    · obtain ⟨g, off, rfl, hPg, hcell⟩ := HR.out (by omega)
      have hg := HP.out g hPg
      obtain ⟨x, hx⟩ : ∃ x, l[k]? = some x := ⟨_, List.getElem?_eq_getElem (by rw [HN.out]; exact hlt)⟩
      have hwx := hwf x (List.mem_of_getElem? hx)
      have hFk : Fr (fun k => some k = (Value.slice a' n' k').ownBlock) w wr := HFW.out.trans R.fr (fun k hk e => by
        rcases e with e | e
        · omega
        · exact e)
      have cc : ∀ j, j < 2 → ∀ u, (Mrk.c x)[j]? = some u → wr.cell? ⟨g, off + (k * 2 + j), none⟩ = some u := fun j hj u hu => by
        have := hcell (k * 2 + j) u (by rw [flat2 Mrk.c (fun _ => rfl) l k x hx j hj]; exact hu)
        rw [hFk.cell (p := ⟨g, off + (k * 2 + j), none⟩) hg.1 hg.2]
        exact this
      have d0 : wr.cell? ⟨g, off + k * 2, none⟩ = some (.int .u64 x.ref) := cc 0 (by omega) _ rfl
      have d1 : wr.cell? ⟨g, off + k * 2 + 1, none⟩ = some (.int .u64 x.mm) := cc 1 (by omega) _ rfl
      have hyl : ([(5 : UInt8)] ++ (l.take k).flatMap encMrk).length ≤ 1 + k * 16 := by
        have h1 := flatMap_len encMrk 16 (fun s => Nat.le_of_eq (encMrk_len s)) (l.take k)
        have h2 : (l.take k).length ≤ k := List.length_take_le _ _
        have h3 : (l.take k).length * 16 ≤ k * 16 := Nat.mul_le_mul_right _ h2
        rw [List.length_append, List.length_singleton]; omega
      have RA := R.alloc (.cells #[.int .u64 x.ref, .int .u64 x.mm] 166)
      have hQ1 := put_more2 RA (f := 181) (args := #[.pointer (some ⟨w.heap.size, 0, none⟩), .int .u64 x.ref]) (zs := Lib.beBytes 8 x.ref) (fun o2 he => putBE64 _ o2 _ _ hwx.1 _ he (by rw [List.length_append]; omega))
      have hBx := Blk.new wr 166 #[.int .u64 x.ref, .int .u64 x.mm]
      have x0 := hBx.cell 0
      simp at x0
      have HX := Lib.hid hx
      have HBX := Lib.hid hBx
      have HL := Lib.hid hyl
      clear hx hFk cc hBx hyl hcell
      go_wp2_with (go_at_call 181; refine hQ1.mono ?_; rintro rA wA ⟨rfl, RB, KB⟩; refine Hid.out ?_)
      have hBx := KB.out _ _ _ (by decide) (by decide) HBX.out
      have x1 := hBx.cell 1
      simp at x1
      have hQ2 := put_more2 RB (f := 181) (args := #[.pointer (some ⟨w.heap.size, 0, none⟩), .int .u64 x.mm]) (zs := Lib.beBytes 8 x.mm) (fun o2 he => putBE64 _ o2 _ _ hwx.2 _ he (by have := HL.out; rw [List.length_append, List.length_append, Lib.beBytes_length]; omega))
      clear hQ1 d0 d1 x0 hBx
      refine Lib.hid ?_
      go_wp2_with (go_at_call 181; refine hQ2.mono ?_; rintro rD wD ⟨rfl, RD, KD⟩)
      have RE : Put WB w.heap.size (Value.slice a' n' k').ownBlock xs ([5] ++ (l.take (k + 1)).flatMap encMrk) wD := by
        rw [flatMap_take_succ' encMrk l k x HX.out]
        simpa [encMrk, List.append_assoc] using RD
      have HRE := Lib.hid RE
      clear RE RD RB hQ2 x1 KB KD R RA
      go_wp2
      go_roundw
      case rel => exact ⟨k + 1, by omega, by go_num, HRE.out⟩
      case measure => simp [intOf]; omega
    · obtain rfl : k = n := by omega
      obtain ⟨oZ, hEZ, hfZ, hoZ⟩ := R
      have hG := encGet _ _ _ _ hEZ
      have HEZ := Lib.hid hEZ
      have HZ := Lib.hid hfZ
      clear hEZ hfZ
      go_wp2_with (go_at_call 116; refine hG.mono ?_; rintro rr w2 ⟨v2, rfl, rfl, hown2, hv2⟩)
      go_ret
      refine ⟨v2, rfl, ?_, HFW.out.trans HZ.out (fun k hk e => ?_), ?_⟩
      · have e1 : l.take k = l := List.take_of_length_le (by rw [HN.out]; exact Nat.le_refl _)
        rw [e1] at hown2
        simpa [encMarkers] using hown2
      · rcases e with e | e
        · omega
        · exact e
      · rw [hv2]
        rcases hoZ with h | ⟨k2, h, hk2⟩
        · exact .inl h
        · exact .inr ⟨k2, h, by omega⟩
end Go.Proofs.YtbkookiigkckdaaGreatDoor

