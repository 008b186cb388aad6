/- Merged. -/
import Derived.Test.YtbkookiigkckdaaGreatDoorKD01
import Derived.Lib.VarintBits
set_option linter.unusedVariables false
set_option linter.unusedSimpArgs false
set_option maxRecDepth 100000
set_option maxHeartbeats 8000000
namespace Go.Proofs.YtbkookiigkckdaaGreatDoor
open Go.RowKit Go.Proofs.Tryz
def Two (w : World) (p : Int -> Int -> Prop) (r : Ending) (w' : World) : Prop := ∃ x k, r = .returned (.tuple #[.int .u64 x, .int .i64 k]) /\ p x k /\ w = w'
def preU (b : Nat -> UInt8) : Nat -> Nat
 | 0 => 0
 | j + 1 => preU b j + (b j).toNat % 128 * 128 ^ j
def At8 (w : World) (g o m : Nat) (b : Nat -> UInt8) : Prop := ∀ j, j < m -> w.cell? ⟨g, o + j, none⟩ = some (.int .u8 (b j).toNat)
theorem uvS (k g o n c : Nat) (b : Nat -> UInt8) (w : World) (h : At8 w g o n b) (hn : n < 10) (hk : k < n) (t : ∀ j, j < k -> (128 : Int) <= (b j).toNat) (tk : ((b k).toNat : Int) < 128) :
 Calls prog 231 #[.slice (some ⟨g, o, none⟩) n c] w (Two w fun x m => x = ((preU b k + (b k).toNat * 128 ^ k : Nat) : Int) /\ m = (k : Int) + 1) := by
 have ct : k = 0 ∨ k = 1 ∨ k = 2 ∨ k = 3 ∨ k = 4 ∨ k = 5 ∨ k = 6 ∨ k = 7 ∨ k = 8 := by omega
 rcases ct with rfl | rfl | rfl | rfl | rfl | rfl | rfl | rfl | rfl; all_goals
  have h0 : w.cell? ⟨g, o, none⟩ = some (.int .u8 (b 0).toNat) := h 0 (by omega); have q0 := (b 0).toNat_lt; have i0 : (0 : Int) < (n : Int) := by omega
  have hz : ((n : Int) == 0) = false := by simp; omega
  try (have t0 := t 0 (by omega); have h1 := h 1 (by omega); have q1 := (b 1).toNat_lt; have i1 : (1 : Int) < (n : Int) := (by omega); have z1 : ((n : Int) == 1) = false := (by simp; omega))
  try (have t1 := t 1 (by omega); have h2 := h 2 (by omega); have q2 := (b 2).toNat_lt; have i2 : (2 : Int) < (n : Int) := (by omega); have z2 : ((n : Int) == 2) = false := (by simp; omega))
  try (have t2 := t 2 (by omega); have h3 := h 3 (by omega); have q3 := (b 3).toNat_lt; have i3 : (3 : Int) < (n : Int) := (by omega); have z3 : ((n : Int) == 3) = false := (by simp; omega))
  try (have t3 := t 3 (by omega); have h4 := h 4 (by omega); have q4 := (b 4).toNat_lt; have i4 : (4 : Int) < (n : Int) := (by omega); have z4 : ((n : Int) == 4) = false := (by simp; omega))
  try (have t4 := t 4 (by omega); have h5 := h 5 (by omega); have q5 := (b 5).toNat_lt; have i5 : (5 : Int) < (n : Int) := (by omega); have z5 : ((n : Int) == 5) = false := (by simp; omega))
  try (have t5 := t 5 (by omega); have h6 := h 6 (by omega); have q6 := (b 6).toNat_lt; have i6 : (6 : Int) < (n : Int) := (by omega); have z6 : ((n : Int) == 6) = false := (by simp; omega))
  try (have t6 := t 6 (by omega); have h7 := h 7 (by omega); have q7 := (b 7).toNat_lt; have i7 : (7 : Int) < (n : Int) := (by omega); have z7 : ((n : Int) == 7) = false := (by simp; omega))
  try (have t7 := t 7 (by omega); have h8 := h 8 (by omega); have q8 := (b 8).toNat_lt; have i8 : (8 : Int) < (n : Int) := (by omega); have z8 : ((n : Int) == 8) = false := (by simp; omega))
  clear h t; go_enter func231, ntmps231; go_wp2; go_ret2; refine ⟨_, _, rfl, ⟨?_, rfl⟩, rfl⟩; try simp (disch := omega) only [u64_wrap_id, u8_and127, u64_orv7, u64_orv14, u64_orv21, u64_orv28, u64_orv35, u64_orv42, u64_orv49, u64_orv56, u64_orv63]
  simp only [preU]; omega
theorem uvF (k g o n c : Nat) (b : Nat -> UInt8) (w : World) (h : At8 w g o 10 b) (hn : 10 <= n) (hn' : n <= 9223372036854775807) (hk : k < 10) (t : ∀ j, j < k -> (128 : Int) <= (b j).toNat) (tk : ((b k).toNat : Int) < 128) (u9 : k = 9 -> ((b 9).toNat : Int) <= 1) :
 Calls prog 231 #[.slice (some ⟨g, o, none⟩) n c] w (Two w fun x m => x = ((preU b k + (b k).toNat * 128 ^ k : Nat) : Int) /\ m = (k : Int) + 1) := by
 have ct : k = 0 ∨ k = 1 ∨ k = 2 ∨ k = 3 ∨ k = 4 ∨ k = 5 ∨ k = 6 ∨ k = 7 ∨ k = 8 ∨ k = 9 := by omega
 rcases ct with rfl | rfl | rfl | rfl | rfl | rfl | rfl | rfl | rfl | rfl; all_goals
  have h0 : w.cell? ⟨g, o, none⟩ = some (.int .u8 (b 0).toNat) := h 0 (by omega); have q0 := (b 0).toNat_lt; have i0 : (0 : Int) < (n : Int) := by omega
  have hz : ((n : Int) == 0) = false := by simp; omega
  try (have t0 := t 0 (by omega); have h1 := h 1 (by omega); have q1 := (b 1).toNat_lt; have i1 : (1 : Int) < (n : Int) := (by omega))
  try (have t1 := t 1 (by omega); have h2 := h 2 (by omega); have q2 := (b 2).toNat_lt; have i2 : (2 : Int) < (n : Int) := (by omega))
  try (have t2 := t 2 (by omega); have h3 := h 3 (by omega); have q3 := (b 3).toNat_lt; have i3 : (3 : Int) < (n : Int) := (by omega))
  try (have t3 := t 3 (by omega); have h4 := h 4 (by omega); have q4 := (b 4).toNat_lt; have i4 : (4 : Int) < (n : Int) := (by omega))
  try (have t4 := t 4 (by omega); have h5 := h 5 (by omega); have q5 := (b 5).toNat_lt; have i5 : (5 : Int) < (n : Int) := (by omega))
  try (have t5 := t 5 (by omega); have h6 := h 6 (by omega); have q6 := (b 6).toNat_lt; have i6 : (6 : Int) < (n : Int) := (by omega))
  try (have t6 := t 6 (by omega); have h7 := h 7 (by omega); have q7 := (b 7).toNat_lt; have i7 : (7 : Int) < (n : Int) := (by omega))
  try (have t7 := t 7 (by omega); have h8 := h 8 (by omega); have q8 := (b 8).toNat_lt; have i8 : (8 : Int) < (n : Int) := (by omega))
  try (have t8 := t 8 (by omega); have h9 := h 9 (by omega); have q9 := (b 9).toNat_lt; have i9 : (9 : Int) < (n : Int) := (by omega))
  try have u := u9 rfl
  clear h t u9; go_enter func231, ntmps231; go_wp2; go_ret2; refine ⟨_, _, rfl, ⟨?_, rfl⟩, rfl⟩; try simp (disch := omega) only [u64_wrap_id, u8_and127, u64_orv7, u64_orv14, u64_orv21, u64_orv28, u64_orv35, u64_orv42, u64_orv49, u64_orv56, u64_orv63]
  simp only [preU]; omega
theorem uvE (g o n c : Nat) (b : Nat -> UInt8) (w : World) (h : At8 w g o n b) (h1 : 1 <= n) (h9 : n <= 9) (t : ∀ j, j < n -> (128 : Int) <= (b j).toNat) :
 Calls prog 231 #[.slice (some ⟨g, o, none⟩) n c] w (Two w fun x m => x = 0 /\ m <= 0) := by
 obtain ⟨k, ha, hb⟩ : ∃ k, n <= k /\ k <= n := ⟨n, zmt _, zmt _⟩; have hk : k = 1 ∨ k = 2 ∨ k = 3 ∨ k = 4 ∨ k = 5 ∨ k = 6 ∨ k = 7 ∨ k = 8 ∨ k = 9 := by omega
 rcases hk with rfl | rfl | rfl | rfl | rfl | rfl | rfl | rfl | rfl; all_goals
  have h0 : w.cell? ⟨g, o, none⟩ = some (.int .u8 (b 0).toNat) := h 0 (by omega); have q0 := (b 0).toNat_lt; have i0 : (0 : Int) < (n : Int) := by omega
  have hz : ((n : Int) == 0) = false := by simp; omega
  have t0 := t 0 (by omega); try (have h1 := h 1 (by omega); have q1 := (b 1).toNat_lt; have i1 : (1 : Int) < (n : Int) := (by omega); have t1 := t 1 (by omega); have z1 : ((n : Int) == 1) = false := (by simp; omega))
  try (have h2 := h 2 (by omega); have q2 := (b 2).toNat_lt; have i2 : (2 : Int) < (n : Int) := (by omega); have t2 := t 2 (by omega); have z2 : ((n : Int) == 2) = false := (by simp; omega))
  try (have h3 := h 3 (by omega); have q3 := (b 3).toNat_lt; have i3 : (3 : Int) < (n : Int) := (by omega); have t3 := t 3 (by omega); have z3 : ((n : Int) == 3) = false := (by simp; omega))
  try (have h4 := h 4 (by omega); have q4 := (b 4).toNat_lt; have i4 : (4 : Int) < (n : Int) := (by omega); have t4 := t 4 (by omega); have z4 : ((n : Int) == 4) = false := (by simp; omega))
  try (have h5 := h 5 (by omega); have q5 := (b 5).toNat_lt; have i5 : (5 : Int) < (n : Int) := (by omega); have t5 := t 5 (by omega); have z5 : ((n : Int) == 5) = false := (by simp; omega))
  try (have h6 := h 6 (by omega); have q6 := (b 6).toNat_lt; have i6 : (6 : Int) < (n : Int) := (by omega); have t6 := t 6 (by omega); have z6 : ((n : Int) == 6) = false := (by simp; omega))
  try (have h7 := h 7 (by omega); have q7 := (b 7).toNat_lt; have i7 : (7 : Int) < (n : Int) := (by omega); have t7 := t 7 (by omega); have z7 : ((n : Int) == 7) = false := (by simp; omega))
  try (have h8 := h 8 (by omega); have q8 := (b 8).toNat_lt; have i8 : (8 : Int) < (n : Int) := (by omega); have t8 := t 8 (by omega); have z8 : ((n : Int) == 8) = false := (by simp; omega))
  try have e1 : ((n : Int) == 1) = true := (by simp; omega)
  try have e2 : ((n : Int) == 2) = true := (by simp; omega)
  try have e3 : ((n : Int) == 3) = true := (by simp; omega)
  try have e4 : ((n : Int) == 4) = true := (by simp; omega)
  try have e5 : ((n : Int) == 5) = true := (by simp; omega)
  try have e6 : ((n : Int) == 6) = true := (by simp; omega)
  try have e7 : ((n : Int) == 7) = true := (by simp; omega)
  try have e8 : ((n : Int) == 8) = true := (by simp; omega)
  try have e9 : ((n : Int) == 9) = true := (by simp; omega)
  clear h t; go_enter func231, ntmps231; go_wp2; go_ret2; exact ⟨_, _, rfl, ⟨rfl, by decide⟩, rfl⟩
theorem uvZ (g o n c : Nat) (b : Nat -> UInt8) (w : World) (h : At8 w g o n b) (hn : 10 <= n) (aQ : n <= c) (hn' : n <= 9223372036854775807) (t : ∀ j, j < 9 -> (128 : Int) <= (b j).toNat) (t9 : ((b 9).toNat : Int) < 128 -> (1 : Int) < (b 9).toNat) :
 Calls prog 231 #[.slice (some ⟨g, o, none⟩) n c] w (Two w fun x m => x = 0 /\ m <= 0) := by
 have hz : ((n : Int) == 0) = false := by simp; omega
 have h0 : w.cell? ⟨g, o, none⟩ = some (.int .u8 (b 0).toNat) := h 0 (by omega); have h1 := h 1 (by omega); have h2 := h 2 (by omega); have h3 := h 3 (by omega); have h4 := h 4 (by omega); have h5 := h 5 (by omega); have h6 := h 6 (by omega); have h7 := h 7 (by omega); have h8 := h 8 (by omega); have h9 := h 9 (by omega); have t0 := t 0 (by omega); have t1 := t 1 (by omega)
 have t2 := t 2 (by omega); have t3 := t 3 (by omega); have t4 := t 4 (by omega); have t5 := t 5 (by omega); have t6 := t 6 (by omega); have t7 := t 7 (by omega); have t8 := t 8 (by omega); have q0 := (b 0).toNat_lt; have i0 : (0 : Int) < (n : Int) := by omega
 have q1 := (b 1).toNat_lt; have i1 : (1 : Int) < (n : Int) := by omega
 have q2 := (b 2).toNat_lt; have i2 : (2 : Int) < (n : Int) := by omega
 have q3 := (b 3).toNat_lt; have i3 : (3 : Int) < (n : Int) := by omega
 have q4 := (b 4).toNat_lt; have i4 : (4 : Int) < (n : Int) := by omega
 have q5 := (b 5).toNat_lt; have i5 : (5 : Int) < (n : Int) := by omega
 have q6 := (b 6).toNat_lt; have i6 : (6 : Int) < (n : Int) := by omega
 have q7 := (b 7).toNat_lt; have i7 : (7 : Int) < (n : Int) := by omega
 have q8 := (b 8).toNat_lt; have i8 : (8 : Int) < (n : Int) := by omega
 have q9 := (b 9).toNat_lt; have i9 : (9 : Int) < (n : Int) := by omega
 have aS := zmh h; clear h t; by_cases s9 : ((b 9).toNat : Int) < 128
 ·have u9 := t9 s9
  clear t9; go_enter func231, ntmps231; go_wp2; go_ret2; exact ⟨_, _, rfl, ⟨rfl, by decide⟩, rfl⟩
 ·have s9 : (128 : Int) <= (b 9).toNat := by omega
  clear t9; by_cases hm : n <= 10
  ·have hten : ((n : Int) == 10) = true := by simp; omega
   go_enter func231, ntmps231; go_wp2; go_ret2; exact ⟨_, _, rfl, ⟨rfl, by decide⟩, rfl⟩
  ·have hten : ((n : Int) == 10) = false := by simp; omega
   have hc10 : ¬ c = 10 := by omega
   have hm' : 11 <= n := by omega
   clear hm; go_enter func231, ntmps231; go_wp2; clear h0 i0 h1 i1 h2 i2 h3 i3 h4 i4 h5 i5 h6 i6 h7 i7 h8 i8 h9 i9 t0 t1 t2 t3 t4 t5 t6 t7 t8 s9; go_loop [209] (fun i => ∃ k : Nat, k <= n - 10 /\ i = .int .i64 k) (fun i => n - 10 - (intOf i).toNat)
   case atStart => exact ⟨0, zms _, rfl⟩
   case round =>
    obtain ⟨k, hk, rfl⟩ := hrel; by_cases hlt : k < n - 10
    ·have hb := aS.out (10 + k) (by omega)
     obtain ⟨b', hb1⟩ := exE (b (10 + k)); rw [hb1] at hb; have bJ : w.cell? ⟨g, o + 10 + k, none⟩ = some (.int .u8 b'.toNat) := by rw [<- hb]; congr 2; omega
     clear hb hb1; go_wp2
     ·go_ret2
      refine ⟨_, _, rfl, ?_, rfl⟩; exact ⟨rfl, by first | omega | (simp only []; omega) | (unfold wrap64; omega)⟩
     ·go_round
      case rel => exact ⟨k + 1, by omega, by go_num⟩
      case measure => simp [intOf]; omega
    ·go_wp2
     go_ret2; exact ⟨_, _, rfl, ⟨rfl, by decide⟩, rfl⟩
theorem uvE0 (A : Option Addr) (c : Nat) (w : World) : Calls prog 231 #[.slice A 0 c] w (Two w fun x m => x = 0 /\ m <= 0) := by
 go_enter func231, ntmps231; go_wp2; go_ret2; exact ⟨_, _, rfl, ⟨rfl, by decide⟩, rfl⟩
theorem from_cont {i acc : Nat} {b : UInt8} {r : List UInt8} (hi : i < 10) (hb : 128 <= b.toNat) : Lib.uvarintFrom i acc (b :: r) = Lib.uvarintFrom (i + 1) (acc + b.toNat % 128 * 128 ^ i) r := by
 rw [Lib.uvarintFrom, znd (by omega), znd (by omega), Nat.pow_mul]
theorem from_end {i acc : Nat} {b : UInt8} {r : List UInt8} (hi : i < 10) (hb : b.toNat < 128) (h9 : i = 9 -> b.toNat <= 1) : Lib.uvarintFrom i acc (b :: r) = (acc + b.toNat * 128 ^ i, (i : Int) + 1) := by
 rw [Lib.uvarintFrom, znd (by omega), if_pos hb, znd (by omega), Nat.pow_mul]
theorem from_over {acc : Nat} {b : UInt8} {r : List UInt8} (hb : b.toNat < 128) (h9 : 1 < b.toNat) : Lib.uvarintFrom 9 acc (b :: r) = (0, -10) := by
 rw [Lib.uvarintFrom, znd (by omega), if_pos hb, if_pos ⟨rfl, h9⟩]; rfl
theorem from_ten {acc : Nat} : ∀ (r : List UInt8), (Lib.uvarintFrom 10 acc r).2 < 1
 | [] => by simp [Lib.uvarintFrom]
 | b :: r => by rw [Lib.uvarintFrom, if_pos rfl]; decide
theorem drop_at {l : List UInt8} {k : Nat} {x : UInt8} (h : l[k]? = some x) : l.drop k = x :: l.drop (k + 1) := by
 obtain ⟨hk, e⟩ := List.getElem?_eq_some_iff.1 h; rw [<- e]; exact List.drop_eq_getElem_cons hk
theorem zfY (b : Nat -> UInt8) (l : List UInt8) : ∀ k, k <= 10 -> (∀ j, j < k -> l[j]? = some (b j)) -> (∀ j, j < k -> 128 <= (b j).toNat) -> Lib.uvarintDec l = Lib.uvarintFrom k (preU b k) (l.drop k)
 | 0, _, _, _ => rfl
 | k + 1, hk, hl, hb => by
   rw [zfY b l k (by omega) (fun j hj => hl j (by omega)) (fun j hj => hb j (by omega)), drop_at (hl k (by omega)), from_cont (by omega) (hb k (by omega))]; rfl
theorem zgH (b : Nat -> UInt8) : ∀ m, (∃ k, k < m /\ (b k).toNat < 128 /\ ∀ j, j < k -> 128 <= (b j).toNat) ∨ ∀ j, j < m -> 128 <= (b j).toNat
 | 0 => .inr fun j hj => absurd hj (zm2 _)
 | m + 1 => by
   rcases zgH b m with ⟨k, h1, h2, h3⟩ | h
   ·exact .inl ⟨k, by omega, h2, h3⟩
   ·by_cases hs : (b m).toNat < 128
    ·exact .inl ⟨m, by omega, hs, h⟩
    ·refine .inr fun j hj => ?_
     by_cases e : j = m
     ·subst e; omega
     ·exact h j (by omega)
def zk5 (w : World) (l : List UInt8) (r : Ending) (w' : World) : Prop :=
 ∃ x k : Int, r = .returned (.tuple #[.int .u64 x, .int .i64 k]) /\ w = w' /\ (1 <= (Lib.uvarintDec l).2 -> x = (Lib.uvarintDec l).1 /\ k = (Lib.uvarintDec l).2) /\ ((Lib.uvarintDec l).2 < 1 -> x = 0 /\ k < 1)
theorem uv_good {w : World} {l : List UInt8} {X K : Int} {N : Nat} {K' : Int} {f : FuncId} {args : Array Value} (h : Calls prog f args w (Two w fun x m => x = X /\ m = K)) (hd : Lib.uvarintDec l = (N, K')) (hX : X = (N : Int)) (hK : K' = K /\ 1 <= K) : Calls prog f args w (zk5 w l) :=
 h.mono fun r w' ⟨x, k, hr, ⟨hx, hk⟩, hw⟩ => ⟨x, k, hr, hw, fun _ => by rw [hd]; exact ⟨hx.trans hX, hk.trans hK.1.symm⟩, fun h1 => by rw [hd] at h1; have h2 : K' < 1 := h1; omega⟩
theorem zkE {w : World} {l : List UInt8} {f : FuncId} {args : Array Value} (h : Calls prog f args w (Two w fun x m => x = 0 /\ m <= 0)) (hd : (Lib.uvarintDec l).2 < 1) : Calls prog f args w (zk5 w l) :=
 h.mono fun r w' ⟨x, k, hr, ⟨hx, hk⟩, hw⟩ => ⟨x, k, hr, hw, fun h1 => by omega, fun _ => ⟨hx, by omega⟩⟩
theorem uvAny (g o n c : Nat) (w : World) (l : List UInt8) (hn : l.length = n) (aQ : n <= c) (hm : c <= 9223372036854775807) (hc : ∀ j b, l[j]? = some b -> w.cell? ⟨g, o + j, none⟩ = some (.int .u8 b.toNat)) :
 Calls prog 231 #[.slice (some ⟨g, o, none⟩) n c] w (zk5 w l) := by
 have hm' : n <= 9223372036854775807 := zm0 aQ hm; obtain ⟨b, hb⟩ : ∃ b : Nat -> UInt8, ∀ j, j < n -> l[j]? = some (b j) := ⟨fun j => l.getD j 0, fun j hj => by simp [zmj (show j < l.length by omega)]⟩; have h : At8 w g o n b := fun j hj => hc j _ (hb j hj); rcases zgH b (min n 10) with ⟨k, hk, hs, hbig⟩ | hbig
 ·have t : ∀ j, j < k -> (128 : Int) <= (b j).toNat := fun j hj => Int.ofNat_le.2 (hbig j hj)
  have tk : ((b k).toNat : Int) < 128 := Int.ofNat_lt.2 hs; have hp := zfY b l k (by omega) (fun j hj => hb j (by omega)) hbig; rw [drop_at (hb k (by omega))] at hp; by_cases h9 : k = 9 -> (b k).toNat <= 1
  ·have hd : Lib.uvarintDec l = (preU b k + (b k).toNat * 128 ^ k, (k : Int) + 1) := by rw [hp, from_end (by omega) hs h9]
   by_cases h10 : 10 <= n
   ·exact uv_good (uvF k g o n c b w (fun j hj => h j (by omega)) h10 hm' (by omega) t tk (fun e => by have := h9 e; rw [e] at this; omega)) hd rfl ⟨rfl, by omega⟩
   ·exact uv_good (uvS k g o n c b w h (by omega) (by omega) t tk) hd rfl ⟨rfl, by omega⟩
  ·have e : k = 9 := Classical.byContradiction fun e => h9 fun e2 => absurd e2 e
   have u : 1 < (b k).toNat := Nat.lt_of_not_le fun u => h9 fun _ => u; subst e; exact zkE (uvZ g o n c b w h (by omega) aQ hm' t (fun _ => Int.ofNat_lt.2 u)) (by rw [hp, from_over hs u]; decide)
 ·by_cases h0 : n = 0
  ·subst h0
   obtain rfl : l = [] := zmJ hn; exact zkE (uvE0 _ _ _) (by decide)
  ·by_cases h9 : n <= 9
   ·have hp := zfY b l n (by omega) hb (fun j hj => hbig j (by omega))
    rw [List.drop_of_length_le (by omega)] at hp; exact zkE (uvE g o n c b w h (by omega) h9 (fun j hj => Int.ofNat_le.2 (hbig j (by omega)))) (by rw [hp, Lib.uvarintFrom]; decide)
   ·have hp := zfY b l 10 (by omega) (fun j hj => hb j (by omega)) (fun j hj => hbig j (by omega))
    exact zkE (uvZ g o n c b w h (by omega) aQ hm' (fun j hj => Int.ofNat_le.2 (hbig j (by omega))) (fun h1 => by have := hbig 9 (by omega); omega)) (by rw [hp]; exact from_ten _)
end Go.Proofs.YtbkookiigkckdaaGreatDoor
