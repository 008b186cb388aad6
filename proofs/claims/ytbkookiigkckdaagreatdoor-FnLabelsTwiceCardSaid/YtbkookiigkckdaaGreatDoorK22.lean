/- Texts of this seat, merged: Nm, Tn. -/
import Derived.Test.YtbkookiigkckdaaGreatDoorK20
import Derived.Test.YtbkookiigkckdaaGreatDoorK09
/- The spec's LegacyName 18, Plain 19. -/
namespace Go.Proofs.YtbkookiigkckdaaGreatDoor
open Go.RowKit
set_option linter.unusedVariables false
set_option linter.unusedSimpArgs false

def intNat : Value → Nat
  | .int _ n => n.toNat
  | _ => 0
theorem intNat_int (k : IntKind) (n : Nat) : intNat (.int k n) = n := Int.toNat_natCast n
theorem mem_byte (s : ByteArray) (i : Nat) (h : i < s.size) : (s[i]'h) ∈ s.data.toList := List.mem_of_getElem? (Lib.data_getElem? s i h)
theorem size_zero_isEmpty {s : ByteArray} (h : s.size = 0) : s.toList.isEmpty = true := by
  rw [Lib.size_eq] at h
  rw [Lib.toList_data, List.eq_nil_of_length_eq_zero h]
  rfl
def PlainB (b : Nat) : Prop := (32 ≤ b ∧ b ≤ 126) ∧ b ≠ 34 ∧ b ≠ 92
/-- 'yes' where P, and there alone. -/
def OnlyIf (P : Prop) (e : Ending) : Prop := ∃ q : Bool, e = .returned (.bool q) ∧ (q = true ↔ P)

set_option maxHeartbeats 16000000 in
set_option maxRecDepth 100000 in
theorem legacyName_any (s : ByteArray) (hs : s.size ≤ 1073741824) (w : World) : Calls Tryz.prog 18 #[.string s] w fun e w' => OnlyIf (LegacyS s) e ∧ Hid (w' = w) := by
  go_enter Tryz.func18, Tryz.ntmps18
  go_wp2
  go_loopw [3] (fun v3 wr => ∃ i : Nat, v3 = .int .i64 i ∧ Hid (wr = w) ∧ i ≤ s.size ∧ Hid (∀ j (h : j < s.size), j < i → NameB j (s[j]'h).toNat)) (fun v3 _ => s.size - intNat v3)
  case atStart => exact ⟨0, rfl, Lib.hid rfl, Nat.zero_le _, Lib.hid (fun j _ h => absurd h (Nat.not_lt_zero _))⟩
  case round =>
    obtain ⟨i, rfl, HF, hi, HI⟩ := hrel
    by_cases hp : i < s.size
    · have hp' : (i : Int) < s.size := by omega
      have hb : (s[i]'hp).toNat < 256 := UInt8.toNat_lt _
      have HB : Hid (∀ z, ((s[i]'hp).toNat : Int) = z → (z = 95 ∨ (97 ≤ z ∧ z ≤ 122) ∨ (65 ≤ z ∧ z ≤ 90) ∨ (0 < i ∧ 48 ≤ z ∧ z ≤ 57)) → ∀ j (h : j < s.size), j < i + 1 → NameB j (s[j]'h).toNat) := Lib.hid (fun z hz h j hj hlt => by
        rcases Nat.lt_or_ge j i with hji | hji
        · exact HI.out j hj hji
        · obtain rfl : j = i := by omega
          unfold NameB
          omega)
      have hbad : ∀ z, ((s[i]'hp).toNat : Int) = z → ¬ (z = 95 ∨ (97 ≤ z ∧ z ≤ 122) ∨ (65 ≤ z ∧ z ≤ 90) ∨ (0 < i ∧ 48 ≤ z ∧ z ≤ 57)) → ¬ LegacyS s := fun z hz hn hl => hn (by
        have := hl.2 i hp
        unfold NameB at this
        omega)
      obtain ⟨z, hz⟩ : ∃ z : Int, ((s[i]'hp).toNat : Int) = z := ⟨_, rfl⟩
      have HN := Lib.hid (HB.out z hz)
      have HBAD := Lib.hid (hbad z hz)
      have hidx : ∀ W : World, (Instr.index 9 (.string s) (.int .i64 i)).run Tryz.prog W = .ok (.int .u8 z) W := fun W => by
        rw [← hz]
        simp [go_sem, hp, hp']
        done
      have hz0 : 0 ≤ z := by omega
      have hz1 : z ≤ 255 := by omega
      clear hz hb HB hbad
      have hcase : (z = 95) ∨ (97 ≤ z ∧ z ≤ 122) ∨ (65 ≤ z ∧ z ≤ 90) ∨ (0 < i ∧ 48 ≤ z ∧ z ≤ 57) ∨ (z < 48) ∨ (48 ≤ z ∧ z ≤ 57 ∧ i = 0) ∨ (57 < z ∧ z < 65) ∨ (90 < z ∧ z < 95) ∨ (z = 96) ∨ (122 < z) := by omega
      rcases hcase with rfl | ⟨h1, h2⟩ | ⟨h1, h2⟩ | ⟨h0, h1, h2⟩ | h1 | ⟨h1, h2, h0⟩ | ⟨h1, h2⟩ | ⟨h1, h2⟩ | rfl | h1
      · -- z = 95
        have HN2 := Lib.hid (HN.out (by omega))
        go_wp2
        all_goals first | (exfalso; omega) | skip
        go_roundw
        case rel => exact ⟨i + 1, rfl, HF, hp, HN2⟩
        case measure => show s.size - intNat (.int .i64 ((i + 1 : Nat) : Int)) < s.size - intNat (.int .i64 (i : Int)); rw [intNat_int, intNat_int]; omega
      · -- 97 ≤ z ∧ z ≤ 122
        have hne : (z == 95) = false := by rw [beq_eq_false_iff_ne]; omega
        have HN2 := Lib.hid (HN.out (by omega))
        go_wp2
        all_goals first | (exfalso; omega) | skip
        go_roundw
        case rel => exact ⟨i + 1, rfl, HF, hp, HN2⟩
        case measure => show s.size - intNat (.int .i64 ((i + 1 : Nat) : Int)) < s.size - intNat (.int .i64 (i : Int)); rw [intNat_int, intNat_int]; omega
      · -- 65 ≤ z ∧ z ≤ 90
        have hne : (z == 95) = false := by rw [beq_eq_false_iff_ne]; omega
        have HN2 := Lib.hid (HN.out (by omega))
        go_wp2
        all_goals first | (exfalso; omega) | skip
        go_roundw
        case rel => exact ⟨i + 1, rfl, HF, hp, HN2⟩
        case measure => show s.size - intNat (.int .i64 ((i + 1 : Nat) : Int)) < s.size - intNat (.int .i64 (i : Int)); rw [intNat_int, intNat_int]; omega
      · -- 0 < i ∧ 48 ≤ z ∧ z ≤ 57
        have hne : (z == 95) = false := by rw [beq_eq_false_iff_ne]; omega
        have HN2 := Lib.hid (HN.out (by omega))
        go_wp2
        all_goals first | (exfalso; omega) | skip
        go_roundw
        case rel => exact ⟨i + 1, rfl, HF, hp, HN2⟩
        case measure => show s.size - intNat (.int .i64 ((i + 1 : Nat) : Int)) < s.size - intNat (.int .i64 (i : Int)); rw [intNat_int, intNat_int]; omega
      · -- z < 48
        have hne : (z == 95) = false := by rw [beq_eq_false_iff_ne]; omega
        go_wp2
        all_goals first
          | (exfalso; omega)
          | (exfalso; simp only [Bool.not_eq_false', Bool.not_eq_true', decide_eq_true_eq, decide_eq_false_iff_not] at *; omega)
          | (exfalso; have h0 := H0.out; omega)
          | (go_ret; exact ⟨⟨false, rfl, ⟨(fun e => by cases e), fun hl => absurd hl (HBAD.out (by first | omega | (have h0 := H0.out; omega)))⟩⟩, HF⟩)
      · -- 48 ≤ z ∧ z ≤ 57 ∧ i = 0
        have hne : (z == 95) = false := by rw [beq_eq_false_iff_ne]; omega
        have H0 := Lib.hid h0
        clear h0
        go_wp2
        all_goals first
          | (exfalso; omega)
          | (exfalso; simp only [Bool.not_eq_false', Bool.not_eq_true', decide_eq_true_eq, decide_eq_false_iff_not] at *; omega)
          | (exfalso; have h0 := H0.out; omega)
          | (go_ret; exact ⟨⟨false, rfl, ⟨(fun e => by cases e), fun hl => absurd hl (HBAD.out (by first | omega | (have h0 := H0.out; omega)))⟩⟩, HF⟩)
      · -- 57 < z ∧ z < 65
        have hne : (z == 95) = false := by rw [beq_eq_false_iff_ne]; omega
        go_wp2
        all_goals first
          | (exfalso; omega)
          | (exfalso; simp only [Bool.not_eq_false', Bool.not_eq_true', decide_eq_true_eq, decide_eq_false_iff_not] at *; omega)
          | (exfalso; have h0 := H0.out; omega)
          | (go_ret; exact ⟨⟨false, rfl, ⟨(fun e => by cases e), fun hl => absurd hl (HBAD.out (by first | omega | (have h0 := H0.out; omega)))⟩⟩, HF⟩)
      · -- 90 < z ∧ z < 95
        have hne : (z == 95) = false := by rw [beq_eq_false_iff_ne]; omega
        go_wp2
        all_goals first
          | (exfalso; omega)
          | (exfalso; simp only [Bool.not_eq_false', Bool.not_eq_true', decide_eq_true_eq, decide_eq_false_iff_not] at *; omega)
          | (exfalso; have h0 := H0.out; omega)
          | (go_ret; exact ⟨⟨false, rfl, ⟨(fun e => by cases e), fun hl => absurd hl (HBAD.out (by first | omega | (have h0 := H0.out; omega)))⟩⟩, HF⟩)
      · -- z = 96
        go_wp2
        all_goals first
          | (exfalso; omega)
          | (exfalso; simp only [Bool.not_eq_false', Bool.not_eq_true', decide_eq_true_eq, decide_eq_false_iff_not] at *; omega)
          | (exfalso; have h0 := H0.out; omega)
          | (go_ret; exact ⟨⟨false, rfl, ⟨(fun e => by cases e), fun hl => absurd hl (HBAD.out (by first | omega | (have h0 := H0.out; omega)))⟩⟩, HF⟩)
      · -- 122 < z
        have hne : (z == 95) = false := by rw [beq_eq_false_iff_ne]; omega
        go_wp2
        all_goals first
          | (exfalso; omega)
          | (exfalso; simp only [Bool.not_eq_false', Bool.not_eq_true', decide_eq_true_eq, decide_eq_false_iff_not] at *; omega)
          | (exfalso; have h0 := H0.out; omega)
          | (go_ret; exact ⟨⟨false, rfl, ⟨(fun e => by cases e), fun hl => absurd hl (HBAD.out (by first | omega | (have h0 := H0.out; omega)))⟩⟩, HF⟩)
    · have hp' : ¬ (i : Int) < s.size := by omega
      go_wp2
      go_ret
      refine ⟨⟨_, rfl, ⟨fun e => ⟨?_, fun j h => HI.out j h (by omega)⟩, fun hl => ?_⟩⟩, HF⟩
      · rcases Nat.eq_zero_or_pos s.size with h0 | h0
        · rw [size_zero_isEmpty h0] at e
          cases e
        · exact h0
      · have h0 := hl.1
        rw [Lib.size_eq] at h0
        show (!s.toList.isEmpty) = true
        rw [Lib.toList_data]
        cases hd : s.data.toList with
        | nil => rw [hd] at h0; exact absurd h0 (Nat.lt_irrefl _)
        | cons x l => rfl

set_option maxHeartbeats 16000000 in
set_option maxRecDepth 100000 in
theorem plain_any (s : ByteArray) (hs : s.size ≤ 1073741824) (w : World) : Calls Tryz.prog 19 #[.string s] w fun e w' => OnlyIf (PlainS s) e ∧ Hid (w' = w) := by
  go_enter Tryz.func19, Tryz.ntmps19
  go_wp2
  go_loopw [3] (fun v3 wr => ∃ i : Nat, v3 = .int .i64 i ∧ Hid (wr = w) ∧ i ≤ s.size ∧ Hid (∀ j (h : j < s.size), j < i → PlainB (s[j]'h).toNat)) (fun v3 _ => s.size - intNat v3)
  case atStart => exact ⟨0, rfl, Lib.hid rfl, Nat.zero_le _, Lib.hid (fun j _ h => absurd h (Nat.not_lt_zero _))⟩
  case round =>
    obtain ⟨i, rfl, HF, hi, HI⟩ := hrel
    by_cases hp : i < s.size
    · have hp' : (i : Int) < s.size := by omega
      have hb : (s[i]'hp).toNat < 256 := UInt8.toNat_lt _
      have HB : Hid (∀ z, ((s[i]'hp).toNat : Int) = z → (32 ≤ z ∧ z ≤ 126 ∧ z ≠ 34 ∧ z ≠ 92) → ∀ j (h : j < s.size), j < i + 1 → PlainB (s[j]'h).toNat) := Lib.hid (fun z hz h j hj hlt => by
        rcases Nat.lt_or_ge j i with hji | hji
        · exact HI.out j hj hji
        · obtain rfl : j = i := by omega
          unfold PlainB
          omega)
      have hbad : ∀ z, ((s[i]'hp).toNat : Int) = z → ¬ (32 ≤ z ∧ z ≤ 126 ∧ z ≠ 34 ∧ z ≠ 92) → ¬ PlainS s := fun z hz hn hl => hn (by
        have := hl (s[i]'hp) (mem_byte s i hp)
        omega)
      obtain ⟨z, hz⟩ : ∃ z : Int, ((s[i]'hp).toNat : Int) = z := ⟨_, rfl⟩
      have HN := Lib.hid (HB.out z hz)
      have HBAD := Lib.hid (hbad z hz)
      have hidx : ∀ W : World, (Instr.index 9 (.string s) (.int .i64 i)).run Tryz.prog W = .ok (.int .u8 z) W := fun W => by
        rw [← hz]
        simp [go_sem, hp, hp']
        done
      have hz0 : 0 ≤ z := by omega
      have hz1 : z ≤ 255 := by omega
      clear hz hb HB hbad
      by_cases hg : 32 ≤ z ∧ z ≤ 126 ∧ z ≠ 34 ∧ z ≠ 92
      · have HN2 := Lib.hid (HN.out hg)
        obtain ⟨h1, h2, h3, h4⟩ := hg
        have e34 : (z == 34) = false := by rw [beq_eq_false_iff_ne]; omega
        have e92 : (z == 92) = false := by rw [beq_eq_false_iff_ne]; omega
        have hn1 : ¬ z < 32 := by omega
        have hn2 : ¬ 126 < z := by omega
        go_wp2
        all_goals first | (exfalso; omega) | skip
        go_roundw
        case rel => exact ⟨i + 1, rfl, HF, hp, HN2⟩
        case measure => show s.size - intNat (.int .i64 ((i + 1 : Nat) : Int)) < s.size - intNat (.int .i64 (i : Int)); rw [intNat_int, intNat_int]; omega
      · have hcase : z < 32 ∨ 126 < z ∨ z = 34 ∨ z = 92 := by omega
        clear hg
        rcases hcase with h1 | h1 | rfl | rfl
        · -- z < 32
          have e34 : (z == 34) = false := by rw [beq_eq_false_iff_ne]; omega
          have e92 : (z == 92) = false := by rw [beq_eq_false_iff_ne]; omega
          go_wp2
          all_goals first
            | (exfalso; omega)
            | (exfalso; simp only [Bool.not_eq_false', Bool.not_eq_true', decide_eq_true_eq, decide_eq_false_iff_not] at *; omega)
            | (go_ret; exact ⟨⟨false, rfl, ⟨(fun e => by cases e), fun hl => absurd hl (HBAD.out (by omega))⟩⟩, HF⟩)
        · -- 126 < z
          have e34 : (z == 34) = false := by rw [beq_eq_false_iff_ne]; omega
          have e92 : (z == 92) = false := by rw [beq_eq_false_iff_ne]; omega
          go_wp2
          all_goals first
            | (exfalso; omega)
            | (exfalso; simp only [Bool.not_eq_false', Bool.not_eq_true', decide_eq_true_eq, decide_eq_false_iff_not] at *; omega)
            | (go_ret; exact ⟨⟨false, rfl, ⟨(fun e => by cases e), fun hl => absurd hl (HBAD.out (by omega))⟩⟩, HF⟩)
        · -- 34
          go_wp2
          all_goals first
            | (exfalso; omega)
            | (exfalso; simp only [Bool.not_eq_false', Bool.not_eq_true', decide_eq_true_eq, decide_eq_false_iff_not] at *; omega)
            | (go_ret; exact ⟨⟨false, rfl, ⟨(fun e => by cases e), fun hl => absurd hl (HBAD.out (by omega))⟩⟩, HF⟩)
        · -- 92
          go_wp2
          all_goals first
            | (exfalso; omega)
            | (exfalso; simp only [Bool.not_eq_false', Bool.not_eq_true', decide_eq_true_eq, decide_eq_false_iff_not] at *; omega)
            | (go_ret; exact ⟨⟨false, rfl, ⟨(fun e => by cases e), fun hl => absurd hl (HBAD.out (by omega))⟩⟩, HF⟩)
    · have hp' : ¬ (i : Int) < s.size := by omega
      go_wp2
      go_ret
      refine ⟨⟨_, rfl, ⟨fun e b hb => ?_, fun _ => rfl⟩⟩, HF⟩
      obtain ⟨j, hj, rfl⟩ := List.getElem_of_mem hb
      have hj' : j < s.size := by rw [Lib.size_eq]; exact hj
      have := HI.out j hj' (by omega)
      unfold PlainB at this
      exact this
end Go.Proofs.YtbkookiigkckdaaGreatDoor

/- The text of labels, in plain Lean. -/
namespace Go.Proofs.YtbkookiigkckdaaGreatDoor
open Go.RowKit
set_option linter.unusedVariables false

/-- One label's text: the name, =, and the value in quotation marks. -/
def labN (x : Lab) : List Int := nums x.1 ++ 61 :: 34 :: (nums x.2 ++ [34])
/-- The first k labels' texts, a comma and a blank between two. -/
def bodyN (l : List Lab) : Nat → List Int
  | 0 => []
  | k + 1 => bodyN l k ++ ((if k = 0 then [] else [44, 32]) ++ labN (l.getD k (⟨#[]⟩, ⟨#[]⟩)))
def textN (l : List Lab) : List Int := 123 :: (bodyN l l.length ++ [125])
/-- A label that stands as it is. -/
def PlainL (x : Lab) : Prop := LegacyS x.1 ∧ PlainS x.2
theorem getD_of {l : List Lab} {k : Nat} {x d : Lab} (h : l[k]? = some x) : l.getD k d = x := by simp [List.getD, h]
end Go.Proofs.YtbkookiigkckdaaGreatDoor

