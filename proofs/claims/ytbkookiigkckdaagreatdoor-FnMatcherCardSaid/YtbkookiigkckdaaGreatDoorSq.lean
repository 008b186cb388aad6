/- shouldQuoteName; the spec's LegacyName and Plain. -/
import Derived.Test.YtbkookiigkckdaaGreatDoorBt
import Derived.Laws.RangeAny
import Derived.Lib.TrimU
namespace Go.Proofs.YtbkookiigkckdaaGreatDoor
open Go.RowKit
set_option linter.unusedVariables false
set_option linter.unusedSimpArgs false

/-- Byte b at place i of a name that stands without quotation marks. -/
def NameB (i b : Nat) : Prop := b = 95 ∨ (97 ≤ b ∧ b ≤ 122) ∨ (65 ≤ b ∧ b ≤ 90) ∨ (0 < i ∧ 48 ≤ b ∧ b ≤ 57)
def LegacyS (s : ByteArray) : Prop := 0 < s.size ∧ ∀ i (h : i < s.size), NameB i (s[i]'h).toNat

theorem name_rune {s : ByteArray} (hs : LegacyS s) {pos : Nat} (h : pos < s.size) : ∃ b, (Utf8.decode s pos).1 = b ∧ NameB pos b := by
  have hb := hs.2 pos h
  have ha : (s[pos]'h).toNat < 128 := by unfold NameB at hb; omega
  exact ⟨_, by rw [decode_ascii s pos h ha], hb⟩


/-- A name that keeps the rule needs no quotation marks, and the empty one does. -/
def SqEnds (s : ByteArray) (e : Ending) : Prop := ∃ q : Bool, e = .returned (.bool q) ∧ (LegacyS s → q = false) ∧ (q = false → 0 < s.size)

set_option maxHeartbeats 16000000 in
set_option maxRecDepth 100000 in
theorem shouldQuote_any (mb : Nat) (s : ByteArray) (hs : s.size ≤ 1073741824) (w : World) (hm : mb < w.heap.size) (hc : w.cell? ⟨mb, 1, none⟩ = some (.string s)) :
    Calls Tryz.prog 141 #[.pointer (some ⟨mb, 0, none⟩)] w fun e w' => SqEnds s e ∧ Fr (fun _ => False) w w' := by
  have hcw : ∀ pos, (w.iter s pos).cell? ⟨mb, 1, none⟩ = some (.string s) := fun pos => by
    exact (((Fr.refl (fun _ => False) w).alloc (.stringIter s pos)).cell (p := ⟨mb, 1, none⟩) hm (fun e => e)).trans hc
  have hfw : ∀ pos, Fr (fun _ => False) w (w.iter s pos) := fun pos => (Fr.refl _ w).alloc _
  have HFW := Lib.hid hfw
  have hpos : Hid (LegacyS s → 0 < s.size) := Lib.hid fun h => h.1
  clear hfw
  go_enter Tryz.func141, Tryz.ntmps141
  go_wp2
  go_loopw [] (fun wr => ∃ pos, wr = w.iter s pos) (fun wr => s.size - wr.iterPos w.heap.size)
  case atStart => exact ⟨0, rfl⟩
  case round =>
    obtain ⟨pos, rfl⟩ := hrel
    by_cases hp : pos < s.size
    · have hwd := Lib.width_pos s pos
      have hle := decode_le s pos
      have HNR := Lib.hid (fun hl : LegacyS s => name_rune hl hp)
      have hnx := fun ty => run_next_any (P := Tryz.prog) w s pos ty hp
      obtain ⟨r, hr⟩ : ∃ r, (Utf8.decode s pos).1 = r := ⟨_, rfl⟩
      obtain ⟨K, hK⟩ : ∃ K, (Utf8.decode s pos).2 = K := ⟨_, rfl⟩
      rw [hr] at HNR hle
      simp only [hr, hK] at hnx
      rw [hK] at hwd
      obtain ⟨z, hz⟩ : ∃ z : Int, (r : Int) = z := ⟨_, rfl⟩
      simp only [hz] at hnx
      have HZ := Lib.hid hz
      have hz0 : 0 ≤ z := by omega
      have hle' : z ≤ 2147483647 := by omega
      have HP := Lib.hid hp
      clear hr hK hcw hz hle
      have hcase : (z = 95) ∨ (97 ≤ z ∧ z ≤ 122) ∨ (65 ≤ z ∧ z ≤ 90) ∨ (0 < pos ∧ 48 ≤ z ∧ z ≤ 57) ∨ (z < 48) ∨ (48 ≤ z ∧ z ≤ 57 ∧ pos = 0) ∨ (57 < z ∧ z < 65) ∨ (90 < z ∧ z < 95) ∨ (z = 96) ∨ (122 < z) := by omega
      rcases hcase with rfl | ⟨h1, h2⟩ | ⟨h1, h2⟩ | ⟨h0, h1, h2⟩ | h1 | ⟨h1, h2, rfl⟩ | ⟨h1, h2⟩ | ⟨h1, h2⟩ | rfl | h1
      · -- z = 95
        go_wp2
        all_goals first | (exfalso; omega) | skip
        go_roundw
        case rel => exact ⟨_, rfl⟩
        case measure => rw [World.iterPos_iter, World.iterPos_iter]; omega
      · -- 97 ≤ z ∧ z ≤ 122
        have hne : (z == 95) = false := by rw [beq_eq_false_iff_ne]; omega
        go_wp2
        all_goals first | (exfalso; omega) | skip
        go_roundw
        case rel => exact ⟨_, rfl⟩
        case measure => rw [World.iterPos_iter, World.iterPos_iter]; omega
      · -- 65 ≤ z ∧ z ≤ 90
        have hne : (z == 95) = false := by rw [beq_eq_false_iff_ne]; omega
        go_wp2
        all_goals first | (exfalso; omega) | skip
        go_roundw
        case rel => exact ⟨_, rfl⟩
        case measure => rw [World.iterPos_iter, World.iterPos_iter]; omega
      · -- 0 < pos ∧ 48 ≤ z ∧ z ≤ 57
        have hne : (z == 95) = false := by rw [beq_eq_false_iff_ne]; omega
        go_wp2
        all_goals first | (exfalso; omega) | skip
        go_roundw
        case rel => exact ⟨_, rfl⟩
        case measure => rw [World.iterPos_iter, World.iterPos_iter]; omega
      · -- z < 48
        have hne : (z == 95) = false := by rw [beq_eq_false_iff_ne]; omega
        go_wp2
        all_goals first
          | (exfalso; omega)
          | (go_ret
             exact ⟨⟨true, rfl, fun hl => (by have hz := HZ.out; obtain ⟨b, hb1, hb2⟩ := HNR.out hl; unfold NameB at hb2; omega), fun e => by cases e⟩, HFW.out _⟩)
      · -- 48 ≤ z ∧ z ≤ 57 ∧ pos = 0
        have hne : (z == 95) = false := by rw [beq_eq_false_iff_ne]; omega
        go_wp2
        all_goals first
          | (exfalso; omega)
          | (go_ret
             exact ⟨⟨true, rfl, fun hl => (by have hz := HZ.out; obtain ⟨b, hb1, hb2⟩ := HNR.out hl; unfold NameB at hb2; omega), fun e => by cases e⟩, HFW.out _⟩)
      · -- 57 < z ∧ z < 65
        have hne : (z == 95) = false := by rw [beq_eq_false_iff_ne]; omega
        go_wp2
        all_goals first
          | (exfalso; omega)
          | (go_ret
             exact ⟨⟨true, rfl, fun hl => (by have hz := HZ.out; obtain ⟨b, hb1, hb2⟩ := HNR.out hl; unfold NameB at hb2; omega), fun e => by cases e⟩, HFW.out _⟩)
      · -- 90 < z ∧ z < 95
        have hne : (z == 95) = false := by rw [beq_eq_false_iff_ne]; omega
        go_wp2
        all_goals first
          | (exfalso; omega)
          | (go_ret
             exact ⟨⟨true, rfl, fun hl => (by have hz := HZ.out; obtain ⟨b, hb1, hb2⟩ := HNR.out hl; unfold NameB at hb2; omega), fun e => by cases e⟩, HFW.out _⟩)
      · -- z = 96
        go_wp2
        all_goals first
          | (exfalso; omega)
          | (go_ret
             exact ⟨⟨true, rfl, fun hl => (by have hz := HZ.out; obtain ⟨b, hb1, hb2⟩ := HNR.out hl; unfold NameB at hb2; omega), fun e => by cases e⟩, HFW.out _⟩)
      · -- 122 < z
        have hne : (z == 95) = false := by rw [beq_eq_false_iff_ne]; omega
        go_wp2
        all_goals first
          | (exfalso; omega)
          | (go_ret
             exact ⟨⟨true, rfl, fun hl => (by have hz := HZ.out; obtain ⟨b, hb1, hb2⟩ := HNR.out hl; unfold NameB at hb2; omega), fun e => by cases e⟩, HFW.out _⟩)
    · have hnx := fun ty => run_next_end (P := Tryz.prog) w s pos ty hp
      have hc1 := hcw pos
      clear hcw
      by_cases h0 : s.size = 0
      · have h0' : ((s.size : Int) == 0) = true := by rw [beq_iff_eq]; omega
        go_wp2
        go_ret
        exact ⟨⟨true, by simp [h0], fun hl => (by have := hpos.out hl; omega), fun e => by cases e⟩, HFW.out _⟩
      · have h0' : ((s.size : Int) == 0) = false := by rw [beq_eq_false_iff_ne]; omega
        go_wp2
        go_ret
        exact ⟨⟨false, by simp [h0], fun hl => rfl, fun e => by omega⟩, HFW.out _⟩
end Go.Proofs.YtbkookiigkckdaaGreatDoor
