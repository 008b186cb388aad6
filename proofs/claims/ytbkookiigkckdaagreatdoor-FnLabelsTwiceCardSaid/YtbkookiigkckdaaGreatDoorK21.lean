/- Texts of this seat, merged: Zl. -/
import Derived.Test.YtbkookiigkckdaaGreatDoorK20
/- labels.zzLegacy. Printed by gen_zl.py. -/
namespace Go.Proofs.YtbkookiigkckdaaGreatDoor
open Go.RowKit
set_option linter.unusedVariables false
set_option linter.unusedSimpArgs false

/-- A name that keeps the rule is told so. -/
def ZlEnds (s : ByteArray) (e : Ending) : Prop := ∃ q : Bool, e = .returned (.bool q) ∧ (LegacyS s → q = true)

set_option maxHeartbeats 16000000 in
set_option maxRecDepth 100000 in
theorem zzLegacy_any (s : ByteArray) (hs : s.size ≤ 1073741824) (w : World) :
    Calls Tryz.prog 154 #[.string s] w fun e w' => ZlEnds s e ∧ Fr (fun _ => False) w w' := by
  have hfw : ∀ pos, Fr (fun _ => False) w (w.iter s pos) := fun pos => (Fr.refl _ w).alloc _
  have HFW := Lib.hid hfw
  have hpos : Hid (LegacyS s → 0 < s.size) := Lib.hid fun h => h.1
  clear hfw
  by_cases h0 : s.size = 0
  · have h0' : ((s.size : Int) == 0) = true := by rw [beq_iff_eq]; omega
    have HN : Hid (¬ LegacyS s) := Lib.hid (fun h => by have := hpos.out h; omega)
    go_enter Tryz.func154, Tryz.ntmps154
    go_wp2
    go_ret
    exact ⟨⟨false, rfl, fun hl => absurd hl HN.out⟩, Fr.refl _ _⟩
  have h0' : ((s.size : Int) == 0) = false := by rw [beq_eq_false_iff_ne]; omega
  go_enter Tryz.func154, Tryz.ntmps154
  go_wp2
  go_loopw [] (fun wr => ∃ pos, wr = w.iter s pos) (fun wr => s.size - wr.iterPos w.heap.size)
  case atStart => exact ⟨0, rfl⟩
  case round =>
    obtain ⟨pos, rfl⟩ := hrel
    by_cases hp : pos < s.size
    · have hwd := Lib.width_pos s pos
      have hle := decode_le s pos
      have HNR := Lib.hid (fun hl : LegacyS s => name_rune hl hp)
      have hnx := fun ty => run_next_any (P := Tryz.prog) w s pos ty hp
      obtain ⟨r, hr⟩ : ∃ r, (Utf8.decode s pos).1 = r := ⟨_, rfl⟩
      obtain ⟨K, hK⟩ : ∃ K, (Utf8.decode s pos).2 = K := ⟨_, rfl⟩
      rw [hr] at HNR hle
      simp only [hr, hK] at hnx
      rw [hK] at hwd
      obtain ⟨z, hz⟩ : ∃ z : Int, (r : Int) = z := ⟨_, rfl⟩
      simp only [hz] at hnx
      have HZ := Lib.hid hz
      have hz0 : 0 ≤ z := by omega
      have hle' : z ≤ 2147483647 := by omega
      have HP := Lib.hid hp
      clear hr hK hz hle
      have hcase : (z = 95) ∨ (97 ≤ z ∧ z ≤ 122) ∨ (65 ≤ z ∧ z ≤ 90) ∨ (0 < pos ∧ 48 ≤ z ∧ z ≤ 57) ∨ (z < 48) ∨ (48 ≤ z ∧ z ≤ 57 ∧ pos = 0) ∨ (57 < z ∧ z < 65) ∨ (90 < z ∧ z < 95) ∨ (z = 96) ∨ (122 < z) := by omega
      rcases hcase with rfl | ⟨h1, h2⟩ | ⟨h1, h2⟩ | ⟨h0, h1, h2⟩ | h1 | ⟨h1, h2, rfl⟩ | ⟨h1, h2⟩ | ⟨h1, h2⟩ | rfl | h1
      · -- z = 95
        go_wp2
        all_goals first | (exfalso; omega) | skip
        all_goals (
          go_roundw
          case rel => exact ⟨_, rfl⟩
          case measure => rw [World.iterPos_iter, World.iterPos_iter]; omega)
      · -- 97 ≤ z ∧ z ≤ 122
        have hne : (z == 95) = false := by rw [beq_eq_false_iff_ne]; omega
        have hne2 : (z != 95) = true := by rw [bne_iff_ne]; omega
        go_wp2
        all_goals first | (exfalso; omega) | skip
        all_goals (
          go_roundw
          case rel => exact ⟨_, rfl⟩
          case measure => rw [World.iterPos_iter, World.iterPos_iter]; omega)
      · -- 65 ≤ z ∧ z ≤ 90
        have hne : (z == 95) = false := by rw [beq_eq_false_iff_ne]; omega
        have hne2 : (z != 95) = true := by rw [bne_iff_ne]; omega
        go_wp2
        all_goals first | (exfalso; omega) | skip
        all_goals (
          go_roundw
          case rel => exact ⟨_, rfl⟩
          case measure => rw [World.iterPos_iter, World.iterPos_iter]; omega)
      · -- 0 < pos ∧ 48 ≤ z ∧ z ≤ 57
        have hne : (z == 95) = false := by rw [beq_eq_false_iff_ne]; omega
        have hne2 : (z != 95) = true := by rw [bne_iff_ne]; omega
        go_wp2
        all_goals first | (exfalso; omega) | skip
        all_goals (
          go_roundw
          case rel => exact ⟨_, rfl⟩
          case measure => rw [World.iterPos_iter, World.iterPos_iter]; omega)
      · -- z < 48
        have hne : (z == 95) = false := by rw [beq_eq_false_iff_ne]; omega
        have hne2 : (z != 95) = true := by rw [bne_iff_ne]; omega
        go_wp2
        all_goals first
          | (exfalso; omega)
          | (go_ret
             exact ⟨⟨false, rfl, fun hl => (by have hz := HZ.out; obtain ⟨b, hb1, hb2⟩ := HNR.out hl; unfold NameB at hb2; omega)⟩, HFW.out _⟩)
      · -- 48 ≤ z ∧ z ≤ 57 ∧ pos = 0
        have hne : (z == 95) = false := by rw [beq_eq_false_iff_ne]; omega
        have hne2 : (z != 95) = true := by rw [bne_iff_ne]; omega
        go_wp2
        all_goals first
          | (exfalso; omega)
          | (go_ret
             exact ⟨⟨false, rfl, fun hl => (by have hz := HZ.out; obtain ⟨b, hb1, hb2⟩ := HNR.out hl; unfold NameB at hb2; omega)⟩, HFW.out _⟩)
      · -- 57 < z ∧ z < 65
        have hne : (z == 95) = false := by rw [beq_eq_false_iff_ne]; omega
        have hne2 : (z != 95) = true := by rw [bne_iff_ne]; omega
        go_wp2
        all_goals first
          | (exfalso; omega)
          | (go_ret
             exact ⟨⟨false, rfl, fun hl => (by have hz := HZ.out; obtain ⟨b, hb1, hb2⟩ := HNR.out hl; unfold NameB at hb2; omega)⟩, HFW.out _⟩)
      · -- 90 < z ∧ z < 95
        have hne : (z == 95) = false := by rw [beq_eq_false_iff_ne]; omega
        have hne2 : (z != 95) = true := by rw [bne_iff_ne]; omega
        go_wp2
        all_goals first
          | (exfalso; omega)
          | (go_ret
             exact ⟨⟨false, rfl, fun hl => (by have hz := HZ.out; obtain ⟨b, hb1, hb2⟩ := HNR.out hl; unfold NameB at hb2; omega)⟩, HFW.out _⟩)
      · -- z = 96
        go_wp2
        all_goals first
          | (exfalso; omega)
          | (go_ret
             exact ⟨⟨false, rfl, fun hl => (by have hz := HZ.out; obtain ⟨b, hb1, hb2⟩ := HNR.out hl; unfold NameB at hb2; omega)⟩, HFW.out _⟩)
      · -- 122 < z
        have hne : (z == 95) = false := by rw [beq_eq_false_iff_ne]; omega
        have hne2 : (z != 95) = true := by rw [bne_iff_ne]; omega
        go_wp2
        all_goals first
          | (exfalso; omega)
          | (go_ret
             exact ⟨⟨false, rfl, fun hl => (by have hz := HZ.out; obtain ⟨b, hb1, hb2⟩ := HNR.out hl; unfold NameB at hb2; omega)⟩, HFW.out _⟩)
    · have hnx := fun ty => run_next_end (P := Tryz.prog) w s pos ty hp
      go_wp2
      go_ret
      exact ⟨⟨true, rfl, fun _ => rfl⟩, HFW.out _⟩
end Go.Proofs.YtbkookiigkckdaaGreatDoor

