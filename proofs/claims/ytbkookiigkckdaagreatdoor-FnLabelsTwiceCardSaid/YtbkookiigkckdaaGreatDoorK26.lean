/- Texts of this seat, merged: Ga. -/
import Derived.Test.YtbkookiigkckdaaGreatDoorK11
/- labelsAlive's calls: Get, Has, Compare, Equal at its labels. -/
namespace Go.Proofs.YtbkookiigkckdaaGreatDoor
open Go.RowKit
set_option linter.unusedVariables false
set_option linter.unusedSimpArgs false

/-- A length of one byte, read at a place that is known. -/
theorem size_at (s : ByteArray) (i v : Nat) (r : List UInt8) (hv : v < 255) (hi : i ≤ 1000) (h : s.data.toList.drop i = UInt8.ofNat v :: r) (a b : Int) (ha : a = i) (hb : b = i + 1) (w : World) :
    Calls Tryz.prog 150 #[.string s, .int .i64 a] w fun e w' => e = .returned (.tuple #[.int .i64 v, .int .i64 b]) ∧ Fr (fun _ => False) w w' := by
  subst ha hb
  have h1 : lenBytes v = [UInt8.ofNat v] := if_pos hv
  have h2 : lenSize v = 1 := if_pos hv
  have := decodeSize_any s i v r (by omega) (by omega) (by rw [h1]; exact h) w
  rw [h2] at this
  exact this
theorem str_at (s a : ByteArray) (i : Nat) (r : List UInt8) (hv : a.size < 255) (hs : s.size ≤ 1000) (hi : i ≤ s.size) (h : s.data.toList.drop i = UInt8.ofNat a.size :: (a.data.toList ++ r)) (x y : Int) (hx : x = i) (hy : y = i + 1 + a.size) (w : World) :
    Calls Tryz.prog 158 #[.string s, .int .i64 x] w fun e w' => e = .returned (.tuple #[.string a, .int .i64 y]) ∧ Fr (fun _ => False) w w' := by
  subst hx hy
  have h1 : lenBytes a.size = [UInt8.ofNat a.size] := if_pos hv
  have h2 : lenSize a.size = 1 := if_pos hv
  have := decodeString_any s a i r (by omega) hi (by omega) (by rw [h1]; exact h) w
  rw [h2] at this
  exact this

set_option maxRecDepth 100000 in
set_option maxHeartbeats 2000000 in
theorem has_b (w : World) : Calls Tryz.prog 124 #[.agg #[.string ⟨#[1, 97, 1, 49, 1, 98, 1, 50]⟩], .string ⟨#[98]⟩] w fun r w' => r = .returned (.bool true) ∧ Fr (fun _ => False) w w' := by
  have q0 := size_at ⟨#[1, 97, 1, 49, 1, 98, 1, 50]⟩ 0 1 _ (by omega) (by omega) rfl 0 1 rfl rfl
  have q2 := size_at ⟨#[1, 97, 1, 49, 1, 98, 1, 50]⟩ 2 1 _ (by omega) (by omega) rfl 2 3 rfl rfl
  have q4 := size_at ⟨#[1, 97, 1, 49, 1, 98, 1, 50]⟩ 4 1 _ (by omega) (by omega) rfl 4 5 rfl rfl
  have B1 : Blk (w.alloc (.cells #[.string ⟨#[1, 97, 1, 49, 1, 98, 1, 50]⟩] 99)) w.heap.size 99 #[.string ⟨#[1, 97, 1, 49, 1, 98, 1, 50]⟩] := Blk.new w 99 _
  have F1 : Fr (fun _ => False) w (w.alloc (.cells #[.string ⟨#[1, 97, 1, 49, 1, 98, 1, 50]⟩] 99)) := (Fr.refl _ w).alloc _
  have hx : (((⟨#[1, 97, 1, 49, 1, 98, 1, 50]⟩ : ByteArray).extract 5 6).toList == [98]) = true := by kernel_rfl
  have HB1 := Lib.hid B1
  have HF1 := Lib.hid F1
  clear B1 F1
  go_enter Tryz.func124, Tryz.ntmps124
  go_wp2
  go_loopw [5] (fun vi wr => (vi = .int .i64 0 ∨ vi = .int .i64 4) ∧ Hid (Blk wr w.heap.size 99 #[.string ⟨#[1, 97, 1, 49, 1, 98, 1, 50]⟩]) ∧ Hid (Fr (fun _ => False) w wr)) (fun vi _ => 8 - (intOf vi).toNat)
  case atStart => exact ⟨.inl rfl, HB1, HF1⟩
  case round =>
    obtain ⟨hv, HB, HF⟩ := hrel
    have c0 : wr.cell? ⟨w.heap.size, 0, none⟩ = some (.string ⟨#[1, 97, 1, 49, 1, 98, 1, 50]⟩) := HB.out.cell 0
    rcases hv with rfl | rfl
    · go_wp2_with (go_at_call_of 150 (Value.int .i64 0); refine (q0 _).mono ?_; rintro r w1 ⟨rfl, hf1⟩; have HB2 := Lib.hid (HB.out.fr hf1 (fun e => e)); have c1 := HB2.out.cell 0; simp at c1; have c1d : w1.drew.cell? ⟨w.heap.size, 0, none⟩ = _ := c1)
      go_region
      all_goals go_wp2
      have c1dd : w1.drew.drew.cell? ⟨w.heap.size, 0, none⟩ = _ := c1
      go_region
      all_goals go_wp2_with (go_at_call_of 150 (Value.int .i64 2); refine (q2 _).mono ?_; rintro r w2 ⟨rfl, hf2⟩; have HB3 := Lib.hid ((HB2.out.drew.drew).fr hf2 (fun e => e)))
      all_goals exact ⟨⟨.inr rfl, HB3, Lib.hid (((HF.out.same hf1).drew.drew).same hf2)⟩, by decide⟩
    · go_wp2_with (go_at_call_of 150 (Value.int .i64 4); refine (q4 _).mono ?_; rintro r w1 ⟨rfl, hf1⟩; have HB2 := Lib.hid (HB.out.fr hf1 (fun e => e)); have c1 := HB2.out.cell 0; simp at c1; have c1d : w1.drew.cell? ⟨w.heap.size, 0, none⟩ = _ := c1)
      go_region
      all_goals go_wp2
      go_ret
      exact ⟨rfl, (HF.out.same hf1).drew⟩
set_option maxRecDepth 100000 in
set_option maxHeartbeats 2000000 in
theorem get_b (w : World) : Calls Tryz.prog 123 #[.agg #[.string ⟨#[1, 97, 1, 49, 1, 98, 1, 50]⟩], .string ⟨#[98]⟩] w fun r w' => r = .returned (.string ⟨#[50]⟩) ∧ Fr (fun _ => False) w w' := by
  have q0 := size_at ⟨#[1, 97, 1, 49, 1, 98, 1, 50]⟩ 0 1 _ (by omega) (by omega) rfl 0 1 rfl rfl
  have q2 := size_at ⟨#[1, 97, 1, 49, 1, 98, 1, 50]⟩ 2 1 _ (by omega) (by omega) rfl 2 3 rfl rfl
  have q4 := size_at ⟨#[1, 97, 1, 49, 1, 98, 1, 50]⟩ 4 1 _ (by omega) (by omega) rfl 4 5 rfl rfl
  have q6 := str_at ⟨#[1, 97, 1, 49, 1, 98, 1, 50]⟩ ⟨#[50]⟩ 6 [] (by decide) (by decide) (by decide) rfl 6 8 rfl rfl
  have B1 : Blk (w.alloc (.cells #[.string ⟨#[1, 97, 1, 49, 1, 98, 1, 50]⟩] 99)) w.heap.size 99 #[.string ⟨#[1, 97, 1, 49, 1, 98, 1, 50]⟩] := Blk.new w 99 _
  have F1 : Fr (fun _ => False) w (w.alloc (.cells #[.string ⟨#[1, 97, 1, 49, 1, 98, 1, 50]⟩] 99)) := (Fr.refl _ w).alloc _
  have hx : (((⟨#[1, 97, 1, 49, 1, 98, 1, 50]⟩ : ByteArray).extract 5 6).toList == [98]) = true := by kernel_rfl
  have HB1 := Lib.hid B1
  have HF1 := Lib.hid F1
  clear B1 F1
  go_enter Tryz.func123, Tryz.ntmps123
  go_wp2
  go_loopw [5] (fun vi wr => (vi = .int .i64 0 ∨ vi = .int .i64 4) ∧ Hid (Blk wr w.heap.size 99 #[.string ⟨#[1, 97, 1, 49, 1, 98, 1, 50]⟩]) ∧ Hid (Fr (fun _ => False) w wr)) (fun vi _ => 8 - (intOf vi).toNat)
  case atStart => exact ⟨.inl rfl, HB1, HF1⟩
  case round =>
    obtain ⟨hv, HB, HF⟩ := hrel
    have c0 : wr.cell? ⟨w.heap.size, 0, none⟩ = some (.string ⟨#[1, 97, 1, 49, 1, 98, 1, 50]⟩) := HB.out.cell 0
    rcases hv with rfl | rfl
    · go_wp2_with (go_at_call_of 150 (Value.int .i64 0); refine (q0 _).mono ?_; rintro r w1 ⟨rfl, hf1⟩; have HB2 := Lib.hid (HB.out.fr hf1 (fun e => e)); have c1 := HB2.out.cell 0; simp at c1; have c1d : w1.drew.cell? ⟨w.heap.size, 0, none⟩ = _ := c1)
      go_region
      all_goals go_wp2
      have c1dd : w1.drew.drew.cell? ⟨w.heap.size, 0, none⟩ = _ := c1
      go_region
      all_goals go_wp2_with (go_at_call_of 150 (Value.int .i64 2); refine (q2 _).mono ?_; rintro r w2 ⟨rfl, hf2⟩; have HB3 := Lib.hid ((HB2.out.drew.drew).fr hf2 (fun e => e)))
      all_goals exact ⟨⟨.inr rfl, HB3, Lib.hid (((HF.out.same hf1).drew.drew).same hf2)⟩, by decide⟩
    · go_wp2_with (go_at_call_of 150 (Value.int .i64 4); refine (q4 _).mono ?_; rintro r w1 ⟨rfl, hf1⟩; have HB2 := Lib.hid (HB.out.fr hf1 (fun e => e)); have c1 := HB2.out.cell 0; simp at c1; have c1d : w1.drew.cell? ⟨w.heap.size, 0, none⟩ = _ := c1)
      go_region
      all_goals go_wp2_with (go_at_call_of 158 (Value.int .i64 6); refine (q6 _).mono ?_; rintro r w2 ⟨rfl, hf2⟩)
      go_ret
      exact ⟨rfl, ((HF.out.same hf1).drew).same hf2⟩

set_option maxRecDepth 100000 in
theorem equal_ab (w : World) : Calls Tryz.prog 126 #[.agg #[.string ⟨#[1, 97, 1, 49, 1, 98, 1, 50]⟩], .agg #[.string ⟨#[1, 98, 1, 50]⟩]] w fun r w' => r = .returned (.bool false) ∧ Fr (fun _ => False) w w' := by
  have hx : ((⟨#[1, 97, 1, 49, 1, 98, 1, 50]⟩ : ByteArray).toList == (⟨#[1, 98, 1, 50]⟩ : ByteArray).toList) = false := by kernel_rfl
  go_enter Tryz.func126, Tryz.ntmps126
  go_wp2
  go_ret
  exact ⟨rfl, ((Fr.refl _ w).alloc _).alloc _⟩

set_option maxRecDepth 100000 in
set_option maxHeartbeats 2000000 in
theorem compare_ab (w : World) : Calls Tryz.prog 125 #[.agg #[.string ⟨#[1, 97, 1, 49, 1, 98, 1, 50]⟩], .agg #[.string ⟨#[1, 98, 1, 50]⟩]] w fun r w' => r = .returned (.int .i64 (-1)) ∧ Fr (fun _ => False) w w' := by
  have q0 := size_at ⟨#[1, 97, 1, 49, 1, 98, 1, 50]⟩ 0 1 _ (by omega) (by omega) rfl 0 1 rfl rfl
  have r0 := str_at ⟨#[1, 97, 1, 49, 1, 98, 1, 50]⟩ ⟨#[97]⟩ 0 [1, 49, 1, 98, 1, 50] (by decide) (by decide) (by decide) rfl 0 2 rfl rfl
  have r1 := str_at ⟨#[1, 98, 1, 50]⟩ ⟨#[98]⟩ 0 [1, 50] (by decide) (by decide) (by decide) rfl 0 2 rfl rfl
  have B1 : Blk ((w.alloc (.cells #[.string ⟨#[1, 97, 1, 49, 1, 98, 1, 50]⟩] 99)).alloc (.cells #[.string ⟨#[1, 98, 1, 50]⟩] 99)) w.heap.size 99 #[.string ⟨#[1, 97, 1, 49, 1, 98, 1, 50]⟩] := (Blk.new w 99 _).alloc _
  have B2 : Blk ((w.alloc (.cells #[.string ⟨#[1, 97, 1, 49, 1, 98, 1, 50]⟩] 99)).alloc (.cells #[.string ⟨#[1, 98, 1, 50]⟩] 99)) (w.heap.size + 1) 99 #[.string ⟨#[1, 98, 1, 50]⟩] := blk_new2 w _ 99 _
  have F1 : Fr (fun _ => False) w ((w.alloc (.cells #[.string ⟨#[1, 97, 1, 49, 1, 98, 1, 50]⟩] 99)).alloc (.cells #[.string ⟨#[1, 98, 1, 50]⟩] 99)) := ((Fr.refl _ w).alloc _).alloc _
  have HB1 := Lib.hid B1
  have HB2 := Lib.hid B2
  have HF1 := Lib.hid F1
  clear B1 B2 F1
  go_enter Tryz.func125, Tryz.ntmps125
  go_wp2_with fail
  generalize (w.alloc (.cells #[.string ⟨#[1, 97, 1, 49, 1, 98, 1, 50]⟩] 99)).alloc (.cells #[.string ⟨#[1, 98, 1, 50]⟩] 99) = W1 at HB1 HB2 HF1 ⊢
  have c1 : W1.cell? ⟨w.heap.size, 0, none⟩ = some (.string ⟨#[1, 97, 1, 49, 1, 98, 1, 50]⟩) := HB1.out.cell 0
  have c2 : W1.cell? ⟨w.heap.size + 1, 0, none⟩ = some (.string ⟨#[1, 98, 1, 50]⟩) := HB2.out.cell 0
  go_region
  all_goals go_wp2_with fail
  have c1d : W1.drew.cell? ⟨w.heap.size, 0, none⟩ = _ := c1
  have c2d : W1.drew.cell? ⟨w.heap.size + 1, 0, none⟩ = _ := c2
  have c1e : W1.drew.drew.cell? ⟨w.heap.size, 0, none⟩ = _ := c1
  have c2e : W1.drew.drew.cell? ⟨w.heap.size + 1, 0, none⟩ = _ := c2
  go_region
  all_goals go_wp2_with fail
  have HC : Hid (∀ W S, Fr S W1 W → ¬ S w.heap.size → ¬ S (w.heap.size + 1) → W.cell? ⟨w.heap.size, 0, none⟩ = some (.string ⟨#[1, 97, 1, 49, 1, 98, 1, 50]⟩) ∧ W.cell? ⟨w.heap.size + 1, 0, none⟩ = some (.string ⟨#[1, 98, 1, 50]⟩)) := Lib.hid (fun W S hF h1 h2 => ⟨(HB1.out.fr hF h1).cell 0, (HB2.out.fr hF h2).cell 0⟩)
  have HFD : Hid (Fr (fun _ => False) W1 W1.drew.drew) := Lib.hid ((Fr.refl _ W1).drew.drew)
  have hlt : Op.bytesLess (⟨#[97]⟩ : ByteArray).toList (⟨#[98]⟩ : ByteArray).toList = true := by kernel_rfl
  clear c1 c2 c1d c2d c1e c2e
  generalize W1.drew.drew = W2 at HFD ⊢
  go_loopw [7] (fun vi wr => (vi = .int .i64 0 ∨ vi = .int .i64 1) ∧ Hid (Fr (fun _ => False) W1 wr)) (fun vi _ => 8 - (intOf vi).toNat)
  case atStart => exact ⟨.inl rfl, HFD⟩
  case round =>
    obtain ⟨hv, HF⟩ := hrel
    rcases hv with rfl | rfl
    · go_wp2
      go_region
      all_goals go_wp2
      all_goals exact ⟨⟨.inr rfl, Lib.hid HF.out.drew⟩, by decide⟩
    · go_wp2
      go_region
      obtain ⟨k1, k2⟩ := HC.out _ _ HF.out.drew (fun e => e) (fun e => e)
      all_goals go_wp2_with (go_at_call_of 150 (Value.int .i64 0); refine (q0 _).mono ?_; rintro r w1 ⟨rfl, hf1⟩)
      have HF2 := Lib.hid (HF.out.drew.same hf1)
      clear k1 k2 hf1
      go_loopw [7, 9, 10] (fun v7 v9 v10 wr => v7 = .int .i64 0 ∧ v9 = .int .i64 1 ∧ v10 = .int .i64 1 ∧ Hid (Fr (fun _ => False) W1 wr)) (fun _ _ _ _ => 0)
      case atStart => exact ⟨rfl, rfl, rfl, HF2⟩
      case round =>
        obtain ⟨rfl, rfl, rfl, HF3⟩ := hrel
        obtain ⟨k1, k2⟩ := HC.out _ _ HF3.out (fun e => e) (fun e => e)
        go_wp2_with (first
          | (go_at_call_of 158 (Value.string (⟨#[1, 98, 1, 50]⟩ : ByteArray)); refine (r1 _).mono ?_; rintro r w3 ⟨rfl, hf3⟩)
          | (go_at_call_of 158 (Value.string (⟨#[1, 97, 1, 49, 1, 98, 1, 50]⟩ : ByteArray)); refine (r0 _).mono ?_; rintro r w2 ⟨rfl, hf2⟩; obtain ⟨k3, k4⟩ := HC.out _ _ (HF3.out.same hf2) (fun e => e) (fun e => e)))
        go_ret
        exact ⟨rfl, (HF1.out.same (HF3.out.same hf2)).same hf3⟩
end Go.Proofs.YtbkookiigkckdaaGreatDoor

