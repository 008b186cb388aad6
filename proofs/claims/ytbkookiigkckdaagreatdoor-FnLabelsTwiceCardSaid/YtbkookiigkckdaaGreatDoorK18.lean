/- Texts of this seat, merged: Qc. -/
import Derived.Test.YtbkookiigkckdaaGreatDoorK17
import Derived.Lib.QuoteBits
/- strconv.appendEscapedRune into another's block. -/
namespace Go.Proofs.YtbkookiigkckdaaGreatDoor
open Go.RowKit
set_option linter.unusedVariables false
set_option linter.unusedSimpArgs false

theorem mask15 (x : Int) (h0 : 0 ≤ x) (h1 : x < 2147483648) : bits .and .i32 x 15 = x % 16 := by
  have h := Lib.and15_i32 x.toNat (by omega)
  rw [Int.toNat_of_nonneg h0] at h
  rw [h]
  omega

section
variable {w0 : World} {g off c0 N : Nat} {t : TypeId} {low : List Value} {xs : List Int}

theorem str_src2 (w : World) (s : ByteArray) (ys : List Int) (h : ys = s.data.toList.map fun b => (b.toNat : Int)) : Src Tryz.prog 1 9 (.string s) ys.length (ic ys) w := by
  subst h
  rw [ic_bytes, List.length_map]
  have e : s.data.toList.length = s.size := by rw [← Lib.size_eq]
  rw [e]
  exact str_src w s
theorem Dst.more {W : World} {v : Value} {ys : List Int} (zs : List Int) (h : Dst w0 g off c0 N t low W v (xs ++ ys ++ zs)) : Dst w0 g off c0 N t low W v (xs ++ (ys ++ zs)) := by rw [← List.append_assoc]; exact h

set_option maxRecDepth 100000 in
set_option maxHeartbeats 4000000 in
theorem escaped_quote (v : Value) (r : Int) (hr : r = 34 ∨ r = 92) (w : World) (hD : Dst w0 g off c0 N t low w v xs) (hb : xs.length ≤ 549755813888) :
    Calls Tryz.prog 256 #[v, .int .i32 r, .int .u8 34, .bool false, .bool false] w (AqEnds w0 g off c0 N t low xs (fun zs => zs.length ≤ 10)) := by
  obtain ⟨i5, hi, hz0, hz1, hz2⟩ := info_parts Tryz.info5
  have HD := Lib.hid hD
  clear hD
  rcases hr with rfl | rfl
  all_goals
    go_enter Tryz.func256, Tryz.ntmps256
    go_wp2_with (at_builtin; refine Hid.out ?_)
    refine Lib.hid ?_
    refine wpList_append_dst hi hz0 hz1 hz2 rfl _ _ 44 rfl rfl (HD.out.still ((Fr.refl _ w).alloc _)) _ [_] rfl (src_new w _ [_] _ _ rfl rfl) (by simp; omega) ?_
    intro v1 w1 hD1
    go_wp2_with (at_builtin; refine Hid.out ?_)
    refine Lib.hid ?_
    refine wpList_append_dst hi hz0 hz1 hz2 rfl _ _ 44 rfl rfl (hD1.still ((Fr.refl _ w1).alloc _)) _ [_] rfl (src_new w1 _ [_] _ _ rfl rfl) (by simp; omega) ?_
    intro v2 w2 hD2
    go_wp2_with fail
    go_ret
    exact ⟨_, _, rfl, by simp, hD2.more _⟩

set_option maxRecDepth 100000 in
set_option maxHeartbeats 4000000 in
theorem escaped_print (v : Value) (r : Int) (h0 : 0 ≤ r) (h1 : r ≤ 1114111) (h34 : r ≠ 34) (h92 : r ≠ 92) (w : World) (hD : Dst w0 g off c0 N t low w v xs) (hb : xs.length ≤ 549755813888)
    (hp : Calls Tryz.prog 284 #[.int .i32 r] w fun e w' => e = .returned (.bool true) ∧ Fr (fun _ => False) w w') :
    Calls Tryz.prog 256 #[v, .int .i32 r, .int .u8 34, .bool false, .bool false] w (AqEnds w0 g off c0 N t low xs (fun zs => zs.length ≤ 10 ∧ (r ≤ 127 → zs = [r]))) := by
  have hA : Hid (∀ W, Fr (fun _ => False) w W → Calls Tryz.prog 286 #[v, .int .i32 r] W (AqEnds w0 g off c0 N t low xs (fun zs => zs.length ≤ 10 ∧ (r ≤ 127 → zs = [r])))) := Lib.hid (fun W hF => appendRune_any v r h0 h1 W (hD.still hF) hb)
  clear hD
  have b34 : (r == 34) = false := by rw [beq_eq_false_iff_ne]; omega
  have b92 : (r == 92) = false := by rw [beq_eq_false_iff_ne]; omega
  go_enter Tryz.func256, Tryz.ntmps256
  go_wp2_with (first
    | (go_at_call 284; refine hp.mono ?_; rintro e w1 ⟨rfl, hf1⟩)
    | (go_at_call 286; refine (hA.out _ hf1).mono ?_; rintro e w2 ⟨v1, zs, rfl, hz, hD1⟩))
  go_ret
  exact ⟨_, _, rfl, hz, hD1⟩

set_option maxRecDepth 100000 in
set_option maxHeartbeats 4000000 in
theorem escaped_named (v : Value) (r : Int) (hr : r = 7 ∨ r = 8 ∨ r = 12 ∨ r = 10 ∨ r = 13 ∨ r = 9 ∨ r = 11) (w : World) (hD : Dst w0 g off c0 N t low w v xs) (hb : xs.length ≤ 549755813888)
    (hp : Calls Tryz.prog 284 #[.int .i32 r] w fun e w' => e = .returned (.bool false) ∧ Fr (fun _ => False) w w') :
    Calls Tryz.prog 256 #[v, .int .i32 r, .int .u8 34, .bool false, .bool false] w (AqEnds w0 g off c0 N t low xs (fun zs => zs.length ≤ 10)) := by
  obtain ⟨i5, hi, hz0, hz1, hz2⟩ := info_parts Tryz.info5
  have HD := Lib.hid hD
  clear hD
  rcases hr with rfl | rfl | rfl | rfl | rfl | rfl | rfl
  all_goals
    go_enter Tryz.func256, Tryz.ntmps256
    go_wp2_with (first
      | (go_at_call 284; refine hp.mono ?_; rintro e w1 ⟨rfl, hf1⟩)
      | (at_builtin; refine Hid.out ?_))
    refine Lib.hid ?_
    refine wpList_append_dst hi hz0 hz1 hz2 rfl _ _ 9 rfl rfl (HD.out.still hf1) _ [_, _] rfl (str_src2 _ _ _ rfl) (by simp; omega) ?_
    intro v2 w2 hD2
    go_wp2_with fail
    go_ret
    exact ⟨_, _, rfl, by simp, hD2⟩

set_option maxRecDepth 100000 in
set_option maxHeartbeats 4000000 in
theorem escaped_hex (v : Value) (r : Int) (hr : (0 ≤ r ∧ r < 32) ∨ r = 127) (hn : ¬ (r = 7 ∨ r = 8 ∨ r = 12 ∨ r = 10 ∨ r = 13 ∨ r = 9 ∨ r = 11)) (w : World) (hD : Dst w0 g off c0 N t low w v xs) (hb : xs.length ≤ 549755813888)
    (hp : Calls Tryz.prog 284 #[.int .i32 r] w fun e w' => e = .returned (.bool false) ∧ Fr (fun _ => False) w w') :
    Calls Tryz.prog 256 #[v, .int .i32 r, .int .u8 34, .bool false, .bool false] w (AqEnds w0 g off c0 N t low xs (fun zs => zs.length ≤ 10)) := by
  obtain ⟨i5, hi, hz0, hz1, hz2⟩ := info_parts Tryz.info5
  have HD := Lib.hid hD
  clear hD
  have hq := hn
  simp only [not_or] at hn
  obtain ⟨n1, n2, n3, n4, n5, n6, n7⟩ := hn
  have h34 : r ≠ 34 := by omega
  have h92 : r ≠ 92 := by omega
  have b34 : (r == 34) = false := by rw [beq_eq_false_iff_ne]; omega
  have b92 : (r == 92) = false := by rw [beq_eq_false_iff_ne]; omega
  have b7 : (r == 7) = false := by rw [beq_eq_false_iff_ne]; omega
  have b8 : (r == 8) = false := by rw [beq_eq_false_iff_ne]; omega
  have b12 : (r == 12) = false := by rw [beq_eq_false_iff_ne]; omega
  have b10 : (r == 10) = false := by rw [beq_eq_false_iff_ne]; omega
  have b13 : (r == 13) = false := by rw [beq_eq_false_iff_ne]; omega
  have b9 : (r == 9) = false := by rw [beq_eq_false_iff_ne]; omega
  have b11 : (r == 11) = false := by rw [beq_eq_false_iff_ne]; omega
  rcases hr with ⟨h0, h32⟩ | rfl
  · go_enter Tryz.func256, Tryz.ntmps256
    go_wp2_with (first
      | (go_at_call 284; refine hp.mono ?_; rintro e w1 ⟨rfl, hf1⟩)
      | (at_builtin; refine Hid.out ?_))
    refine Lib.hid ?_
    refine wpList_append_dst hi hz0 hz1 hz2 rfl _ _ 9 rfl rfl (HD.out.still hf1) _ [_, _] rfl (str_src2 _ _ _ rfl) (by simp; omega) ?_
    intro v2 w2 hD2
    go_wp2_with (at_builtin; refine Hid.out ?_)
    refine Lib.hid ?_
    refine wpList_append_dst hi hz0 hz1 hz2 rfl _ _ 44 rfl rfl (hD2.still ((Fr.refl _ w2).alloc _)) _ [_] rfl (src_new w2 _ [_] _ _ rfl rfl) (by simp; omega) ?_
    intro v3 w3 hD3
    go_wp2_with (at_builtin; refine Hid.out ?_)
    refine Lib.hid ?_
    refine wpList_append_dst hi hz0 hz1 hz2 rfl _ _ 44 rfl rfl (hD3.still ((Fr.refl _ w3).alloc _)) _ [_] rfl (src_new w3 _ [_] _ _ rfl rfl) (by simp; omega) ?_
    intro v4 w4 hD4
    go_wp2_with fail
    go_ret
    rw [List.append_assoc, List.append_assoc] at hD4
    refine ⟨_, _, rfl, ?_, hD4⟩
    simp
  · go_enter Tryz.func256, Tryz.ntmps256
    go_wp2_with (first
      | (go_at_call 284; refine hp.mono ?_; rintro e w1 ⟨rfl, hf1⟩)
      | (at_builtin; refine Hid.out ?_))
    refine Lib.hid ?_
    refine wpList_append_dst hi hz0 hz1 hz2 rfl _ _ 9 rfl rfl (HD.out.still hf1) _ [_, _] rfl (str_src2 _ _ _ rfl) (by simp; omega) ?_
    intro v2 w2 hD2
    go_wp2_with (at_builtin; refine Hid.out ?_)
    refine Lib.hid ?_
    refine wpList_append_dst hi hz0 hz1 hz2 rfl _ _ 44 rfl rfl (hD2.still ((Fr.refl _ w2).alloc _)) _ [_] rfl (src_new w2 _ [_] _ _ rfl rfl) (by simp; omega) ?_
    intro v3 w3 hD3
    go_wp2_with (at_builtin; refine Hid.out ?_)
    refine Lib.hid ?_
    refine wpList_append_dst hi hz0 hz1 hz2 rfl _ _ 44 rfl rfl (hD3.still ((Fr.refl _ w3).alloc _)) _ [_] rfl (src_new w3 _ [_] _ _ rfl rfl) (by simp; omega) ?_
    intro v4 w4 hD4
    go_wp2_with fail
    go_ret
    rw [List.append_assoc, List.append_assoc] at hD4
    refine ⟨_, _, rfl, ?_, hD4⟩
    simp

set_option maxRecDepth 100000 in
set_option maxHeartbeats 16000000 in
theorem escaped_u4 (v : Value) (r : Int) (h0 : 128 ≤ r) (h1 : r ≤ 65535) (w : World) (hD : Dst w0 g off c0 N t low w v xs) (hb : xs.length ≤ 549755813888)
    (hp : Calls Tryz.prog 284 #[.int .i32 r] w fun e w' => e = .returned (.bool false) ∧ Fr (fun _ => False) w w')
    (hv : ∀ W, Calls Tryz.prog 287 #[.int .i32 r] W fun e w' => e = .returned (.bool true) ∧ Fr (fun _ => False) W w') :
    Calls Tryz.prog 256 #[v, .int .i32 r, .int .u8 34, .bool false, .bool false] w (AqEnds w0 g off c0 N t low xs (fun zs => zs.length ≤ 10)) := by
  obtain ⟨i5, hi, hz0, hz1, hz2⟩ := info_parts Tryz.info5
  have HD := Lib.hid hD
  clear hD
  have b34 : (r == 34) = false := by rw [beq_eq_false_iff_ne]; omega
  have b92 : (r == 92) = false := by rw [beq_eq_false_iff_ne]; omega
  have b7 : (r == 7) = false := by rw [beq_eq_false_iff_ne]; omega
  have b8 : (r == 8) = false := by rw [beq_eq_false_iff_ne]; omega
  have b12 : (r == 12) = false := by rw [beq_eq_false_iff_ne]; omega
  have b10 : (r == 10) = false := by rw [beq_eq_false_iff_ne]; omega
  have b13 : (r == 13) = false := by rw [beq_eq_false_iff_ne]; omega
  have b9 : (r == 9) = false := by rw [beq_eq_false_iff_ne]; omega
  have b11 : (r == 11) = false := by rw [beq_eq_false_iff_ne]; omega
  have b127 : (r == 127) = false := by rw [beq_eq_false_iff_ne]; omega
  go_enter Tryz.func256, Tryz.ntmps256
  go_wp2_with (first
    | (go_at_call 284; refine hp.mono ?_; rintro e w1 ⟨rfl, hf1⟩)
    | (go_at_call 287; refine (hv _).mono ?_; rintro e w2 ⟨rfl, hf2⟩)
    | (at_builtin; refine Hid.out ?_))
  refine Lib.hid ?_
  refine wpList_append_dst hi hz0 hz1 hz2 rfl _ _ 9 rfl rfl ((HD.out.still hf1).still hf2) _ [_, _] rfl (str_src2 _ _ _ rfl) (by simp; omega) ?_
  intro v3 w3 hD3
  have HD3 := Lib.hid hD3
  clear hD3
  go_wp2_with fail
  have m12 := mask15 (r / 4096) (by omega) (by omega)
  have m8 := mask15 (r / 256) (by omega) (by omega)
  have m4 := mask15 (r / 16) (by omega) (by omega)
  have m0 := mask15 r (by omega) (by omega)
  go_loopw [0, 11] (fun vb vs wr => ∃ (k : Nat) (zs : List Int), k ≤ 4 ∧ vs = .int .i64 (12 - 4 * (k : Int)) ∧ zs.length = k + 2 ∧ Hid (Dst w0 g off c0 N t low wr vb (xs ++ zs))) (fun _ vs _ => (intOf vs + 4).toNat)
  case atStart => exact ⟨0, _, by omega, rfl, rfl, HD3⟩
  case round =>
    obtain ⟨k, zs, hk, rfl, hz, HDk⟩ := hrel
    have hkk : k = 0 ∨ k = 1 ∨ k = 2 ∨ k = 3 ∨ k = 4 := by omega
    rcases hkk with rfl | rfl | rfl | rfl | rfl
    · go_wp2_with (at_builtin; refine Hid.out ?_)
      refine Lib.hid ?_
      refine wpList_append_dst hi hz0 hz1 hz2 rfl _ _ 44 rfl rfl (HDk.out.still ((Fr.refl _ wr).alloc _)) _ [_] rfl (src_new wr _ [_] _ _ rfl rfl) (by simp; omega) ?_
      intro v4 w4 hD4
      have HD4 := Lib.hid hD4.more
      clear hD4
      go_wp2_with fail
      go_roundw
      case rel => exact ⟨1, zs ++ [_], by omega, by first | rfl | go_num | (congr 1; omega), by rw [List.length_append]; simp; omega, HD4⟩
      case measure => simp [intOf]; try omega
    · go_wp2_with (at_builtin; refine Hid.out ?_)
      refine Lib.hid ?_
      refine wpList_append_dst hi hz0 hz1 hz2 rfl _ _ 44 rfl rfl (HDk.out.still ((Fr.refl _ wr).alloc _)) _ [_] rfl (src_new wr _ [_] _ _ rfl rfl) (by simp; omega) ?_
      intro v4 w4 hD4
      have HD4 := Lib.hid hD4.more
      clear hD4
      go_wp2_with fail
      go_roundw
      case rel => exact ⟨2, zs ++ [_], by omega, by first | rfl | go_num | (congr 1; omega), by rw [List.length_append]; simp; omega, HD4⟩
      case measure => simp [intOf]; try omega
    · go_wp2_with (at_builtin; refine Hid.out ?_)
      refine Lib.hid ?_
      refine wpList_append_dst hi hz0 hz1 hz2 rfl _ _ 44 rfl rfl (HDk.out.still ((Fr.refl _ wr).alloc _)) _ [_] rfl (src_new wr _ [_] _ _ rfl rfl) (by simp; omega) ?_
      intro v4 w4 hD4
      have HD4 := Lib.hid hD4.more
      clear hD4
      go_wp2_with fail
      go_roundw
      case rel => exact ⟨3, zs ++ [_], by omega, by first | rfl | go_num | (congr 1; omega), by rw [List.length_append]; simp; omega, HD4⟩
      case measure => simp [intOf]; try omega
    · go_wp2_with (at_builtin; refine Hid.out ?_)
      refine Lib.hid ?_
      refine wpList_append_dst hi hz0 hz1 hz2 rfl _ _ 44 rfl rfl (HDk.out.still ((Fr.refl _ wr).alloc _)) _ [_] rfl (src_new wr _ [_] _ _ rfl rfl) (by simp; omega) ?_
      intro v4 w4 hD4
      have HD4 := Lib.hid hD4.more
      clear hD4
      go_wp2_with fail
      go_roundw
      case rel => exact ⟨4, zs ++ [_], by omega, by first | rfl | go_num | (congr 1; omega), by rw [List.length_append]; simp; omega, HD4⟩
      case measure => simp [intOf]; try omega
    · go_wp2_with fail
      go_ret
      exact ⟨_, _, rfl, by show zs.length ≤ 10; omega, HDk.out⟩

set_option maxRecDepth 100000 in
set_option maxHeartbeats 16000000 in
theorem escaped_u8 (v : Value) (r : Int) (h0 : 65536 ≤ r) (h1 : r ≤ 1114111) (w : World) (hD : Dst w0 g off c0 N t low w v xs) (hb : xs.length ≤ 549755813888)
    (hp : Calls Tryz.prog 284 #[.int .i32 r] w fun e w' => e = .returned (.bool false) ∧ Fr (fun _ => False) w w')
    (hv : ∀ W, Calls Tryz.prog 287 #[.int .i32 r] W fun e w' => e = .returned (.bool true) ∧ Fr (fun _ => False) W w') :
    Calls Tryz.prog 256 #[v, .int .i32 r, .int .u8 34, .bool false, .bool false] w (AqEnds w0 g off c0 N t low xs (fun zs => zs.length ≤ 10)) := by
  obtain ⟨i5, hi, hz0, hz1, hz2⟩ := info_parts Tryz.info5
  have HD := Lib.hid hD
  clear hD
  have b34 : (r == 34) = false := by rw [beq_eq_false_iff_ne]; omega
  have b92 : (r == 92) = false := by rw [beq_eq_false_iff_ne]; omega
  have b7 : (r == 7) = false := by rw [beq_eq_false_iff_ne]; omega
  have b8 : (r == 8) = false := by rw [beq_eq_false_iff_ne]; omega
  have b12 : (r == 12) = false := by rw [beq_eq_false_iff_ne]; omega
  have b10 : (r == 10) = false := by rw [beq_eq_false_iff_ne]; omega
  have b13 : (r == 13) = false := by rw [beq_eq_false_iff_ne]; omega
  have b9 : (r == 9) = false := by rw [beq_eq_false_iff_ne]; omega
  have b11 : (r == 11) = false := by rw [beq_eq_false_iff_ne]; omega
  have b127 : (r == 127) = false := by rw [beq_eq_false_iff_ne]; omega
  go_enter Tryz.func256, Tryz.ntmps256
  go_wp2_with (first
    | (go_at_call 284; refine hp.mono ?_; rintro e w1 ⟨rfl, hf1⟩)
    | (go_at_call 287; refine (hv _).mono ?_; rintro e w2 ⟨rfl, hf2⟩)
    | (at_builtin; refine Hid.out ?_))
  refine Lib.hid ?_
  refine wpList_append_dst hi hz0 hz1 hz2 rfl _ _ 9 rfl rfl ((HD.out.still hf1).still hf2) _ [_, _] rfl (str_src2 _ _ _ rfl) (by simp; omega) ?_
  intro v3 w3 hD3
  have HD3 := Lib.hid hD3
  clear hD3
  go_wp2_with fail
  have m28 := mask15 (r / 268435456) (by omega) (by omega)
  have m24 := mask15 (r / 16777216) (by omega) (by omega)
  have m20 := mask15 (r / 1048576) (by omega) (by omega)
  have m16 := mask15 (r / 65536) (by omega) (by omega)
  have m12 := mask15 (r / 4096) (by omega) (by omega)
  have m8 := mask15 (r / 256) (by omega) (by omega)
  have m4 := mask15 (r / 16) (by omega) (by omega)
  have m0 := mask15 r (by omega) (by omega)
  go_loopw [0, 12] (fun vb vs wr => ∃ (k : Nat) (zs : List Int), k ≤ 8 ∧ vs = .int .i64 (28 - 4 * (k : Int)) ∧ zs.length = k + 2 ∧ Hid (Dst w0 g off c0 N t low wr vb (xs ++ zs))) (fun _ vs _ => (intOf vs + 4).toNat)
  case atStart => exact ⟨0, _, by omega, rfl, rfl, HD3⟩
  case round =>
    obtain ⟨k, zs, hk, rfl, hz, HDk⟩ := hrel
    have hkk : k = 0 ∨ k = 1 ∨ k = 2 ∨ k = 3 ∨ k = 4 ∨ k = 5 ∨ k = 6 ∨ k = 7 ∨ k = 8 := by omega
    rcases hkk with rfl | rfl | rfl | rfl | rfl | rfl | rfl | rfl | rfl
    · go_wp2_with (at_builtin; refine Hid.out ?_)
      refine Lib.hid ?_
      refine wpList_append_dst hi hz0 hz1 hz2 rfl _ _ 44 rfl rfl (HDk.out.still ((Fr.refl _ wr).alloc _)) _ [_] rfl (src_new wr _ [_] _ _ rfl rfl) (by simp; omega) ?_
      intro v4 w4 hD4
      have HD4 := Lib.hid hD4.more
      clear hD4
      go_wp2_with fail
      go_roundw
      case rel => exact ⟨1, zs ++ [_], by omega, by first | rfl | go_num | (congr 1; omega), by rw [List.length_append]; simp; omega, HD4⟩
      case measure => simp [intOf]; try omega
    · go_wp2_with (at_builtin; refine Hid.out ?_)
      refine Lib.hid ?_
      refine wpList_append_dst hi hz0 hz1 hz2 rfl _ _ 44 rfl rfl (HDk.out.still ((Fr.refl _ wr).alloc _)) _ [_] rfl (src_new wr _ [_] _ _ rfl rfl) (by simp; omega) ?_
      intro v4 w4 hD4
      have HD4 := Lib.hid hD4.more
      clear hD4
      go_wp2_with fail
      go_roundw
      case rel => exact ⟨2, zs ++ [_], by omega, by first | rfl | go_num | (congr 1; omega), by rw [List.length_append]; simp; omega, HD4⟩
      case measure => simp [intOf]; try omega
    · go_wp2_with (at_builtin; refine Hid.out ?_)
      refine Lib.hid ?_
      refine wpList_append_dst hi hz0 hz1 hz2 rfl _ _ 44 rfl rfl (HDk.out.still ((Fr.refl _ wr).alloc _)) _ [_] rfl (src_new wr _ [_] _ _ rfl rfl) (by simp; omega) ?_
      intro v4 w4 hD4
      have HD4 := Lib.hid hD4.more
      clear hD4
      go_wp2_with fail
      go_roundw
      case rel => exact ⟨3, zs ++ [_], by omega, by first | rfl | go_num | (congr 1; omega), by rw [List.length_append]; simp; omega, HD4⟩
      case measure => simp [intOf]; try omega
    · go_wp2_with (at_builtin; refine Hid.out ?_)
      refine Lib.hid ?_
      refine wpList_append_dst hi hz0 hz1 hz2 rfl _ _ 44 rfl rfl (HDk.out.still ((Fr.refl _ wr).alloc _)) _ [_] rfl (src_new wr _ [_] _ _ rfl rfl) (by simp; omega) ?_
      intro v4 w4 hD4
      have HD4 := Lib.hid hD4.more
      clear hD4
      go_wp2_with fail
      go_roundw
      case rel => exact ⟨4, zs ++ [_], by omega, by first | rfl | go_num | (congr 1; omega), by rw [List.length_append]; simp; omega, HD4⟩
      case measure => simp [intOf]; try omega
    · go_wp2_with (at_builtin; refine Hid.out ?_)
      refine Lib.hid ?_
      refine wpList_append_dst hi hz0 hz1 hz2 rfl _ _ 44 rfl rfl (HDk.out.still ((Fr.refl _ wr).alloc _)) _ [_] rfl (src_new wr _ [_] _ _ rfl rfl) (by simp; omega) ?_
      intro v4 w4 hD4
      have HD4 := Lib.hid hD4.more
      clear hD4
      go_wp2_with fail
      go_roundw
      case rel => exact ⟨5, zs ++ [_], by omega, by first | rfl | go_num | (congr 1; omega), by rw [List.length_append]; simp; omega, HD4⟩
      case measure => simp [intOf]; try omega
    · go_wp2_with (at_builtin; refine Hid.out ?_)
      refine Lib.hid ?_
      refine wpList_append_dst hi hz0 hz1 hz2 rfl _ _ 44 rfl rfl (HDk.out.still ((Fr.refl _ wr).alloc _)) _ [_] rfl (src_new wr _ [_] _ _ rfl rfl) (by simp; omega) ?_
      intro v4 w4 hD4
      have HD4 := Lib.hid hD4.more
      clear hD4
      go_wp2_with fail
      go_roundw
      case rel => exact ⟨6, zs ++ [_], by omega, by first | rfl | go_num | (congr 1; omega), by rw [List.length_append]; simp; omega, HD4⟩
      case measure => simp [intOf]; try omega
    · go_wp2_with (at_builtin; refine Hid.out ?_)
      refine Lib.hid ?_
      refine wpList_append_dst hi hz0 hz1 hz2 rfl _ _ 44 rfl rfl (HDk.out.still ((Fr.refl _ wr).alloc _)) _ [_] rfl (src_new wr _ [_] _ _ rfl rfl) (by simp; omega) ?_
      intro v4 w4 hD4
      have HD4 := Lib.hid hD4.more
      clear hD4
      go_wp2_with fail
      go_roundw
      case rel => exact ⟨7, zs ++ [_], by omega, by first | rfl | go_num | (congr 1; omega), by rw [List.length_append]; simp; omega, HD4⟩
      case measure => simp [intOf]; try omega
    · go_wp2_with (at_builtin; refine Hid.out ?_)
      refine Lib.hid ?_
      refine wpList_append_dst hi hz0 hz1 hz2 rfl _ _ 44 rfl rfl (HDk.out.still ((Fr.refl _ wr).alloc _)) _ [_] rfl (src_new wr _ [_] _ _ rfl rfl) (by simp; omega) ?_
      intro v4 w4 hD4
      have HD4 := Lib.hid hD4.more
      clear hD4
      go_wp2_with fail
      go_roundw
      case rel => exact ⟨8, zs ++ [_], by omega, by first | rfl | go_num | (congr 1; omega), by rw [List.length_append]; simp; omega, HD4⟩
      case measure => simp [intOf]; try omega
    · go_wp2_with fail
      go_ret
      exact ⟨_, _, rfl, by show zs.length ≤ 10; omega, HDk.out⟩


/-- appendEscapedRune at every valid rune: some bytes, at most ten; a printable one of ASCII as it is. -/
theorem escaped_any (v : Value) (r : Int) (h0 : 0 ≤ r) (h1 : r ≤ 1114111) (w : World) (hD : Dst w0 g off c0 N t low w v xs) (hb : xs.length ≤ 549755813888) (p : Bool) (hp0 : 32 ≤ r → r ≤ 126 → p = true)
    (hp : Calls Tryz.prog 284 #[.int .i32 r] w fun e w' => e = .returned (.bool p) ∧ Fr (fun _ => False) w w')
    (hv : ∀ W, Calls Tryz.prog 287 #[.int .i32 r] W fun e w' => e = .returned (.bool true) ∧ Fr (fun _ => False) W w') :
    Calls Tryz.prog 256 #[v, .int .i32 r, .int .u8 34, .bool false, .bool false] w (AqEnds w0 g off c0 N t low xs (fun zs => zs.length ≤ 10 ∧ (32 ≤ r → r ≤ 126 → r ≠ 34 → r ≠ 92 → zs = [r]))) := by
  by_cases hq : r = 34 ∨ r = 92
  · exact (escaped_quote v r hq w hD hb).mono fun e w' ⟨v', zs, h, hz, hd⟩ => ⟨v', zs, h, ⟨hz, fun _ _ h3 h4 => (by rcases hq with h | h; exact absurd h h3; exact absurd h h4)⟩, hd⟩
  · cases p with
    | true =>
      exact (escaped_print v r h0 h1 (by omega) (by omega) w hD hb hp).mono fun e w' ⟨v', zs, h, hz, hd⟩ => ⟨v', zs, h, ⟨hz.1, fun _ h2 _ _ => hz.2 (by omega)⟩, hd⟩
    | false =>
      have hno : ¬ (32 ≤ r ∧ r ≤ 126) := fun h => by have := hp0 h.1 h.2; cases this
      have key : Calls Tryz.prog 256 #[v, .int .i32 r, .int .u8 34, .bool false, .bool false] w (AqEnds w0 g off c0 N t low xs (fun zs => zs.length ≤ 10)) := by
        by_cases hn : r = 7 ∨ r = 8 ∨ r = 12 ∨ r = 10 ∨ r = 13 ∨ r = 9 ∨ r = 11
        · exact escaped_named v r hn w hD hb hp
        · by_cases hx : r < 32 ∨ r = 127
          · exact escaped_hex v r (by omega) hn w hD hb hp
          · by_cases h4 : r < 65536
            · exact escaped_u4 v r (by omega) (by omega) w hD hb hp hv
            · exact escaped_u8 v r (by omega) h1 w hD hb hp hv
      exact key.mono fun e w' ⟨v', zs, h, hz, hd⟩ => ⟨v', zs, h, ⟨hz, fun h2 h3 _ _ => absurd ⟨h2, h3⟩ hno⟩, hd⟩
end
end Go.Proofs.YtbkookiigkckdaaGreatDoor

