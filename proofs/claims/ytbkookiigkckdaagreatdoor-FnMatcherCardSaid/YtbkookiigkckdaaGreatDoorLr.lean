/- labels.Range over labels as New keeps them; unmade. -/
import Derived.Test.YtbkookiigkckdaaGreatDoorLn
namespace Go.Proofs.YtbkookiigkckdaaGreatDoor
open Go.RowKit
set_option linter.unusedVariables false
set_option linter.unusedSimpArgs false

theorem byte_at {s : ByteArray} {i : Nat} {r : List UInt8} (h : s.data.toList.drop i = r) (j : Nat) (c : UInt8) (hj : r[j]? = some c) : ∃ h : i + j < s.size, s[i + j] = c := by
  subst h
  rw [List.getElem?_drop] at hj
  have hlt : i + j < s.data.toList.length := by
    rcases Nat.lt_or_ge (i + j) s.data.toList.length with h | h
    · exact h
    · rw [List.getElem?_eq_none h] at hj; cases hj
  have hlt2 : i + j < s.size := by rw [← Lib.size_eq] at hlt; exact hlt
  refine ⟨hlt2, ?_⟩
  rw [List.getElem?_eq_getElem hlt] at hj
  injection hj

set_option maxRecDepth 100000 in
set_option maxHeartbeats 1000000 in
theorem decodeSize_any (s : ByteArray) (i v : Nat) (r : List UInt8) (hv : v < 16777216) (hi : i ≤ 1099511627776) (h : s.data.toList.drop i = lenBytes v ++ r) (w : World) :
    Calls Tryz.prog 150 #[.string s, .int .i64 i] w fun e w' => e = .returned (.tuple #[.int .i64 v, .int .i64 (i + lenSize v : Nat)]) ∧ Fr (fun _ => False) w w' := by
  by_cases hlt : v < 255
  · have e1 : lenSize v = 1 := if_pos hlt
    rw [e1]
    have e2 : lenBytes v = [UInt8.ofNat v] := if_pos hlt
    rw [e2] at h
    obtain ⟨h0, hs0⟩ := byte_at h 0 (UInt8.ofNat v) rfl
    rw [Nat.add_zero] at h0
    have hs0' : s[i] = UInt8.ofNat v := hs0
    have e3 : ((UInt8.ofNat v).toNat : Int) = v := by simp; omega
    have h1 : ¬ (v : Int) = 255 := by omega
    clear h hs0
    go_enter Tryz.func150, Tryz.ntmps150
    go_wp2
    refine bodyPost_ret (results_tmp2 rfl _ _ _) rfl ?_
    refine ⟨?_, Fr.refl _ _⟩
    have e4 : (v : Int) % 256 = v := by omega
    simp [e4]
  · have e1 : lenSize v = 4 := if_neg hlt
    rw [e1]
    have e2 : lenBytes v = [255, UInt8.ofNat v, UInt8.ofNat (v / 256), UInt8.ofNat (v / 65536)] := if_neg hlt
    rw [e2] at h
    obtain ⟨h0, hs0⟩ := byte_at h 0 255 rfl
    obtain ⟨h1, hs1⟩ := byte_at h 1 (UInt8.ofNat v) rfl
    obtain ⟨h2, hs2⟩ := byte_at h 2 (UInt8.ofNat (v / 256)) rfl
    obtain ⟨h3, hs3⟩ := byte_at h 3 (UInt8.ofNat (v / 65536)) rfl
    rw [Nat.add_zero] at h0
    have hs0' : s[i] = 255 := hs0
    have ix : ∀ (a : Int) (j : Nat) (c : UInt8) (hj : j < s.size) (hc : s[j] = c) (ha : a = j) (W : World), (Instr.index 9 (.string s) (.int .i64 a)).run Tryz.prog W = .ok (.int .u8 c.toNat) W := by
      intro a j c hj hc ha W
      subst ha
      rw [run_index_string W 9 s .i64 j Tryz.underlying9]
      simp [hj, hc]
    have x1 := ix (i + 1) (i + 1) _ h1 hs1 (by omega)
    have x2 := ix (i + 1 + 1) (i + 2) _ h2 hs2 (by omega)
    have x3 := ix (i + 1 + 2) (i + 3) _ h3 hs3 (by omega)
    clear h hs0 ix
    go_enter Tryz.func150, Tryz.ntmps150
    go_wp2
    go_big_region
    all_goals go_wp2
    refine bodyPost_ret (results_tmp2 rfl _ _ _) rfl ?_
    refine ⟨?_, (Fr.refl _ _).drew⟩
    have e5 : (v : Int) % 256 + (v : Int) / 256 % 256 * 256 + (v : Int) / 65536 % 256 * 65536 = v := by omega
    have e6 : (i : Int) + 1 + 3 = ((i + 4 : Nat) : Int) := by omega
    simp [e5, e6]

theorem extract_at {s : ByteArray} {i : Nat} {a : ByteArray} {r : List UInt8} (h : s.data.toList.drop i = a.data.toList ++ r) : s.extract i (i + a.size) = a := by
  apply ByteArray.ext
  apply Array.toList_inj.1
  rw [Lib.extract_data, h, Nat.add_sub_cancel_left, Lib.size_eq, List.take_left']
  rfl
theorem drop_more {s : ByteArray} {i : Nat} {a r : List UInt8} (h : s.data.toList.drop i = a ++ r) : s.data.toList.drop (i + a.length) = r := by
  rw [← List.drop_drop, h, List.drop_left]
theorem drop_le {s : ByteArray} {i : Nat} {a r : List UInt8} (h : s.data.toList.drop i = a ++ r) (hi : i ≤ s.size) : i + a.length ≤ s.size := by
  have h2 : (s.data.toList.drop i).length = (a ++ r).length := by rw [h]
  rw [List.length_drop, List.length_append, ← Lib.size_eq] at h2
  omega

set_option maxRecDepth 100000 in
set_option maxHeartbeats 1000000 in
theorem decodeString_any (s a : ByteArray) (i : Nat) (r : List UInt8) (hv : a.size < 16777216) (hi : i ≤ s.size) (hs : s.size ≤ 1099511627776) (h : s.data.toList.drop i = lenBytes a.size ++ (a.data.toList ++ r)) (w : World) :
    Calls Tryz.prog 158 #[.string s, .int .i64 i] w fun e w' => e = .returned (.tuple #[.string a, .int .i64 (i + lenSize a.size + a.size : Nat)]) ∧ Fr (fun _ => False) w w' := by
  have hD := decodeSize_any s i a.size _ hv (by omega) h w
  have h2 := drop_more h
  have hl := drop_le h hi
  rw [lenBytes_len] at h2 hl
  have hE := extract_at h2
  have hl2 := drop_le h2 hl
  have e1 : a.data.toList.length = a.size := by rw [← Lib.size_eq]
  rw [e1] at hl2
  clear h h2 e1
  generalize i + lenSize a.size = j at hD hE hl hl2 ⊢
  have hsl : ∀ W : World, (Instr.slice 9 (.string s) (some (.int .i64 (j : Int))) (some (.int .i64 ((j : Int) + a.size))) none).run Tryz.prog W = .ok (.string a) W := fun W => by
    rw [run_slice_string W 9 s .i64 .i64 j (j + a.size) Tryz.underlying9 (by omega) (by omega) (by omega)]
    have e2 : ((j : Int) + a.size).toNat = j + a.size := by omega
    rw [e2, Int.toNat_natCast, hE]
  go_enter Tryz.func158, Tryz.ntmps158
  go_wp2_with (go_at_call 150; refine hD.mono ?_; rintro e w1 ⟨rfl, hf⟩)
  refine bodyPost_ret (results_tmp2 rfl _ _ _) rfl ?_
  exact ⟨by simp, hf⟩

theorem labStr_size (l : List Lab) : (labStr l).size = labsSize l := by
  rw [← labsBytes_len]
  rfl

set_option maxRecDepth 100000 in
set_option maxHeartbeats 2000000 in
theorem range_any (l : List Lab) (g : FuncId) (cb : Array Value) (eg : ∀ args w, (callFunc g args).run Tryz.prog w = .ok (.enter g args) w) (J : Nat → World → Prop) (w : World)
    (hs : ∀ p ∈ l, p.1.size < 16777216 ∧ p.2.size < 16777216) (hsz : labsSize l ≤ 1099511627776)
    (hJ : ∀ k W W', J k W → Fr (fun _ => False) W W' → J k W') (h0 : J 0 w)
    (step : ∀ k x W, l[k]? = some x → J k W → Blk W w.heap.size 99 #[.string (labStr l)] → Calls Tryz.prog g (#[.agg #[.string x.1, .string x.2]] ++ cb) W fun r w' => r = .returned (.tuple #[]) ∧ J (k + 1) w' ∧ Blk w' w.heap.size 99 #[.string (labStr l)]) :
    Calls Tryz.prog 152 #[.agg #[.string (labStr l)], .func (.func g) #[] cb] w fun r w' => r = .returned (.tuple #[]) ∧ J l.length w' := by
  have hss : (labStr l).size ≤ 1099511627776 := by rw [labStr_size]; exact hsz
  have hd0 : (labStr l).data.toList.drop 0 = labsBytes (l.drop 0) := by simp [labStr]
  have J1 : J 0 (w.alloc (.cells #[.string (labStr l)] 99)) := hJ 0 w _ h0 ((Fr.refl _ w).alloc _)
  have B1 : Blk (w.alloc (.cells #[.string (labStr l)] 99)) w.heap.size 99 #[.string (labStr l)] := Blk.new w 99 _
  generalize hS : labStr l = s at *
  have STEP := Lib.hid step
  have HJ := Lib.hid hJ
  have HS := Lib.hid hs
  have HJ1 := Lib.hid J1
  have HB1 := Lib.hid B1
  have HD0 := Lib.hid hd0
  clear step hJ hs J1 B1 hd0 h0 hS
  go_enter Tryz.func152, Tryz.ntmps152
  go_wp2
  go_loopw [4] (fun vi wr => ∃ (i k : Nat), vi = .int .i64 i ∧ k ≤ l.length ∧ i ≤ s.size ∧ Hid (s.data.toList.drop i = labsBytes (l.drop k)) ∧ Hid (J k wr) ∧ Hid (Blk wr w.heap.size 99 #[.string s])) (fun vi _ => s.size - (intOf vi).toNat)
  case atStart => exact ⟨0, 0, rfl, Nat.zero_le _, Nat.zero_le _, HD0, HJ1, HB1⟩
  case round =>
    obtain ⟨i, k, rfl, hk, hi, HD, HJk, HB⟩ := hrel
    have c0 : wr.cell? ⟨w.heap.size, 0, none⟩ = some (.string s) := HB.out.cell 0
    by_cases hlt : k < l.length
    · obtain ⟨x, hx⟩ : ∃ x, l[k]? = some x := ⟨_, List.getElem?_eq_getElem hlt⟩
      have hxs := HS.out x (List.mem_of_getElem? hx)
      have hD : s.data.toList.drop i = lenBytes x.1.size ++ (x.1.data.toList ++ (lenBytes x.2.size ++ (x.2.data.toList ++ labsBytes (l.drop (k + 1))))) := by
        rw [HD.out, labsBytes_drop l k x hx]
        simp [labBytes]
      have q1 := fun W => decodeString_any s x.1 i _ hxs.1 hi hss hD W
      have d1 := drop_le hD hi
      have h2 := drop_more hD
      have d2 := drop_le h2 d1
      have h3 := drop_more h2
      have e1 : x.1.data.toList.length = x.1.size := by rw [← Lib.size_eq]
      rw [lenBytes_len, e1] at h3 d2
      obtain ⟨i2, hi2⟩ : ∃ i2, i + lenSize x.1.size + x.1.size = i2 := ⟨_, rfl⟩
      rw [hi2] at h3 d2
      have q2 := fun W => decodeString_any s x.2 i2 _ hxs.2 d2 hss h3 W
      have d3 := drop_le h3 d2
      have h4 := drop_more h3
      have d4 := drop_le h4 d3
      have h5 := drop_more h4
      have e2 : x.2.data.toList.length = x.2.size := by rw [← Lib.size_eq]
      rw [lenBytes_len, e2] at h5 d4
      obtain ⟨i3, hi3⟩ : ∃ i3, i2 + lenSize x.2.size + x.2.size = i3 := ⟨_, rfl⟩
      rw [hi3] at h5 d4
      simp only [hi2] at q1
      simp only [hi3] at q2
      have hpos : 0 < lenSize x.1.size := by unfold lenSize; split <;> omega
      have hlt1 : i < s.size := by omega
      have hgo : i < i3 := by omega
      have H5 := Lib.hid h5
      have HX := Lib.hid hx
      clear hD d1 h2 h3 d2 d3 h4 h5 e1 e2 hx hi2 hi3 hxs hpos
      go_wp2_with (first
        | (go_at_call_of 158 (Value.int .i64 (i : Int)); refine (q1 _).mono ?_; rintro r w1 ⟨rfl, hf1⟩; have HB2 := Lib.hid (HB.out.fr hf1 (fun e => e)); have HJ2 := Lib.hid (HJ.out _ _ _ HJk.out hf1); have c1 := HB2.out.cell 0)
        | (go_at_call_of 158 (Value.int .i64 (i2 : Int)); refine (q2 _).mono ?_; rintro r w2 ⟨rfl, hf2⟩; have HB3 := Lib.hid (HB2.out.fr hf2 (fun e => e)); have HJ3 := Lib.hid (HJ.out _ _ _ HJ2.out hf2))
        | (go_at_fn g; refine (STEP.out k x _ HX.out HJ3.out HB3.out).mono ?_; rintro r w3 ⟨rfl, hj4, hb4⟩))
      exact ⟨⟨i3, k + 1, rfl, hlt, d4, H5, Lib.hid hj4, Lib.hid hb4⟩, by show s.size - ((i3 : Int)).toNat < s.size - ((i : Int)).toNat; omega⟩
    · obtain rfl : k = l.length := by omega
      have hD := HD.out
      rw [List.drop_length] at hD
      have hi2 : i = s.size := by
        have h := congrArg List.length hD
        rw [List.length_drop, ← Lib.size_eq] at h
        simp [labsBytes] at h
        omega
      subst hi2
      have hlt1 : ¬ ((s.size : Int) < s.size) := by omega
      go_wp2
      go_end0
      exact ⟨rfl, HJk.out⟩
end Go.Proofs.YtbkookiigkckdaaGreatDoor
