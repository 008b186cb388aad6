/- Texts of this seat, merged: Lr, Lu, Lx, Le. -/
import Derived.Test.YtbkookiigkckdaaGreatDoorK10
/- labels.Range over labels as New keeps them; unmade. -/
namespace Go.Proofs.YtbkookiigkckdaaGreatDoor
open Go.RowKit
set_option linter.unusedVariables false
set_option linter.unusedSimpArgs false

theorem byte_at {s : ByteArray} {i : Nat} {r : List UInt8} (h : s.data.toList.drop i = r) (j : Nat) (c : UInt8) (hj : r[j]? = some c) : ∃ h : i + j < s.size, s[i + j] = c := by
  subst h
  rw [List.getElem?_drop] at hj
  have hlt : i + j < s.data.toList.length := by
    rcases Nat.lt_or_ge (i + j) s.data.toList.length with h | h
    · exact h
    · rw [List.getElem?_eq_none h] at hj; cases hj
  have hlt2 : i + j < s.size := by rw [← Lib.size_eq] at hlt; exact hlt
  refine ⟨hlt2, ?_⟩
  rw [List.getElem?_eq_getElem hlt] at hj
  injection hj

set_option maxRecDepth 100000 in
set_option maxHeartbeats 1000000 in
theorem decodeSize_any (s : ByteArray) (i v : Nat) (r : List UInt8) (hv : v < 16777216) (hi : i ≤ 1099511627776) (h : s.data.toList.drop i = lenBytes v ++ r) (w : World) :
    Calls Tryz.prog 150 #[.string s, .int .i64 i] w fun e w' => e = .returned (.tuple #[.int .i64 v, .int .i64 (i + lenSize v : Nat)]) ∧ Fr (fun _ => False) w w' := by
  by_cases hlt : v < 255
  · have e1 : lenSize v = 1 := if_pos hlt
    rw [e1]
    have e2 : lenBytes v = [UInt8.ofNat v] := if_pos hlt
    rw [e2] at h
    obtain ⟨h0, hs0⟩ := byte_at h 0 (UInt8.ofNat v) rfl
    rw [Nat.add_zero] at h0
    have hs0' : s[i] = UInt8.ofNat v := hs0
    have e3 : ((UInt8.ofNat v).toNat : Int) = v := by simp; omega
    have h1 : ¬ (v : Int) = 255 := by omega
    clear h hs0
    go_enter Tryz.func150, Tryz.ntmps150
    go_wp2
    refine bodyPost_ret (results_tmp2 rfl _ _ _) rfl ?_
    refine ⟨?_, Fr.refl _ _⟩
    have e4 : (v : Int) % 256 = v := by omega
    simp [e4]
  · have e1 : lenSize v = 4 := if_neg hlt
    rw [e1]
    have e2 : lenBytes v = [255, UInt8.ofNat v, UInt8.ofNat (v / 256), UInt8.ofNat (v / 65536)] := if_neg hlt
    rw [e2] at h
    obtain ⟨h0, hs0⟩ := byte_at h 0 255 rfl
    obtain ⟨h1, hs1⟩ := byte_at h 1 (UInt8.ofNat v) rfl
    obtain ⟨h2, hs2⟩ := byte_at h 2 (UInt8.ofNat (v / 256)) rfl
    obtain ⟨h3, hs3⟩ := byte_at h 3 (UInt8.ofNat (v / 65536)) rfl
    rw [Nat.add_zero] at h0
    have hs0' : s[i] = 255 := hs0
    have ix : ∀ (a : Int) (j : Nat) (c : UInt8) (hj : j < s.size) (hc : s[j] = c) (ha : a = j) (W : World), (Instr.index 9 (.string s) (.int .i64 a)).run Tryz.prog W = .ok (.int .u8 c.toNat) W := by
      intro a j c hj hc ha W
      subst ha
      rw [run_index_string W 9 s .i64 j Tryz.underlying9]
      simp [hj, hc]
    have x1 := ix (i + 1) (i + 1) _ h1 hs1 (by omega)
    have x2 := ix (i + 1 + 1) (i + 2) _ h2 hs2 (by omega)
    have x3 := ix (i + 1 + 2) (i + 3) _ h3 hs3 (by omega)
    clear h hs0 ix
    go_enter Tryz.func150, Tryz.ntmps150
    go_wp2
    go_big_region
    all_goals go_wp2
    refine bodyPost_ret (results_tmp2 rfl _ _ _) rfl ?_
    refine ⟨?_, (Fr.refl _ _).drew⟩
    have e5 : (v : Int) % 256 + (v : Int) / 256 % 256 * 256 + (v : Int) / 65536 % 256 * 65536 = v := by omega
    have e6 : (i : Int) + 1 + 3 = ((i + 4 : Nat) : Int) := by omega
    simp [e5, e6]

theorem extract_at {s : ByteArray} {i : Nat} {a : ByteArray} {r : List UInt8} (h : s.data.toList.drop i = a.data.toList ++ r) : s.extract i (i + a.size) = a := by
  apply ByteArray.ext
  apply Array.toList_inj.1
  rw [Lib.extract_data, h, Nat.add_sub_cancel_left, Lib.size_eq, List.take_left']
  rfl
theorem drop_more {s : ByteArray} {i : Nat} {a r : List UInt8} (h : s.data.toList.drop i = a ++ r) : s.data.toList.drop (i + a.length) = r := by
  rw [← List.drop_drop, h, List.drop_left]
theorem drop_le {s : ByteArray} {i : Nat} {a r : List UInt8} (h : s.data.toList.drop i = a ++ r) (hi : i ≤ s.size) : i + a.length ≤ s.size := by
  have h2 : (s.data.toList.drop i).length = (a ++ r).length := by rw [h]
  rw [List.length_drop, List.length_append, ← Lib.size_eq] at h2
  omega

set_option maxRecDepth 100000 in
set_option maxHeartbeats 1000000 in
theorem decodeString_any (s a : ByteArray) (i : Nat) (r : List UInt8) (hv : a.size < 16777216) (hi : i ≤ s.size) (hs : s.size ≤ 1099511627776) (h : s.data.toList.drop i = lenBytes a.size ++ (a.data.toList ++ r)) (w : World) :
    Calls Tryz.prog 158 #[.string s, .int .i64 i] w fun e w' => e = .returned (.tuple #[.string a, .int .i64 (i + lenSize a.size + a.size : Nat)]) ∧ Fr (fun _ => False) w w' := by
  have hD := decodeSize_any s i a.size _ hv (by omega) h w
  have h2 := drop_more h
  have hl := drop_le h hi
  rw [lenBytes_len] at h2 hl
  have hE := extract_at h2
  have hl2 := drop_le h2 hl
  have e1 : a.data.toList.length = a.size := by rw [← Lib.size_eq]
  rw [e1] at hl2
  clear h h2 e1
  generalize i + lenSize a.size = j at hD hE hl hl2 ⊢
  have hsl : ∀ W : World, (Instr.slice 9 (.string s) (some (.int .i64 (j : Int))) (some (.int .i64 ((j : Int) + a.size))) none).run Tryz.prog W = .ok (.string a) W := fun W => by
    rw [run_slice_string W 9 s .i64 .i64 j (j + a.size) Tryz.underlying9 (by omega) (by omega) (by omega)]
    have e2 : ((j : Int) + a.size).toNat = j + a.size := by omega
    rw [e2, Int.toNat_natCast, hE]
  go_enter Tryz.func158, Tryz.ntmps158
  go_wp2_with (go_at_call 150; refine hD.mono ?_; rintro e w1 ⟨rfl, hf⟩)
  refine bodyPost_ret (results_tmp2 rfl _ _ _) rfl ?_
  exact ⟨by simp, hf⟩

theorem labStr_size (l : List Lab) : (labStr l).size = labsSize l := by
  rw [← labsBytes_len]
  rfl

set_option maxRecDepth 100000 in
set_option maxHeartbeats 2000000 in
theorem range_any (l : List Lab) (g : FuncId) (cb : Array Value) (eg : ∀ args w, (callFunc g args).run Tryz.prog w = .ok (.enter g args) w) (J : Nat → World → Prop) (w : World)
    (hs : ∀ p ∈ l, p.1.size < 16777216 ∧ p.2.size < 16777216) (hsz : labsSize l ≤ 1099511627776)
    (hJ : ∀ k W W', J k W → Fr (fun _ => False) W W' → J k W') (h0 : J 0 w)
    (step : ∀ k x W, l[k]? = some x → J k W → Blk W w.heap.size 99 #[.string (labStr l)] → Calls Tryz.prog g (#[.agg #[.string x.1, .string x.2]] ++ cb) W fun r w' => r = .returned (.tuple #[]) ∧ J (k + 1) w' ∧ Blk w' w.heap.size 99 #[.string (labStr l)]) :
    Calls Tryz.prog 152 #[.agg #[.string (labStr l)], .func (.func g) #[] cb] w fun r w' => r = .returned (.tuple #[]) ∧ J l.length w' := by
  have hss : (labStr l).size ≤ 1099511627776 := by rw [labStr_size]; exact hsz
  have hd0 : (labStr l).data.toList.drop 0 = labsBytes (l.drop 0) := by simp [labStr]
  have J1 : J 0 (w.alloc (.cells #[.string (labStr l)] 99)) := hJ 0 w _ h0 ((Fr.refl _ w).alloc _)
  have B1 : Blk (w.alloc (.cells #[.string (labStr l)] 99)) w.heap.size 99 #[.string (labStr l)] := Blk.new w 99 _
  generalize hS : labStr l = s at *
  have STEP := Lib.hid step
  have HJ := Lib.hid hJ
  have HS := Lib.hid hs
  have HJ1 := Lib.hid J1
  have HB1 := Lib.hid B1
  have HD0 := Lib.hid hd0
  clear step hJ hs J1 B1 hd0 h0 hS
  go_enter Tryz.func152, Tryz.ntmps152
  go_wp2
  go_loopw [4] (fun vi wr => ∃ (i k : Nat), vi = .int .i64 i ∧ k ≤ l.length ∧ i ≤ s.size ∧ Hid (s.data.toList.drop i = labsBytes (l.drop k)) ∧ Hid (J k wr) ∧ Hid (Blk wr w.heap.size 99 #[.string s])) (fun vi _ => s.size - (intOf vi).toNat)
  case atStart => exact ⟨0, 0, rfl, Nat.zero_le _, Nat.zero_le _, HD0, HJ1, HB1⟩
  case round =>
    obtain ⟨i, k, rfl, hk, hi, HD, HJk, HB⟩ := hrel
    have c0 : wr.cell? ⟨w.heap.size, 0, none⟩ = some (.string s) := HB.out.cell 0
    by_cases hlt : k < l.length
    · obtain ⟨x, hx⟩ : ∃ x, l[k]? = some x := ⟨_, List.getElem?_eq_getElem hlt⟩
      have hxs := HS.out x (List.mem_of_getElem? hx)
      have hD : s.data.toList.drop i = lenBytes x.1.size ++ (x.1.data.toList ++ (lenBytes x.2.size ++ (x.2.data.toList ++ labsBytes (l.drop (k + 1))))) := by
        rw [HD.out, labsBytes_drop l k x hx]
        simp [labBytes]
      have q1 := fun W => decodeString_any s x.1 i _ hxs.1 hi hss hD W
      have d1 := drop_le hD hi
      have h2 := drop_more hD
      have d2 := drop_le h2 d1
      have h3 := drop_more h2
      have e1 : x.1.data.toList.length = x.1.size := by rw [← Lib.size_eq]
      rw [lenBytes_len, e1] at h3 d2
      obtain ⟨i2, hi2⟩ : ∃ i2, i + lenSize x.1.size + x.1.size = i2 := ⟨_, rfl⟩
      rw [hi2] at h3 d2
      have q2 := fun W => decodeString_any s x.2 i2 _ hxs.2 d2 hss h3 W
      have d3 := drop_le h3 d2
      have h4 := drop_more h3
      have d4 := drop_le h4 d3
      have h5 := drop_more h4
      have e2 : x.2.data.toList.length = x.2.size := by rw [← Lib.size_eq]
      rw [lenBytes_len, e2] at h5 d4
      obtain ⟨i3, hi3⟩ : ∃ i3, i2 + lenSize x.2.size + x.2.size = i3 := ⟨_, rfl⟩
      rw [hi3] at h5 d4
      simp only [hi2] at q1
      simp only [hi3] at q2
      have hpos : 0 < lenSize x.1.size := by unfold lenSize; split <;> omega
      have hlt1 : i < s.size := by omega
      have hgo : i < i3 := by omega
      have H5 := Lib.hid h5
      have HX := Lib.hid hx
      clear hD d1 h2 h3 d2 d3 h4 h5 e1 e2 hx hi2 hi3 hxs hpos
      go_wp2_with (first
        | (go_at_call_of 158 (Value.int .i64 (i : Int)); refine (q1 _).mono ?_; rintro r w1 ⟨rfl, hf1⟩; have HB2 := Lib.hid (HB.out.fr hf1 (fun e => e)); have HJ2 := Lib.hid (HJ.out _ _ _ HJk.out hf1); have c1 := HB2.out.cell 0)
        | (go_at_call_of 158 (Value.int .i64 (i2 : Int)); refine (q2 _).mono ?_; rintro r w2 ⟨rfl, hf2⟩; have HB3 := Lib.hid (HB2.out.fr hf2 (fun e => e)); have HJ3 := Lib.hid (HJ.out _ _ _ HJ2.out hf2))
        | (go_at_fn g; refine (STEP.out k x _ HX.out HJ3.out HB3.out).mono ?_; rintro r w3 ⟨rfl, hj4, hb4⟩))
      exact ⟨⟨i3, k + 1, rfl, hlt, d4, H5, Lib.hid hj4, Lib.hid hb4⟩, by show s.size - ((i3 : Int)).toNat < s.size - ((i : Int)).toNat; omega⟩
    · obtain rfl : k = l.length := by omega
      have hD := HD.out
      rw [List.drop_length] at hD
      have hi2 : i = s.size := by
        have h := congrArg List.length hD
        rw [List.length_drop, ← Lib.size_eq] at h
        simp [labsBytes] at h
        omega
      subst hi2
      have hlt1 : ¬ ((s.size : Int) < s.size) := by omega
      go_wp2
      go_end0
      exact ⟨rfl, HJk.out⟩
end Go.Proofs.YtbkookiigkckdaaGreatDoor

/- impl.unmade: labels as a list again. -/
namespace Go.Proofs.YtbkookiigkckdaaGreatDoor
open Go.RowKit
set_option linter.unusedVariables false
set_option linter.unusedSimpArgs false

theorem cv_fr {S : Nat → Prop} {w w' : World} (h : Fr S w w') (s : ByteArray) : Fr S w (Lib.bytesWorld w' 5 s) := by
  refine h.trans (S' := fun _ => False) ⟨?_, ?_, ?_, by rw [Lib.bytesWorld_size]; omega, fun k hk _ => Lib.bytesWorld_at_old w' 5 s k hk⟩ (fun _ _ e => e.elim)
  all_goals rfl
theorem cv_go (w : World) (s : ByteArray) : (convert 9 44 (.string s)).run Tryz.prog w = .ok (.slice (some ⟨w.heap.size, 0, none⟩) s.size (grownCap w s.size 0 5)) (Lib.bytesWorld w 5 s) :=
  Lib.run_convert_string_bytes w 9 44 5 s Tryz.underlying9 Tryz.underlying44 Tryz.underlying5
theorem cv_back (w : World) (s : ByteArray) (c : Nat) : (convert 44 9 (.slice (some ⟨w.heap.size, 0, none⟩) s.size c)).run Tryz.prog (Lib.bytesWorld w 5 s) = .ok (.string s) (Lib.bytesWorld w 5 s) := by
  have h := run_convert_bytes_back (P := Tryz.prog) (Lib.bytesWorld w 5 s) 44 9 5 ⟨w.heap.size, 0, none⟩ c s.data.toList Tryz.underlying44 Tryz.underlying5 Tryz.underlying9 (fun j hj => by
    have e1 : (⟨w.heap.size, 0, none⟩ : Addr).add j = ⟨w.heap.size, 0 + j, none⟩ := by unfold Addr.add; split <;> simp_all
    have hj2 : j < s.size := by rw [Lib.size_eq]; exact hj
    rw [e1, Nat.zero_add, Lib.bytesWorld_cell w 5 s j hj2]
    simp [List.getD, List.getElem?_eq_getElem hj])
  rw [← Lib.size_eq] at h
  rw [h]

/-- The row that unmade's closure writes. -/
def UJ (w0 : World) (c : Nat) (l : List Lab) (k : Nat) (W : World) : Prop :=
  ∃ v, Blk W c 31 #[v] ∧ W.ownsRow w0.heap.size 40 2 v k ((l.take k).flatMap labc) ∧ Fr (fun _ => False) w0 W

set_option maxRecDepth 100000 in
set_option maxHeartbeats 2000000 in
theorem unmade1_any (w0 : World) (c b : Nat) (hc : w0.heap.size ≤ c) (cs : Array Value) (l : List Lab) (k : Nat) (x : Lab) (hx : l[k]? = some x) (hl : l.length ≤ 1099511627776) (W : World) (h : UJ w0 c l k W) (hb : Blk W b 99 cs) :
    Calls Tryz.prog 163 #[.agg #[.string x.1, .string x.2], .pointer (some ⟨c, 0, none⟩)] W fun r w' => r = .returned (.tuple #[]) ∧ UJ w0 c l (k + 1) w' ∧ Blk w' b 99 cs := by
  obtain ⟨v, hcb, hown, hf⟩ := h
  obtain ⟨i0, hi0, hz0, hz1, hz2⟩ := info_parts Tryz.info40
  have hk : k < l.length := (List.getElem?_eq_some_iff.mp hx).1
  obtain ⟨n, y⟩ := x
  obtain ⟨W1, hW1⟩ : ∃ W1, W.alloc (.cells #[.string n, .string y] 108) = W1 := ⟨_, rfl⟩
  have hB1 : Blk W1 W.heap.size 108 #[.string n, .string y] := by rw [← hW1]; exact Blk.new W 108 _
  have F1 : Fr (fun _ => False) W W1 := by rw [← hW1]; exact (Fr.refl _ W).alloc _
  obtain ⟨W2, hW2⟩ : ∃ W2, Lib.bytesWorld W1 5 n = W2 := ⟨_, rfl⟩
  have F2 : Fr (fun _ => False) W1 W2 := by rw [← hW2]; exact cv_fr (Fr.refl _ W1) n
  obtain ⟨W3, hW3⟩ : ∃ W3, Lib.bytesWorld W2 5 y = W3 := ⟨_, rfl⟩
  have F3 : Fr (fun _ => False) W2 W3 := by rw [← hW3]; exact cv_fr (Fr.refl _ W2) y
  have a1 := cv_go W1 n
  have a2 := cv_back W1 n (grownCap W1 n.size 0 5)
  have a3 := cv_go W2 y
  have a4 := cv_back W2 y (grownCap W2 y.size 0 5)
  rw [hW2] at a1 a2
  rw [hW3] at a3 a4
  have c1 : W1.cell? ⟨c, 0, none⟩ = some v := (hcb.fr F1 (fun e => e)).cell 0
  have c2 : W1.cell? ⟨W.heap.size, 0, none⟩ = some (.string n) := hB1.cell 0
  have c3 : W2.cell? ⟨W.heap.size, 1, none⟩ = some (.string y) := (hB1.fr F2 (fun e => e)).cell 1
  obtain ⟨a', n', k', rfl⟩ := own_slice hown
  have FF : Fr (fun _ => False) W W3 := (F1.same F2).same F3
  have HO := Lib.hid (own_fr hown FF (fun _ _ e => e))
  have HC := Lib.hid (hcb.fr FF (fun e => e))
  have HBb := Lib.hid (hb.fr FF (fun e => e))
  have HF := Lib.hid (hf.same FF)
  have HX := Lib.hid hx
  have hsz0 : w0.heap.size ≤ W3.heap.size := (hf.same FF).size
  clear hown hcb hb hf FF F1 F2 F3 hB1
  go_enter Tryz.func163, Tryz.ntmps163
  go_wp2_with (at_builtin; refine Hid.out ?_)
  refine Lib.hid ?_
  refine wpList_append_src _ rfl _ _ 31 31 rfl w0.heap.size 40 i0 _ 2 32 Tryz.underlying31 hi0 hz0 hz1 hz2 rfl (by decide) _ k ((l.take k).flatMap labc) rfl (HO.out.alloc _) _ 1 (labc (n, y)) rfl (src_blk Tryz.underlying31 (Blk.new W3 40 (labc (n, y)).toArray) rfl (by simp [labc, Value.oneCell'])) (by unfold maxLen; omega) (by omega) (by simp; omega) ?_
  intro v' w2 hown' hgrow hat
  have hg : (W3.alloc (.cells (labc (n, y)).toArray 40)).grownBy w2 (Value.slice a' n' k').ownBlock := hgrow
  have n1 := own_ne HO.out HC.out (by decide)
  have n2 := own_ne HO.out HBb.out (by decide)
  have hC2 : Blk w2 c 31 #[.slice a' n' k'] := (HC.out.alloc _).grown hg (fun e => n1 e.symm)
  have hB2 : Blk w2 b 99 cs := (HBb.out.alloc _).grown hg (fun e => n2 e.symm)
  have hF2 : Fr (fun _ => False) w0 w2 := (HF.out.alloc _).grown hg (fun k hk => .inr ((HO.out.lt k hk).1))
  have hown2 : w2.ownsRow w0.heap.size 40 2 v' (k + 1) ((l.take (k + 1)).flatMap labc) := by rw [flatMap_take_succ labc l k _ HX.out]; exact hown'
  obtain ⟨a5, n5, k5, rfl⟩ := own_slice hown2
  have c4 := hC2.cell 0
  have f4 := hC2.frozen 0
  have hne : b ≠ c := Blk.ne_ hB2 hC2 (by decide)
  have HH := Lib.hid (And.intro hC2 (And.intro hB2 (And.intro hF2 (And.intro hown2 hne))))
  clear hgrow hat hg hown' n1 n2 hC2 hB2 hF2 hown2 hne a1 a2 a3 a4 c1 c2 c3 hW1 hW2 hW3
  go_wp2
  go_end0
  obtain ⟨hC2, hB2, hF2, hown2, hne⟩ := HH.out
  refine ⟨rfl, ⟨_, hC2.set_ 0 _, ?_, hF2.setCell (p := ⟨c, 0, none⟩) (.inr hc) _⟩, hB2.far hne _⟩
  exact own_fr (S := fun k => k = c) hown2 (Fr.at_ w2 c 0 _) (fun g hg e => own_ne hown2 hC2 (by decide) (by rw [hg]; exact congrArg some e))

theorem UJ.fr {w0 : World} {c : Nat} {l : List Lab} {k : Nat} {W W' : World} (h : UJ w0 c l k W) (hf : Fr (fun _ => False) W W') : UJ w0 c l k W' := by
  obtain ⟨v, h1, h2, h3⟩ := h
  exact ⟨v, h1.fr hf (fun e => e), own_fr h2 hf (fun _ _ e => e), h3.same hf⟩

set_option maxRecDepth 100000 in
set_option maxHeartbeats 2000000 in
theorem unmade_any (l : List Lab) (w : World) (hl : l.length ≤ 1099511627776) (hs : ∀ p ∈ l, p.1.size < 16777216 ∧ p.2.size < 16777216) (hsz : labsSize l ≤ 1099511627776) :
    Calls Tryz.prog 70 #[.agg #[.string (labStr l)]] w (LabEnds 40 w l) := by
  have eg : ∀ args w, (callFunc 163 args).run Tryz.prog w = .ok (.enter 163 args) w := enters_of Tryz.func163 (by kernel_rfl) rfl
  obtain ⟨W, hW⟩ : ∃ W, (w.alloc (.cells #[.string (labStr l)] 99)).alloc (.cells #[.slice none 0 0] 31) = W := ⟨_, rfl⟩
  have hb1 : Blk W (w.heap.size + 1) 31 #[.slice none 0 0] := by rw [← hW]; exact blk_new2 w _ 31 _
  have hF : Fr (fun _ => False) w W := by rw [← hW]; exact ((Fr.refl _ w).alloc _).alloc _
  have hJ0 : UJ w (w.heap.size + 1) l 0 W := ⟨_, hb1, World.ownsRow_nil _ _ _ _, hF⟩
  have hR := range_any l 163 #[.pointer (some ⟨w.heap.size + 1, 0, none⟩)] eg (UJ w (w.heap.size + 1) l) W hs hsz (fun _ _ _ h hf => h.fr hf) hJ0
    (fun k x W' hx hj hb => unmade1_any w (w.heap.size + 1) W.heap.size (by omega) _ l k x hx hl W' hj hb)
  have c0 : W.cell? ⟨w.heap.size, 0, none⟩ = some (.string (labStr l)) := by rw [← hW]; exact ((Blk.new w 99 #[.string (labStr l)]).alloc _).cell 0
  generalize labStr l = s at hR hW c0 ⊢
  clear hJ0 hF hb1 hs hsz
  have hmf : ∀ (fn : Fn) (first cap : Array Value) (w : World), (Instr.makeFunc fn first cap).run Tryz.prog w = .ok (.func fn first cap) w := fun _ _ _ _ => rfl
  go_enter Tryz.func70, Tryz.ntmps70
  go_wp2_with (go_at_call 152; refine hR.mono ?_; rintro r w1 ⟨rfl, v, h1, h2, h3⟩; have c1 := h1.cell 0)
  go_ret
  rw [List.take_length] at h2
  exact ⟨v, rfl, h2, h3⟩
end Go.Proofs.YtbkookiigkckdaaGreatDoor

/- Insertion sort, in plain Lean: what spec.Sorted computes. -/
namespace Go.Proofs.YtbkookiigkckdaaGreatDoor
/-- Where an element is put, from behind. -/
def lpos {α} (lt : α → α → Bool) (x : α) (out : List α) : Nat → Nat
  | 0 => 0
  | k + 1 => match out[k]? with
    | some y => if lt x y = true then lpos lt x out k else k + 1
    | none => k + 1
def lins {α} (lt : α → α → Bool) (out : List α) (x : α) : List α := out.take (lpos lt x out out.length) ++ x :: out.drop (lpos lt x out out.length)
def lsort {α} (lt : α → α → Bool) (l : List α) : List α := l.foldl (lins lt) []

theorem lpos_le {α} (lt : α → α → Bool) (x : α) (out : List α) : ∀ k, lpos lt x out k ≤ k
  | 0 => Nat.le_refl _
  | k + 1 => by
    unfold lpos
    split
    · split
      · exact Nat.le_succ_of_le (lpos_le lt x out k)
      · exact Nat.le_refl _
    · exact Nat.le_refl _
theorem lpos_behind {α} (lt : α → α → Bool) (x : α) (out : List α) : ∀ k j y, lpos lt x out k ≤ j → j < k → out[j]? = some y → lt x y = true
  | 0, j, y, _, h, _ => by omega
  | k + 1, j, y, h1, h2, hy => by
    unfold lpos at h1
    split at h1
    · rename_i z hz
      split at h1
      · rename_i hlt
        by_cases e : j = k
        · subst e; rw [hy] at hz; injection hz with hz; subst hz; exact hlt
        · exact lpos_behind lt x out k j y h1 (by omega) hy
      · omega
    · omega
theorem lpos_before {α} (lt : α → α → Bool) (x : α) (out : List α) : ∀ k p, k ≤ out.length → lpos lt x out k = p + 1 → ∃ y, out[p]? = some y ∧ lt x y = false
  | 0, p, _, h => by simp [lpos] at h
  | k + 1, p, hk, h => by
    unfold lpos at h
    split at h
    · rename_i z hz
      split at h
      · exact lpos_before lt x out k p (by omega) h
      · rename_i hlt
        injection h with h
        subst h
        exact ⟨z, hz, by simpa using hlt⟩
    · rename_i hz
      rw [List.getElem?_eq_none_iff] at hz
      omega

theorem lins_perm {α} (lt : α → α → Bool) (out : List α) (x : α) : (lins lt out x).Perm (x :: out) := by
  unfold lins
  refine List.perm_middle.trans ?_
  rw [List.take_append_drop]
theorem lins_sorted {α} (lt : α → α → Bool) (ht : ∀ a b c, lt a b = true → lt b c = true → lt a c = true) (hi : ∀ a, lt a a = false) (hn : ∀ a b c, lt a b = false → lt b c = false → lt a c = false)
    (out : List α) (x : α) (h : out.Pairwise (fun a b => lt b a = false)) : (lins lt out x).Pairwise (fun a b => lt b a = false) := by
  have hasym : ∀ a b, lt a b = true → lt b a = false := fun a b hab => by
    cases e : lt b a with
    | false => rfl
    | true => have := ht a b a hab e; rw [hi] at this; cases this
  unfold lins
  obtain ⟨p, hp⟩ : ∃ p, lpos lt x out out.length = p := ⟨_, rfl⟩
  rw [hp]
  have hle := lpos_le lt x out out.length
  rw [hp] at hle
  have hbehind : ∀ y ∈ out.drop p, lt x y = true := fun y hy => by
    obtain ⟨j, hj⟩ := List.mem_iff_getElem?.mp hy
    rw [List.getElem?_drop] at hj
    have hlt := (List.getElem?_eq_some_iff.mp hj).1
    exact lpos_behind lt x out out.length (p + j) y (by omega) hlt hj
  have hbefore : ∀ y ∈ out.take p, lt x y = false := fun y hy => by
    obtain ⟨j, hj⟩ := List.mem_iff_getElem?.mp hy
    rw [List.getElem?_take] at hj
    split at hj
    · rename_i hjp
      obtain ⟨q, rfl⟩ : ∃ q, p = q + 1 := ⟨p - 1, by omega⟩
      obtain ⟨z, hz, hxz⟩ := lpos_before lt x out out.length q (Nat.le_refl _) hp
      by_cases e : j = q
      · subst e; rw [hj] at hz; injection hz with hz; subst hz; exact hxz
      · have hq := (List.getElem?_eq_some_iff.mp hz)
        have hjj := (List.getElem?_eq_some_iff.mp hj)
        obtain ⟨hq1, hq2⟩ := hq
        obtain ⟨hj1, hj2⟩ := hjj
        have := List.pairwise_iff_getElem.mp h j q hj1 hq1 (by omega)
        rw [hq2, hj2] at this
        exact hn x z y hxz this
    · cases hj
  have hsplit := h
  rw [← List.take_append_drop p out, List.pairwise_append] at hsplit
  obtain ⟨h1, h2, h3⟩ := hsplit
  rw [List.pairwise_append]
  refine ⟨h1, List.pairwise_cons.mpr ⟨fun y hy => hasym _ _ (hbehind y hy), h2⟩, ?_⟩
  intro a ha b hb
  rcases List.mem_cons.mp hb with rfl | hb
  · exact hbefore a ha
  · exact h3 a ha b hb
theorem fold_sorted {α} (lt : α → α → Bool) (ht : ∀ a b c, lt a b = true → lt b c = true → lt a c = true) (hi : ∀ a, lt a a = false) (hn : ∀ a b c, lt a b = false → lt b c = false → lt a c = false) :
    ∀ (l out : List α), out.Pairwise (fun a b => lt b a = false) → (l.foldl (lins lt) out).Pairwise (fun a b => lt b a = false) ∧ (l.foldl (lins lt) out).Perm (l ++ out)
  | [], out, h => ⟨h, List.Perm.refl _⟩
  | x :: l, out, h => by
    have ⟨h1, h2⟩ := fold_sorted lt ht hi hn l (lins lt out x) (lins_sorted lt ht hi hn out x h)
    refine ⟨h1, h2.trans ?_⟩
    refine (List.Perm.append_left l (lins_perm lt out x)).trans ?_
    exact List.perm_middle
theorem lsort_sorted {α} (lt : α → α → Bool) (ht : ∀ a b c, lt a b = true → lt b c = true → lt a c = true) (hi : ∀ a, lt a a = false) (hn : ∀ a b c, lt a b = false → lt b c = false → lt a c = false) (l : List α) :
    (lsort lt l).Pairwise (fun a b => lt b a = false) ∧ (lsort lt l).Perm l := by
  have h := fold_sorted lt ht hi hn l [] List.Pairwise.nil
  rw [List.append_nil] at h
  exact h
theorem sorted_one {α} (lt : α → α → Bool) : ∀ (l l' : List α), l'.Perm l → l.Pairwise (fun a b => lt b a = false) → l'.Pairwise (fun a b => lt b a = false) →
    (∀ a ∈ l, ∀ b ∈ l, lt a b = false → lt b a = false → a = b) → l' = l
  | [], l', hp, _, _, _ => List.Perm.eq_nil hp
  | x :: l, [], hp, _, _, _ => by have := hp.length_eq; simp at this
  | x :: l, y :: l', hp, h, h', ha => by
    have ey : y = x := by
      have hy : y ∈ x :: l := hp.mem_iff.mp (List.mem_cons_self)
      have hx : x ∈ y :: l' := hp.mem_iff.mpr (List.mem_cons_self)
      rcases List.mem_cons.mp hy with e | hy'
      · exact e
      rcases List.mem_cons.mp hx with e | hx'
      · exact e.symm
      exact ha y hy x List.mem_cons_self ((List.pairwise_cons.mp h).1 y hy') ((List.pairwise_cons.mp h').1 x hx')
    subst ey
    have hp' := (List.perm_cons y).mp hp
    rw [sorted_one lt l l' hp' (List.pairwise_cons.mp h).2 (List.pairwise_cons.mp h').2 (fun a h1 b h2 => ha a (List.mem_cons_of_mem _ h1) b (List.mem_cons_of_mem _ h2))]
theorem lsort_snoc {α} (lt : α → α → Bool) (l : List α) (k : Nat) (x : α) (h : l[k]? = some x) : lsort lt (l.take (k + 1)) = lins lt (lsort lt (l.take k)) x := by
  obtain ⟨hk, rfl⟩ := List.getElem?_eq_some_iff.mp h
  unfold lsort
  rw [List.take_succ_eq_append_getElem hk, List.foldl_append]
  rfl
theorem lins_length {α} (lt : α → α → Bool) (out : List α) (x : α) : (lins lt out x).length = out.length + 1 := by
  rw [(lins_perm lt out x).length_eq]; rfl
theorem lsort_length {α} (lt : α → α → Bool) (l : List α) : (lsort lt l).length = l.length := by
  unfold lsort
  have : ∀ (l out : List α), (l.foldl (lins lt) out).length = l.length + out.length := by
    intro l
    induction l with
    | nil => intro out; simp
    | cons x l ih => intro out; rw [List.foldl_cons, ih, lins_length, List.length_cons]; omega
  rw [this]; simp
end Go.Proofs.YtbkookiigkckdaaGreatDoor

/- What spec.Sorted computes of unique names is what New keeps, in plain Lean. -/
namespace Go.Proofs.YtbkookiigkckdaaGreatDoor
open Go.RowKit Go.Sort
set_option linter.unusedVariables false
set_option linter.unusedSimpArgs false

def ltL (a b : Lab) : Bool := nlt a.1 b.1
theorem ltL_irrefl (a : Lab) : ltL a a = false := by simp [ltL, nlt, List.lt_irrefl]
theorem ltL_trans (a b c : Lab) (h1 : ltL a b = true) (h2 : ltL b c = true) : ltL a c = true := by
  simp only [ltL, nlt, decide_eq_true_eq] at *; exact List.lt_trans h1 h2
theorem ltL_ntrans (a b c : Lab) (h1 : ltL a b = false) (h2 : ltL b c = false) : ltL a c = false := by
  simp only [ltL, nlt, decide_eq_false_iff_not, List.not_lt] at *
  exact List.le_trans h2 h1
abbrev sortL (l : List Lab) : List Lab := lsort ltL l

theorem names_one : ∀ (l : List Lab), l.Pairwise (fun a b => a.1 ≠ b.1) → ∀ a ∈ l, ∀ b ∈ l, a.1 = b.1 → a = b
  | [], _, a, ha, _, _, _ => by cases ha
  | x :: l, h, a, ha, b, hb, e => by
    obtain ⟨h1, h2⟩ := List.pairwise_cons.mp h
    rcases List.mem_cons.mp ha with ea | ha2
    · subst ea
      rcases List.mem_cons.mp hb with eb | hb2
      · exact eb.symm
      · exact absurd e (h1 b hb2)
    · rcases List.mem_cons.mp hb with eb | hb2
      · subst eb
        exact absurd e.symm (h1 a ha2)
      · exact names_one l h2 a ha2 b hb2 e

/-- What New keeps of labels with unique names is what spec.Sorted returns. -/
theorem sorted_same (l l' : List Lab) (hp : l'.Perm l) (hs : l'.Pairwise (fun a b => nlt b.1 a.1 = false)) (hu : l.Pairwise (fun a b => a.1 ≠ b.1)) : l' = sortL l := by
  obtain ⟨h1, h2⟩ := lsort_sorted ltL ltL_trans ltL_irrefl ltL_ntrans l
  refine sorted_one ltL (sortL l) l' (hp.trans h2.symm) h1 hs ?_
  intro a ha b hb h3 h4
  refine names_one l hu a (h2.mem_iff.mp ha) b (h2.mem_iff.mp hb) ?_
  simp only [ltL, nlt, decide_eq_false_iff_not, List.not_lt] at h3 h4
  have h5 : a.1.data.toList = b.1.data.toList := List.le_antisymm h4 h3
  exact ByteArray.ext (Array.toList_inj.1 h5)

end Go.Proofs.YtbkookiigkckdaaGreatDoor

