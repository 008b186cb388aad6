/- labels.Len; record.EncodeLabels. -/
import Derived.Test.YtbkookiigkckdaaGreatDoorLr
import Derived.Test.YtbkookiigkckdaaGreatDoorLf
namespace Go.Proofs.YtbkookiigkckdaaGreatDoor
open Go.RowKit
set_option linter.unusedVariables false
set_option linter.unusedSimpArgs false

theorem labs_len (l : List Lab) : l.length ≤ labsSize l := by
  induction l with
  | nil => simp
  | cons x l ih =>
    show l.length + 1 ≤ labSize x + labsSize l
    have : 1 ≤ labSize x := by unfold labSize lenSize; split <;> omega
    omega

set_option maxRecDepth 100000 in
set_option maxHeartbeats 2000000 in
theorem len_any (l : List Lab) (w : World) (hs : ∀ p ∈ l, p.1.size < 16777216 ∧ p.2.size < 16777216) (hsz : labsSize l ≤ 1099511627776) :
    Calls Tryz.prog 55 #[.agg #[.string (labStr l)]] w fun r w' => r = .returned (.int .i64 l.length) ∧ Fr (fun _ => False) w w' := by
  have hss : (labStr l).size ≤ 1099511627776 := by rw [labStr_size]; exact hsz
  have hll := labs_len l
  have hd0 : (labStr l).data.toList.drop 0 = labsBytes (l.drop 0) := by simp [labStr]
  have F1 : Fr (fun _ => False) w (w.alloc (.cells #[.string (labStr l)] 99)) := (Fr.refl _ w).alloc _
  have B1 : Blk (w.alloc (.cells #[.string (labStr l)] 99)) w.heap.size 99 #[.string (labStr l)] := Blk.new w 99 _
  generalize hS : labStr l = s at *
  have HS := Lib.hid hs
  have HF1 := Lib.hid F1
  have HB1 := Lib.hid B1
  have HD0 := Lib.hid hd0
  clear hs F1 B1 hd0 hS
  go_enter Tryz.func55, Tryz.ntmps55
  go_wp2
  go_loopw [3, 4] (fun vc vi wr => ∃ (i k : Nat), vc = .int .i64 k ∧ vi = .int .i64 i ∧ k ≤ l.length ∧ i ≤ s.size ∧ Hid (s.data.toList.drop i = labsBytes (l.drop k)) ∧ Hid (Fr (fun _ => False) w wr) ∧ Hid (Blk wr w.heap.size 99 #[.string s])) (fun _ vi _ => s.size - (intOf vi).toNat)
  case atStart => exact ⟨0, 0, rfl, rfl, Nat.zero_le _, Nat.zero_le _, HD0, HF1, HB1⟩
  case round =>
    obtain ⟨i, k, rfl, rfl, hk, hi, HD, HF, HB⟩ := hrel
    have c0 : wr.cell? ⟨w.heap.size, 0, none⟩ = some (.string s) := HB.out.cell 0
    by_cases hlt : k < l.length
    · obtain ⟨x, hx⟩ : ∃ x, l[k]? = some x := ⟨_, List.getElem?_eq_getElem hlt⟩
      have hxs := HS.out x (List.mem_of_getElem? hx)
      have hD : s.data.toList.drop i = lenBytes x.1.size ++ (x.1.data.toList ++ (lenBytes x.2.size ++ (x.2.data.toList ++ labsBytes (l.drop (k + 1))))) := by
        rw [HD.out, labsBytes_drop l k x hx]
        simp [labBytes]
      have q1 := fun W => decodeSize_any s i x.1.size _ hxs.1 (by omega) hD W
      have d1 := drop_le hD hi
      have h2 := drop_more hD
      have d2 := drop_le h2 d1
      have h3 := drop_more h2
      have e1 : x.1.data.toList.length = x.1.size := by rw [← Lib.size_eq]
      rw [lenBytes_len] at h3 d2
      rw [lenBytes_len] at h2
      rw [e1] at h3 d2
      obtain ⟨i1, hi1⟩ : ∃ i1, i + lenSize x.1.size = i1 := ⟨_, rfl⟩
      rw [hi1] at h3 d2
      simp only [hi1] at q1
      have q2 := fun W => decodeSize_any s (i1 + x.1.size) x.2.size _ hxs.2 (by omega) h3 W
      have d3 := drop_le h3 d2
      have h4 := drop_more h3
      have d4 := drop_le h4 d3
      have h5 := drop_more h4
      have e2 : x.2.data.toList.length = x.2.size := by rw [← Lib.size_eq]
      rw [lenBytes_len, e2] at h5 d4
      obtain ⟨i3, hi3⟩ : ∃ i3, i1 + x.1.size + lenSize x.2.size = i3 := ⟨_, rfl⟩
      rw [hi3] at h5 d4
      simp only [hi3] at q2
      have hpos : 0 < lenSize x.1.size := by unfold lenSize; split <;> omega
      have hlt1 : i < s.size := by omega
      have hgo : i < i3 + x.2.size := by omega
      have H5 := Lib.hid h5
      have HX := Lib.hid hx
      generalize x.1.size = n1 at *
      generalize x.2.size = n2 at *
      clear hD d1 h2 h3 d3 h4 h5 e1 e2 hx hi3 hi1 hxs hpos
      have q2' : ∀ W, Calls Tryz.prog 150 #[.string s, .int .i64 ((i1 : Int) + n1)] W fun e w' => e = .returned (.tuple #[.int .i64 n2, .int .i64 (i3 : Nat)]) ∧ Fr (fun _ => False) W w' := q2
      clear q2
      go_wp2_with (first
        | (go_at_call_of 150 (Value.int .i64 (i : Int)); refine (q1 _).mono ?_; rintro r w1 ⟨rfl, hf1⟩; have HB2 := Lib.hid (HB.out.fr hf1 (fun e => e)); have c1 := HB2.out.cell 0)
        | (go_at_call 150; refine (q2' _).mono ?_; rintro r w2 ⟨rfl, hf2⟩; have HB3 := Lib.hid (HB2.out.fr hf2 (fun e => e))))
      exact ⟨⟨i3 + n2, k + 1, rfl, rfl, hlt, d4, H5, Lib.hid ((HF.out.same hf1).same hf2), HB3⟩, by show s.size - ((i3 : Int) + n2).toNat < s.size - ((i : Int)).toNat; omega⟩
    · obtain rfl : k = l.length := by omega
      have hD := HD.out
      rw [List.drop_length] at hD
      have hi2 : i = s.size := by
        have h := congrArg List.length hD
        rw [List.length_drop, ← Lib.size_eq] at h
        simp [labsBytes] at h
        omega
      subst hi2
      have hlt1 : ¬ ((s.size : Int) < s.size) := by omega
      go_wp2
      go_ret
      exact ⟨rfl, HF.out⟩

theorem enc_fr {w w' : World} {e : Nat} {o : Option Nat} {xs : List UInt8} {S : Nat → Prop} (h : Enc w e o xs) (hf : Fr S w w') (he : ¬ S e) (ho : ∀ k, o = some k → ¬ S k) : Enc w' e o xs := by
  obtain ⟨v, cs, hb, hs, h0, hown, rfl⟩ := h
  exact ⟨v, cs, hb.fr hf he, hs, h0, own_fr hown hf ho, rfl⟩
theorem enc_ne {w : World} {e c : Nat} {o : Option Nat} {xs : List UInt8} {t : TypeId} {cs : Array Value} (h : Enc w e o xs) (hb : Blk w c t cs) (h1 : 5 ≠ t) (h2 : 224 ≠ t) : o ≠ some c ∧ e ≠ c := by
  obtain ⟨v, cs', hb', hs, h0, hown, rfl⟩ := h
  exact ⟨own_ne hown hb h1, Blk.ne_ hb' hb h2⟩
theorem enc_lt {w : World} {e : Nat} {o : Option Nat} {xs : List UInt8} (h : Enc w e o xs) : e < w.heap.size ∧ ∀ k, o = some k → k < w.heap.size := by
  obtain ⟨v, cs, hb, hs, h0, hown, rfl⟩ := h
  exact ⟨hb.lt, fun k hk => own_lt hown hk⟩
theorem put_fr {w W W' : World} {e : Nat} {o : Option Nat} {xs ys : List UInt8} (h : Put w e o xs ys W) (hf : Fr (fun _ => False) W W') : Put w e o xs ys W' := by
  obtain ⟨o1, he, hf1, ho⟩ := h
  exact ⟨o1, enc_fr he hf (fun e => e) (fun _ _ e => e), hf1.trans hf (fun _ _ e => e.elim), ho⟩

theorem put_keeps {w w' : World} {e b : Nat} {o : Option Nat} {xs ys : List UInt8} {t : TypeId} {cs : Array Value} (h : Put w e o xs ys w') (he : Enc w e o xs) (hb : Blk w b t cs) (h5 : 5 ≠ t) (h4 : 224 ≠ t) : Blk w' b t cs := by
  have nn := enc_ne he hb h5 h4
  obtain ⟨o2, _, hf2, _⟩ := h
  exact hb.fr hf2 (fun e => e.elim (fun e => nn.2 e.symm) (fun e => nn.1 e.symm))
theorem put_from {w0 w w' : World} {e : Nat} {o : Option Nat} {xs ys : List UInt8} (h : Put w e o xs ys w') (hf : Fr (fun _ => False) w0 w) : Put w0 e o xs ys w' := by
  obtain ⟨o2, he, hf2, ho⟩ := h
  exact ⟨o2, he, (hf.mono (fun _ _ e => e.elim)).same hf2, ho.imp id (fun ⟨k, h, hk⟩ => ⟨k, h, Nat.le_trans hf.size hk⟩)⟩

set_option maxRecDepth 100000 in
set_option maxHeartbeats 2000000 in
/-- EncodeLabels' closure. -/
theorem enc1_any (e c : Nat) (o : Option Nat) (xs : List UInt8) (x : Lab) (W : World) (h : Enc W e o xs) (hc : Blk W c 226 #[.pointer (some ⟨e, 0, none⟩)]) (hl : xs.length ≤ 274877906944) (h1 : x.1.size ≤ 1048576) (h2 : x.2.size ≤ 1048576) :
    Calls Tryz.prog 201 #[.agg #[.string x.1, .string x.2], .pointer (some ⟨c, 0, none⟩)] W fun r w' => r = .returned (.tuple #[]) ∧ Put W e o xs (encLab x) w' ∧ (∀ b t cs, Blk W b t cs → 5 ≠ t → 224 ≠ t → Blk w' b t cs) := by
  obtain ⟨a, b⟩ := x
  dsimp only at h1 h2
  obtain ⟨W1, hW1⟩ : ∃ W1, W.alloc (.cells #[.string a, .string b] 108) = W1 := ⟨_, rfl⟩
  have F1 : Fr (fun _ => False) W W1 := by rw [← hW1]; exact (Fr.refl _ W).alloc _
  have hB1 : Blk W1 W.heap.size 108 #[.string a, .string b] := by rw [← hW1]; exact Blk.new W 108 _
  have hE1 := enc_fr h F1 (fun e => e) (fun _ _ e => e)
  have hP1 := putUvarintStr e o xs a W1 hE1 (by omega) (by omega)
  have hc1 := hc.fr F1 (fun e => e)
  have k0 := hc1.cell 0
  have k1 := hB1.cell 0
  simp at k0 k1
  have keep : ∀ b t cs, Blk W b t cs → 5 ≠ t → 224 ≠ t → Blk W1 b t cs := fun b t cs hb _ _ => hb.fr F1 (fun e => e)
  have K1 := Lib.hid keep
  have HF1 := Lib.hid F1
  have HE1 := Lib.hid hE1
  have HC1 := Lib.hid hc1
  have HB1 := Lib.hid hB1
  clear keep F1 hE1 hc1 hB1 h hc
  have hs1 : (encStr a).length ≤ 1048586 := by
    have := Lib.uvarint_length64 (x := a.size) (by omega)
    have e : a.data.toList.length = a.size := by rw [← Lib.size_eq]
    rw [encStr, List.length_append, e]; omega
  go_enter Tryz.func201, Tryz.ntmps201
  go_wp2_with (first
    | (go_at_call_of 187 (Value.string a); refine hP1.mono ?_; rintro r w1 ⟨rfl, hp1⟩; refine Hid.out ?_))
  obtain ⟨o1, hE2, hf1, ho1⟩ := hp1
  have nn1 := enc_ne HE1.out HC1.out (by decide) (by decide)
  have nn2 := enc_ne HE1.out HB1.out (by decide) (by decide)
  have hc2 := HC1.out.fr hf1 (fun e => e.elim (fun e => nn1.2 e.symm) (fun e => nn1.1 e.symm))
  have hB2 := HB1.out.fr hf1 (fun e => e.elim (fun e => nn2.2 e.symm) (fun e => nn2.1 e.symm))
  have hP2 := putUvarintStr e o1 (xs ++ encStr a) b w1 hE2 (by rw [List.length_append]; omega) (by omega)
  have k2 := hc2.cell 0
  have k3 := hB2.cell 1
  simp at k2 k3
  have hsz1 := HF1.out.size
  have HST : Hid (∀ w2, Put w1 e o1 (xs ++ encStr a) (encStr b) w2 → Put W e o xs (encStr a ++ encStr b) w2) := Lib.hid (fun w2 h2 => Put.step hE2 ((HF1.out.mono (fun _ _ e => e.elim)).same hf1) (ho1.imp id (fun ⟨k, h, hk⟩ => ⟨k, h, Nat.le_trans hsz1 hk⟩)) h2)
  have HK2 : Hid (∀ b t cs, Blk W b t cs → 5 ≠ t → 224 ≠ t → Blk w1 b t cs) := Lib.hid (fun b t cs hb h5 h4 => by
    have hb1 := K1.out b t cs hb h5 h4
    have nn := enc_ne HE1.out hb1 h5 h4
    exact hb1.fr hf1 (fun e => e.elim (fun e => nn.2 e.symm) (fun e => nn.1 e.symm)))
  have HE2 := Lib.hid hE2
  clear hE2 hf1 ho1 nn1 nn2 hc2 hB2 k0 k1 hP1
  refine Lib.hid ?_
  go_wp2_with (first
    | (go_at_call_of 187 (Value.string b); refine hP2.mono ?_; rintro r w2 ⟨rfl, hp2⟩))
  go_end0
  refine ⟨rfl, HST.out _ hp2, fun b t cs hb h5 h4 => ?_⟩
  have hb1 := HK2.out b t cs hb h5 h4
  have nn := enc_ne HE2.out hb1 h5 h4
  obtain ⟨o2, _, hf2, _⟩ := hp2
  exact hb1.fr hf2 (fun e => e.elim (fun e => nn.2 e.symm) (fun e => nn.1 e.symm))

theorem encLab_len (x : Lab) (h1 : x.1.size ≤ 1048576) (h2 : x.2.size ≤ 1048576) : (encLab x).length ≤ 2097172 := by
  have l1 := Lib.uvarint_length64 (x := x.1.size) (by omega)
  have l2 := Lib.uvarint_length64 (x := x.2.size) (by omega)
  have e1 : x.1.data.toList.length = x.1.size := by rw [← Lib.size_eq]
  have e2 : x.2.data.toList.length = x.2.size := by rw [← Lib.size_eq]
  simp only [encLab, encStr, List.length_append, e1, e2]
  omega
theorem fm_succ (l : List Lab) (k : Nat) (x : Lab) (hx : l[k]? = some x) : (l.take (k + 1)).flatMap encLab = (l.take k).flatMap encLab ++ encLab x := by
  rw [List.take_add_one, hx, List.flatMap_append]
  simp
theorem encLabs_len : ∀ (l : List Lab), (∀ p ∈ l, p.1.size ≤ 1048576 ∧ p.2.size ≤ 1048576) → (l.flatMap encLab).length ≤ l.length * 2097172
  | [], _ => by simp
  | x :: l, h => by
    have h1 := h x (by simp)
    have := encLab_len x h1.1 h1.2
    have := encLabs_len l (fun p hp => h p (by simp [hp]))
    rw [List.flatMap_cons, List.length_append, List.length_cons, Nat.add_mul]
    omega
theorem labsSize_le4 (l : List Lab) (hl : l.length ≤ 4096) (hs : ∀ p ∈ l, p.1.size ≤ 1048576 ∧ p.2.size ≤ 1048576) : labsSize l ≤ 1099511627776 := by
  have := labsSize_le l hs
  have h : l.length * 2097160 ≤ 4096 * 2097160 := Nat.mul_le_mul_right _ hl
  omega

set_option maxRecDepth 100000 in
set_option maxHeartbeats 2000000 in
theorem encodeLabels_any (e : Nat) (o : Option Nat) (xs : List UInt8) (l : List Lab) (w : World) (h : Enc w e o xs) (hxl : xs.length ≤ 1073741824) (hl : l.length ≤ 4096) (hs : ∀ p ∈ l, p.1.size ≤ 1048576 ∧ p.2.size ≤ 1048576) :
    Calls Tryz.prog 115 #[.pointer (some ⟨e, 0, none⟩), .agg #[.string (labStr l)]] w (PutEnds w e o xs (encLabs l)) := by
  have hs' : ∀ p ∈ l, p.1.size < 16777216 ∧ p.2.size < 16777216 := fun p hp => by have := hs p hp; omega
  have hsz := labsSize_le4 l hl hs
  have eg : ∀ args w, (callFunc 201 args).run Tryz.prog w = .ok (.enter 201 args) w := enters_of Tryz.func201 (by kernel_rfl) rfl
  have hmf : ∀ (fn : Fn) (first cap : Array Value) (w : World), (Instr.makeFunc fn first cap).run Tryz.prog w = .ok (.func fn first cap) w := fun _ _ _ _ => rfl
  have HE := Lib.hid h
  have HS := Lib.hid hs
  clear h hs
  have hstr := labStr_size l
  have hLen := fun W => len_any l W hs' hsz
  have hRange := fun J W => range_any l 201 #[.pointer (some ⟨w.heap.size, 0, none⟩)] eg J W hs' hsz
  generalize labStr l = s at hstr hLen hRange ⊢
  have HRG := Lib.hid hRange
  clear hRange hs'
  obtain ⟨n, hn⟩ : ∃ n, l.length = n := ⟨_, rfl⟩
  rw [hn] at hLen hl
  have HN := Lib.hid hn
  clear hn
  go_enter Tryz.func115, Tryz.ntmps115
  go_wp2_with fail
  have F1 : Fr (fun _ => False) w ((w.alloc (.cells #[.pointer (some ⟨e, 0, none⟩)] 226)).alloc (.cells #[.string s] 99)) := ((Fr.refl _ w).alloc _).alloc _
  have hB1 : Blk ((w.alloc (.cells #[.pointer (some ⟨e, 0, none⟩)] 226)).alloc (.cells #[.string s] 99)) w.heap.size 226 #[.pointer (some ⟨e, 0, none⟩)] := (Blk.new w 226 _).alloc _
  have hB2 : Blk ((w.alloc (.cells #[.pointer (some ⟨e, 0, none⟩)] 226)).alloc (.cells #[.string s] 99)) (w.heap.size + 1) 99 #[.string s] := blk_new2 w _ 99 _
  generalize (w.alloc (.cells #[.pointer (some ⟨e, 0, none⟩)] 226)).alloc (.cells #[.string s] 99) = W1 at F1 hB1 hB2 ⊢
  have HC : Hid (∀ W S, Fr S W1 W → ¬ S w.heap.size → ¬ S (w.heap.size + 1) → W.cell? ⟨w.heap.size, 0, none⟩ = some (.pointer (some ⟨e, 0, none⟩)) ∧ W.cell? ⟨w.heap.size + 1, 0, none⟩ = some (.string s)) := Lib.hid (fun W S hF h1 h2 => by
    have a1 := (hB1.fr hF h1).cell 0
    have a2 := (hB2.fr hF h2).cell 0
    simp at a1 a2
    exact ⟨a1, a2⟩)
  have HF1 := Lib.hid F1
  have HB1 := Lib.hid hB1
  have HB2 := Lib.hid hB2
  clear F1 hB1 hB2
  go_region_held3 (fun w' => w'.cell? ⟨w.heap.size, 0, none⟩ = some (.pointer (some ⟨e, 0, none⟩)) ∧ w'.cell? ⟨w.heap.size + 1, 0, none⟩ = some (.string s))
    ((first | exact HC.out _ _ (Fr.refl (fun _ => False) W1).drew (fun e => e) (fun e => e) | exact HC.out _ _ ((Fr.refl (fun _ => False) W1).drew.same hf5) (fun e => e) (fun e => e) | exact hc7.out | go_keep))
    ((first
      | (go_at_call 55; refine (hLen _).mono ?_; rintro r5 w5 ⟨rfl, hf5⟩)
      | (go_at_call 186; refine (putUvarint e o xs n (by omega) _ (enc_fr (enc_fr HE.out HF1.out (fun e => e) (fun _ _ e => e)) ((Fr.refl (fun _ => False) W1).drew.same hf5) (fun e => e) (fun _ _ e => e)) (by omega)).mono ?_; rintro r7 w7 ⟨rfl, hp7⟩; have hc7 := Lib.hid (by
          have hE5 := enc_fr (enc_fr HE.out HF1.out (fun e => e) (fun _ _ e => e)) ((Fr.refl (fun _ => False) W1).drew.same hf5) (fun e => e) (fun _ _ e => e)
          have a1 := (put_keeps hp7 hE5 (HB1.out.fr ((Fr.refl (fun _ => False) W1).drew.same hf5) (fun e => e)) (by decide) (by decide)).cell 0
          have a2 := (put_keeps hp7 hE5 (HB2.out.fr ((Fr.refl (fun _ => False) W1).drew.same hf5) (fun e => e)) (by decide) (by decide)).cell 0
          simp at a1 a2
          exact ⟨a1, a2⟩ : w7.cell? ⟨w.heap.size, 0, none⟩ = some (.pointer (some ⟨e, 0, none⟩)) ∧ w7.cell? ⟨w.heap.size + 1, 0, none⟩ = some (.string s)))))
  have F5 : Fr (fun _ => False) w w5 := HF1.out.same ((Fr.refl (fun _ => False) W1).drew.same hf5)
  have hE5 := enc_fr HE.out F5 (fun e => e) (fun _ _ e => e)
  have hB7 := put_keeps hp7 hE5 (HB1.out.fr ((Fr.refl (fun _ => False) W1).drew.same hf5) (fun e => e)) (by decide) (by decide)
  have hp := put_from hp7 F5
  obtain ⟨c1, c2⟩ := hc7.out
  have hR := HRG.out (fun k W => Put w e o xs (Lib.uvarint n ++ (l.take k).flatMap encLab) W ∧ Blk W w.heap.size 226 #[.pointer (some ⟨e, 0, none⟩)]) w7 (fun k W W' h hf => ⟨put_fr h.1 hf, h.2.fr hf (fun e => e)⟩) ⟨by simpa using hp, hB7⟩ (by
    rintro k x W hx ⟨hp, hb⟩ hb9
    have hxs := HS.out x (List.mem_of_getElem? hx)
    obtain ⟨o1, he1, hf1, ho1⟩ := hp
    have hlen : (xs ++ (Lib.uvarint n ++ (l.take k).flatMap encLab)).length ≤ 274877906944 := by
      have l1 := Lib.uvarint_length64 (x := n) (by omega)
      have l2 := encLabs_len (l.take k) (fun p hp => HS.out p (List.mem_of_mem_take hp))
      have l3 : (l.take k).length ≤ n := by rw [← HN.out, List.length_take]; exact Nat.min_le_right _ _
      have l4 : (l.take k).length * 2097172 ≤ 4096 * 2097172 := Nat.mul_le_mul_right _ (by omega)
      simp only [List.length_append] at *
      omega
    refine (enc1_any e w.heap.size o1 _ x W he1 hb hlen hxs.1 hxs.2).mono ?_
    rintro r w' ⟨rfl, hp', hk⟩
    refine ⟨rfl, ⟨?_, hk _ _ _ hb (by decide) (by decide)⟩, hk _ _ _ hb9 (by decide) (by decide)⟩
    rw [fm_succ l k x hx, ← List.append_assoc]
    exact Put.step he1 hf1 ho1 hp')
  clear F5 hE5 hB7 hp hp7 hf5 hc7
  go_wp2_with (go_at_call 152; refine hR.mono ?_; rintro r w8 ⟨rfl, hj, _⟩)
  go_end0
  refine ⟨rfl, ?_⟩
  rw [List.take_length] at hj
  rw [encLabs, HN.out]
  exact hj
end Go.Proofs.YtbkookiigkckdaaGreatDoor
