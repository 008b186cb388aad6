/- Texts of this seat, merged: Lg, Yc, Zf. -/
import Derived.Test.YtbkookiigkckdaaGreatDoorK11
import Derived.Test.YtbkookiigkckdaaGreatDoorK12
import Derived.Test.YtbkookiigkckdaaGreatDoorK24
import Derived.Test.YtbkookiigkckdaaGreatDoorK14
import Derived.Deep.DeepCutAuto
import Derived.Tactics
import Derived.Tactics2
/- labels.Len; record.EncodeLabels. -/
namespace Go.Proofs.YtbkookiigkckdaaGreatDoor
open Go.RowKit
set_option linter.unusedVariables false
set_option linter.unusedSimpArgs false

theorem labs_len (l : List Lab) : l.length ≤ labsSize l := by
  induction l with
  | nil => simp
  | cons x l ih =>
    show l.length + 1 ≤ labSize x + labsSize l
    have : 1 ≤ labSize x := by unfold labSize lenSize; split <;> omega
    omega

set_option maxRecDepth 100000 in
set_option maxHeartbeats 2000000 in
theorem len_any (l : List Lab) (w : World) (hs : ∀ p ∈ l, p.1.size < 16777216 ∧ p.2.size < 16777216) (hsz : labsSize l ≤ 1099511627776) :
    Calls Tryz.prog 55 #[.agg #[.string (labStr l)]] w fun r w' => r = .returned (.int .i64 l.length) ∧ Fr (fun _ => False) w w' := by
  have hss : (labStr l).size ≤ 1099511627776 := by rw [labStr_size]; exact hsz
  have hll := labs_len l
  have hd0 : (labStr l).data.toList.drop 0 = labsBytes (l.drop 0) := by simp [labStr]
  have F1 : Fr (fun _ => False) w (w.alloc (.cells #[.string (labStr l)] 99)) := (Fr.refl _ w).alloc _
  have B1 : Blk (w.alloc (.cells #[.string (labStr l)] 99)) w.heap.size 99 #[.string (labStr l)] := Blk.new w 99 _
  generalize hS : labStr l = s at *
  have HS := Lib.hid hs
  have HF1 := Lib.hid F1
  have HB1 := Lib.hid B1
  have HD0 := Lib.hid hd0
  clear hs F1 B1 hd0 hS
  go_enter Tryz.func55, Tryz.ntmps55
  go_wp2
  go_loopw [3, 4] (fun vc vi wr => ∃ (i k : Nat), vc = .int .i64 k ∧ vi = .int .i64 i ∧ k ≤ l.length ∧ i ≤ s.size ∧ Hid (s.data.toList.drop i = labsBytes (l.drop k)) ∧ Hid (Fr (fun _ => False) w wr) ∧ Hid (Blk wr w.heap.size 99 #[.string s])) (fun _ vi _ => s.size - (intOf vi).toNat)
  case atStart => exact ⟨0, 0, rfl, rfl, Nat.zero_le _, Nat.zero_le _, HD0, HF1, HB1⟩
  case round =>
    obtain ⟨i, k, rfl, rfl, hk, hi, HD, HF, HB⟩ := hrel
    have c0 : wr.cell? ⟨w.heap.size, 0, none⟩ = some (.string s) := HB.out.cell 0
    by_cases hlt : k < l.length
    · obtain ⟨x, hx⟩ : ∃ x, l[k]? = some x := ⟨_, List.getElem?_eq_getElem hlt⟩
      have hxs := HS.out x (List.mem_of_getElem? hx)
      have hD : s.data.toList.drop i = lenBytes x.1.size ++ (x.1.data.toList ++ (lenBytes x.2.size ++ (x.2.data.toList ++ labsBytes (l.drop (k + 1))))) := by
        rw [HD.out, labsBytes_drop l k x hx]
        simp [labBytes]
      have q1 := fun W => decodeSize_any s i x.1.size _ hxs.1 (by omega) hD W
      have d1 := drop_le hD hi
      have h2 := drop_more hD
      have d2 := drop_le h2 d1
      have h3 := drop_more h2
      have e1 : x.1.data.toList.length = x.1.size := by rw [← Lib.size_eq]
      rw [lenBytes_len] at h3 d2
      rw [lenBytes_len] at h2
      rw [e1] at h3 d2
      obtain ⟨i1, hi1⟩ : ∃ i1, i + lenSize x.1.size = i1 := ⟨_, rfl⟩
      rw [hi1] at h3 d2
      simp only [hi1] at q1
      have q2 := fun W => decodeSize_any s (i1 + x.1.size) x.2.size _ hxs.2 (by omega) h3 W
      have d3 := drop_le h3 d2
      have h4 := drop_more h3
      have d4 := drop_le h4 d3
      have h5 := drop_more h4
      have e2 : x.2.data.toList.length = x.2.size := by rw [← Lib.size_eq]
      rw [lenBytes_len, e2] at h5 d4
      obtain ⟨i3, hi3⟩ : ∃ i3, i1 + x.1.size + lenSize x.2.size = i3 := ⟨_, rfl⟩
      rw [hi3] at h5 d4
      simp only [hi3] at q2
      have hpos : 0 < lenSize x.1.size := by unfold lenSize; split <;> omega
      have hlt1 : i < s.size := by omega
      have hgo : i < i3 + x.2.size := by omega
      have H5 := Lib.hid h5
      have HX := Lib.hid hx
      generalize x.1.size = n1 at *
      generalize x.2.size = n2 at *
      clear hD d1 h2 h3 d3 h4 h5 e1 e2 hx hi3 hi1 hxs hpos
      have q2' : ∀ W, Calls Tryz.prog 150 #[.string s, .int .i64 ((i1 : Int) + n1)] W fun e w' => e = .returned (.tuple #[.int .i64 n2, .int .i64 (i3 : Nat)]) ∧ Fr (fun _ => False) W w' := q2
      clear q2
      go_wp2_with (first
        | (go_at_call_of 150 (Value.int .i64 (i : Int)); refine (q1 _).mono ?_; rintro r w1 ⟨rfl, hf1⟩; have HB2 := Lib.hid (HB.out.fr hf1 (fun e => e)); have c1 := HB2.out.cell 0)
        | (go_at_call 150; refine (q2' _).mono ?_; rintro r w2 ⟨rfl, hf2⟩; have HB3 := Lib.hid (HB2.out.fr hf2 (fun e => e))))
      exact ⟨⟨i3 + n2, k + 1, rfl, rfl, hlt, d4, H5, Lib.hid ((HF.out.same hf1).same hf2), HB3⟩, by show s.size - ((i3 : Int) + n2).toNat < s.size - ((i : Int)).toNat; omega⟩
    · obtain rfl : k = l.length := by omega
      have hD := HD.out
      rw [List.drop_length] at hD
      have hi2 : i = s.size := by
        have h := congrArg List.length hD
        rw [List.length_drop, ← Lib.size_eq] at h
        simp [labsBytes] at h
        omega
      subst hi2
      have hlt1 : ¬ ((s.size : Int) < s.size) := by omega
      go_wp2
      go_ret
      exact ⟨rfl, HF.out⟩

theorem enc_fr {w w' : World} {e : Nat} {o : Option Nat} {xs : List UInt8} {S : Nat → Prop} (h : Enc w e o xs) (hf : Fr S w w') (he : ¬ S e) (ho : ∀ k, o = some k → ¬ S k) : Enc w' e o xs := by
  obtain ⟨v, cs, hb, hs, h0, hown, rfl⟩ := h
  exact ⟨v, cs, hb.fr hf he, hs, h0, own_fr hown hf ho, rfl⟩
theorem enc_ne {w : World} {e c : Nat} {o : Option Nat} {xs : List UInt8} {t : TypeId} {cs : Array Value} (h : Enc w e o xs) (hb : Blk w c t cs) (h1 : 5 ≠ t) (h2 : 224 ≠ t) : o ≠ some c ∧ e ≠ c := by
  obtain ⟨v, cs', hb', hs, h0, hown, rfl⟩ := h
  exact ⟨own_ne hown hb h1, Blk.ne_ hb' hb h2⟩
theorem enc_lt {w : World} {e : Nat} {o : Option Nat} {xs : List UInt8} (h : Enc w e o xs) : e < w.heap.size ∧ ∀ k, o = some k → k < w.heap.size := by
  obtain ⟨v, cs, hb, hs, h0, hown, rfl⟩ := h
  exact ⟨hb.lt, fun k hk => own_lt hown hk⟩
theorem put_fr {w W W' : World} {e : Nat} {o : Option Nat} {xs ys : List UInt8} (h : Put w e o xs ys W) (hf : Fr (fun _ => False) W W') : Put w e o xs ys W' := by
  obtain ⟨o1, he, hf1, ho⟩ := h
  exact ⟨o1, enc_fr he hf (fun e => e) (fun _ _ e => e), hf1.trans hf (fun _ _ e => e.elim), ho⟩

theorem put_keeps {w w' : World} {e b : Nat} {o : Option Nat} {xs ys : List UInt8} {t : TypeId} {cs : Array Value} (h : Put w e o xs ys w') (he : Enc w e o xs) (hb : Blk w b t cs) (h5 : 5 ≠ t) (h4 : 224 ≠ t) : Blk w' b t cs := by
  have nn := enc_ne he hb h5 h4
  obtain ⟨o2, _, hf2, _⟩ := h
  exact hb.fr hf2 (fun e => e.elim (fun e => nn.2 e.symm) (fun e => nn.1 e.symm))
theorem put_from {w0 w w' : World} {e : Nat} {o : Option Nat} {xs ys : List UInt8} (h : Put w e o xs ys w') (hf : Fr (fun _ => False) w0 w) : Put w0 e o xs ys w' := by
  obtain ⟨o2, he, hf2, ho⟩ := h
  exact ⟨o2, he, (hf.mono (fun _ _ e => e.elim)).same hf2, ho.imp id (fun ⟨k, h, hk⟩ => ⟨k, h, Nat.le_trans hf.size hk⟩)⟩

set_option maxRecDepth 100000 in
set_option maxHeartbeats 2000000 in
/-- EncodeLabels' closure. -/
theorem enc1_any (e c : Nat) (o : Option Nat) (xs : List UInt8) (x : Lab) (W : World) (h : Enc W e o xs) (hc : Blk W c 226 #[.pointer (some ⟨e, 0, none⟩)]) (hl : xs.length ≤ 274877906944) (h1 : x.1.size ≤ 1048576) (h2 : x.2.size ≤ 1048576) :
    Calls Tryz.prog 201 #[.agg #[.string x.1, .string x.2], .pointer (some ⟨c, 0, none⟩)] W fun r w' => r = .returned (.tuple #[]) ∧ Put W e o xs (encLab x) w' ∧ (∀ b t cs, Blk W b t cs → 5 ≠ t → 224 ≠ t → Blk w' b t cs) := by
  obtain ⟨a, b⟩ := x
  dsimp only at h1 h2
  obtain ⟨W1, hW1⟩ : ∃ W1, W.alloc (.cells #[.string a, .string b] 108) = W1 := ⟨_, rfl⟩
  have F1 : Fr (fun _ => False) W W1 := by rw [← hW1]; exact (Fr.refl _ W).alloc _
  have hB1 : Blk W1 W.heap.size 108 #[.string a, .string b] := by rw [← hW1]; exact Blk.new W 108 _
  have hE1 := enc_fr h F1 (fun e => e) (fun _ _ e => e)
  have hP1 := putUvarintStr e o xs a W1 hE1 (by omega) (by omega)
  have hc1 := hc.fr F1 (fun e => e)
  have k0 := hc1.cell 0
  have k1 := hB1.cell 0
  simp at k0 k1
  have keep : ∀ b t cs, Blk W b t cs → 5 ≠ t → 224 ≠ t → Blk W1 b t cs := fun b t cs hb _ _ => hb.fr F1 (fun e => e)
  have K1 := Lib.hid keep
  have HF1 := Lib.hid F1
  have HE1 := Lib.hid hE1
  have HC1 := Lib.hid hc1
  have HB1 := Lib.hid hB1
  clear keep F1 hE1 hc1 hB1 h hc
  have hs1 : (encStr a).length ≤ 1048586 := by
    have := Lib.uvarint_length64 (x := a.size) (by omega)
    have e : a.data.toList.length = a.size := by rw [← Lib.size_eq]
    rw [encStr, List.length_append, e]; omega
  go_enter Tryz.func201, Tryz.ntmps201
  go_wp2_with (first
    | (go_at_call_of 187 (Value.string a); refine hP1.mono ?_; rintro r w1 ⟨rfl, hp1⟩; refine Hid.out ?_))
  obtain ⟨o1, hE2, hf1, ho1⟩ := hp1
  have nn1 := enc_ne HE1.out HC1.out (by decide) (by decide)
  have nn2 := enc_ne HE1.out HB1.out (by decide) (by decide)
  have hc2 := HC1.out.fr hf1 (fun e => e.elim (fun e => nn1.2 e.symm) (fun e => nn1.1 e.symm))
  have hB2 := HB1.out.fr hf1 (fun e => e.elim (fun e => nn2.2 e.symm) (fun e => nn2.1 e.symm))
  have hP2 := putUvarintStr e o1 (xs ++ encStr a) b w1 hE2 (by rw [List.length_append]; omega) (by omega)
  have k2 := hc2.cell 0
  have k3 := hB2.cell 1
  simp at k2 k3
  have hsz1 := HF1.out.size
  have HST : Hid (∀ w2, Put w1 e o1 (xs ++ encStr a) (encStr b) w2 → Put W e o xs (encStr a ++ encStr b) w2) := Lib.hid (fun w2 h2 => Put.step hE2 ((HF1.out.mono (fun _ _ e => e.elim)).same hf1) (ho1.imp id (fun ⟨k, h, hk⟩ => ⟨k, h, Nat.le_trans hsz1 hk⟩)) h2)
  have HK2 : Hid (∀ b t cs, Blk W b t cs → 5 ≠ t → 224 ≠ t → Blk w1 b t cs) := Lib.hid (fun b t cs hb h5 h4 => by
    have hb1 := K1.out b t cs hb h5 h4
    have nn := enc_ne HE1.out hb1 h5 h4
    exact hb1.fr hf1 (fun e => e.elim (fun e => nn.2 e.symm) (fun e => nn.1 e.symm)))
  have HE2 := Lib.hid hE2
  clear hE2 hf1 ho1 nn1 nn2 hc2 hB2 k0 k1 hP1
  refine Lib.hid ?_
  go_wp2_with (first
    | (go_at_call_of 187 (Value.string b); refine hP2.mono ?_; rintro r w2 ⟨rfl, hp2⟩))
  go_end0
  refine ⟨rfl, HST.out _ hp2, fun b t cs hb h5 h4 => ?_⟩
  have hb1 := HK2.out b t cs hb h5 h4
  have nn := enc_ne HE2.out hb1 h5 h4
  obtain ⟨o2, _, hf2, _⟩ := hp2
  exact hb1.fr hf2 (fun e => e.elim (fun e => nn.2 e.symm) (fun e => nn.1 e.symm))

theorem encLab_len (x : Lab) (h1 : x.1.size ≤ 1048576) (h2 : x.2.size ≤ 1048576) : (encLab x).length ≤ 2097172 := by
  have l1 := Lib.uvarint_length64 (x := x.1.size) (by omega)
  have l2 := Lib.uvarint_length64 (x := x.2.size) (by omega)
  have e1 : x.1.data.toList.length = x.1.size := by rw [← Lib.size_eq]
  have e2 : x.2.data.toList.length = x.2.size := by rw [← Lib.size_eq]
  simp only [encLab, encStr, List.length_append, e1, e2]
  omega
theorem fm_succ (l : List Lab) (k : Nat) (x : Lab) (hx : l[k]? = some x) : (l.take (k + 1)).flatMap encLab = (l.take k).flatMap encLab ++ encLab x := by
  rw [List.take_add_one, hx, List.flatMap_append]
  simp
theorem encLabs_len : ∀ (l : List Lab), (∀ p ∈ l, p.1.size ≤ 1048576 ∧ p.2.size ≤ 1048576) → (l.flatMap encLab).length ≤ l.length * 2097172
  | [], _ => by simp
  | x :: l, h => by
    have h1 := h x (by simp)
    have := encLab_len x h1.1 h1.2
    have := encLabs_len l (fun p hp => h p (by simp [hp]))
    rw [List.flatMap_cons, List.length_append, List.length_cons, Nat.add_mul]
    omega
theorem labsSize_le4 (l : List Lab) (hl : l.length ≤ 4096) (hs : ∀ p ∈ l, p.1.size ≤ 1048576 ∧ p.2.size ≤ 1048576) : labsSize l ≤ 1099511627776 := by
  have := labsSize_le l hs
  have h : l.length * 2097160 ≤ 4096 * 2097160 := Nat.mul_le_mul_right _ hl
  omega

set_option maxRecDepth 100000 in
set_option maxHeartbeats 2000000 in
theorem encodeLabels_any (e : Nat) (o : Option Nat) (xs : List UInt8) (l : List Lab) (w : World) (h : Enc w e o xs) (hxl : xs.length ≤ 1073741824) (hl : l.length ≤ 4096) (hs : ∀ p ∈ l, p.1.size ≤ 1048576 ∧ p.2.size ≤ 1048576) :
    Calls Tryz.prog 115 #[.pointer (some ⟨e, 0, none⟩), .agg #[.string (labStr l)]] w (PutEnds w e o xs (encLabs l)) := by
  have hs' : ∀ p ∈ l, p.1.size < 16777216 ∧ p.2.size < 16777216 := fun p hp => by have := hs p hp; omega
  have hsz := labsSize_le4 l hl hs
  have eg : ∀ args w, (callFunc 201 args).run Tryz.prog w = .ok (.enter 201 args) w := enters_of Tryz.func201 (by kernel_rfl) rfl
  have hmf : ∀ (fn : Fn) (first cap : Array Value) (w : World), (Instr.makeFunc fn first cap).run Tryz.prog w = .ok (.func fn first cap) w := fun _ _ _ _ => rfl
  have HE := Lib.hid h
  have HS := Lib.hid hs
  clear h hs
  have hstr := labStr_size l
  have hLen := fun W => len_any l W hs' hsz
  have hRange := fun J W => range_any l 201 #[.pointer (some ⟨w.heap.size, 0, none⟩)] eg J W hs' hsz
  generalize labStr l = s at hstr hLen hRange ⊢
  have HRG := Lib.hid hRange
  clear hRange hs'
  obtain ⟨n, hn⟩ : ∃ n, l.length = n := ⟨_, rfl⟩
  rw [hn] at hLen hl
  have HN := Lib.hid hn
  clear hn
  go_enter Tryz.func115, Tryz.ntmps115
  go_wp2_with fail
  have F1 : Fr (fun _ => False) w ((w.alloc (.cells #[.pointer (some ⟨e, 0, none⟩)] 226)).alloc (.cells #[.string s] 99)) := ((Fr.refl _ w).alloc _).alloc _
  have hB1 : Blk ((w.alloc (.cells #[.pointer (some ⟨e, 0, none⟩)] 226)).alloc (.cells #[.string s] 99)) w.heap.size 226 #[.pointer (some ⟨e, 0, none⟩)] := (Blk.new w 226 _).alloc _
  have hB2 : Blk ((w.alloc (.cells #[.pointer (some ⟨e, 0, none⟩)] 226)).alloc (.cells #[.string s] 99)) (w.heap.size + 1) 99 #[.string s] := blk_new2 w _ 99 _
  generalize (w.alloc (.cells #[.pointer (some ⟨e, 0, none⟩)] 226)).alloc (.cells #[.string s] 99) = W1 at F1 hB1 hB2 ⊢
  have HC : Hid (∀ W S, Fr S W1 W → ¬ S w.heap.size → ¬ S (w.heap.size + 1) → W.cell? ⟨w.heap.size, 0, none⟩ = some (.pointer (some ⟨e, 0, none⟩)) ∧ W.cell? ⟨w.heap.size + 1, 0, none⟩ = some (.string s)) := Lib.hid (fun W S hF h1 h2 => by
    have a1 := (hB1.fr hF h1).cell 0
    have a2 := (hB2.fr hF h2).cell 0
    simp at a1 a2
    exact ⟨a1, a2⟩)
  have HF1 := Lib.hid F1
  have HB1 := Lib.hid hB1
  have HB2 := Lib.hid hB2
  clear F1 hB1 hB2
  go_region_held3 (fun w' => w'.cell? ⟨w.heap.size, 0, none⟩ = some (.pointer (some ⟨e, 0, none⟩)) ∧ w'.cell? ⟨w.heap.size + 1, 0, none⟩ = some (.string s))
    ((first | exact HC.out _ _ (Fr.refl (fun _ => False) W1).drew (fun e => e) (fun e => e) | exact HC.out _ _ ((Fr.refl (fun _ => False) W1).drew.same hf5) (fun e => e) (fun e => e) | exact hc7.out | go_keep))
    ((first
      | (go_at_call 55; refine (hLen _).mono ?_; rintro r5 w5 ⟨rfl, hf5⟩)
      | (go_at_call 186; refine (putUvarint e o xs n (by omega) _ (enc_fr (enc_fr HE.out HF1.out (fun e => e) (fun _ _ e => e)) ((Fr.refl (fun _ => False) W1).drew.same hf5) (fun e => e) (fun _ _ e => e)) (by omega)).mono ?_; rintro r7 w7 ⟨rfl, hp7⟩; have hc7 := Lib.hid (by
          have hE5 := enc_fr (enc_fr HE.out HF1.out (fun e => e) (fun _ _ e => e)) ((Fr.refl (fun _ => False) W1).drew.same hf5) (fun e => e) (fun _ _ e => e)
          have a1 := (put_keeps hp7 hE5 (HB1.out.fr ((Fr.refl (fun _ => False) W1).drew.same hf5) (fun e => e)) (by decide) (by decide)).cell 0
          have a2 := (put_keeps hp7 hE5 (HB2.out.fr ((Fr.refl (fun _ => False) W1).drew.same hf5) (fun e => e)) (by decide) (by decide)).cell 0
          simp at a1 a2
          exact ⟨a1, a2⟩ : w7.cell? ⟨w.heap.size, 0, none⟩ = some (.pointer (some ⟨e, 0, none⟩)) ∧ w7.cell? ⟨w.heap.size + 1, 0, none⟩ = some (.string s)))))
  have F5 : Fr (fun _ => False) w w5 := HF1.out.same ((Fr.refl (fun _ => False) W1).drew.same hf5)
  have hE5 := enc_fr HE.out F5 (fun e => e) (fun _ _ e => e)
  have hB7 := put_keeps hp7 hE5 (HB1.out.fr ((Fr.refl (fun _ => False) W1).drew.same hf5) (fun e => e)) (by decide) (by decide)
  have hp := put_from hp7 F5
  obtain ⟨c1, c2⟩ := hc7.out
  have hR := HRG.out (fun k W => Put w e o xs (Lib.uvarint n ++ (l.take k).flatMap encLab) W ∧ Blk W w.heap.size 226 #[.pointer (some ⟨e, 0, none⟩)]) w7 (fun k W W' h hf => ⟨put_fr h.1 hf, h.2.fr hf (fun e => e)⟩) ⟨by simpa using hp, hB7⟩ (by
    rintro k x W hx ⟨hp, hb⟩ hb9
    have hxs := HS.out x (List.mem_of_getElem? hx)
    obtain ⟨o1, he1, hf1, ho1⟩ := hp
    have hlen : (xs ++ (Lib.uvarint n ++ (l.take k).flatMap encLab)).length ≤ 274877906944 := by
      have l1 := Lib.uvarint_length64 (x := n) (by omega)
      have l2 := encLabs_len (l.take k) (fun p hp => HS.out p (List.mem_of_mem_take hp))
      have l3 : (l.take k).length ≤ n := by rw [← HN.out, List.length_take]; exact Nat.min_le_right _ _
      have l4 : (l.take k).length * 2097172 ≤ 4096 * 2097172 := Nat.mul_le_mul_right _ (by omega)
      simp only [List.length_append] at *
      omega
    refine (enc1_any e w.heap.size o1 _ x W he1 hb hlen hxs.1 hxs.2).mono ?_
    rintro r w' ⟨rfl, hp', hk⟩
    refine ⟨rfl, ⟨?_, hk _ _ _ hb (by decide) (by decide)⟩, hk _ _ _ hb9 (by decide) (by decide)⟩
    rw [fm_succ l k x hx, ← List.append_assoc]
    exact Put.step he1 hf1 ho1 hp')
  clear F5 hE5 hB7 hp hp7 hf5 hc7
  go_wp2_with (go_at_call 152; refine hR.mono ?_; rintro r w8 ⟨rfl, hj, _⟩)
  go_end0
  refine ⟨rfl, ?_⟩
  rw [List.take_length] at hj
  rw [encLabs, HN.out]
  exact hj
end Go.Proofs.YtbkookiigkckdaaGreatDoor

/- impl.LabelsAbout 23. -/
namespace Go.Proofs.YtbkookiigkckdaaGreatDoor
open Go.RowKit
set_option linter.unusedVariables false
set_option linter.unusedSimpArgs false

/-- The labels' own facts, behind the statement that draws its order. -/
def Ab1 (W4 : World) (l' : List Lab) (ob : Nat) (W : World) : Prop :=
  W4.heap.size ≤ ob ∧ Fr (fun _ => False) W4 W ∧ ∃ tx, Blk W ob 34 (facts l'.length (decide ((labStr l').size = 0)) (.slice none 0 0) ⟨#[]⟩ false tx 0 false) ∧ ((∀ x ∈ l', PlainL x) → tx = strOfNums (textN l'))
theorem blk_set8 {W : World} {ob : Nat} {t : TypeId} {a0 a1 a2 a3 a4 a5 a6 a7 : Value} (hb : Blk W ob t #[a0, a1, a2, a3, a4, a5, a6, a7]) (v0 v1 v2 v3 v4 v5 v6 v7 : Value) :
    Blk ((((((((W.setCell ⟨ob, 0, none⟩ v0).setCell ⟨ob, 1, none⟩ v1).setCell ⟨ob, 2, none⟩ v2).setCell ⟨ob, 3, none⟩ v3).setCell ⟨ob, 4, none⟩ v4).setCell ⟨ob, 5, none⟩ v5).setCell ⟨ob, 6, none⟩ v6).setCell ⟨ob, 7, none⟩ v7) ob t #[v0, v1, v2, v3, v4, v5, v6, v7] := by
  have h := (((((((hb.set_ 0 v0).set_ 1 v1).set_ 2 v2).set_ 3 v3).set_ 4 v4).set_ 5 v5).set_ 6 v6).set_ 7 v7
  simpa using h
theorem fr_set8 {S : Nat → Prop} {W4 W : World} {ob : Nat} (h1 : S ob ∨ W4.heap.size ≤ ob) (hf : Fr S W4 W) (v0 v1 v2 v3 v4 v5 v6 v7 : Value) :
    Fr S W4 ((((((((W.setCell ⟨ob, 0, none⟩ v0).setCell ⟨ob, 1, none⟩ v1).setCell ⟨ob, 2, none⟩ v2).setCell ⟨ob, 3, none⟩ v3).setCell ⟨ob, 4, none⟩ v4).setCell ⟨ob, 5, none⟩ v5).setCell ⟨ob, 6, none⟩ v6).setCell ⟨ob, 7, none⟩ v7) :=
  (((((((hf.setCell (p := ⟨ob, 0, none⟩) h1 v0).setCell (p := ⟨ob, 1, none⟩) h1 v1).setCell (p := ⟨ob, 2, none⟩) h1 v2).setCell (p := ⟨ob, 3, none⟩) h1 v3).setCell (p := ⟨ob, 4, none⟩) h1 v4).setCell (p := ⟨ob, 5, none⟩) h1 v5).setCell (p := ⟨ob, 6, none⟩) h1 v6).setCell (p := ⟨ob, 7, none⟩) h1 v7
theorem ab1_set {W4 W : World} {l' : List Lab} {ob : Nat} {a0 a1 a2 a3 a4 a5 a6 a7 : Value} {tx : ByteArray} {em : Bool} {n : Int} (h1 : W4.heap.size ≤ ob) (hf : Fr (fun _ => False) W4 W) (hb : Blk W ob 34 #[a0, a1, a2, a3, a4, a5, a6, a7]) (htx : (∀ x ∈ l', PlainL x) → tx = strOfNums (textN l')) (he : em = decide ((labStr l').size = 0)) (hn : n = l'.length) :
    Ab1 W4 l' ob ((((((((W.setCell ⟨ob, 0, none⟩ (.int .i64 n)).setCell ⟨ob, 1, none⟩ (.bool em)).setCell ⟨ob, 2, none⟩ (.slice none 0 0)).setCell ⟨ob, 3, none⟩ (.string ⟨#[]⟩)).setCell ⟨ob, 4, none⟩ (.bool false)).setCell ⟨ob, 5, none⟩ (.string tx)).setCell ⟨ob, 6, none⟩ (.int .i64 0)).setCell ⟨ob, 7, none⟩ (.bool false)) := by
  subst he hn
  exact ⟨h1, fr_set8 (.inr h1) hf _ _ _ _ _ _ _ _, tx, blk_set8 hb _ _ _ _ _ _ _ _, htx⟩
/-- .. where the block was made last. -/
theorem ab1_new {W4 W : World} {l' : List Lab} {tx : ByteArray} {em : Bool} {n : Int} (hf : Fr (fun _ => False) W4 W) (htx : (∀ x ∈ l', PlainL x) → tx = strOfNums (textN l')) (he : em = decide ((labStr l').size = 0)) (hn : n = l'.length) :
    Ab1 W4 l' W.heap.size (W.alloc (.cells #[.int .i64 n, .bool em, .slice none 0 0, .string ⟨#[]⟩, .bool false, .string tx, .int .i64 0, .bool false] 34)) := by
  subst he hn
  exact ⟨hf.size, hf.alloc _, tx, Blk.new _ _ _, htx⟩

theorem ranges_keep {W W' : World} {k : TypeId} {b r n : Nat} {D : DataW Unit} {left : Lit → Bool} {cnt : Nat} (h : W.ranges Tryz.prog k PE b r n D left cnt) (e1 : W'.heap[b]? = W.heap[b]?) (e2 : W'.heap[r]? = W.heap[r]?) : W'.ranges Tryz.prog k PE b r n D left cnt := by
  obtain ⟨es, clock, since, seen, c0, h1, h2, h3, h4, h5, h6⟩ := h
  exact ⟨es, clock, since, seen, c0, e1.trans h1, h2, h3, h4, e2.trans h5, h6⟩
theorem keyOf_str {key : Value} {kl : Lit} (h : keyOf Tryz.prog 9 key = some kl) : ∃ x : ByteArray, key = .string x := by
  obtain ⟨s, h1, _⟩ := WideMaps.string_of_keyOf Tryz.underlying9 h
  exact ⟨s, h1⟩
theorem keyOf_str_lit {x : ByteArray} {kl : Lit} (h : keyOf Tryz.prog 9 (.string x) = some kl) : kl = keyL x := by
  obtain ⟨s, h1, h2, _⟩ := WideMaps.string_of_keyOf Tryz.underlying9 h
  have h1 := Value.string.inj h1
  rw [h2, h1]
  rfl
theorem pe_str {v : Value} {y : DataW Unit × List MemPlace} (h : PE v = some y) : ∃ c : ByteArray, v = .string c := by
  obtain ⟨s, h, _⟩ := plainElem_string_inv Tryz.underlying9 h
  exact ⟨s, h⟩
theorem pe_str_lit {c : ByteArray} {y : DataW Unit × List MemPlace} (h : PE (.string c) = some y) : y.1 = .lit (.string c.data.toList) := by
  obtain ⟨s, h1, h2, _⟩ := plainElem_string_inv Tryz.underlying9 h
  have h1 := Value.string.inj h1
  rw [h2, h1]

/-- Of labels in order of their names the first that stands twice. -/
def DupF (l : List Lab) (tw : ByteArray) (du : Bool) : Prop :=
  (du = false → tw = ⟨#[]⟩ ∧ ∀ k x y, l[k]? = some x → l[k + 1]? = some y → x.1 ≠ y.1) ∧ (du = true → ∃ k x y, l[k]? = some x ∧ l[k + 1]? = some y ∧ x.1 = y.1 ∧ tw = x.1)
theorem twice_f {l : List Lab} {w w' : World} {r : Ending} (h : TwiceEnds l w r w') : ∃ tw du, r = .returned (.tuple #[.string tw, .bool du]) ∧ DupF l tw du ∧ Fr (fun _ => False) w w' := by
  obtain ⟨hf, ⟨rfl, h⟩ | ⟨k, x, y, hx, hy, he, rfl⟩⟩ := h
  · exact ⟨_, _, rfl, ⟨fun _ => ⟨rfl, h⟩, (fun e => by cases e)⟩, hf⟩
  · exact ⟨_, _, rfl, ⟨(fun e => by cases e), fun _ => ⟨k, x, y, hx, hy, he, rfl⟩⟩, hf⟩
/-- What LabelsAbout hands back. -/
def AboutEnds (l : List Lab) (m : Nat) (w : World) (r : Ending) (w' : World) : Prop :=
  ∃ (l' o : List Lab) (mp : Value) (tw tx : ByteArray) (du : Bool), r = .returned (.agg (facts l'.length (decide ((labStr l').size = 0)) mp tw du tx (min l'.length (m + 1) : Nat) (decide (m < l'.length)))) ∧ l'.Perm l ∧ l'.Pairwise (fun a b => nlt b.1 a.1 = false) ∧ o.Pairwise (fun a b => nlt b.1 a.1 = false) ∧ o.length ≤ 12 ∧
    (l'.Pairwise (fun a b => a.1 ≠ b.1) → o.Perm l') ∧ DupF l' tw du ∧ ((∀ x ∈ l', PlainL x) → tx = strOfNums (textN l')) ∧ Sl (fun g => w.heap.size ≤ g) w' mp 2 o.length (o.flatMap labc) ∧ Fr (fun _ => False) w w'

/-- The loop over the map: what has been collected. -/
structure RJ (w W4 : World) (l' : List Lab) (ob mb r : Nat) (em : Bool) (tx : ByteArray) (left : Lit → Bool) (cnt : Nat) (out : List Lab) (mp : Value) (W : World) : Prop where
  rg : W.ranges Tryz.prog 9 PE mb r l'.length (mapL l') left cnt
  got : Got l' left out
  fr : Fr (fun _ => False) W4 W
  bo : Blk W ob 34 (facts l'.length em mp ⟨#[]⟩ false tx 0 false)
  own : W.ownsRow W4.heap.size 40 2 mp out.length (out.flatMap labc)
theorem own_ne_map {W : World} {b n base : Nat} {D : DataW Unit} {k e : TypeId} {size m : Nat} {v : Value} {xs : List Value} (h : W.ownsMap Tryz.prog k PE b n D) (hv : W.ownsRow base e size v m xs) : v.ownBlock ≠ some b := by
  rcases hv.2 with ⟨rfl, _⟩ | ⟨g', cap, cur, rfl, _, hh, _⟩
  · simp [Value.ownBlock]
  · intro he
    have : g' = b := by simpa [Value.ownBlock] using he
    subst this
    obtain ⟨es, clock, hb, _⟩ := h
    rw [hb] at hh
    cases hh
theorem own_ne_iter {W : World} {b r n base : Nat} {D : DataW Unit} {k e : TypeId} {size m : Nat} {v : Value} {xs : List Value} {left : Lit → Bool} {cnt : Nat} (h : W.ranges Tryz.prog k PE b r n D left cnt) (hv : W.ownsRow base e size v m xs) : v.ownBlock ≠ some r := by
  rcases hv.2 with ⟨rfl, _⟩ | ⟨g', cap, cur, rfl, _, hh, _⟩
  · simp [Value.ownBlock]
  · intro he
    have : g' = r := by simpa [Value.ownBlock] using he
    subst this
    obtain ⟨es, clock, since, seen, c0, h1, h2, h3, h4, h5, h6⟩ := h
    rw [h5] at hh
    cases hh
theorem blk_ne_iter {W : World} {b r n : Nat} {D : DataW Unit} {k : TypeId} {left : Lit → Bool} {cnt c : Nat} {t : TypeId} {cs : Array Value} (h : W.ranges Tryz.prog k PE b r n D left cnt) (hc : Blk W c t cs) : c ≠ r := by
  rintro rfl
  obtain ⟨es, clock, since, seen, c0, h1, h2, h3, h4, h5, h6⟩ := h
  unfold Blk at hc
  rw [h5] at hc
  cases hc

set_option maxHeartbeats 16000000 in
set_option maxRecDepth 100000 in
theorem about_any (T : Lib.PrintTabs) (te : TypeId) (pe : Value) (P : Nat → Prop) (v : Value) (l : List Lab) (m : Nat) (w : World) (hm : m ≤ 1099511627776) (hT : TabsAt T w) (hS : Sl P w v 2 l.length (l.flatMap labc)) (hl : l.length ≤ 12) (hs : ∀ p ∈ l, 1 ≤ p.1.size ∧ p.1.size ≤ 600 ∧ p.2.size ≤ 600)
    (hE : w.cell? ⟨0, 0, none⟩ = some (.iface te pe))
    (hq1 : ∀ W, (binOp .eql 92 (.iface te pe) (.iface te pe)).run Tryz.prog W = .ok (.bool true) W) (hq0 : ∀ W, (binOp .eql 92 .nilIface (.iface te pe)).run Tryz.prog W = .ok (.bool false) W) :
    Calls Tryz.prog 23 #[v, .int .i64 m] w (AboutEnds l m w) := by
  have mixed : Tryz.prog.follows .mixedOrders = true := by kernel_rfl
  have hmI : (m : Int) ≤ 1099511627776 := by omega
  obtain ⟨W2, hW2⟩ : ∃ W2, (w.alloc (.cells #[.int .i64 m] 3)).alloc (.cells #[.int .i64 0, .bool false, .slice none 0 0, .string ⟨#[]⟩, .bool false, .string ⟨#[]⟩, .int .i64 0, .bool false] 34) = W2 := ⟨_, rfl⟩
  have hF2 : Fr (fun _ => False) w W2 := by rw [← hW2]; exact ((Fr.refl _ w).alloc _).alloc _
  have hb3 : Blk W2 w.heap.size 3 #[.int .i64 m] := by rw [← hW2]; exact (Blk.new w 3 _).alloc _
  have hb4 : Blk W2 (w.heap.size + 1) 34 #[.int .i64 0, .bool false, .slice none 0 0, .string ⟨#[]⟩, .bool false, .string ⟨#[]⟩, .int .i64 0, .bool false] := by
    rw [← hW2]
    have h := Blk.new (w.alloc (.cells #[.int .i64 m] 3)) 34 #[.int .i64 0, .bool false, .slice none 0 0, .string ⟨#[]⟩, .bool false, .string ⟨#[]⟩, .int .i64 0, .bool false]
    rw [World.size_alloc] at h
    exact h
  have HMADE := Lib.hid (made_any P v l W2 (hS.fr hF2 (fun _ _ e => e)) hl (perm600 hs))
  have HS := Lib.hid hS
  have HF2 := Lib.hid hF2
  have HB3 := Lib.hid hb3
  have HB4 := Lib.hid hb4
  have HT := Lib.hid hT
  have HE := Lib.hid hE
  have HSZ := Lib.hid hs
  have HL := Lib.hid hl
  have hmf : ∀ (fn : Fn) (first cap : Array Value) (w : World), (Instr.makeFunc fn first cap).run Tryz.prog w = .ok (.func fn first cap) w := fun _ _ _ _ => rfl
  have eg : ∀ args w, (callFunc 63 args).run Tryz.prog w = .ok (.enter 63 args) w := enters_of Tryz.func63 (by kernel_rfl) rfl
  have HEG := Lib.hid eg
  clear eg
  have HQ1 := Lib.hid hq1
  have HQ0 := Lib.hid hq0
  clear hq1 hq0
  clear hS hF2 hb3 hb4 hT hE hs
  go_enter Tryz.func23, Tryz.ntmps23
  go_upto_region 2 with (go_at_call 54; refine HMADE.out.mono ?_; rintro r w3 ⟨l', hperm, hsort, rfl, hf3⟩
                         have HP := Lib.hid hperm
                         have HO := Lib.hid hsort
                         have HF3 := Lib.hid hf3
                         clear hperm hsort hf3)
  obtain ⟨W4, hW4⟩ : ∃ W4, w3.alloc (.cells #[.string (labStr l')] 99) = W4 := ⟨_, rfl⟩
  have hF4 : Fr (fun _ => False) w3 W4 := by rw [← hW4]; exact (Fr.refl _ _).alloc _
  have hx4 : Blk W4 w3.heap.size 99 #[.string (labStr l')] := by rw [← hW4]; exact Blk.new _ _ _
  have HF4 := Lib.hid hF4
  have HX4 := Lib.hid hx4
  have hl' : l'.length ≤ 12 := by rw [HP.out.length_eq]; exact HL.out
  have hs' : ∀ p ∈ l', 1 ≤ p.1.size ∧ p.1.size ≤ 600 ∧ p.2.size ≤ 600 := fun p hp => HSZ.out p (HP.out.mem_iff.mp hp)
  have hFW : Fr (fun _ => False) w W4 := (HF2.out.same HF3.out).same hF4
  have HLEN := Lib.hid (fun W => len_any l' W (fun p hp => by have := hs' p hp; omega) (labsSize12 l' hl' (perm600 hs')))
  have HTXT := Lib.hid (fun W (hf : Fr (fun _ => False) W4 W) => text_any T l' W (tabs_fr HT.out (hFW.same hf) (fun _ _ e => e)) hl' hs')
  have HC := Lib.hid (fun W (hf : Fr (fun _ => False) W4 W) => (hx4.fr hf (fun e => e)).cell 0)
  have HS' := Lib.hid hs'
  have HFW := Lib.hid hFW
  clear hF4 hx4 hs' hFW
  obtain ⟨em, hem⟩ : ∃ em, decide ((labStr l').size = 0) = em := ⟨_, rfl⟩
  have HEMP := Lib.hid (fun W => by have := isEmpty_any (labStr l') W; rw [hem] at this; exact this)
  have HEM := Lib.hid hem
  clear hem
  go_cut [6] (fun s6 wx => ∃ ob : Nat, s6 = .pointer (some ⟨ob, 0, none⟩) ∧ Hid (Ab1 W4 l' ob wx))
  case first =>
    rw [hW4]
    go_region_held3 (fun w' => w'.cell? ⟨w3.heap.size, 0, none⟩ = some (.string (labStr l')) ∧ Fr (fun _ => False) W4 w') (refine ⟨HC.out _ ?_, ?_⟩ <;> (repeat first | with_reducible assumption | with_reducible apply Fr.refl | with_reducible apply Fr.drew | with_reducible apply Fr.alloc | (with_reducible refine Fr.setCell (p := ⟨_, _, none⟩) ?_ (Or.inr ?_) _) | with_reducible exact Nat.le_refl _ | with_reducible exact Fr.size (by assumption)))
      (first
        | (go_at_call 55; refine (HLEN.out _).mono ?_; rintro r w5 ⟨rfl, hf5⟩
           have g5 : Fr (fun _ => False) W4 w5 := Fr.same (S := fun _ => False) (by repeat first | with_reducible assumption | with_reducible apply Fr.refl | with_reducible apply Fr.drew | with_reducible apply Fr.alloc | (with_reducible refine Fr.setCell (p := ⟨_, _, none⟩) ?_ (Or.inr ?_) _) | with_reducible exact Nat.le_refl _ | with_reducible exact Fr.size (by assumption)) hf5
           (first | (have hbo := (Blk.new _ 34 _).fr hf5 (fun e => e)) | (have hbo := (Blk.drew (Blk.new _ 34 _)).fr hf5 (fun e => e)) | skip)
           clear hf5)
        | (go_at_call 56; refine (HEMP.out _).mono ?_; rintro r w6 ⟨rfl, hf6⟩
           have g6 : Fr (fun _ => False) W4 w6 := Fr.same (S := fun _ => False) (by repeat first | with_reducible assumption | with_reducible apply Fr.refl | with_reducible apply Fr.drew | with_reducible apply Fr.alloc | (with_reducible refine Fr.setCell (p := ⟨_, _, none⟩) ?_ (Or.inr ?_) _) | with_reducible exact Nat.le_refl _ | with_reducible exact Fr.size (by assumption)) hf6
           (first | (have hbo := hbo.fr hf6 (fun e => e)) | (have hbo := (Blk.new _ 34 _).fr hf6 (fun e => e)) | skip)
           clear hf6)
        | (go_at_call 57; refine (HTXT.out _ ?_).mono ?_; (repeat first | with_reducible assumption | with_reducible apply Fr.refl | with_reducible apply Fr.drew | with_reducible apply Fr.alloc | (with_reducible refine Fr.setCell (p := ⟨_, _, none⟩) ?_ (Or.inr ?_) _) | with_reducible exact Nat.le_refl _ | with_reducible exact Fr.size (by assumption)); rintro r w7 ⟨tx, rfl, hf7, htx⟩
           have g7 : Fr (fun _ => False) W4 w7 := Fr.same (S := fun _ => False) (by repeat first | with_reducible assumption | with_reducible apply Fr.refl | with_reducible apply Fr.drew | with_reducible apply Fr.alloc | (with_reducible refine Fr.setCell (p := ⟨_, _, none⟩) ?_ (Or.inr ?_) _) | with_reducible exact Nat.le_refl _ | with_reducible exact Fr.size (by assumption)) hf7
           have HTX := Lib.hid htx
           (first | (have hbo := hbo.fr hf7 (fun e => e)) | (have hbo := (Blk.new _ 34 _).fr hf7 (fun e => e)) | skip)
           (first
             | (have b0 := hbo.cell 0; have b1 := hbo.cell 1; have b2 := hbo.cell 2; have b3 := hbo.cell 3; have b4 := hbo.cell 4; have b5 := hbo.cell 5; have b6 := hbo.cell 6; have b7 := hbo.cell 7; have hq := hbo.frozen)
             | skip)
           clear hf7 htx))
    all_goals (
      go_wp2_with fail
      go_meet
      refine ⟨_, rfl, Lib.hid ?_⟩
      first
        | ((with_reducible refine ab1_new ?_ HTX.out HEM.out.symm rfl); (repeat first | with_reducible assumption | with_reducible apply Fr.refl | with_reducible apply Fr.drew | with_reducible apply Fr.alloc | with_reducible exact Nat.le_refl _ | with_reducible exact Fr.size (by assumption)); done)
        | ((with_reducible refine ab1_set ?_ ?_ hbo HTX.out HEM.out.symm rfl) <;> (repeat first | with_reducible assumption | with_reducible apply Fr.refl | with_reducible apply Fr.drew | with_reducible apply Fr.alloc | with_reducible exact Nat.le_refl _ | with_reducible exact Fr.size (by assumption))))
  case rest =>
    obtain ⟨ob, rfl, HA⟩ := hcut
    obtain ⟨hob, hfA, tx, hbA, htx⟩ := HA.out
    have HTX := Lib.hid htx
    have HBA := Lib.hid hbA
    have HFA := Lib.hid hfA
    have HOB := Lib.hid hob
    have HXC := Lib.hid (fun W (hf : Fr (fun _ => False) W4 W) => (HX4.out.fr hf (fun e => e)).cell 0)
    have x0 := HXC.out _ hfA
    have HMAP := Lib.hid (fun W => map_any l' W (by omega) (perm600 HS'.out) (labsSize12 l' hl' (perm600 HS'.out)))
    have hrl : Hid (∀ a b c d, a = b → c = d → (a : Nat) < c → b < d) := Lib.hid (fun a b c d h1 h2 h => by omega)
    clear HA hob hfA hbA htx HLEN HTXT HC HEMP HMADE
    go_wp2_with (first
      | (go_at_call 58; refine (HMAP.out _).mono ?_; rintro r w5 ⟨mb, rfl, hmb, hown, hf5⟩
         have HOM := Lib.hid hown
         have HF5 := Lib.hid (HFA.out.same hf5)
         have HB5 := Lib.hid (HBA.out.fr hf5 (fun e => e))
         have HMB := Lib.hid hmb
         clear hown hf5 hmb)
      | (at_range; refine wpList_range_own _ rfl _ 102 rfl 9 9 (Maps.string_keyed Tryz.underlying9) Tryz.underlying102 PE mb l'.length (mapL l') rfl HOM.out ?_; intro w6 hrg6 hg6 hs6; refine Hid.out ?_))
    refine Lib.hid ?_
    have HR6 := Lib.hid hrg6
    have hf6 : Fr (fun _ => False) w5 w6 := (Fr.refl _ _).grown hg6 (fun q hq => by cases hq)
    have hJ0 : RJ w W4 l' ob mb w5.heap.size em tx (Maps.has (mapL l')) (Maps.size (mapL l')) [] (.slice none 0 0) w6 := by
      refine ⟨hrg6, Got.start l', HF5.out.same hf6, ?_, World.ownsRow_nil _ _ _ _⟩
      have := HB5.out.fr hf6 (fun e => e)
      rw [HEM.out] at this
      exact this
    have HJ0 := Lib.hid hJ0
    have HRW : Hid (W4.heap.size ≤ w5.heap.size) := Lib.hid HF5.out.size
    generalize w5.heap.size = r at HJ0 HRW ⊢
    have hF4w : Hid (w.heap.size ≤ W4.heap.size) := Lib.hid HFW.out.size
    clear hJ0 hrg6 hg6 hs6 hf6 HR6 HB5 HF5 HOM HMAP x0
    go_wp2_with fail
    go_loopw [] (fun wr => ∃ (left : Lit → Bool) (cnt : Nat) (out : List Lab) (mp : Value), Hid (RJ w W4 l' ob mb r em tx left cnt out mp wr)) (fun wr => wr.rangeLeft mb r)
    case atStart => exact ⟨_, _, _, _, HJ0⟩
    case round =>
      obtain ⟨left, cnt, out, mp, HR⟩ := hrel
      go_wp2_with (at_next; refine wpList_next_ranges (H := Unit) _ rfl _ rfl 9 (Maps.string_keyed Tryz.underlying9) PE Value.string Value.string (fun _ _ h => keyOf_str h) (fun _ _ h => pe_str h) mb r l'.length (mapL l') left cnt rfl HR.out.rg ?_ ?_)
      · -- nothing is left
        intro hc0 hl0
        obtain ⟨k0, k1, k2, k3, k4⟩ := HR.out
        obtain ⟨a9, n9, k9, rfl⟩ := own_slice k4
        have hlen : out.length ≤ 12 := Nat.le_trans k1.short hl'
        have HDONE := Lib.hid (fun hu => k1.done hl0 hu)
        have hss := sort2_any W4.heap.size (.slice a9 n9 k9) out wr k4 hlen
        have c2 : wr.cell? ⟨ob, 2, none⟩ = some (.slice a9 n9 k9) := k3.cell 2
        have HK2 := Lib.hid k2
        have HK3 := Lib.hid k3
        have HOL := Lib.hid (fun g hg => own_lt k4 (k := g) hg)
        have HOW := Lib.hid (fun g hg => (k4.lt g hg).1)
        have HOE := Lib.hid (own_ne k4 k3 (by decide))
        clear k0 k1 k2 k3 k4 hl0 hc0 HR
        go_wp2_with (go_at_call 59; refine hss.mono ?_; rintro r w7 ⟨rfl, o, hop, hos, hsl, hf7⟩; refine Hid.out ?_)
        refine Lib.hid ?_
        have bo7 := HK3.out.fr hf7 HOE.out
        have fr7 : Fr (fun _ => False) W4 w7 := HK2.out.trans hf7 (fun q hq e => by have := HOW.out q e; omega)
        have x7 := HXC.out w7 fr7
        have HD := Lib.hid (hasDup_any l' w7 (fun p hp => by have := HS'.out p hp; omega) (labsSize12 l' hl' (perm600 HS'.out)))
        have HOP := Lib.hid (And.intro hop hos)
        have HSL := Lib.hid hsl
        have HB7 := Lib.hid bo7
        have HF7 := Lib.hid fr7
        clear hop hos hsl bo7 fr7 hf7 hss HK2 HK3 c2 HOL
        go_wp2_with (go_at_call 61; refine HD.out.mono ?_; rintro r w8 hr; obtain ⟨tw, du, rfl, hdf, hf8⟩ := twice_f hr
                     clear hr
                     have hb8 := HB7.out.fr hf8 (fun e => e)
                     have c83 : w8.cell? ⟨ob, 3, none⟩ = some (.string ⟨#[]⟩) := hb8.cell 3
                     have f83 := hb8.frozen 3
                     have c84 : w8.cell? ⟨ob, 4, none⟩ = some (.bool false) := hb8.cell 4
                     have f84 := hb8.frozen 4
                     have HB8 := Lib.hid hb8
                     have HF8 := Lib.hid hf8
                     have HDF := Lib.hid hdf
                     clear hb8 hf8 hdf
                     obtain ⟨W9, hW9⟩ : ∃ W9, (w8.setCell ⟨ob, 3, none⟩ (.string tw)).setCell ⟨ob, 4, none⟩ (.bool du) = W9 := ⟨_, rfl⟩
                     have hB9 : Blk W9 ob 34 (facts l'.length em (.slice a9 n9 k9) tw du tx ((0 : Nat) : Int) false) := by rw [← hW9]; exact (HB8.out.set_ 3 (.string tw)).set_ 4 (.bool du)
                     have hF9 : Fr (fun _ => False) W4 W9 := by rw [← hW9]; exact ((HF7.out.same HF8.out).setCell (p := ⟨ob, 3, none⟩) (.inr HOB.out) _).setCell (p := ⟨ob, 4, none⟩) (.inr HOB.out) _
                     have HF89 : Hid (Fr (fun j => j = ob) w8 W9) := Lib.hid (by rw [← hW9]; exact ((Fr.refl (fun j => j = ob) w8).setCell (p := ⟨ob, 3, none⟩) (.inl rfl) _).setCell (p := ⟨ob, 4, none⟩) (.inl rfl) _)
                     have x9 := HXC.out W9 hF9)
        have hw4 : Fr (fun _ => False) w W9 := HFW.out.same hF9
        have hW2s : W2.heap.size ≤ W4.heap.size := Nat.le_trans HF3.out.size HF4.out.size
        have hsb : Blk W9 w.heap.size 3 #[.int .i64 m] := ((HB3.out.fr HF3.out (fun e => e)).fr HF4.out (fun e => e)).fr hF9 (fun e => e)
        have hrb : Blk W9 (w.heap.size + 1) 34 #[.int .i64 0, .bool false, .slice none 0 0, .string ⟨#[]⟩, .bool false, .string ⟨#[]⟩, .int .i64 0, .bool false] := ((HB4.out.fr HF3.out (fun e => e)).fr HF4.out (fun e => e)).fr hF9 (fun e => e)
        have her9 : W9.cell? ⟨0, 0, none⟩ = some (.iface te pe) := by rw [hw4.cell (p := ⟨0, 0, none⟩) (World.block_lt_of_cell? w _ HE.out) (fun e => e)]; exact HE.out
        have hw0 : 0 < w.heap.size := World.block_lt_of_cell? w _ HE.out
        have hobn : ob ≠ 0 := by have := HOB.out; have := hw4.size; have := hF4w.out; omega
        have hV := validate_any l' 63 #[.pointer (some ⟨ob, 0, none⟩), .pointer (some ⟨w.heap.size, 0, none⟩)] HEG.out m te pe (VJ W9 ob w.heap.size m te pe l'.length em (.slice a9 n9 k9) tw du tx) W9 (fun p hp => by have := HS'.out p hp; omega) (labsSize12 l' hl' (perm600 HS'.out)) (fun _ _ _ h hf => h.still hf)
          ⟨Fr.refl _ _, hB9, hsb, her9⟩ (fun k x W hx hj hb => by
            have hk : k < l'.length := (List.getElem?_eq_some_iff.mp hx).1
            exact val1_any W9 ob w.heap.size m te pe l'.length em (.slice a9 n9 k9) tw du tx k _ _ x (by omega) hm hobn W hj hb)
        obtain ⟨rv, er, hrv, her, hcmp, hgd⟩ : ∃ (rv : Value) (er : Bool), (if m < l'.length then Value.iface te pe else .nilIface) = rv ∧ er = decide (m < l'.length) ∧ (∀ W, (binOp .eql 92 rv (.iface te pe)).run Tryz.prog W = .ok (.bool er) W) ∧ ∀ x y W, (eqGuard .eql 92 x y rv (.iface te pe)).run Tryz.prog W = .ok () W := by
          by_cases h : m < l'.length
          · exact ⟨_, _, if_pos h, (decide_eq_true h).symm, HQ1.out, fun _ _ _ => rfl⟩
          · exact ⟨_, _, if_neg h, (decide_eq_false h).symm, HQ0.out, fun _ _ _ => rfl⟩
        unfold ValEnds at hV
        rw [hrv] at hV
        have HER := Lib.hid her
        have HRB := Lib.hid hrb
        have HF9 := Lib.hid hF9
        clear hrv her hrb hF9 hB9 hsb her9 hw4 x9 hW2s
        generalize hmin : min l'.length (m + 1) = q at hV ⊢
        refine hV.mono ?_
        rintro r w10 ⟨rfl, hj10⟩
        obtain ⟨v1, v2, v3, v4⟩ := hj10
        have c107 : w10.cell? ⟨ob, 7, none⟩ = some (.bool false) := v2.cell 7
        have f107 := v2.frozen 7
        obtain ⟨W11, hW11⟩ : ∃ W11, w10.setCell ⟨ob, 7, none⟩ (.bool er) = W11 := ⟨_, rfl⟩
        have hb11 : Blk W11 ob 34 (facts l'.length em (.slice a9 n9 k9) tw du tx q er) := by rw [← hW11]; exact v2.set_ 7 (.bool er)
        have hf11 : Fr (fun j => j = ob) W9 W11 := by rw [← hW11]; exact v1.setCell (p := ⟨ob, 7, none⟩) (.inl rfl) _
        have hF11 : Fr (fun _ => False) W4 W11 := HF9.out.trans hf11 (fun k hk e => by have := HOB.out; omega)
        have hrlt := (HB4.out.fr HF3.out (fun e => e)).lt
        have hrlt4 := HF4.out.size
        have hrb11 := HRB.out.fr hf11 (fun e => by have := HOB.out; omega)
        have d0 : W11.cell? ⟨ob, 0, none⟩ = some (.int .i64 l'.length) := hb11.cell 0
        have d1 : W11.cell? ⟨ob, 1, none⟩ = some (.bool em) := hb11.cell 1
        have d2 : W11.cell? ⟨ob, 2, none⟩ = some (.slice a9 n9 k9) := hb11.cell 2
        have d3 : W11.cell? ⟨ob, 3, none⟩ = some (.string tw) := hb11.cell 3
        have d4 : W11.cell? ⟨ob, 4, none⟩ = some (.bool du) := hb11.cell 4
        have d5 : W11.cell? ⟨ob, 5, none⟩ = some (.string tx) := hb11.cell 5
        have d6 : W11.cell? ⟨ob, 6, none⟩ = some (.int .i64 q) := hb11.cell 6
        have d7 : W11.cell? ⟨ob, 7, none⟩ = some (.bool er) := hb11.cell 7
        have e0 := hrb11.cell 0
        have e1 := hrb11.cell 1
        have e2 := hrb11.cell 2
        have e3 := hrb11.cell 3
        have e4 := hrb11.cell 4
        have e5 := hrb11.cell 5
        have e6 := hrb11.cell 6
        have e7 := hrb11.cell 7
        have eq := hrb11.frozen
        have HB11 := Lib.hid hb11
        have HR11 := Lib.hid hrb11
        have HF11 := Lib.hid hF11
        have HFO := Lib.hid hf11
        clear hb11 hrb11 hF11 hf11 v1 v2 v3 hV
        go_wp2
        have hq4 := HF11.out.size
        have hne : ob ≠ w.heap.size + 1 := by have := HOB.out; omega
        have hbf := blk_set8 HR11.out (.int .i64 l'.length) (.bool em) (.slice a9 n9 k9) (.string tw) (.bool du) (.string tx) (.int .i64 q) (.bool er)
        have hff := fr_set8 (S := fun j => j = w.heap.size + 1) (W4 := W11) (ob := w.heap.size + 1) (.inl rfl) (Fr.refl _ W11) (.int .i64 l'.length) (.bool em) (.slice a9 n9 k9) (.string tw) (.bool du) (.string tx) (.int .i64 q) (.bool er)
        clear d0 d1 d2 d3 d4 d5 d6 d7 e0 e1 e2 e3 e4 e5 e6 e7 eq c107 f107 hcmp hgd
        generalize (((((((W11.setCell ⟨w.heap.size + 1, 0, none⟩ (.int .i64 l'.length)).setCell ⟨w.heap.size + 1, 1, none⟩ (.bool em)).setCell ⟨w.heap.size + 1, 2, none⟩ (.slice a9 n9 k9)).setCell ⟨w.heap.size + 1, 3, none⟩ (.string tw)).setCell ⟨w.heap.size + 1, 4, none⟩ (.bool du)).setCell ⟨w.heap.size + 1, 5, none⟩ (.string tx)).setCell ⟨w.heap.size + 1, 6, none⟩ (.int .i64 q)).setCell ⟨w.heap.size + 1, 7, none⟩ (.bool er) = W12 at hbf hff ⊢
        refine bodyPost_ret (results_cell_row (P := Tryz.prog) rfl _ _ (w.heap.size + 1) 34 #[.int .i64 l'.length, .bool em, .slice a9 n9 k9, .string tw, .bool du, .string tx, .int .i64 q, .bool er] (0, 0) _ rfl hbf Tryz.underlying34 rfl (by kernel_rfl)) rfl ?_
        have hsl8 := HSL.out.fr HF8.out (fun _ _ e => e)
        have hsl9 := hsl8.fr HF89.out (fun g hg e => HOE.out (by rw [hg, e]))
        have hsl11 := hsl9.fr HFO.out (fun g hg e => HOE.out (by rw [hg, e]))
        have hsl12 := hsl11.fr hff (fun g hg e => by have := HOW.out g hg; omega)
        refine ⟨l', o, .slice a9 n9 k9, tw, tx, du, ?_, HP.out, HO.out, HOP.out.2, ?_, fun hu => HOP.out.1.trans (HDONE.out hu), HDF.out, HTX.out, hsl12.mono (fun g hg => by have := HOW.out g hg; have := hF4w.out; omega), (HFW.out.same HF11.out).trans hff (fun k hk e => by omega)⟩
        · rw [hmin, HEM.out, ← HER.out]
          rfl
        · rw [HOP.out.1.length_eq]
          exact hlen
      · intro x c kl y1 y2 w1 cnt1 hkey hlk hv hat hrg1 hlt hg1 hs1 hen
        obtain ⟨k0, k1, k2, k3, k4⟩ := HR.out
        obtain rfl := keyOf_str_lit hkey
        have hat2 : ∀ z, (mapL l').atKey (keyL x) z = .lit (.string c.data.toList) := fun z => by rw [hat z]; exact pe_str_lit hv
        have hgot := k1.step hlk hat2
        have hsh := hgot.short
        have hr0 := hg1
        have hro : some r ≠ mp.ownBlock := fun e => own_ne_iter k0 k4 e.symm
        have hk3 := k3.grown hg1 (fun e => blk_ne_iter k0 k3 (Option.some.inj e))
        have hk4 : w1.ownsRow W4.heap.size 40 2 mp out.length (out.flatMap labc) := own_fr (S := fun k => k = r) k4 ⟨hg1.os, hg1.tape, hg1.output, hg1.size, fun k hk hn => hg1.block k hk (fun e => hn (Option.some.inj e))⟩ (fun g hg e => hro (by rw [hg, e]))
        have hk2 : Fr (fun _ => False) W4 w1 := k2.grown hg1 (fun q hq => .inr (by have := HRW.out; injection hq with hq; omega))
        have c2 : w1.cell? ⟨ob, 2, none⟩ = some mp := hk3.cell 2
        have f2 := hk3.frozen 2
        obtain ⟨a', n', k', rfl⟩ := own_slice hk4
        obtain ⟨i0, hi0, hz0, hz1, hz2⟩ := info_parts Tryz.info40
        have HO := Lib.hid hk4
        have HK3 := Lib.hid hk3
        have HK2 := Lib.hid hk2
        have HRG := Lib.hid hrg1
        have HG := Lib.hid hgot
        have HSZW : Hid (W4.heap.size ≤ w1.heap.size) := Lib.hid hk2.size
        have HLT := Lib.hid hlt
        clear hlt
        rw [List.length_append] at hsh
        have hlen : out.length ≤ 11 := by simp at hsh; omega
        clear k0 k1 k2 k3 k4 hkey hlk hv hat hat2 hgot hsh hr0 hro hk3 hk4 hk2 hrg1 hg1 hs1
        go_wp2_with (at_builtin; refine Hid.out ?_)
        refine Lib.hid ?_
        refine wpList_append_src _ rfl _ _ 31 31 rfl W4.heap.size 40 i0 _ 2 32 Tryz.underlying31 hi0 hz0 hz1 hz2 rfl (by decide) _ out.length (out.flatMap labc) rfl (HO.out.alloc _) _ 1 (labc (x, c)) rfl (src_blk Tryz.underlying31 (Blk.new w1 40 (labc (x, c)).toArray) rfl (by simp [labc, Value.oneCell'])) (by unfold maxLen; omega) (by omega) (by have := HSZW.out; simp; omega) ?_
        intro v' w2 hown' hgrow hat
        have hg : (w1.alloc (.cells (labc (x, c)).toArray 40)).grownBy w2 (Value.slice a' n' k').ownBlock := hgrow
        have n1 := own_ne HO.out HK3.out (by decide)
        have nb := own_ne_map HRG.out.owns HO.out
        have nr := own_ne_iter HRG.out HO.out
        have fA : Fr (fun k => (Value.slice a' n' k').ownBlock = some k) w1 w2 := ((Fr.refl _ w1).alloc _).grown hg (fun q hq => .inl hq)
        have rg2 := ranges_keep HRG.out (fA.block mb HRG.out.owns.lt nb) (fA.block r HRG.out.lt nr)
        have bo2 := HK3.out.fr fA n1
        have fr2 : Fr (fun _ => False) W4 w2 := HK2.out.trans fA (fun q hq e => by have := (HO.out.lt q e).1; omega)
        have own2 : w2.ownsRow W4.heap.size 40 2 v' (out ++ [(x, c)]).length ((out ++ [(x, c)]).flatMap labc) := by
          rw [List.length_append, List.flatMap_append]
          simpa using hown'
        have ne1 := blk_ne_map rg2.owns bo2
        have ne2 := blk_ne_iter rg2 bo2
        have fB := Fr.at_ w2 ob 2 v'
        have HNEW : Hid (RJ w W4 l' ob mb r em tx (fun z => left z && !z.sameKey (keyL x)) cnt1 (out ++ [(x, c)]) v' (w2.setCell ⟨ob, 2, none⟩ v')) := Lib.hid
          ⟨ranges_keep rg2 (fB.block mb rg2.owns.lt (fun e => ne1 e.symm)) (fB.block r rg2.lt (fun e => ne2 e.symm)), HG.out, fr2.setCell (p := ⟨ob, 2, none⟩) (.inr HOB.out) _, bo2.set_ 2 v', own_fr (S := fun k => k = ob) own2 fB (fun g hg e => own_ne own2 bo2 (by decide) (by rw [hg]; exact congrArg some e))⟩
        have g2 : w2.frozen? ⟨ob, 2, none⟩ = false := bo2.frozen 2
        have g3 : w2.cell? ⟨ob, 2, none⟩ = some (.slice a' n' k') := bo2.cell 2
        obtain ⟨a5, n5, k5, rfl⟩ := own_slice own2
        clear hown' hgrow hat hg n1 nb nr fA rg2 bo2 fr2 own2 ne1 ne2 fB c2 f2
        go_wp2
        go_roundw
        case rel => exact ⟨_, cnt1, _, _, HNEW⟩
        case measure => rw [HNEW.out.rg.left_eq, HR.out.rg.left_eq]; exact HLT.out
end Go.Proofs.YtbkookiigkckdaaGreatDoor

/- zzFits11 52, zzFits10 21, labels 22 (as in Lz, without records). -/
namespace Go.Proofs.YtbkookiigkckdaaGreatDoor
open Go.RowKit
set_option linter.unusedVariables false
set_option linter.unusedSimpArgs false

def Fit (p : Lab) : Prop := p.1.size ≤ 2147483647 ∧ p.2.size ≤ 2147483647
def BoolEnds (p : Prop) (w : World) (r : Ending) (w' : World) : Prop := ∃ b : Bool, r = .returned (.bool b) ∧ (b = true ↔ p) ∧ Fr (fun _ => False) w w'
theorem bool_yes {p : Prop} (h : p) {w : World} {f : FuncId} {args : Array Value} (hc : Calls Tryz.prog f args w (BoolEnds p w)) : Calls Tryz.prog f args w fun r w' => r = .returned (.bool true) ∧ Fr (fun _ => False) w w' :=
  hc.mono fun r w' ⟨b, hr, hb, hf⟩ => ⟨by rw [hr, hb.2 h], hf⟩
theorem bool_no {p : Prop} (h : ¬ p) {w : World} {f : FuncId} {args : Array Value} (hc : Calls Tryz.prog f args w (BoolEnds p w)) : Calls Tryz.prog f args w fun r w' => r = .returned (.bool false) ∧ Fr (fun _ => False) w w' :=
  hc.mono fun r w' ⟨b, hr, hb, hf⟩ => ⟨by rw [hr, Bool.eq_false_iff.2 (fun e => h (hb.1 e))], hf⟩

set_option maxRecDepth 100000 in
theorem fits11_any (x : Lab) (h1 : x.1.size ≤ 9223372036854775807) (h2 : x.2.size ≤ 9223372036854775807) (w : World) : Calls Tryz.prog 52 #[.agg #[.string x.1, .string x.2]] w (BoolEnds (Fit x) w) := by
  obtain ⟨a, b⟩ := x
  dsimp only at h1 h2
  unfold Fit
  by_cases ha : 2147483647 < a.size
  · have ha' : (2147483647 : Int) < a.size := by omega
    go_enter Tryz.func52, Tryz.ntmps52
    go_wp2
    go_ret
    exact ⟨false, rfl, ⟨fun h => (by cases h), fun h => absurd h.1 (by show ¬ a.size ≤ _; omega)⟩, (Fr.refl _ w).alloc _⟩
  · have ha' : ¬ (2147483647 : Int) < a.size := by omega
    by_cases hb : 2147483647 < b.size
    · have hb' : (2147483647 : Int) < b.size := by omega
      go_enter Tryz.func52, Tryz.ntmps52
      go_wp2
      go_ret
      exact ⟨false, rfl, ⟨fun h => (by cases h), fun h => absurd h.2 (by show ¬ b.size ≤ _; omega)⟩, (Fr.refl _ w).alloc _⟩
    · have hb' : ¬ (2147483647 : Int) < b.size := by omega
      go_enter Tryz.func52, Tryz.ntmps52
      go_wp2
      go_ret
      exact ⟨true, rfl, ⟨fun _ => ⟨by show a.size ≤ _; omega, by show b.size ≤ _; omega⟩, fun _ => rfl⟩, (Fr.refl _ w).alloc _⟩

set_option maxRecDepth 100000 in
set_option maxHeartbeats 2000000 in
theorem fits10_any (P : Nat → Prop) (v : Value) (l : List Lab) (w : World) (h : Sl P w v 2 l.length (l.flatMap labc)) (hl : l.length ≤ 9223372036854775807) (hs : ∀ p ∈ l, p.1.size ≤ 9223372036854775807 ∧ p.2.size ≤ 9223372036854775807) :
    Calls Tryz.prog 21 #[v] w (BoolEnds (l.length ≤ 2147483647 ∧ ∀ p ∈ l, Fit p) w) := by
  obtain ⟨A, c, rfl, _, hc, hr⟩ := h
  obtain ⟨n, hn⟩ : ∃ n, l.length = n := ⟨_, rfl⟩
  rw [hn] at hr hc hl ⊢
  have HN := Lib.hid hn
  have HR := Lib.hid hr
  have HS := Lib.hid hs
  clear hn hr hs
  by_cases hbig : 2147483647 < n
  · have hbig' : (2147483647 : Int) < n := by omega
    go_enter Tryz.func21, Tryz.ntmps21
    go_wp2
    go_ret
    exact ⟨false, rfl, ⟨fun h => (by cases h), fun h => absurd h.1 (by omega)⟩, Fr.refl _ _⟩
  · have hbig' : ¬ (2147483647 : Int) < n := by omega
    go_enter Tryz.func21, Tryz.ntmps21
    go_wp2
    go_loopw [10] (fun vi wr => ∃ k : Nat, k ≤ n ∧ vi = .int .i64 k ∧ Hid (∀ p ∈ l.take k, Fit p) ∧ Hid (Fr (fun _ => False) w wr)) (fun vi _ => n - (intOf vi).toNat)
    case atStart => exact ⟨0, Nat.zero_le _, rfl, Lib.hid (fun p hp => by simp at hp), Lib.hid (Fr.refl _ _)⟩
    case round =>
      obtain ⟨k, hk, rfl, HP, HF⟩ := hrel
      by_cases hlt : k < n
      · obtain ⟨g, off, rfl, _, hcell⟩ := HR.out (by omega)
        obtain ⟨x, hx⟩ : ∃ x, l[k]? = some x := ⟨_, List.getElem?_eq_getElem (by rw [HN.out]; exact hlt)⟩
        have cc : ∀ j, j < 2 → ∀ u, (labc x)[j]? = some u → wr.cell? ⟨g, off + (k * 2 + j), none⟩ = some u := fun j hj u hu => by
          have := hcell (k * 2 + j) u (by rw [flat2 labc (fun _ => rfl) l k x hx j hj]; exact hu)
          rw [HF.out.cell (p := ⟨g, off + (k * 2 + j), none⟩) (World.block_lt_of_cell? w _ this) (fun e => e)]
          exact this
        have c0 : wr.cell? ⟨g, off + k * 2, none⟩ = some (.string x.1) := cc 0 (by omega) _ rfl
        have c1 : wr.cell? ⟨g, off + k * 2 + 1, none⟩ = some (.string x.2) := cc 1 (by omega) _ rfl
        have hxm := List.mem_of_getElem? hx
        have hq := fun W => fits11_any x (HS.out x hxm).1 (HS.out x hxm).2 W
        have HX := Lib.hid hx
        clear hcell cc hx
        by_cases hfit : Fit x
        · have HFT := Lib.hid hfit
          clear hfit
          go_wp2_with (go_at_call 52; refine (bool_yes HFT.out (hq _)).mono ?_; rintro r w1 ⟨rfl, hf1⟩)
          go_roundw
          case rel =>
            refine ⟨k + 1, by omega, by go_num, Lib.hid ?_, Lib.hid ((HF.out.alloc _).same hf1)⟩
            intro p hp
            rw [List.take_add_one, HX.out, List.mem_append] at hp
            rcases hp with hp | hp
            · exact HP.out p hp
            · simp at hp; rw [hp]; exact HFT.out
          case measure => simp [intOf]; omega
        · have HFT := Lib.hid hfit
          clear hfit
          go_wp2_with (go_at_call 52; refine (bool_no HFT.out (hq _)).mono ?_; rintro r w1 ⟨rfl, hf1⟩)
          go_ret
          exact ⟨false, rfl, ⟨fun h => (by cases h), fun h => absurd (h.2 x hxm) HFT.out⟩, (HF.out.alloc _).same hf1⟩
      · obtain rfl : k = n := by omega
        go_wp2
        go_ret
        have e : l.take k = l := List.take_of_length_le (by rw [HN.out]; exact Nat.le_refl _)
        have hp := HP.out
        rw [e] at hp
        exact ⟨true, rfl, ⟨fun _ => ⟨by omega, hp⟩, fun _ => rfl⟩, HF.out⟩

theorem labels_any (P : Nat → Prop) (v : Value) (l : List Lab) (w : World) (h : Sl P w v 2 l.length (l.flatMap labc)) (hl : l.length ≤ 1099511627776) : Calls Tryz.prog 22 #[v] w (BoolEnds (LabOk l 12 600) w) := by
  have hR := labelsRight_any P v l 12 600 w h hl (by omega) (by omega)
  obtain ⟨A, c, rfl, _⟩ := h
  go_enter Tryz.func22, Tryz.ntmps22
  go_wp2_with (go_at_call 53; refine hR.mono ?_; rintro r w1 ⟨b, rfl, hb, hf⟩)
  go_ret
  exact ⟨b, rfl, hb, hf⟩

end Go.Proofs.YtbkookiigkckdaaGreatDoor

