/- The Encbuf's methods: each puts its bytes behind what is there, and turns nothing else. -/
import Derived.Test.YtbkookiigkckdaaGreatDoorShelf
import Derived.Test.YtbkookiigkckdaaGreatDoorAppend
namespace Go.Proofs.YtbkookiigkckdaaGreatDoor
open Go.RowKit
set_option linter.unusedVariables false

theorem Tryz.info5 : (Tryz.prog.info? 5).map (fun i => (i.zero, i.size, i.bytes)) = some (some (.int .u8 0), 1, 1) := by kernel_rfl

/-- An Encbuf in block e, whose slice owns the bytes xs in the block o (none: the nil slice). -/
def Enc (w : World) (e : Nat) (o : Option Nat) (xs : List UInt8) : Prop :=
  ∃ (v : Value) (cs : Array Value), Blk w e 224 cs ∧ cs.size = 11 ∧ cs[0]? = some v ∧ w.ownsRow 0 5 1 v xs.length (bc xs) ∧ v.ownBlock = o

/-- The bytes ys have been put into it: nothing else has turned. -/
def Put (w : World) (e : Nat) (o : Option Nat) (xs ys : List UInt8) (w' : World) : Prop :=
  ∃ o', Enc w' e o' (xs ++ ys) ∧ Fr (fun k => k = e ∨ some k = o) w w' ∧ (o' = o ∨ ∃ k, o' = some k ∧ w.heap.size ≤ k)

def PutEnds (w : World) (e : Nat) (o : Option Nat) (xs ys : List UInt8) (r : Ending) (w' : World) : Prop := r = .returned (.tuple #[]) ∧ Put w e o xs ys w'

/-- The step of a put: the value is stored into the Encbuf behind an append. -/
theorem put_store {w w1 w2 : World} {e : Nat} {v v' : Value} {cs : Array Value} {xs ys : List UInt8} {r : Option Nat}
    (hf : Fr (fun k => k = e ∨ some k = v.ownBlock) w w1) (hb : Blk w1 e 224 cs) (hs : cs.size = 11) (hown : w1.ownsRow 0 5 1 v xs.length (bc xs)) (hw : v.ownBlock = r)
    (hown' : w2.ownsRow 0 5 1 v' (xs.length + ys.length) (bc xs ++ bc ys)) (hg : w1.grownBy w2 v.ownBlock) {z : Nat} (hat : v'.ownBlock = v.ownBlock ∨ v'.ownBlock = some z) (hz : w.heap.size ≤ z) :
    ∃ y, w2.cell? ⟨e, 0, none⟩ = some y ∧ w2.frozen? ⟨e, 0, none⟩ = false ∧ Put w e r xs ys (w2.setCell ⟨e, 0, none⟩ v') := by
  subst hw
  have hne := own_ne hown hb (by decide)
  have hb2 := hb.grown hg (Ne.symm hne)
  have hb3 := hb2.set_ 0 v'
  have hc2 := hb2.cell 0
  rw [Array.getElem?_eq_getElem (by omega)] at hc2
  refine ⟨_, hc2, hb2.frozen 0, v'.ownBlock, ⟨v', _, hb3, by simpa using hs, by simp [hs], ?_, rfl⟩, ?_, ?_⟩
  · rw [bc_append, List.length_append]
    refine hown'.kept (row := some e) ⟨rfl, rfl, rfl, by simp [World.setCell], fun k _ hk => Below.heap_setCell _ _ _ _ (by simpa using hk)⟩ (.inr (own_ne hown' hb2 (by decide)))
  · exact (hf.grown hg (fun k hk => .inl (.inr hk.symm))).setCell (.inl (.inl rfl)) _
  · rcases hat with h | h
    · exact .inl h
    · exact .inr ⟨_, h, hz⟩

theorem one_src (w : World) (c : UInt8) : Src Tryz.prog 1 44 (.slice (some ⟨w.heap.size, 0, none⟩) 1 1) 1 (bc [c]) (w.alloc (.cells #[.int .u8 c.toNat] 5)) :=
  Src.ofSlice (e' := 5) _ Tryz.underlying44 _ 1 1 _ (by simp [bc_len]) (fun j u hj => by
    match j, hj with
    | 0, hj => simp [bc_get] at hj; subst hj; simp [Addr.add]
    | j + 1, hj => simp [bc_get] at hj) (bc_one _)

set_option maxHeartbeats 400000 in
theorem putByte (e : Nat) (o : Option Nat) (xs : List UInt8) (c : UInt8) (w : World) (h : Enc w e o xs) (hl : xs.length ≤ 1099511627776) :
    Calls Tryz.prog 180 #[.pointer (some ⟨e, 0, none⟩), .int .u8 c.toNat] w (PutEnds w e o xs [c]) := by
  obtain ⟨v, cs, hb, hs, h0, hown, rfl⟩ := h
  obtain ⟨i0, hi0, hz0, hz1, hz2⟩ := info_parts Tryz.info5
  have hc : w.cell? ⟨e, 0, none⟩ = some v := (hb.cell 0).trans h0
  clear h0
  go_enter Tryz.func180, Tryz.ntmps180
  go_wp2_with (at_builtin; refine wpList_append_src _ rfl _ _ 44 44 rfl 0 5 i0 (.int .u8 0) 1 1 Tryz.underlying44 hi0 hz0 hz1 hz2 rfl (by decide) _ _ _ rfl (hown.alloc _) _ 1 (bc [c]) rfl (one_src w c) ?c1 ?c2 (Nat.zero_le _) ?_)
  case c1 => unfold maxLen; omega
  case c2 => omega
  intro v' w1 hown' hgrow hat
  obtain ⟨a', n', k', rfl⟩ := own_slice hown'
  obtain ⟨y, hc1, hf1, R⟩ := put_store (w := w) ((Fr.refl _ w).alloc _) (hb.alloc _) hs (hown.alloc _) rfl hown' hgrow hat (by omega)
  clear hb hown hc hown' hgrow hat
  go_wp2
  go_end0
  exact ⟨rfl, R⟩

/-- The first n bytes of the array, sliced. -/
theorem arr_src {w w0 : World} {e k : Nat} {cs : Array Value} {ys : List UInt8} (hb : Blk w e 224 cs) (hs : cs.size = 11) (hk : ys.length = k) (hy : ∀ j, j < ys.length → cs[1 + j]? = (bc ys)[j]?) (hw : w0 = w) :
    Src Tryz.prog 1 44 (.slice (some ⟨e, 1, none⟩) k 10) k (bc ys) w0 := by
  subst hk hw
  exact Src.ofSlice (e' := 5) _ Tryz.underlying44 _ _ 10 _ (by simp [bc_len]) (fun j u hj => by
    have hl : j < ys.length := by
      rcases Nat.lt_or_ge j ys.length with h | h
      · exact h
      · rw [List.getElem?_eq_none (by rw [bc_len]; exact h)] at hj; cases hj
    have e1 : (⟨e, 1, none⟩ : Addr).add j = ⟨e, 1 + j, none⟩ := by unfold Addr.add; split <;> simp_all
    rw [e1, hb.cell, hy j hl, hj]) (bc_one _)

theorem setAll_at : ∀ (vs : List Value) (o : Nat) (cs : Array Value), o + vs.length ≤ cs.size → ∀ j, j < vs.length → (setAll cs o vs)[o + j]? = vs[j]? := by
  intro vs o cs h j hj
  rw [← Array.getElem?_toList, setAll_toList vs o cs h]
  rw [List.append_assoc, List.getElem?_append_right (by simp; omega), List.getElem?_append_left (by simp; omega)]
  congr 1
  simp
  omega
theorem setAll_before : ∀ (vs : List Value) (o : Nat) (cs : Array Value), o + vs.length ≤ cs.size → ∀ j, j < o → (setAll cs o vs)[j]? = cs[j]? := by
  intro vs o cs h j hj
  rw [← Array.getElem?_toList, setAll_toList vs o cs h, List.append_assoc, List.getElem?_append_left (by simp; omega), List.getElem?_take, if_pos hj, Array.getElem?_toList]

/-- The Encbuf behind the writing of its array: the first bytes of the array are ys. -/
def EncC (w0 w : World) (e : Nat) (v : Value) (xs ys : List UInt8) : Prop :=
  ∃ cs : Array Value, Blk w e 224 cs ∧ cs.size = 11 ∧ w.cell? ⟨e, 0, none⟩ = some v ∧ (∀ j, j < ys.length → cs[1 + j]? = (bc ys)[j]?) ∧ w.ownsRow 0 5 1 v xs.length (bc xs) ∧ Fr (fun k => k = e ∨ some k = v.ownBlock) w0 w

theorem encC {w0 w : World} {e : Nat} {v : Value} {cs : Array Value} {xs ys : List UInt8} (hf : Fr (fun k => k = e ∨ some k = v.ownBlock) w0 w) (hb : Blk w e 224 cs) (hs : cs.size = 11) (h0 : cs[0]? = some v) (hown : w.ownsRow 0 5 1 v xs.length (bc xs)) (hy : ys.length ≤ 10) :
    EncC w0 (w.setCells e 1 (bc ys)) e v xs ys := by
  have hb1 := setCells_blk (bc ys) 1 w cs hb
  have hle : 1 + (bc ys).length ≤ cs.size := by rw [bc_len]; omega
  refine ⟨_, hb1, by rw [setAll_size, hs], ?_, fun j hj => ?_, ?_, hf.setCells (.inl (.inl rfl)) _ _⟩
  · rw [hb1.cell, setAll_before _ _ _ hle 0 (by omega), h0]
  · exact setAll_at _ _ _ hle j (by rw [bc_len]; exact hj)
  · exact hown.kept (grownBy_setCells e _ _) (.inr (own_ne hown hb (by decide)))

set_option maxHeartbeats 1000000 in
theorem putBE64 (e : Nat) (o : Option Nat) (xs : List UInt8) (x : Nat) (hx : x < 18446744073709551616) (w : World) (h : Enc w e o xs) (hl : xs.length ≤ 1099511627776) :
    Calls Tryz.prog 181 #[.pointer (some ⟨e, 0, none⟩), .int .u64 x] w (PutEnds w e o xs (Lib.beBytes 8 x)) := by
  obtain ⟨v, cs, hb, hs, h0, hown, rfl⟩ := h
  obtain ⟨i0, hi0, hz0, hz1, hz2⟩ := info_parts Tryz.info5
  have hcell : ∀ i, i < 11 → w.drew.cell? ⟨e, i, none⟩ = some (cs[i]?.getD .nilFunc) := fun i hi => by
    rw [hb.drew.cell, Array.getElem?_eq_getElem (by omega)]; rfl
  have hP := (Tryz.binary_BE_PutUint64 e 1 10 10 x hx _ _ _ _ _ _ _ _ w.drew (by omega) (hcell 1 (by omega)) (hcell 2 (by omega)) (hcell 3 (by omega)) (hcell 4 (by omega)) (hcell 5 (by omega)) (hcell 6 (by omega)) (hcell 7 (by omega)) (hcell 8 (by omega))
    (hb.drew.frozen _) (hb.drew.frozen _) (hb.drew.frozen _) (hb.drew.frozen _) (hb.drew.frozen _) (hb.drew.frozen _) (hb.drew.frozen _) (hb.drew.frozen _)).mono
    (R' := fun r w1 => r = .returned (.tuple #[]) ∧ EncC w w1 e v xs (Lib.beBytes 8 x)) (fun r w1 ⟨hr, hw⟩ => ⟨hr, by
      subst hw
      exact encC (((Fr.refl _ w).drew).alloc _) (hb.drew.alloc _) hs h0 (World.ownsRow.alloc (w := w.drew) hown _) (by rw [Lib.beBytes_length]; omega)⟩)
  clear hcell hb hs h0 hown
  have hlen := Lib.beBytes_length 8 x
  generalize Lib.beBytes 8 x = ys at hP hlen ⊢
  go_enter Tryz.func181, Tryz.ntmps181
  go_wp2_with fail
  go_region_with (go_at_call 239; refine hP.mono ?_; rintro r w1 ⟨rfl, hE⟩)
  clear hP
  obtain ⟨cs, hb, hs, h0, hy, hown, hf⟩ := hE
  go_wp2_with fail
  have hne := own_ne hown hb (by decide)
  go_region_law (refine step_append_src _ (by rfl) _ _ 44 44 (by rfl) 0 5 i0 (.int .u8 0) 1 1 Tryz.underlying44 hi0 hz0 hz1 hz2 rfl (by decide) v xs.length (bc xs) (by rfl) hown.drew _ 8 (bc ys) (by rfl) (arr_src hb.drew hs hlen hy rfl) (by unfold maxLen; omega) (by omega) (Nat.zero_le _) ?_; intro v' w2 hown' hgrow hat; rw [← hlen] at hown'; obtain ⟨a', n', k', rfl⟩ := own_slice hown'; obtain ⟨y, hc1, hf1, R⟩ := put_store hf.drew hb.drew hs hown.drew rfl hown' hgrow hat hf.size)
  all_goals
    go_wp2
    go_end0
    exact ⟨rfl, R⟩

set_option maxHeartbeats 1000000 in
theorem putUvarint64 (e : Nat) (o : Option Nat) (xs : List UInt8) (x : Nat) (hx : x < 18446744073709551616) (w : World) (h : Enc w e o xs) (hl : xs.length ≤ 1099511627776) :
    Calls Tryz.prog 185 #[.pointer (some ⟨e, 0, none⟩), .int .u64 x] w (PutEnds w e o xs (Lib.uvarint x)) := by
  obtain ⟨v, cs, hb, hs, h0, hown, rfl⟩ := h
  obtain ⟨i0, hi0, hz0, hz1, hz2⟩ := info_parts Tryz.info5
  have hlen : (Lib.uvarint x).length ≤ 10 := Lib.uvarint_length64 hx
  have hP := (Tryz.binary_PutUvarint e 1 10 10 x hx w (by omega) (fun j hj => ⟨by rw [hb.cell, Array.getElem?_eq_getElem (by omega)]; rfl, hb.frozen _⟩)).mono
    (R' := fun r w1 => r = .returned (.int .i64 (Lib.uvarint x).length) ∧ EncC w w1 e v xs (Lib.uvarint x)) (fun r w1 ⟨hr, hw⟩ => ⟨hr, by
      subst hw
      exact encC (Fr.refl _ w) hb hs h0 hown hlen⟩)
  clear hb hs h0 hown
  generalize Lib.uvarint x = ys at hP hlen ⊢
  obtain ⟨k, hk⟩ : ∃ k, ys.length = k := ⟨_, rfl⟩
  rw [hk] at hP hlen
  have h0k : (0 : Int) ≤ (k : Int) := by omega
  have hk10 : (k : Int) ≤ 10 := by omega
  go_enter Tryz.func185, Tryz.ntmps185
  go_wp2_with (go_at_call 241; refine hP.mono ?_; rintro r w1 ⟨rfl, hE⟩)
  clear hP
  obtain ⟨cs, hb, hs, h0, hy, hown, hf⟩ := hE
  have HK := Lib.hid hk
  clear hk
  go_wp2_with fail
  go_region_law (refine step_append_src _ (by rfl) _ _ 44 44 (by rfl) 0 5 i0 (.int .u8 0) 1 1 Tryz.underlying44 hi0 hz0 hz1 hz2 rfl (by decide) v xs.length (bc xs) (by rfl) hown.drew _ k (bc ys) (by rfl) (arr_src hb.drew hs HK.out hy rfl) (by unfold maxLen; omega) (by omega) (Nat.zero_le _) ?_; intro v' w2 hown' hgrow hat; rw [← HK.out] at hown'; obtain ⟨a', n', k', rfl⟩ := own_slice hown'; obtain ⟨y, hc1, hf1, R⟩ := put_store hf.drew hb.drew hs hown.drew rfl hown' hgrow hat hf.size)
  all_goals
    go_wp2
    go_end0
    exact ⟨rfl, R⟩

set_option maxHeartbeats 1000000 in
theorem putVarint64 (e : Nat) (o : Option Nat) (xs : List UInt8) (x : Int) (hx0 : -9223372036854775808 ≤ x) (hx1 : x ≤ 9223372036854775807) (w : World) (h : Enc w e o xs) (hl : xs.length ≤ 1099511627776) :
    Calls Tryz.prog 183 #[.pointer (some ⟨e, 0, none⟩), .int .i64 x] w (PutEnds w e o xs (Lib.uvarint (Lib.zigzag x))) := by
  obtain ⟨v, cs, hb, hs, h0, hown, rfl⟩ := h
  obtain ⟨i0, hi0, hz0, hz1, hz2⟩ := info_parts Tryz.info5
  have hzz : Lib.zigzag x < 18446744073709551616 := by unfold Lib.zigzag; split <;> omega
  have hlen : (Lib.uvarint (Lib.zigzag x)).length ≤ 10 := Lib.uvarint_length64 hzz
  have hP := (Tryz.binary_PutVarint e 1 10 10 x hx0 hx1 w (by omega) (fun j hj => ⟨by rw [hb.cell, Array.getElem?_eq_getElem (by omega)]; rfl, hb.frozen _⟩)).mono
    (R' := fun r w1 => r = .returned (.int .i64 (Lib.uvarint (Lib.zigzag x)).length) ∧ EncC w w1 e v xs (Lib.uvarint (Lib.zigzag x))) (fun r w1 ⟨hr, hw⟩ => ⟨hr, by
      subst hw
      exact encC (Fr.refl _ w) hb hs h0 hown hlen⟩)
  clear hb hs h0 hown hzz
  generalize Lib.uvarint (Lib.zigzag x) = ys at hP hlen ⊢
  obtain ⟨k, hk⟩ : ∃ k, ys.length = k := ⟨_, rfl⟩
  rw [hk] at hP hlen
  have h0k : (0 : Int) ≤ (k : Int) := by omega
  have hk10 : (k : Int) ≤ 10 := by omega
  go_enter Tryz.func183, Tryz.ntmps183
  go_wp2_with (go_at_call 240; refine hP.mono ?_; rintro r w1 ⟨rfl, hE⟩)
  clear hP
  obtain ⟨cs, hb, hs, h0, hy, hown, hf⟩ := hE
  have HK := Lib.hid hk
  clear hk
  go_wp2_with fail
  go_region_law (refine step_append_src _ (by rfl) _ _ 44 44 (by rfl) 0 5 i0 (.int .u8 0) 1 1 Tryz.underlying44 hi0 hz0 hz1 hz2 rfl (by decide) v xs.length (bc xs) (by rfl) hown.drew _ k (bc ys) (by rfl) (arr_src hb.drew hs HK.out hy rfl) (by unfold maxLen; omega) (by omega) (Nat.zero_le _) ?_; intro v' w2 hown' hgrow hat; rw [← HK.out] at hown'; obtain ⟨a', n', k', rfl⟩ := own_slice hown'; obtain ⟨y, hc1, hf1, R⟩ := put_store hf.drew hb.drew hs hown.drew rfl hown' hgrow hat hf.size)
  all_goals
    go_wp2
    go_end0
    exact ⟨rfl, R⟩

/-- Two puts, one behind the other. -/
theorem Put.trans {w w1 w2 : World} {e : Nat} {o : Option Nat} {xs ys zs : List UInt8} (h : Put w e o xs ys w1) (h2 : ∀ o1, Enc w1 e o1 (xs ++ ys) → Put w1 e o1 (xs ++ ys) zs w2) : Put w e o xs (ys ++ zs) w2 := by
  obtain ⟨o1, he, hf, ho⟩ := h
  obtain ⟨o2, he2, hf2, ho2⟩ := h2 o1 he
  refine ⟨o2, by rw [← List.append_assoc]; exact he2, hf.trans hf2 ?_, ?_⟩
  · rintro k hk (rfl | hk2)
    · exact .inl rfl
    · rcases ho with rfl | ⟨k', rfl, hk'⟩
      · exact .inr hk2
      · injection hk2 with hk2; omega
  · rcases ho2 with rfl | ⟨k, rfl, hk⟩
    · exact ho
    · exact .inr ⟨k, rfl, Nat.le_trans hf.size hk⟩

theorem Put.enc {w w1 : World} {e : Nat} {o : Option Nat} {xs ys : List UInt8} (h : Put w e o xs ys w1) : ∃ o1, Enc w1 e o1 (xs ++ ys) := let ⟨o1, he, _⟩ := h; ⟨o1, he⟩
theorem Put.refl {w : World} {e : Nat} {o : Option Nat} {xs : List UInt8} (h : Enc w e o xs) : Put w e o xs [] w := ⟨o, by simpa using h, Fr.refl _ w, .inl rfl⟩
/-- One put more, its own bound apart. -/
theorem Put.step {w w1 w2 : World} {e : Nat} {o o1 : Option Nat} {xs ys zs : List UInt8} (he : Enc w1 e o1 (xs ++ ys)) (hf : Fr (fun k => k = e ∨ some k = o) w w1) (ho : o1 = o ∨ ∃ k, o1 = some k ∧ w.heap.size ≤ k) (h2 : Put w1 e o1 (xs ++ ys) zs w2) : Put w e o xs (ys ++ zs) w2 := by
  obtain ⟨o2, he2, hf2, ho2⟩ := h2
  refine ⟨o2, by rw [← List.append_assoc]; exact he2, hf.trans hf2 ?_, ?_⟩
  · rintro k hk (rfl | hk2)
    · exact .inl rfl
    · rcases ho with rfl | ⟨k', rfl, hk'⟩
      · exact .inr hk2
      · injection hk2 with hk2; omega
  · rcases ho2 with rfl | ⟨k, rfl, hk⟩
    · exact ho
    · exact .inr ⟨k, rfl, Nat.le_trans hf.size hk⟩

theorem str_src (w : World) (s : ByteArray) : Src Tryz.prog 1 9 (.string s) s.size (bc s.data.toList) w := Src.ofString w Tryz.underlying9 s

set_option maxHeartbeats 400000 in
theorem putString (e : Nat) (o : Option Nat) (xs : List UInt8) (s : ByteArray) (w : World) (h : Enc w e o xs) (hl : xs.length ≤ 1099511627776) (hsz : s.size ≤ 1099511627776) :
    Calls Tryz.prog 242 #[.pointer (some ⟨e, 0, none⟩), .string s] w (PutEnds w e o xs s.data.toList) := by
  obtain ⟨v, cs, hb, hs, h0, hown, rfl⟩ := h
  obtain ⟨i0, hi0, hz0, hz1, hz2⟩ := info_parts Tryz.info5
  have hc : w.cell? ⟨e, 0, none⟩ = some v := (hb.cell 0).trans h0
  clear h0
  go_enter Tryz.func242, Tryz.ntmps242
  go_wp2_with (at_builtin; refine wpList_append_src _ rfl _ _ 44 9 rfl 0 5 i0 (.int .u8 0) 1 1 Tryz.underlying44 hi0 hz0 hz1 hz2 rfl (by decide) _ _ _ rfl hown _ s.size (bc s.data.toList) rfl (str_src w s) ?c1 ?c2 (Nat.zero_le _) ?_)
  case c1 => unfold maxLen; omega
  case c2 => omega
  intro v' w1 hown' hgrow hat
  obtain ⟨a', n', k', rfl⟩ := own_slice hown'
  obtain ⟨y, hc1, hf1, R⟩ := put_store (w := w) (Fr.refl _ w) hb hs hown rfl hown' hgrow hat (by omega)
  clear hb hown hc hown' hgrow hat
  go_wp2
  go_end0
  exact ⟨rfl, R⟩

set_option maxHeartbeats 400000 in
theorem putUvarint (e : Nat) (o : Option Nat) (xs : List UInt8) (n : Nat) (hn : n ≤ 9223372036854775807) (w : World) (h : Enc w e o xs) (hl : xs.length ≤ 1099511627776) :
    Calls Tryz.prog 186 #[.pointer (some ⟨e, 0, none⟩), .int .i64 n] w (PutEnds w e o xs (Lib.uvarint n)) := by
  have hP := putUvarint64 e o xs n (by omega) w h hl
  clear h
  go_enter Tryz.func186, Tryz.ntmps186
  go_wp2_with (go_at_call 185; refine hP.mono ?_; rintro r w1 ⟨rfl, R⟩)
  go_end0
  exact ⟨rfl, R⟩

set_option maxHeartbeats 400000 in
theorem putUvarint32 (e : Nat) (o : Option Nat) (xs : List UInt8) (n : Nat) (hn : n < 4294967296) (w : World) (h : Enc w e o xs) (hl : xs.length ≤ 1099511627776) :
    Calls Tryz.prog 243 #[.pointer (some ⟨e, 0, none⟩), .int .u32 n] w (PutEnds w e o xs (Lib.uvarint n)) := by
  have hP := putUvarint64 e o xs n (by omega) w h hl
  clear h
  go_enter Tryz.func243, Tryz.ntmps243
  go_wp2_with (go_at_call 185; refine hP.mono ?_; rintro r w1 ⟨rfl, R⟩)
  go_end0
  exact ⟨rfl, R⟩

/-- An int64 as a uint64. -/
def u64 (x : Int) : Nat := (x % 18446744073709551616).toNat
theorem u64_lt (x : Int) : u64 x < 18446744073709551616 := by unfold u64; omega

set_option maxHeartbeats 400000 in
theorem putBE64int64 (e : Nat) (o : Option Nat) (xs : List UInt8) (x : Int) (w : World) (h : Enc w e o xs) (hl : xs.length ≤ 1099511627776) :
    Calls Tryz.prog 182 #[.pointer (some ⟨e, 0, none⟩), .int .i64 x] w (PutEnds w e o xs (Lib.beBytes 8 (u64 x))) := by
  have hP := putBE64 e o xs (u64 x) (u64_lt x) w h hl
  clear h
  have hu : ((u64 x : Nat) : Int) = x % 18446744073709551616 := by unfold u64; omega
  rw [hu] at hP
  have HU := Lib.hid hu
  clear hu
  go_enter Tryz.func182, Tryz.ntmps182
  go_wp2_with (go_at_call 181; refine hP.mono ?_; rintro r w1 ⟨rfl, R⟩)
  go_end0
  exact ⟨rfl, R⟩

theorem put_more (e : Nat) (o : Option Nat) {w w1 : World} {xs ys zs : List UInt8} (h : Put w e o xs ys w1) {f : FuncId} {args : Array Value}
    (hc : ∀ o1, Enc w1 e o1 (xs ++ ys) → Calls Tryz.prog f args w1 (PutEnds w1 e o1 (xs ++ ys) zs)) : Calls Tryz.prog f args w1 fun r w2 => r = .returned (.tuple #[]) ∧ Put w e o xs (ys ++ zs) w2 := by
  obtain ⟨o1, he, hf, ho⟩ := h
  exact (hc o1 he).mono fun r w2 ⟨hr, h2⟩ => ⟨hr, Put.step he hf ho h2⟩

set_option maxHeartbeats 400000 in
theorem putUvarintStr (e : Nat) (o : Option Nat) (xs : List UInt8) (s : ByteArray) (w : World) (h : Enc w e o xs) (hl : xs.length ≤ 549755813888) (hsz : s.size ≤ 549755813888) :
    Calls Tryz.prog 187 #[.pointer (some ⟨e, 0, none⟩), .string s] w (PutEnds w e o xs (Lib.uvarint s.size ++ s.data.toList)) := by
  have hP := putUvarint e o xs s.size (by omega) w h (by omega)
  clear h
  have hlen : (Lib.uvarint s.size).length ≤ 10 := Lib.uvarint_length64 (by omega)
  generalize Lib.uvarint s.size = ys at hP hlen ⊢
  go_enter Tryz.func187, Tryz.ntmps187
  go_wp2_with (go_at_call 186; refine hP.mono ?_; rintro r w1 ⟨rfl, R⟩; refine Hid.out ?_)
  clear hP
  have hQ := put_more e o R (f := 242) (args := #[.pointer (some ⟨e, 0, none⟩), .string s]) (zs := s.data.toList) (fun o1 he => putString e o1 _ s w1 he (by rw [List.length_append]; omega) (by omega))
  clear R
  refine Lib.hid ?_
  go_wp2_with (go_at_call 242; refine hQ.mono ?_; rintro r w2 ⟨rfl, R⟩)
  go_end0
  exact ⟨rfl, R⟩

set_option maxHeartbeats 400000 in
theorem encGet (e : Nat) (o : Option Nat) (xs : List UInt8) (w : World) (h : Enc w e o xs) :
    Calls Tryz.prog 116 #[.pointer (some ⟨e, 0, none⟩)] w fun r w' => ∃ v, r = .returned v ∧ w = w' ∧ w.ownsRow 0 5 1 v xs.length (bc xs) ∧ v.ownBlock = o := by
  obtain ⟨v, cs, hb, hs, h0, hown, rfl⟩ := h
  have hc : w.cell? ⟨e, 0, none⟩ = some v := (hb.cell 0).trans h0
  obtain ⟨a', n', k', rfl⟩ := own_slice hown
  have HO := Lib.hid hown
  clear hown h0
  go_enter Tryz.func116, Tryz.ntmps116
  go_wp2
  go_ret
  exact ⟨_, rfl, rfl, HO.out, rfl⟩

theorem run168 (b : Nat) (w : World) : (callFunc 168 #[.float .f64 b]).run Tryz.prog w = .ok (.value (.int .u64 b)) w :=
  run_callFunc_extern (e := Extern.MathFloatBits.float64bits) Tryz.func168 (by kernel_rfl) (by kernel_rfl) (by kernel_rfl) (by kernel_rfl) _ _
theorem run166 (b : Nat) (w : World) : (callFunc 166 #[.int .u64 b]).run Tryz.prog w = .ok (.value (.float .f64 b)) w :=
  run_callFunc_extern (e := Extern.MathFloatBits.float64frombits) Tryz.func166 (by kernel_rfl) (by kernel_rfl) (by kernel_rfl) (by kernel_rfl) _ _

set_option maxHeartbeats 400000 in
theorem putBEFloat64 (e : Nat) (o : Option Nat) (xs : List UInt8) (x : Nat) (hx : x < 18446744073709551616) (w : World) (h : Enc w e o xs) (hl : xs.length ≤ 1099511627776) :
    Calls Tryz.prog 244 #[.pointer (some ⟨e, 0, none⟩), .float .f64 x] w (PutEnds w e o xs (Lib.beBytes 8 x)) := by
  have hP := putBE64 e o xs x hx w h hl
  have hr := run168
  clear h
  go_enter Tryz.func244, Tryz.ntmps244
  go_wp2_with (go_at_call 181; refine hP.mono ?_; rintro r w1 ⟨rfl, R⟩)
  go_end0
  exact ⟨rfl, R⟩

end Go.Proofs.YtbkookiigkckdaaGreatDoor
