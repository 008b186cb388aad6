/- Texts of this seat, merged: Enc, Smp, SmpB. -/
import Derived.Test.YtbkookiigkckdaaGreatDoorK01
import Derived.LoopTactic
/- The Encbuf's methods: each puts its bytes behind what is there, and turns nothing else. -/
namespace Go.Proofs.YtbkookiigkckdaaGreatDoor
open Go.RowKit
set_option linter.unusedVariables false

theorem Tryz.info5 : (Tryz.prog.info? 5).map (fun i => (i.zero, i.size, i.bytes)) = some (some (.int .u8 0), 1, 1) := by kernel_rfl

/-- An Encbuf in block e, whose slice owns the bytes xs in the block o (none: the nil slice). -/
def Enc (w : World) (e : Nat) (o : Option Nat) (xs : List UInt8) : Prop :=
  ∃ (v : Value) (cs : Array Value), Blk w e 224 cs ∧ cs.size = 11 ∧ cs[0]? = some v ∧ w.ownsRow 0 5 1 v xs.length (bc xs) ∧ v.ownBlock = o

/-- The bytes ys have been put into it: nothing else has turned. -/
def Put (w : World) (e : Nat) (o : Option Nat) (xs ys : List UInt8) (w' : World) : Prop :=
  ∃ o', Enc w' e o' (xs ++ ys) ∧ Fr (fun k => k = e ∨ some k = o) w w' ∧ (o' = o ∨ ∃ k, o' = some k ∧ w.heap.size ≤ k)

def PutEnds (w : World) (e : Nat) (o : Option Nat) (xs ys : List UInt8) (r : Ending) (w' : World) : Prop := r = .returned (.tuple #[]) ∧ Put w e o xs ys w'

/-- The step of a put: the value is stored into the Encbuf behind an append. -/
theorem put_store {w w1 w2 : World} {e : Nat} {v v' : Value} {cs : Array Value} {xs ys : List UInt8} {r : Option Nat}
    (hf : Fr (fun k => k = e ∨ some k = v.ownBlock) w w1) (hb : Blk w1 e 224 cs) (hs : cs.size = 11) (hown : w1.ownsRow 0 5 1 v xs.length (bc xs)) (hw : v.ownBlock = r)
    (hown' : w2.ownsRow 0 5 1 v' (xs.length + ys.length) (bc xs ++ bc ys)) (hg : w1.grownBy w2 v.ownBlock) {z : Nat} (hat : v'.ownBlock = v.ownBlock ∨ v'.ownBlock = some z) (hz : w.heap.size ≤ z) :
    ∃ y, w2.cell? ⟨e, 0, none⟩ = some y ∧ w2.frozen? ⟨e, 0, none⟩ = false ∧ Put w e r xs ys (w2.setCell ⟨e, 0, none⟩ v') := by
  subst hw
  have hne := own_ne hown hb (by decide)
  have hb2 := hb.grown hg (Ne.symm hne)
  have hb3 := hb2.set_ 0 v'
  have hc2 := hb2.cell 0
  rw [Array.getElem?_eq_getElem (by omega)] at hc2
  refine ⟨_, hc2, hb2.frozen 0, v'.ownBlock, ⟨v', _, hb3, by simpa using hs, by simp [hs], ?_, rfl⟩, ?_, ?_⟩
  · rw [bc_append, List.length_append]
    refine hown'.kept (row := some e) ⟨rfl, rfl, rfl, by simp [World.setCell], fun k _ hk => Below.heap_setCell _ _ _ _ (by simpa using hk)⟩ (.inr (own_ne hown' hb2 (by decide)))
  · exact (hf.grown hg (fun k hk => .inl (.inr hk.symm))).setCell (.inl (.inl rfl)) _
  · rcases hat with h | h
    · exact .inl h
    · exact .inr ⟨_, h, hz⟩

theorem one_src (w : World) (c : UInt8) : Src Tryz.prog 1 44 (.slice (some ⟨w.heap.size, 0, none⟩) 1 1) 1 (bc [c]) (w.alloc (.cells #[.int .u8 c.toNat] 5)) :=
  Src.ofSlice (e' := 5) _ Tryz.underlying44 _ 1 1 _ (by simp [bc_len]) (fun j u hj => by
    match j, hj with
    | 0, hj => simp [bc_get] at hj; subst hj; simp [Addr.add]
    | j + 1, hj => simp [bc_get] at hj) (bc_one _)

set_option maxHeartbeats 400000 in
theorem putByte (e : Nat) (o : Option Nat) (xs : List UInt8) (c : UInt8) (w : World) (h : Enc w e o xs) (hl : xs.length ≤ 1099511627776) :
    Calls Tryz.prog 180 #[.pointer (some ⟨e, 0, none⟩), .int .u8 c.toNat] w (PutEnds w e o xs [c]) := by
  obtain ⟨v, cs, hb, hs, h0, hown, rfl⟩ := h
  obtain ⟨i0, hi0, hz0, hz1, hz2⟩ := info_parts Tryz.info5
  have hc : w.cell? ⟨e, 0, none⟩ = some v := (hb.cell 0).trans h0
  clear h0
  go_enter Tryz.func180, Tryz.ntmps180
  go_wp2_with (at_builtin; refine wpList_append_src _ rfl _ _ 44 44 rfl 0 5 i0 (.int .u8 0) 1 1 Tryz.underlying44 hi0 hz0 hz1 hz2 rfl (by decide) _ _ _ rfl (hown.alloc _) _ 1 (bc [c]) rfl (one_src w c) ?c1 ?c2 (Nat.zero_le _) ?_)
  case c1 => unfold maxLen; omega
  case c2 => omega
  intro v' w1 hown' hgrow hat
  obtain ⟨a', n', k', rfl⟩ := own_slice hown'
  obtain ⟨y, hc1, hf1, R⟩ := put_store (w := w) ((Fr.refl _ w).alloc _) (hb.alloc _) hs (hown.alloc _) rfl hown' hgrow hat (by omega)
  clear hb hown hc hown' hgrow hat
  go_wp2
  go_end0
  exact ⟨rfl, R⟩

/-- The first n bytes of the array, sliced. -/
theorem arr_src {w w0 : World} {e k : Nat} {cs : Array Value} {ys : List UInt8} (hb : Blk w e 224 cs) (hs : cs.size = 11) (hk : ys.length = k) (hy : ∀ j, j < ys.length → cs[1 + j]? = (bc ys)[j]?) (hw : w0 = w) :
    Src Tryz.prog 1 44 (.slice (some ⟨e, 1, none⟩) k 10) k (bc ys) w0 := by
  subst hk hw
  exact Src.ofSlice (e' := 5) _ Tryz.underlying44 _ _ 10 _ (by simp [bc_len]) (fun j u hj => by
    have hl : j < ys.length := by
      rcases Nat.lt_or_ge j ys.length with h | h
      · exact h
      · rw [List.getElem?_eq_none (by rw [bc_len]; exact h)] at hj; cases hj
    have e1 : (⟨e, 1, none⟩ : Addr).add j = ⟨e, 1 + j, none⟩ := by unfold Addr.add; split <;> simp_all
    rw [e1, hb.cell, hy j hl, hj]) (bc_one _)

theorem setAll_at : ∀ (vs : List Value) (o : Nat) (cs : Array Value), o + vs.length ≤ cs.size → ∀ j, j < vs.length → (setAll cs o vs)[o + j]? = vs[j]? := by
  intro vs o cs h j hj
  rw [← Array.getElem?_toList, setAll_toList vs o cs h]
  rw [List.append_assoc, List.getElem?_append_right (by simp; omega), List.getElem?_append_left (by simp; omega)]
  congr 1
  simp
  omega
theorem setAll_before : ∀ (vs : List Value) (o : Nat) (cs : Array Value), o + vs.length ≤ cs.size → ∀ j, j < o → (setAll cs o vs)[j]? = cs[j]? := by
  intro vs o cs h j hj
  rw [← Array.getElem?_toList, setAll_toList vs o cs h, List.append_assoc, List.getElem?_append_left (by simp; omega), List.getElem?_take, if_pos hj, Array.getElem?_toList]

/-- The Encbuf behind the writing of its array: the first bytes of the array are ys. -/
def EncC (w0 w : World) (e : Nat) (v : Value) (xs ys : List UInt8) : Prop :=
  ∃ cs : Array Value, Blk w e 224 cs ∧ cs.size = 11 ∧ w.cell? ⟨e, 0, none⟩ = some v ∧ (∀ j, j < ys.length → cs[1 + j]? = (bc ys)[j]?) ∧ w.ownsRow 0 5 1 v xs.length (bc xs) ∧ Fr (fun k => k = e ∨ some k = v.ownBlock) w0 w

theorem encC {w0 w : World} {e : Nat} {v : Value} {cs : Array Value} {xs ys : List UInt8} (hf : Fr (fun k => k = e ∨ some k = v.ownBlock) w0 w) (hb : Blk w e 224 cs) (hs : cs.size = 11) (h0 : cs[0]? = some v) (hown : w.ownsRow 0 5 1 v xs.length (bc xs)) (hy : ys.length ≤ 10) :
    EncC w0 (w.setCells e 1 (bc ys)) e v xs ys := by
  have hb1 := setCells_blk (bc ys) 1 w cs hb
  have hle : 1 + (bc ys).length ≤ cs.size := by rw [bc_len]; omega
  refine ⟨_, hb1, by rw [setAll_size, hs], ?_, fun j hj => ?_, ?_, hf.setCells (.inl (.inl rfl)) _ _⟩
  · rw [hb1.cell, setAll_before _ _ _ hle 0 (by omega), h0]
  · exact setAll_at _ _ _ hle j (by rw [bc_len]; exact hj)
  · exact hown.kept (grownBy_setCells e _ _) (.inr (own_ne hown hb (by decide)))

set_option maxHeartbeats 1000000 in
theorem putBE64 (e : Nat) (o : Option Nat) (xs : List UInt8) (x : Nat) (hx : x < 18446744073709551616) (w : World) (h : Enc w e o xs) (hl : xs.length ≤ 1099511627776) :
    Calls Tryz.prog 181 #[.pointer (some ⟨e, 0, none⟩), .int .u64 x] w (PutEnds w e o xs (Lib.beBytes 8 x)) := by
  obtain ⟨v, cs, hb, hs, h0, hown, rfl⟩ := h
  obtain ⟨i0, hi0, hz0, hz1, hz2⟩ := info_parts Tryz.info5
  have hcell : ∀ i, i < 11 → w.drew.cell? ⟨e, i, none⟩ = some (cs[i]?.getD .nilFunc) := fun i hi => by
    rw [hb.drew.cell, Array.getElem?_eq_getElem (by omega)]; rfl
  have hP := (Tryz.binary_BE_PutUint64 e 1 10 10 x hx _ _ _ _ _ _ _ _ w.drew (by omega) (hcell 1 (by omega)) (hcell 2 (by omega)) (hcell 3 (by omega)) (hcell 4 (by omega)) (hcell 5 (by omega)) (hcell 6 (by omega)) (hcell 7 (by omega)) (hcell 8 (by omega))
    (hb.drew.frozen _) (hb.drew.frozen _) (hb.drew.frozen _) (hb.drew.frozen _) (hb.drew.frozen _) (hb.drew.frozen _) (hb.drew.frozen _) (hb.drew.frozen _)).mono
    (R' := fun r w1 => r = .returned (.tuple #[]) ∧ EncC w w1 e v xs (Lib.beBytes 8 x)) (fun r w1 ⟨hr, hw⟩ => ⟨hr, by
      subst hw
      exact encC (((Fr.refl _ w).drew).alloc _) (hb.drew.alloc _) hs h0 (World.ownsRow.alloc (w := w.drew) hown _) (by rw [Lib.beBytes_length]; omega)⟩)
  clear hcell hb hs h0 hown
  have hlen := Lib.beBytes_length 8 x
  generalize Lib.beBytes 8 x = ys at hP hlen ⊢
  go_enter Tryz.func181, Tryz.ntmps181
  go_wp2_with fail
  go_region_with (go_at_call 239; refine hP.mono ?_; rintro r w1 ⟨rfl, hE⟩)
  clear hP
  obtain ⟨cs, hb, hs, h0, hy, hown, hf⟩ := hE
  go_wp2_with fail
  have hne := own_ne hown hb (by decide)
  go_region_law (refine step_append_src _ (by rfl) _ _ 44 44 (by rfl) 0 5 i0 (.int .u8 0) 1 1 Tryz.underlying44 hi0 hz0 hz1 hz2 rfl (by decide) v xs.length (bc xs) (by rfl) hown.drew _ 8 (bc ys) (by rfl) (arr_src hb.drew hs hlen hy rfl) (by unfold maxLen; omega) (by omega) (Nat.zero_le _) ?_; intro v' w2 hown' hgrow hat; rw [← hlen] at hown'; obtain ⟨a', n', k', rfl⟩ := own_slice hown'; obtain ⟨y, hc1, hf1, R⟩ := put_store hf.drew hb.drew hs hown.drew rfl hown' hgrow hat hf.size)
  all_goals
    go_wp2
    go_end0
    exact ⟨rfl, R⟩

set_option maxHeartbeats 1000000 in
theorem putUvarint64 (e : Nat) (o : Option Nat) (xs : List UInt8) (x : Nat) (hx : x < 18446744073709551616) (w : World) (h : Enc w e o xs) (hl : xs.length ≤ 1099511627776) :
    Calls Tryz.prog 185 #[.pointer (some ⟨e, 0, none⟩), .int .u64 x] w (PutEnds w e o xs (Lib.uvarint x)) := by
  obtain ⟨v, cs, hb, hs, h0, hown, rfl⟩ := h
  obtain ⟨i0, hi0, hz0, hz1, hz2⟩ := info_parts Tryz.info5
  have hlen : (Lib.uvarint x).length ≤ 10 := Lib.uvarint_length64 hx
  have hP := (Tryz.binary_PutUvarint e 1 10 10 x hx w (by omega) (fun j hj => ⟨by rw [hb.cell, Array.getElem?_eq_getElem (by omega)]; rfl, hb.frozen _⟩)).mono
    (R' := fun r w1 => r = .returned (.int .i64 (Lib.uvarint x).length) ∧ EncC w w1 e v xs (Lib.uvarint x)) (fun r w1 ⟨hr, hw⟩ => ⟨hr, by
      subst hw
      exact encC (Fr.refl _ w) hb hs h0 hown hlen⟩)
  clear hb hs h0 hown
  generalize Lib.uvarint x = ys at hP hlen ⊢
  obtain ⟨k, hk⟩ : ∃ k, ys.length = k := ⟨_, rfl⟩
  rw [hk] at hP hlen
  have h0k : (0 : Int) ≤ (k : Int) := by omega
  have hk10 : (k : Int) ≤ 10 := by omega
  go_enter Tryz.func185, Tryz.ntmps185
  go_wp2_with (go_at_call 241; refine hP.mono ?_; rintro r w1 ⟨rfl, hE⟩)
  clear hP
  obtain ⟨cs, hb, hs, h0, hy, hown, hf⟩ := hE
  have HK := Lib.hid hk
  clear hk
  go_wp2_with fail
  go_region_law (refine step_append_src _ (by rfl) _ _ 44 44 (by rfl) 0 5 i0 (.int .u8 0) 1 1 Tryz.underlying44 hi0 hz0 hz1 hz2 rfl (by decide) v xs.length (bc xs) (by rfl) hown.drew _ k (bc ys) (by rfl) (arr_src hb.drew hs HK.out hy rfl) (by unfold maxLen; omega) (by omega) (Nat.zero_le _) ?_; intro v' w2 hown' hgrow hat; rw [← HK.out] at hown'; obtain ⟨a', n', k', rfl⟩ := own_slice hown'; obtain ⟨y, hc1, hf1, R⟩ := put_store hf.drew hb.drew hs hown.drew rfl hown' hgrow hat hf.size)
  all_goals
    go_wp2
    go_end0
    exact ⟨rfl, R⟩

set_option maxHeartbeats 1000000 in
theorem putVarint64 (e : Nat) (o : Option Nat) (xs : List UInt8) (x : Int) (hx0 : -9223372036854775808 ≤ x) (hx1 : x ≤ 9223372036854775807) (w : World) (h : Enc w e o xs) (hl : xs.length ≤ 1099511627776) :
    Calls Tryz.prog 183 #[.pointer (some ⟨e, 0, none⟩), .int .i64 x] w (PutEnds w e o xs (Lib.uvarint (Lib.zigzag x))) := by
  obtain ⟨v, cs, hb, hs, h0, hown, rfl⟩ := h
  obtain ⟨i0, hi0, hz0, hz1, hz2⟩ := info_parts Tryz.info5
  have hzz : Lib.zigzag x < 18446744073709551616 := by unfold Lib.zigzag; split <;> omega
  have hlen : (Lib.uvarint (Lib.zigzag x)).length ≤ 10 := Lib.uvarint_length64 hzz
  have hP := (Tryz.binary_PutVarint e 1 10 10 x hx0 hx1 w (by omega) (fun j hj => ⟨by rw [hb.cell, Array.getElem?_eq_getElem (by omega)]; rfl, hb.frozen _⟩)).mono
    (R' := fun r w1 => r = .returned (.int .i64 (Lib.uvarint (Lib.zigzag x)).length) ∧ EncC w w1 e v xs (Lib.uvarint (Lib.zigzag x))) (fun r w1 ⟨hr, hw⟩ => ⟨hr, by
      subst hw
      exact encC (Fr.refl _ w) hb hs h0 hown hlen⟩)
  clear hb hs h0 hown hzz
  generalize Lib.uvarint (Lib.zigzag x) = ys at hP hlen ⊢
  obtain ⟨k, hk⟩ : ∃ k, ys.length = k := ⟨_, rfl⟩
  rw [hk] at hP hlen
  have h0k : (0 : Int) ≤ (k : Int) := by omega
  have hk10 : (k : Int) ≤ 10 := by omega
  go_enter Tryz.func183, Tryz.ntmps183
  go_wp2_with (go_at_call 240; refine hP.mono ?_; rintro r w1 ⟨rfl, hE⟩)
  clear hP
  obtain ⟨cs, hb, hs, h0, hy, hown, hf⟩ := hE
  have HK := Lib.hid hk
  clear hk
  go_wp2_with fail
  go_region_law (refine step_append_src _ (by rfl) _ _ 44 44 (by rfl) 0 5 i0 (.int .u8 0) 1 1 Tryz.underlying44 hi0 hz0 hz1 hz2 rfl (by decide) v xs.length (bc xs) (by rfl) hown.drew _ k (bc ys) (by rfl) (arr_src hb.drew hs HK.out hy rfl) (by unfold maxLen; omega) (by omega) (Nat.zero_le _) ?_; intro v' w2 hown' hgrow hat; rw [← HK.out] at hown'; obtain ⟨a', n', k', rfl⟩ := own_slice hown'; obtain ⟨y, hc1, hf1, R⟩ := put_store hf.drew hb.drew hs hown.drew rfl hown' hgrow hat hf.size)
  all_goals
    go_wp2
    go_end0
    exact ⟨rfl, R⟩

/-- Two puts, one behind the other. -/
theorem Put.trans {w w1 w2 : World} {e : Nat} {o : Option Nat} {xs ys zs : List UInt8} (h : Put w e o xs ys w1) (h2 : ∀ o1, Enc w1 e o1 (xs ++ ys) → Put w1 e o1 (xs ++ ys) zs w2) : Put w e o xs (ys ++ zs) w2 := by
  obtain ⟨o1, he, hf, ho⟩ := h
  obtain ⟨o2, he2, hf2, ho2⟩ := h2 o1 he
  refine ⟨o2, by rw [← List.append_assoc]; exact he2, hf.trans hf2 ?_, ?_⟩
  · rintro k hk (rfl | hk2)
    · exact .inl rfl
    · rcases ho with rfl | ⟨k', rfl, hk'⟩
      · exact .inr hk2
      · injection hk2 with hk2; omega
  · rcases ho2 with rfl | ⟨k, rfl, hk⟩
    · exact ho
    · exact .inr ⟨k, rfl, Nat.le_trans hf.size hk⟩

theorem Put.enc {w w1 : World} {e : Nat} {o : Option Nat} {xs ys : List UInt8} (h : Put w e o xs ys w1) : ∃ o1, Enc w1 e o1 (xs ++ ys) := let ⟨o1, he, _⟩ := h; ⟨o1, he⟩
theorem Put.refl {w : World} {e : Nat} {o : Option Nat} {xs : List UInt8} (h : Enc w e o xs) : Put w e o xs [] w := ⟨o, by simpa using h, Fr.refl _ w, .inl rfl⟩
/-- One put more, its own bound apart. -/
theorem Put.step {w w1 w2 : World} {e : Nat} {o o1 : Option Nat} {xs ys zs : List UInt8} (he : Enc w1 e o1 (xs ++ ys)) (hf : Fr (fun k => k = e ∨ some k = o) w w1) (ho : o1 = o ∨ ∃ k, o1 = some k ∧ w.heap.size ≤ k) (h2 : Put w1 e o1 (xs ++ ys) zs w2) : Put w e o xs (ys ++ zs) w2 := by
  obtain ⟨o2, he2, hf2, ho2⟩ := h2
  refine ⟨o2, by rw [← List.append_assoc]; exact he2, hf.trans hf2 ?_, ?_⟩
  · rintro k hk (rfl | hk2)
    · exact .inl rfl
    · rcases ho with rfl | ⟨k', rfl, hk'⟩
      · exact .inr hk2
      · injection hk2 with hk2; omega
  · rcases ho2 with rfl | ⟨k, rfl, hk⟩
    · exact ho
    · exact .inr ⟨k, rfl, Nat.le_trans hf.size hk⟩

theorem str_src (w : World) (s : ByteArray) : Src Tryz.prog 1 9 (.string s) s.size (bc s.data.toList) w := Src.ofString w Tryz.underlying9 s

set_option maxHeartbeats 400000 in
theorem putString (e : Nat) (o : Option Nat) (xs : List UInt8) (s : ByteArray) (w : World) (h : Enc w e o xs) (hl : xs.length ≤ 1099511627776) (hsz : s.size ≤ 1099511627776) :
    Calls Tryz.prog 242 #[.pointer (some ⟨e, 0, none⟩), .string s] w (PutEnds w e o xs s.data.toList) := by
  obtain ⟨v, cs, hb, hs, h0, hown, rfl⟩ := h
  obtain ⟨i0, hi0, hz0, hz1, hz2⟩ := info_parts Tryz.info5
  have hc : w.cell? ⟨e, 0, none⟩ = some v := (hb.cell 0).trans h0
  clear h0
  go_enter Tryz.func242, Tryz.ntmps242
  go_wp2_with (at_builtin; refine wpList_append_src _ rfl _ _ 44 9 rfl 0 5 i0 (.int .u8 0) 1 1 Tryz.underlying44 hi0 hz0 hz1 hz2 rfl (by decide) _ _ _ rfl hown _ s.size (bc s.data.toList) rfl (str_src w s) ?c1 ?c2 (Nat.zero_le _) ?_)
  case c1 => unfold maxLen; omega
  case c2 => omega
  intro v' w1 hown' hgrow hat
  obtain ⟨a', n', k', rfl⟩ := own_slice hown'
  obtain ⟨y, hc1, hf1, R⟩ := put_store (w := w) (Fr.refl _ w) hb hs hown rfl hown' hgrow hat (by omega)
  clear hb hown hc hown' hgrow hat
  go_wp2
  go_end0
  exact ⟨rfl, R⟩

set_option maxHeartbeats 400000 in
theorem putUvarint (e : Nat) (o : Option Nat) (xs : List UInt8) (n : Nat) (hn : n ≤ 9223372036854775807) (w : World) (h : Enc w e o xs) (hl : xs.length ≤ 1099511627776) :
    Calls Tryz.prog 186 #[.pointer (some ⟨e, 0, none⟩), .int .i64 n] w (PutEnds w e o xs (Lib.uvarint n)) := by
  have hP := putUvarint64 e o xs n (by omega) w h hl
  clear h
  go_enter Tryz.func186, Tryz.ntmps186
  go_wp2_with (go_at_call 185; refine hP.mono ?_; rintro r w1 ⟨rfl, R⟩)
  go_end0
  exact ⟨rfl, R⟩

set_option maxHeartbeats 400000 in
theorem putUvarint32 (e : Nat) (o : Option Nat) (xs : List UInt8) (n : Nat) (hn : n < 4294967296) (w : World) (h : Enc w e o xs) (hl : xs.length ≤ 1099511627776) :
    Calls Tryz.prog 243 #[.pointer (some ⟨e, 0, none⟩), .int .u32 n] w (PutEnds w e o xs (Lib.uvarint n)) := by
  have hP := putUvarint64 e o xs n (by omega) w h hl
  clear h
  go_enter Tryz.func243, Tryz.ntmps243
  go_wp2_with (go_at_call 185; refine hP.mono ?_; rintro r w1 ⟨rfl, R⟩)
  go_end0
  exact ⟨rfl, R⟩

/-- An int64 as a uint64. -/
def u64 (x : Int) : Nat := (x % 18446744073709551616).toNat
theorem u64_lt (x : Int) : u64 x < 18446744073709551616 := by unfold u64; omega

set_option maxHeartbeats 400000 in
theorem putBE64int64 (e : Nat) (o : Option Nat) (xs : List UInt8) (x : Int) (w : World) (h : Enc w e o xs) (hl : xs.length ≤ 1099511627776) :
    Calls Tryz.prog 182 #[.pointer (some ⟨e, 0, none⟩), .int .i64 x] w (PutEnds w e o xs (Lib.beBytes 8 (u64 x))) := by
  have hP := putBE64 e o xs (u64 x) (u64_lt x) w h hl
  clear h
  have hu : ((u64 x : Nat) : Int) = x % 18446744073709551616 := by unfold u64; omega
  rw [hu] at hP
  have HU := Lib.hid hu
  clear hu
  go_enter Tryz.func182, Tryz.ntmps182
  go_wp2_with (go_at_call 181; refine hP.mono ?_; rintro r w1 ⟨rfl, R⟩)
  go_end0
  exact ⟨rfl, R⟩

theorem put_more (e : Nat) (o : Option Nat) {w w1 : World} {xs ys zs : List UInt8} (h : Put w e o xs ys w1) {f : FuncId} {args : Array Value}
    (hc : ∀ o1, Enc w1 e o1 (xs ++ ys) → Calls Tryz.prog f args w1 (PutEnds w1 e o1 (xs ++ ys) zs)) : Calls Tryz.prog f args w1 fun r w2 => r = .returned (.tuple #[]) ∧ Put w e o xs (ys ++ zs) w2 := by
  obtain ⟨o1, he, hf, ho⟩ := h
  exact (hc o1 he).mono fun r w2 ⟨hr, h2⟩ => ⟨hr, Put.step he hf ho h2⟩

set_option maxHeartbeats 400000 in
theorem putUvarintStr (e : Nat) (o : Option Nat) (xs : List UInt8) (s : ByteArray) (w : World) (h : Enc w e o xs) (hl : xs.length ≤ 549755813888) (hsz : s.size ≤ 549755813888) :
    Calls Tryz.prog 187 #[.pointer (some ⟨e, 0, none⟩), .string s] w (PutEnds w e o xs (Lib.uvarint s.size ++ s.data.toList)) := by
  have hP := putUvarint e o xs s.size (by omega) w h (by omega)
  clear h
  have hlen : (Lib.uvarint s.size).length ≤ 10 := Lib.uvarint_length64 (by omega)
  generalize Lib.uvarint s.size = ys at hP hlen ⊢
  go_enter Tryz.func187, Tryz.ntmps187
  go_wp2_with (go_at_call 186; refine hP.mono ?_; rintro r w1 ⟨rfl, R⟩; refine Hid.out ?_)
  clear hP
  have hQ := put_more e o R (f := 242) (args := #[.pointer (some ⟨e, 0, none⟩), .string s]) (zs := s.data.toList) (fun o1 he => putString e o1 _ s w1 he (by rw [List.length_append]; omega) (by omega))
  clear R
  refine Lib.hid ?_
  go_wp2_with (go_at_call 242; refine hQ.mono ?_; rintro r w2 ⟨rfl, R⟩)
  go_end0
  exact ⟨rfl, R⟩

set_option maxHeartbeats 400000 in
theorem encGet (e : Nat) (o : Option Nat) (xs : List UInt8) (w : World) (h : Enc w e o xs) :
    Calls Tryz.prog 116 #[.pointer (some ⟨e, 0, none⟩)] w fun r w' => ∃ v, r = .returned v ∧ w = w' ∧ w.ownsRow 0 5 1 v xs.length (bc xs) ∧ v.ownBlock = o := by
  obtain ⟨v, cs, hb, hs, h0, hown, rfl⟩ := h
  have hc : w.cell? ⟨e, 0, none⟩ = some v := (hb.cell 0).trans h0
  obtain ⟨a', n', k', rfl⟩ := own_slice hown
  have HO := Lib.hid hown
  clear hown h0
  go_enter Tryz.func116, Tryz.ntmps116
  go_wp2
  go_ret
  exact ⟨_, rfl, rfl, HO.out, rfl⟩

theorem run168 (b : Nat) (w : World) : (callFunc 168 #[.float .f64 b]).run Tryz.prog w = .ok (.value (.int .u64 b)) w :=
  run_callFunc_extern (e := Extern.MathFloatBits.float64bits) Tryz.func168 (by kernel_rfl) (by kernel_rfl) (by kernel_rfl) (by kernel_rfl) _ _
theorem run166 (b : Nat) (w : World) : (callFunc 166 #[.int .u64 b]).run Tryz.prog w = .ok (.value (.float .f64 b)) w :=
  run_callFunc_extern (e := Extern.MathFloatBits.float64frombits) Tryz.func166 (by kernel_rfl) (by kernel_rfl) (by kernel_rfl) (by kernel_rfl) _ _

set_option maxHeartbeats 400000 in
theorem putBEFloat64 (e : Nat) (o : Option Nat) (xs : List UInt8) (x : Nat) (hx : x < 18446744073709551616) (w : World) (h : Enc w e o xs) (hl : xs.length ≤ 1099511627776) :
    Calls Tryz.prog 244 #[.pointer (some ⟨e, 0, none⟩), .float .f64 x] w (PutEnds w e o xs (Lib.beBytes 8 x)) := by
  have hP := putBE64 e o xs x hx w h hl
  have hr := run168
  clear h
  go_enter Tryz.func244, Tryz.ntmps244
  go_wp2_with (go_at_call 181; refine hP.mono ?_; rintro r w1 ⟨rfl, R⟩)
  go_end0
  exact ⟨rfl, R⟩

end Go.Proofs.YtbkookiigkckdaaGreatDoor

/- Samples: slices that read as lists, impl.refSamples. -/
namespace Go.Proofs.YtbkookiigkckdaaGreatDoor
open Go.RowKit
set_option linter.unusedVariables false
set_option linter.unusedSimpArgs false

/-- A slice v of n elements of 'size' cells each, that reads as xs; its block is one of P. -/
def Sl (P : Nat → Prop) (w : World) (v : Value) (size n : Nat) (xs : List Value) : Prop :=
  ∃ A c, v = .slice A n c ∧ xs.length = n * size ∧ n ≤ c ∧ (0 < n → ∃ g off, A = some ⟨g, off, none⟩ ∧ P g ∧ ∀ j u, xs[j]? = some u → w.cell? ⟨g, off + j, none⟩ = some u)

theorem Sl.fr {P S : Nat → Prop} {w w' : World} {v : Value} {size n : Nat} {xs : List Value} (h : Sl P w v size n xs) (hf : Fr S w w') (hs : ∀ g, P g → ¬ S g) : Sl P w' v size n xs := by
  obtain ⟨A, c, hv, hl, hc, hr⟩ := h
  refine ⟨A, c, hv, hl, hc, fun hn => ?_⟩
  obtain ⟨g, off, hA, hP, hcell⟩ := hr hn
  exact ⟨g, off, hA, hP, fun j u hu => by
    have := hcell j u hu
    rw [hf.cell (p := ⟨g, off + j, none⟩) (World.block_lt_of_cell? w _ this) (hs g hP)]
    exact this⟩
theorem Sl.mono {P Q : Nat → Prop} {w : World} {v : Value} {size n : Nat} {xs : List Value} (h : Sl P w v size n xs) (hs : ∀ g, P g → Q g) : Sl Q w v size n xs := by
  obtain ⟨A, c, hv, hl, hc, hr⟩ := h
  exact ⟨A, c, hv, hl, hc, fun hn => let ⟨g, off, hA, hP, hcell⟩ := hr hn; ⟨g, off, hA, hs g hP, hcell⟩⟩
theorem Sl.ofOwn {w : World} {base : Nat} {e : TypeId} {size n : Nat} {v : Value} {xs : List Value} (h : w.ownsRow base e size v n xs) : Sl (fun g => v.ownBlock = some g) w v size n xs := by
  have hl := h.1
  rcases h.2 with ⟨rfl, rfl⟩ | ⟨g, cap, cur, rfl, _, hg, hc, _⟩
  · exact ⟨_, _, rfl, hl, Nat.le_refl _, fun h => absurd h (by omega)⟩
  · refine ⟨_, _, rfl, hl, hc, fun _ => ⟨g, 0, rfl, rfl, fun j u hu => ?_⟩⟩
    have := h.cells (g := g) rfl j u hu
    have e1 : (⟨g, 0, none⟩ : Addr).add j = ⟨g, 0 + j, none⟩ := by unfold Addr.add; split <;> simp_all
    rwa [e1] at this

/-- A sample: its reference, its time, its value's bits. -/
structure Smp where
  ref : Nat
  t : Int
  v : Nat
def Smp.wf (s : Smp) : Prop := s.ref < 18446744073709551616 ∧ -9223372036854775808 ≤ s.t ∧ s.t ≤ 9223372036854775807 ∧ s.v < 18446744073709551616
/-- Its cells in impl's form and in the package's. -/
def Smp.a (s : Smp) : List Value := [.int .u64 s.ref, .int .i64 s.t, .int .u64 s.v]
def Smp.b (s : Smp) : List Value := [.int .u64 s.ref, .int .i64 s.t, .float .f64 s.v]

theorem Tryz.info137 : (Tryz.prog.info? 137).map (fun i => (i.zero, i.size, i.bytes)) = some (some (.agg #[.int .u64 0, .int .i64 0, .float .f64 0]), 3, 24) := by kernel_rfl

set_option maxHeartbeats 400000 in
theorem float_any (b : Nat) (w : World) : Calls Tryz.prog 167 #[.int .u64 b] w fun r w' => r = .returned (.float .f64 b) ∧ w = w' := by
  have hr := run166
  go_enter Tryz.func167, Tryz.ntmps167
  go_wp2
  go_ret
  exact ⟨rfl, rfl⟩

theorem flat3 {α : Type} (f : α → List Value) (h3 : ∀ x, (f x).length = 3) : ∀ (l : List α) (k : Nat) (x : α), l[k]? = some x → ∀ j, j < 3 → (l.flatMap f)[k * 3 + j]? = (f x)[j]?
  | [], k, x, h, j, hj => by simp at h
  | y :: l, 0, x, h, j, hj => by
    simp at h; subst h
    rw [List.flatMap_cons, List.getElem?_append_left (by rw [h3]; omega)]
    simp
  | y :: l, k + 1, x, h, j, hj => by
    rw [List.flatMap_cons, List.getElem?_append_right (by rw [h3]; omega), h3, show (k + 1) * 3 + j - 3 = k * 3 + j by omega]
    exact flat3 f h3 l k x (by simpa using h) j hj

/-- One element, laid in a block of its own, as what is appended. -/
theorem src_blk {W : World} {g t tx e size : Nat} {cs : List Value} (hk : Tryz.prog.underlying tx = some (.slice e)) (hb : Blk W g t cs.toArray) (hl : cs.length = size) (h1 : ∀ u ∈ cs, u.oneCell' = true) : Src Tryz.prog size tx (.slice (some ⟨g, 0, none⟩) 1 1) 1 cs W :=
  Src.ofSlice (e' := e) _ hk _ 1 1 _ (by omega) (fun j u hj => by
    have e1 : (⟨g, 0, none⟩ : Addr).add j = ⟨g, j, none⟩ := by unfold Addr.add; split <;> simp_all
    rw [e1, hb.cell]
    simpa using hj) h1
theorem blk_new2 (w : World) (o : Obj) (t : Nat) (cs : Array Value) : Blk ((w.alloc o).alloc (.cells cs t)) (w.heap.size + 1) t cs := by
  have := Blk.new (w.alloc o) t cs
  simpa using this

theorem flatMap_take_succ {α : Type} (f : α → List Value) (l : List α) (k : Nat) (x : α) (h : l[k]? = some x) : (l.take (k + 1)).flatMap f = (l.take k).flatMap f ++ f x := by
  rw [List.take_add_one, h]; simp

def RefSamplesEnds (w : World) (l : List Smp) (r : Ending) (w' : World) : Prop :=
  ∃ v, r = .returned v ∧ w'.ownsRow w.heap.size 137 3 v l.length (l.flatMap Smp.b) ∧ Fr (fun _ => False) w w'

set_option maxHeartbeats 1000000 in
set_option maxRecDepth 100000 in
theorem refSamples_any (P : Nat → Prop) (v : Value) (l : List Smp) (w : World) (h : Sl P w v 3 l.length (l.flatMap Smp.a)) (hl : l.length ≤ 1099511627776) :
    Calls Tryz.prog 72 #[v] w (RefSamplesEnds w l) := by
  obtain ⟨A, c, rfl, hlen, hnc, hr⟩ := h
  obtain ⟨n, hn⟩ : ∃ n, l.length = n := ⟨_, rfl⟩
  rw [hn] at hr hnc hl ⊢
  have HN := Lib.hid hn
  have HR := Lib.hid hr
  obtain ⟨i0, hi0, hz0, hz1, hz2⟩ := info_parts Tryz.info137
  clear hn hr hlen
  go_enter Tryz.func72, Tryz.ntmps72
  go_wp2
  go_loopw [2, 7] (fun v i wr => ∃ k : Nat, k ≤ n ∧ i = .int .i64 k ∧ wr.ownsRow w.heap.size 137 3 v k ((l.take k).flatMap Smp.b) ∧ Fr (fun _ => False) w wr) (fun _ i _ => n - (intOf i).toNat)
  case atStart => exact ⟨0, Nat.zero_le _, rfl, World.ownsRow_nil _ _ _ _, Fr.refl _ _⟩
  case round =>
    obtain ⟨k, hk, rfl, hown, hf⟩ := hrel
    by_cases hlt : k < n
    · obtain ⟨g, off, rfl, _, hcell⟩ := HR.out (by omega)
      obtain ⟨x, hx⟩ : ∃ x, l[k]? = some x := ⟨_, List.getElem?_eq_getElem (by rw [HN.out]; exact hlt)⟩
      have cc : ∀ j, j < 3 → ∀ u, (Smp.a x)[j]? = some u → wr.cell? ⟨g, off + (k * 3 + j), none⟩ = some u := fun j hj u hu => by
        have := hcell (k * 3 + j) u (by rw [flat3 Smp.a (fun _ => rfl) l k x hx j hj]; exact hu)
        rw [hf.cell (p := ⟨g, off + (k * 3 + j), none⟩) (World.block_lt_of_cell? w _ this) (fun e => e)]
        exact this
      have c0 : wr.cell? ⟨g, off + k * 3, none⟩ = some (.int .u64 x.ref) := cc 0 (by omega) _ rfl
      have c1 : wr.cell? ⟨g, off + k * 3 + 1, none⟩ = some (.int .i64 x.t) := cc 1 (by omega) _ rfl
      have c2 : wr.cell? ⟨g, off + k * 3 + 2, none⟩ = some (.int .u64 x.v) := cc 2 (by omega) _ rfl
      have HC := Lib.hid hcell
      have HO := Lib.hid hown
      have HX := Lib.hid hx
      obtain ⟨a', n', k', rfl⟩ := own_slice hown
      clear hcell cc hown hx
      go_wp2_with fail
      have s0 : (wr.alloc (Obj.cells #[Value.int IntKind.u64 ↑x.ref, Value.int IntKind.i64 x.t, Value.int IntKind.u64 ↑x.v] 113)).cell? ⟨wr.heap.size, 0, none⟩ = some (.int .u64 x.ref) := by simp
      have s1 : (wr.alloc (Obj.cells #[Value.int IntKind.u64 ↑x.ref, Value.int IntKind.i64 x.t, Value.int IntKind.u64 ↑x.v] 113)).cell? ⟨wr.heap.size, 1, none⟩ = some (.int .i64 x.t) := by simp
      have s2 : (wr.alloc (Obj.cells #[Value.int IntKind.u64 ↑x.ref, Value.int IntKind.i64 x.t, Value.int IntKind.u64 ↑x.v] 113)).cell? ⟨wr.heap.size, 2, none⟩ = some (.int .u64 x.v) := by simp
      have hsz := hf.size
      have hne : some wr.heap.size ≠ (Value.slice a' n' k').ownBlock := fun e => by have := own_lt HO.out e.symm; omega
      go_region_held3 (fun w' => w'.cell? ⟨wr.heap.size, 0, none⟩ = some (.int .u64 x.ref) ∧ w'.cell? ⟨wr.heap.size, 1, none⟩ = some (.int .i64 x.t) ∧ w'.cell? ⟨wr.heap.size, 2, none⟩ = some (.int .u64 x.v)) ((first | (go_split_ands; refine ⟨?_, ?_, ?_⟩ <;> (rw [World.grownBy.cell_far hgrow _ (by simp; omega) hne]; assumption)) | go_keep))
        ((first
          | (go_at_call 167; refine (float_any _ _).mono ?_; rintro r w' ⟨rfl, rfl⟩)
          | (refine step_append_src _ (by rfl) _ _ 131 131 (by rfl) w.heap.size 137 i0 _ 3 24 Tryz.underlying131 hi0 hz0 hz1 hz2 rfl (by decide) (.slice a' n' k') k ((l.take k).flatMap Smp.b) (by rfl) ((HO.out.alloc _).alloc _).drew _ 1 (Smp.b x) (by rfl) (src_blk Tryz.underlying131 (blk_new2 wr _ 137 (Smp.b x).toArray).drew rfl (by simp [Smp.b, Value.oneCell'])) (by unfold maxLen; omega) (by omega) (by simp; omega) ?_; intro v' w2 hown' hgrow hat)))
      have hown2 : w2.ownsRow w.heap.size 137 3 v' (k + 1) ((l.take (k + 1)).flatMap Smp.b) := by rw [flatMap_take_succ Smp.b l k x HX.out]; exact hown'
      have hf2 : Fr (fun _ => False) w w2 := (((hf.alloc _).alloc _).drew).grown hgrow (fun g hg => .inr (((HO.out.lt g hg)).1))
      have HO2 := Lib.hid hown2
      have HF2 := Lib.hid hf2
      clear hown' hgrow hown2 hf2 hf c0 c1 c2 s0 s1 s2 hat hne hsz
      go_wp2
      go_roundw
      case rel => exact ⟨k + 1, by omega, by go_num, HO2.out, HF2.out⟩
      case measure => simp [intOf]; omega
    · go_wp2
      go_ret
      obtain rfl : k = n := by omega
      refine ⟨_, rfl, ?_, hf⟩
      rw [← HN.out] at hown ⊢
      rw [List.take_length] at hown
      exact hown

end Go.Proofs.YtbkookiigkckdaaGreatDoor

/- Samples: the encoder. -/
namespace Go.Proofs.YtbkookiigkckdaaGreatDoor
open Go.RowKit
set_option linter.unusedVariables false
set_option linter.unusedSimpArgs false

theorem run_store_float (w : World) (a : Addr) (k : FloatKind) (b : Nat) (m : Mode) : (store a (.float k b) m).run Tryz.prog w = stored Tryz.prog w a (.float k b) m := run_store Tryz.prog w a _ m rfl

theorem Enc.alloc {w : World} {e : Nat} {o : Option Nat} {xs : List UInt8} (h : Enc w e o xs) (ob : Obj) : Enc (w.alloc ob) e o xs := by
  obtain ⟨v, cs, hb, hs, h0, hown, hv⟩ := h
  exact ⟨v, cs, hb.alloc ob, hs, h0, hown.alloc ob, hv⟩
theorem Enc.drew {w : World} {e : Nat} {o : Option Nat} {xs : List UInt8} (h : Enc w e o xs) : Enc w.drew e o xs := h
theorem Put.alloc {w w1 : World} {e : Nat} {o : Option Nat} {xs ys : List UInt8} (h : Put w e o xs ys w1) (ob : Obj) : Put w e o xs ys (w1.alloc ob) := by
  obtain ⟨o1, he, hf, ho⟩ := h
  exact ⟨o1, he.alloc ob, hf.alloc ob, ho⟩
/-- A fresh Encbuf over a row of bytes. -/
theorem Enc.made {w : World} {v : Value} {xs : List UInt8} {z : Value} (h : w.ownsRow 0 5 1 v xs.length (bc xs)) (ob : Obj) (hob : ob = .cells #[v, z, z, z, z, z, z, z, z, z, z] 224) : Enc (w.alloc ob) w.heap.size v.ownBlock xs := by
  subst hob
  exact ⟨v, _, Blk.new w 224 _, rfl, rfl, h.alloc _, rfl⟩

theorem wrap64_bd (x : Int) : -9223372036854775808 ≤ wrap64 x ∧ wrap64 x ≤ 9223372036854775807 := by unfold wrap64; omega

def dRef (f s : Smp) : Int := wrap64 (wrap64 s.ref - wrap64 f.ref)
def dT (f s : Smp) : Int := wrap64 (s.t - f.t)
def encSmp (f s : Smp) : List UInt8 := Lib.uvarint (Lib.zigzag (dRef f s)) ++ (Lib.uvarint (Lib.zigzag (dT f s)) ++ Lib.beBytes 8 s.v)
def encHdr (f : Smp) : List UInt8 := Lib.beBytes 8 f.ref ++ Lib.beBytes 8 (u64 f.t)
def encSamples : List Smp → List UInt8
  | [] => [2]
  | f :: r => [2] ++ (encHdr f ++ (f :: r).flatMap (encSmp f))

theorem zz_len (x : Int) (h0 : -9223372036854775808 ≤ x) (h1 : x ≤ 9223372036854775807) : (Lib.uvarint (Lib.zigzag x)).length ≤ 10 := Lib.uvarint_length64 (by unfold Lib.zigzag; split <;> omega)
theorem encSmp_len (f s : Smp) : (encSmp f s).length ≤ 28 := by
  have h1 := zz_len (dRef f s) (wrap64_bd _).1 (wrap64_bd _).2
  have h2 := zz_len (dT f s) (wrap64_bd _).1 (wrap64_bd _).2
  simp only [encSmp, List.length_append, Lib.beBytes_length]
  omega
theorem flatMap_len {α : Type} (f : α → List UInt8) (m : Nat) (hf : ∀ x, (f x).length ≤ m) : ∀ l : List α, (l.flatMap f).length ≤ l.length * m
  | [] => by simp
  | x :: l => by
    have h1 := flatMap_len f m hf l
    have h2 := hf x
    rw [List.flatMap_cons, List.length_append, List.length_cons, Nat.add_mul]
    omega
theorem flatMap_take_succ' {α β : Type} (f : α → List β) (l : List α) (k : Nat) (x : α) (h : l[k]? = some x) : (l.take (k + 1)).flatMap f = (l.take k).flatMap f ++ f x := by
  rw [List.take_add_one, h]; simp

def EncodeEnds (w : World) (o : Option Nat) (ys : List UInt8) (r : Ending) (w' : World) : Prop :=
  ∃ v', r = .returned v' ∧ w'.ownsRow 0 5 1 v' ys.length (bc ys) ∧ Fr (fun k => some k = o) w w' ∧ (v'.ownBlock = o ∨ ∃ k, v'.ownBlock = some k ∧ w.heap.size ≤ k)

theorem Enc.apart {w : World} {e : Nat} {o : Option Nat} {xs : List UInt8} (h : Enc w e o xs) {g t : Nat} {cs : Array Value} (hb : Blk w g t cs) (h1 : t ≠ 224) (h2 : t ≠ 5) : ¬ (g = e ∨ some g = o) := by
  obtain ⟨v, cs', hb', _, _, hown, rfl⟩ := h
  rintro (rfl | h)
  · exact Blk.ne_ hb hb' h1 rfl
  · exact own_ne hown hb (Ne.symm h2) h.symm
theorem Put.blk {w w' : World} {e : Nat} {o : Option Nat} {xs ys : List UInt8} (h : Put w e o xs ys w') (he : Enc w e o xs) {g t : Nat} {cs : Array Value} (hb : Blk w g t cs) (h1 : t ≠ 224) (h2 : t ≠ 5) : Blk w' g t cs := by
  obtain ⟨_, _, hf, _⟩ := h
  exact hb.fr hf (he.apart hb h1 h2)
theorem Put.fr {w w' : World} {e : Nat} {o : Option Nat} {xs ys : List UInt8} (h : Put w e o xs ys w') : Fr (fun k => k = e ∨ some k = o) w w' := let ⟨_, _, hf, _⟩ := h; hf

/-- Every block that is no Encbuf and no row of bytes stands. -/
def Keeps (w w' : World) : Prop := ∀ g t cs, t ≠ 224 → t ≠ 5 → Blk w g t cs → Blk w' g t cs
theorem Put.keeps {w w' : World} {e : Nat} {o : Option Nat} {xs ys : List UInt8} (h : Put w e o xs ys w') (he : Enc w e o xs) : Keeps w w' := fun g t cs h1 h2 hb => h.blk he hb h1 h2
theorem put_more2 {e : Nat} {o : Option Nat} {w w1 : World} {xs ys zs : List UInt8} (h : Put w e o xs ys w1) {f : FuncId} {args : Array Value}
    (hc : ∀ o1, Enc w1 e o1 (xs ++ ys) → Calls Tryz.prog f args w1 (PutEnds w1 e o1 (xs ++ ys) zs)) : Calls Tryz.prog f args w1 fun r w2 => r = .returned (.tuple #[]) ∧ Put w e o xs (ys ++ zs) w2 ∧ Hid (Keeps w1 w2) := by
  obtain ⟨o1, he, hf, ho⟩ := h
  exact (hc o1 he).mono fun r w2 ⟨hr, h2⟩ => ⟨hr, Put.step he hf ho h2, h2.keeps he⟩

/-- What a fresh Encbuf in a new block tells of the world ahead of it. -/
theorem made_end {w w1 : World} {ob : Obj} {o o1 : Option Nat} (hf : Fr (fun k => k = w.heap.size ∨ some k = o) (w.alloc ob) w1) : Fr (fun k => some k = o) w w1 :=
  ((Fr.refl (fun k => some k = o) w).alloc ob).trans hf (fun k hk h => by rcases h with rfl | h; omega; exact h)

set_option maxRecDepth 100000 in
theorem encSamples_nil (ep : Value) (sv : Value) (P : Nat → Prop) (v : Value) (xs : List UInt8) (w : World) (h : Sl P w sv 3 0 []) (hown : w.ownsRow 0 5 1 v xs.length (bc xs)) (hl : xs.length ≤ 1073741824) :
    Calls Tryz.prog 92 #[ep, sv, v] w (EncodeEnds w v.ownBlock (xs ++ [2])) := by
  obtain ⟨A, c, rfl, hlen, hnc, hr⟩ := h
  obtain ⟨a', n', k', rfl⟩ := own_slice hown
  have hE := Enc.made (z := .int .u8 0) hown _ rfl
  have hP := putByte w.heap.size _ xs 2 _ hE (by omega)
  have e2 : ((2 : UInt8).toNat : Int) = 2 := rfl
  rw [e2] at hP
  clear hE hr e2
  go_enter Tryz.func92, Tryz.ntmps92
  go_wp2_with (first | (go_at_call 180; refine hP.mono ?_; rintro r w1 ⟨rfl, R⟩; obtain ⟨o1, hE1, hf1, ho1⟩ := R; have hG := encGet _ _ _ _ hE1) | (go_at_call 116; refine hG.mono ?_; rintro r w2 ⟨v2, rfl, rfl, hown2, hv2⟩))
  go_ret
  refine ⟨v2, rfl, hown2, made_end (o1 := o1) hf1, ?_⟩
  rw [hv2]
  rcases ho1 with h | ⟨k, h, hk⟩
  · exact .inl h
  · exact .inr ⟨k, h, by simp at hk; omega⟩

set_option maxRecDepth 100000 in
set_option maxHeartbeats 2000000 in
theorem encSamples_cons (ep : Value) (sv : Value) (P : Nat → Prop) (v : Value) (xs : List UInt8) (f : Smp) (r : List Smp) (w : World) (h : Sl P w sv 3 (r.length + 1) ((f :: r).flatMap Smp.b)) (hown : w.ownsRow 0 5 1 v xs.length (bc xs)) (hl : xs.length ≤ 1073741824)
    (hsl : r.length ≤ 1073741824) (hwf : ∀ s ∈ f :: r, s.wf) (hP : ∀ g, P g → g < w.heap.size ∧ some g ≠ v.ownBlock) :
    Calls Tryz.prog 92 #[ep, sv, v] w (EncodeEnds w v.ownBlock (xs ++ encSamples (f :: r))) := by
  have HS := Lib.hid h
  obtain ⟨A, c, rfl, hlen, hnc, hr⟩ := h
  obtain ⟨a', n', k', rfl⟩ := own_slice hown
  obtain ⟨n, hn⟩ : ∃ n, r.length + 1 = n := ⟨_, rfl⟩
  rw [hn] at HS hnc hr ⊢
  obtain ⟨g, off, rfl, hPg, hcell⟩ := hr (by omega)
  have hE := Enc.made (z := .int .u8 0) hown _ rfl
  have hQ := putByte w.heap.size _ xs 2 _ hE (by omega)
  have e2 : ((2 : UInt8).toNat : Int) = 2 := rfl
  rw [e2] at hQ
  have HN := Lib.hid hn
  have c0 : w.cell? ⟨g, off, none⟩ = some (.int .u64 f.ref) := by simpa using hcell 0 _ rfl
  have c1 : w.cell? ⟨g, off + 1, none⟩ = some (.int .i64 f.t) := hcell 1 _ rfl
  have c2 : w.cell? ⟨g, off + 2, none⟩ = some (.float .f64 f.v) := hcell 2 _ rfl
  have hg := hP g hPg
  have hn0 : ((n : Int) == 0) = false := by simp; omega
  have hn1 : (0 : Int) < (n : Int) := by omega
  have HCELL := Lib.hid hcell
  have hsf := run_store_float
  clear hE hr e2 hn hlen hcell
  go_enter Tryz.func92, Tryz.ntmps92
  go_wp2_with (go_at_call 180; refine hQ.mono ?_; rintro r1 w1 ⟨rfl, R⟩; refine Hid.out ?_)
  obtain ⟨o1, hE1, hf1, ho1⟩ := R
  have hF1 := made_end (o1 := o1) hf1
  have hlt1 := hf1.size
  simp at hlt1
  have hk1 : ∀ j u, w.cell? ⟨g, off + j, none⟩ = some u → w1.cell? ⟨g, off + j, none⟩ = some u := fun j u hu => by
    rw [hF1.cell (p := ⟨g, off + j, none⟩) hg.1 hg.2]; exact hu
  have d0 : w1.cell? ⟨g, off, none⟩ = some (.int .u64 f.ref) := hk1 0 _ c0
  have d1 := hk1 1 _ c1
  have d2 := hk1 2 _ c2
  have hB1 := Blk.new w1 137 #[.int .u64 f.ref, .int .i64 f.t, .float .f64 f.v]
  have hE1' := hE1.alloc (.cells #[.int .u64 f.ref, .int .i64 f.t, .float .f64 f.v] 137)
  have hQ2 := putBE64 w.heap.size o1 (xs ++ [2]) f.ref (hwf f (by simp)).1 _ hE1' (by simp; omega)
  have HE := Lib.hid hE1'
  have HB := Lib.hid hB1
  have HF1 := Lib.hid hF1
  have HO1 := Lib.hid ho1
  clear hQ hf1 hF1 hk1 c0 c1 c2 ho1 hB1 hE1 hE1'
  refine Lib.hid ?_
  go_wp2_with (go_at_call 181; refine hQ2.mono ?_; rintro r2 w2 ⟨rfl, R2⟩; refine Hid.out ?_)
  have hB2 := R2.blk HE.out HB.out (by decide) (by decide)
  have b0 := hB2.cell 0
  have b1 := hB2.cell 1
  have b2 := hB2.cell 2
  simp at b0 b1 b2
  have hQ3 := put_more w.heap.size o1 R2 (f := 182) (args := #[.pointer (some ⟨w.heap.size, 0, none⟩), .int .i64 f.t]) (zs := Lib.beBytes 8 (u64 f.t)) (fun o2 he => putBE64int64 _ o2 _ f.t w2 he (by simp [Lib.beBytes_length]; omega))
  have hs2 := R2.fr.size
  clear hQ2 d0 d1 d2
  refine Lib.hid ?_
  go_wp2_with (go_at_call 182; refine hQ3.mono ?_; rintro r3 w3 ⟨rfl, R3⟩; refine Hid.out ?_)
  have hB3 := R3.blk HE.out HB.out (by decide) (by decide)
  have b0' := hB3.cell 0
  have b1' := hB3.cell 1
  simp at b0' b1'
  clear hQ3 b0 b1 b2 hB2 R2
  refine Lib.hid ?_
  go_wp2_with fail
  have hFW : Fr (fun k => some k = (Value.slice a' n' k').ownBlock) w (w1.alloc (.cells #[.int .u64 f.ref, .int .i64 f.t, .float .f64 f.v] 137)) := HF1.out.alloc _
  clear hB3 b0' b1' HF1
  generalize hWB : w1.alloc (.cells #[.int .u64 f.ref, .int .i64 f.t, .float .f64 f.v] 137) = WB at R3 HE HB hFW
  clear hWB
  generalize hf8 : w1.heap.size = f8 at HB hlt1
  have hO1 : ∀ k, k < w.heap.size → (k = w.heap.size ∨ some k = o1) → some k = (Value.slice a' n' k').ownBlock := by
    rintro k hk (rfl | h)
    · omega
    · rcases HO1.out with h1 | ⟨k2, h1, h2⟩
      · rw [h, h1]
      · rw [h1] at h; injection h with h; simp at h2; omega
  have HFW := Lib.hid hFW
  have HO := Lib.hid hO1
  clear hFW hO1 hf8
  go_loopw [29] (fun i wr => ∃ k : Nat, k ≤ n ∧ i = .int .i64 k ∧ Put WB w.heap.size o1 (xs ++ [2]) (encHdr f ++ ((f :: r).take k).flatMap (encSmp f)) wr) (fun i _ => n - (intOf i).toNat)
  case atStart => exact ⟨0, Nat.zero_le _, rfl, by simpa [encHdr] using R3⟩
  case round =>
    obtain ⟨k, hk, rfl, R⟩ := hrel
    by_cases hlt : k < n
    · obtain ⟨x, hx⟩ : ∃ x, (f :: r)[k]? = some x := ⟨_, List.getElem?_eq_getElem (by rw [List.length_cons, HN.out]; exact hlt)⟩
      have hwx := hwf x (List.mem_of_getElem? hx)
      have hFk : Fr (fun k => some k = (Value.slice a' n' k').ownBlock) w wr := HFW.out.trans R.fr HO.out
      have cc : ∀ j, j < 3 → ∀ u, (Smp.b x)[j]? = some u → wr.cell? ⟨g, off + (k * 3 + j), none⟩ = some u := fun j hj u hu => by
        rw [hFk.cell (p := ⟨g, off + (k * 3 + j), none⟩) hg.1 hg.2]
        exact HCELL.out (k * 3 + j) u (by rw [flat3 Smp.b (fun _ => rfl) (f :: r) k x hx j hj]; exact hu)
      have d0 : wr.cell? ⟨g, off + k * 3, none⟩ = some (.int .u64 x.ref) := cc 0 (by omega) _ rfl
      have d1 : wr.cell? ⟨g, off + k * 3 + 1, none⟩ = some (.int .i64 x.t) := cc 1 (by omega) _ rfl
      have d2 : wr.cell? ⟨g, off + k * 3 + 2, none⟩ = some (.float .f64 x.v) := cc 2 (by omega) _ rfl
      have hBk := R.blk HE.out HB.out (by decide) (by decide)
      have b0 := hBk.cell 0
      have b1 := hBk.cell 1
      simp at b0 b1
      have f8lt := hBk.lt
      have hyl : (encHdr f ++ ((f :: r).take k).flatMap (encSmp f)).length ≤ 16 + k * 28 := by
        have h1 := flatMap_len (encSmp f) 28 (encSmp_len f) ((f :: r).take k)
        have h2 : ((f :: r).take k).length ≤ k := List.length_take_le _ _
        have h3 : ((f :: r).take k).length * 28 ≤ k * 28 := Nat.mul_le_mul_right _ h2
        have h4 : (encHdr f).length = 16 := by simp [encHdr, Lib.beBytes_length]
        rw [List.length_append, h4]; omega
      have hn1 : n ≤ 1073741825 := by have := HN.out; omega
      have hxl : (xs ++ [(2 : UInt8)]).length = xs.length + 1 := by simp
      have RA := R.alloc (.cells #[.int .u64 x.ref, .int .i64 x.t, .float .f64 x.v] 137)
      have hQ1 := put_more2 RA (f := 183) (args := #[.pointer (some ⟨w.heap.size, 0, none⟩), .int .i64 (dRef f x)]) (zs := Lib.uvarint (Lib.zigzag (dRef f x))) (fun o2 he => putVarint64 _ o2 _ _ (wrap64_bd _).1 (wrap64_bd _).2 _ he (by rw [List.length_append, hxl]; omega))
      have hBx := Blk.new wr 137 #[.int .u64 x.ref, .int .i64 x.t, .float .f64 x.v]
      have HX := Lib.hid hx
      have HBX := Lib.hid hBx
      have HL := Lib.hid hyl
      have HXL := Lib.hid hxl
      have hl1 := zz_len (dRef f x) (wrap64_bd _).1 (wrap64_bd _).2
      have hl2 := zz_len (dT f x) (wrap64_bd _).1 (wrap64_bd _).2
      unfold dRef at hQ1
      clear hx hFk cc hBk hBx hyl hxl R3 HS
      go_wp2_with (go_at_call 183; refine hQ1.mono ?_; rintro rA wA ⟨rfl, RB, KB⟩; refine Hid.out ?_)
      have hBx := KB.out _ _ _ (by decide) (by decide) HBX.out
      have hBf := RB.blk HE.out HB.out (by decide) (by decide)
      have x0 := hBx.cell 0
      have x1 := hBx.cell 1
      have x2 := hBx.cell 2
      have y0 := hBf.cell 0
      have y1 := hBf.cell 1
      simp at x0 x1 x2 y0 y1
      have HBY := Lib.hid hBx
      have hQ2 := put_more2 RB (f := 183) (args := #[.pointer (some ⟨w.heap.size, 0, none⟩), .int .i64 (dT f x)]) (zs := Lib.uvarint (Lib.zigzag (dT f x))) (fun o2 he => putVarint64 _ o2 _ _ (wrap64_bd _).1 (wrap64_bd _).2 _ he (by have h1 := hl1; unfold dRef at h1; have := HL.out; rw [List.length_append, HXL.out, List.length_append]; omega))
      unfold dT at hQ2
      clear hQ1 d0 d1 d2 b0 b1 hBx hBf
      refine Lib.hid ?_
      go_wp2_with (go_at_call 183; refine hQ2.mono ?_; rintro rC wC ⟨rfl, RC, KC⟩; refine Hid.out ?_)
      have hBx := KC.out _ _ _ (by decide) (by decide) HBY.out
      have z2 := hBx.cell 2
      simp at z2
      have hr8 := run168
      have hQ3 := put_more2 RC (f := 181) (args := #[.pointer (some ⟨w.heap.size, 0, none⟩), .int .u64 x.v]) (zs := Lib.beBytes 8 x.v) (fun o2 he => putBE64 _ o2 _ _ hwx.2.2.2 _ he (by have h1 := hl1; unfold dRef at h1; have h2 := hl2; unfold dT at h2; have := HL.out; rw [List.length_append, HXL.out, List.length_append, List.length_append]; omega))
      clear hQ2 x0 x1 x2 y0 y1 hBx
      refine Lib.hid ?_
      go_wp2_with (go_at_call 181; refine hQ3.mono ?_; rintro rD wD ⟨rfl, RD, KD⟩)
      have RE : Put WB w.heap.size o1 (xs ++ [2]) (encHdr f ++ ((f :: r).take (k + 1)).flatMap (encSmp f)) wD := by
        rw [flatMap_take_succ' (encSmp f) (f :: r) k x HX.out]
        simpa [encSmp, dRef, dT, List.append_assoc] using RD
      have HRE := Lib.hid RE
      clear RE RD RC RB hQ3 z2 KB KC KD R
      go_wp2
      go_roundw
      case rel => exact ⟨k + 1, by omega, by go_num, HRE.out⟩
      case measure => simp [intOf]; omega
    · obtain rfl : k = n := by omega
      obtain ⟨oZ, hEZ, hfZ, hoZ⟩ := R
      have hG := encGet _ _ _ _ hEZ
      have HEZ := Lib.hid hEZ
      have HZ := Lib.hid hfZ
      clear hEZ hfZ R3 HS
      go_wp2_with (go_at_call 116; refine hG.mono ?_; rintro rr w2 ⟨v2, rfl, rfl, hown2, hv2⟩)
      go_ret
      refine ⟨v2, rfl, ?_, HFW.out.trans HZ.out HO.out, ?_⟩
      · have e1 : (f :: r).take k = f :: r := List.take_of_length_le (by rw [List.length_cons, HN.out]; exact Nat.le_refl _)
        rw [e1] at hown2
        simpa [encSamples, List.append_assoc] using hown2
      · rw [hv2]
        have hws := HFW.out.size
        rcases hoZ with h | ⟨k2, h, hk2⟩
        · rw [h]
          rcases HO1.out with h1 | ⟨k2, h1, hk2⟩
          · exact .inl h1
          · exact .inr ⟨k2, h1, by simp at hk2; omega⟩
        · exact .inr ⟨k2, h, by omega⟩

end Go.Proofs.YtbkookiigkckdaaGreatDoor

