/- Texts of this seat, merged: Dec, UvA. -/
import Derived.Test.YtbkookiigkckdaaGreatDoorK01
import Derived.Lib.VarintDec
import Derived.Lib.VarintBits
/- The Decbuf, its state and its methods Byte and Be64. -/
namespace Go.Proofs.YtbkookiigkckdaaGreatDoor
open Go.RowKit
set_option linter.unusedVariables false

/-- A Decbuf in block d, over the bytes of block g, of which 'rest' are still to be read, and its error. -/
def DecOk (ev : Value) (w : World) (d g : Nat) (cur : Array Value) (rest : List UInt8) (E : Value) : Prop :=
  ∃ off c, Blk w d 229 #[.slice (some ⟨g, off, none⟩) rest.length c, E] ∧ Blk w g 5 cur ∧ rest.length ≤ c ∧ (c ≤ 9223372036854775807 ∧ rest.length ≤ 1099511627776) ∧ (∀ j u, (bc rest)[j]? = some u → cur[off + j]? = some u) ∧ w.cell? ⟨2, 0, none⟩ = some ev

/-- The Decbuf's state: the bytes that are left, or that it has its error. -/
abbrev St := Option (List UInt8)
def Dec (te : TypeId) (pe : Value) (w : World) (d g : Nat) (cur : Array Value) : St → Prop
  | some rest => DecOk (.iface te pe) w d g cur rest .nilIface
  | none => ∃ rest, DecOk (.iface te pe) w d g cur rest (.iface te pe)

theorem DecOk.ne2 {ev : Value} {w : World} {d g : Nat} {cur : Array Value} {rest : List UInt8} {E : Value} {te : TypeId} {pe : Value} (h : DecOk (.iface te pe) w d g cur rest E) : d ≠ 2 := by
  obtain ⟨off, c, hb, _, _, _, _, hc⟩ := h
  rintro rfl
  have := hb.cell 0
  rw [hc] at this
  simp at this

/-- The Decbuf is written: what else there is stands. -/
theorem DecOk.move {te : TypeId} {pe : Value} {w : World} {d g : Nat} {cur : Array Value} {rest rest' : List UInt8} {E E' : Value} {w' : World} (h : DecOk (.iface te pe) w d g cur rest E) (hf : Fr (fun k => k = d) w w')
    {off' c' : Nat} (hb : Blk w' d 229 #[.slice (some ⟨g, off', none⟩) rest'.length c', E']) (hc : rest'.length ≤ c') (hm : c' ≤ 9223372036854775807 ∧ rest'.length ≤ 1099511627776) (hr : ∀ j u, (bc rest')[j]? = some u → cur[off' + j]? = some u) : DecOk (.iface te pe) w' d g cur rest' E' := by
  have h2 := h.ne2 (ev := .nilIface)
  obtain ⟨off, c, hb0, hg, _, _, _, hE⟩ := h
  refine ⟨off', c', hb, hg.fr hf (fun e => Blk.ne_ hg hb0 (by decide) e), hc, hm, hr, ?_⟩
  rw [hf.cell (p := ⟨2, 0, none⟩) (World.block_lt_of_cell? w _ hE) (fun e => h2 e.symm)]
  exact hE

theorem Fr.at_ (w : World) (d i : Nat) (u : Value) : Fr (fun k => k = d) w (w.setCell ⟨d, i, none⟩ u) := Fr.setCell (S := fun k => k = d) (Fr.refl _ w) (p := ⟨d, i, none⟩) (.inl rfl) u

def gByte : St → Nat × St
  | some (b :: r) => (b.toNat, some r)
  | _ => (0, none)

/-- A Decbuf's method: what it hands back and what is left. -/
def DecEnds (te : TypeId) (pe : Value) (w : World) (d g : Nat) (cur : Array Value) (v : Value) (st : St) (r : Ending) (w' : World) : Prop :=
  r = .returned v ∧ Dec te pe w' d g cur st ∧ Fr (fun k => k = d) w w'

set_option maxHeartbeats 400000 in
theorem decByte (te : TypeId) (pe : Value) (d g : Nat) (cur : Array Value) (st : St) (w : World) (h : Dec te pe w d g cur st) :
    Calls Tryz.prog 160 #[.pointer (some ⟨d, 0, none⟩)] w (DecEnds te pe w d g cur (.int .u8 (gByte st).1) (gByte st).2) := by
  match st, h with
  | none, ⟨rest, h⟩ =>
    have H := Lib.hid h
    obtain ⟨off, c, hb, hg, hl, hm, hr, hE⟩ := h
    have hc1 := hb.cell 1
    simp at hc1
    clear hb hr hg
    go_enter Tryz.func160, Tryz.ntmps160
    go_wp2
    go_ret
    exact ⟨rfl, ⟨_, H.out⟩, Fr.refl _ _⟩
  | some [], h =>
    have H := Lib.hid h
    obtain ⟨off, c, hb, hg, hl, hm, hr, hE⟩ := h
    have hc0 := hb.cell 0
    have hc1 := hb.cell 1
    simp at hc0 hc1
    have hf1 := hb.frozen 1
    have HB := Lib.hid hb
    clear hb hr hg
    go_enter Tryz.func160, Tryz.ntmps160
    go_wp2
    go_ret
    refine ⟨rfl, ⟨[], H.out.move (Fr.at_ _ _ _ _) (off' := off) (c' := c) ?_ (by simp) hm (by simp [bc, Lib.byteCells])⟩, Fr.at_ _ _ _ _⟩
    simpa using HB.out.set_ 1 (Value.iface te pe)
  | some (b :: rs), h =>
    have H := Lib.hid h
    obtain ⟨off, c, hb, hg, hl, hm, hr, hE⟩ := h
    have hc0 := hb.cell 0
    have hc1 := hb.cell 1
    simp at hc0 hc1
    have hf0 := hb.frozen 0
    have HB := Lib.hid hb
    have HR := Lib.hid hr
    have hb0 : w.cell? ⟨g, off, none⟩ = some (.int .u8 b.toNat) := by rw [hg.cell]; simpa [bc_get] using hr 0 (.int .u8 b.toNat) (by simp [bc_get])
    clear hb hr hg
    simp only [List.length_cons] at hl hm hc0
    by_cases hc : c = 1
    · subst hc
      have hl0 : rs.length = 0 := by omega
      go_enter Tryz.func160, Tryz.ntmps160
      go_wp2
      go_ret
      refine ⟨rfl, H.out.move (Fr.at_ _ _ _ _) (off' := off) (c' := 0) ?_ (by omega) (by omega) (fun j u hu => ?_), Fr.at_ _ _ _ _⟩
      · simpa [hl0] using HB.out.set_ 0 (.slice (some ⟨g, off, none⟩) 0 0)
      · rw [List.eq_nil_of_length_eq_zero hl0] at hu; simp [bc, Lib.byteCells] at hu
    · go_enter Tryz.func160, Tryz.ntmps160
      go_wp2
      go_ret
      refine ⟨rfl, H.out.move (Fr.at_ _ _ _ _) (off' := off + 1) (c' := c - 1) ?_ (by omega) (by omega) (fun j u hu => ?_), Fr.at_ _ _ _ _⟩
      · simpa using HB.out.set_ 0 (.slice (some ⟨g, off + 1, none⟩) rs.length (c - 1))
      · have := HR.out (j + 1) u (by simpa [bc_get] using hu)
        rw [← this]; congr 1; omega

/-- The Decbuf's slice, cut at its head. -/
theorem DecOk.cut {te : TypeId} {pe : Value} {w w1 : World} {d g : Nat} {cur : Array Value} {rest : List UInt8} {E : Value} {off c k off' n : Nat} (h : DecOk (.iface te pe) w d g cur rest E) (hf : Fr (fun k => k = d) w w1)
    (hb : Blk w1 d 229 #[.slice (some ⟨g, off, none⟩) n c, E]) (hr : ∀ j u, (bc rest)[j]? = some u → cur[off + j]? = some u) (hn : rest.length = n) (hl : n ≤ c) (hm : c ≤ 9223372036854775807 ∧ n ≤ 1099511627776) (hk : k ≤ n) (ho : off' = off + k ∨ c = k) :
    DecOk (.iface te pe) (w1.setCell ⟨d, 0, none⟩ (.slice (some ⟨g, off', none⟩) (n - k) (c - k))) d g cur (rest.drop k) E := by
  have hdl : (rest.drop k).length = n - k := by rw [List.length_drop, hn]
  refine h.move (hf.setCell (p := ⟨d, 0, none⟩) (.inl rfl) _) (off' := off') (c' := c - k) ?_ (by omega) (by omega) (fun j u hu => ?_)
  · have := hb.set_ 0 (.slice (some ⟨g, off', none⟩) (n - k) (c - k))
    rw [hdl]
    simpa using this
  · rcases ho with rfl | rfl
    · have := hr (k + j) u (by rw [← hu]; simp [bc_get])
      rw [← this]; congr 1; omega
    · rw [List.getElem?_eq_none (by rw [bc_len]; omega)] at hu
      cases hu

theorem Tryz.elem44' : Tryz.prog.elem 44 = 5 := by kernel_rfl
theorem Tryz.size5 (w : World) : (sizeOf 5).run Tryz.prog w = .ok 1 w := by kernel_rfl

/-- 's[k:]' of bytes: where it lies then. -/
theorem cut44 (g off n c k : Nat) (kd : IntKind) (x : Int) (hx : x = k) (hk : k ≤ n) : ∃ off', (off' = off + k ∨ c = k) ∧
    ∀ W, (Instr.slice 44 (.slice (some ⟨g, off, none⟩) n c) (some (.int kd x)) none none).run Tryz.prog W = .ok (.slice (some ⟨g, off', none⟩) (n - k) (c - k)) W := by
  subst hx
  have h5 := Tryz.size5
  have hr : ∀ W, (Instr.slice 44 (.slice (some ⟨g, off, none⟩) n c) (some (.int kd k)) none none).run Tryz.prog W = ((sizeOf 5).run Tryz.prog W).andThen fun s w => .ok (sliced (some ⟨g, off, none⟩) k n c s) w := fun W => by
    have h := run_slice_l (P := Tryz.prog) W 44 (some ⟨g, off, none⟩) n c (by rw [Tryz.elem44']; exact Tryz.underlying44) kd k (by omega) (by omega)
    rw [Tryz.elem44'] at h
    rw [h]
    simp only [Int.toNat_natCast]
  by_cases hc : c = k
  · refine ⟨off, .inr hc, fun W => ?_⟩
    rw [hr, h5]
    simp [Result.andThen, sliced, hc]
  · refine ⟨off + k, .inl rfl, fun W => ?_⟩
    rw [hr, h5]
    have : (⟨g, off, none⟩ : Addr).add k = ⟨g, off + k, none⟩ := by unfold Addr.add; split <;> simp_all
    simp [Result.andThen, sliced, hc, this]

theorem fr_of_below {S : Nat → Prop} {w w' : World} (h : Below w.heap.size w w') : Fr S w w' := Fr.ofBelow h

def gBe64 : St → Nat × St
  | some (b0 :: b1 :: b2 :: b3 :: b4 :: b5 :: b6 :: b7 :: r) => (Lib.beNat [b0, b1, b2, b3, b4, b5, b6, b7], some r)
  | _ => (0, none)

theorem gBe64_short {l : List UInt8} (h : l.length < 8) : gBe64 (some l) = (0, none) := by
  unfold gBe64
  split
  · rename_i e
    simp at e
    subst e
    simp at h
    omega
  · rfl

theorem eight {l : List UInt8} (h : 8 ≤ l.length) : ∃ b0 b1 b2 b3 b4 b5 b6 b7 r, l = b0 :: b1 :: b2 :: b3 :: b4 :: b5 :: b6 :: b7 :: r := by
  match l, h with
  | b0 :: b1 :: b2 :: b3 :: b4 :: b5 :: b6 :: b7 :: r, _ => exact ⟨b0, b1, b2, b3, b4, b5, b6, b7, r, rfl⟩
theorem gBe64_long {l : List UInt8} (h : 8 ≤ l.length) : gBe64 (some l) = (Lib.beNat (l.take 8), some (l.drop 8)) := by
  obtain ⟨b0, b1, b2, b3, b4, b5, b6, b7, r, rfl⟩ := eight h
  rfl

/-- BigEndian.Uint64 over the bytes of a Decbuf. -/
theorem be_read {w : World} {g off c : Nat} {cur : Array Value} {l : List UInt8} (hg : Blk w g 5 cur) (hr : ∀ j u, (bc l)[j]? = some u → cur[off + j]? = some u) (n : Nat) (hn : l.length = n) (h8 : 8 ≤ n) :
    Calls Tryz.prog 230 #[.agg #[], .slice (some ⟨g, off, none⟩) n c] w fun e w' => e = .returned (.int .u64 (Lib.beNat (l.take 8))) ∧ Below w.heap.size w w' := by
  obtain ⟨b0, b1, b2, b3, b4, b5, b6, b7, r, rfl⟩ := eight (l := l) (by omega)
  have hcell : ∀ j x, (b0 :: b1 :: b2 :: b3 :: b4 :: b5 :: b6 :: b7 :: r)[j]? = some x → w.cell? ⟨g, off + j, none⟩ = some (.int .u8 x.toNat) := fun j x hx => by
    have := hr j (.int .u8 x.toNat) (by rw [bc_get, hx]; rfl)
    rw [hg.cell, this]
  exact Tryz.binary_BE_Uint64 g off n c b0 b1 b2 b3 b4 b5 b6 b7 w h8 (by simpa using hcell 0 b0 rfl) (hcell 1 b1 rfl) (hcell 2 b2 rfl) (hcell 3 b3 rfl) (hcell 4 b4 rfl) (hcell 5 b5 rfl) (hcell 6 b6 rfl) (hcell 7 b7 rfl)

set_option maxHeartbeats 1000000 in
theorem decBe64 (te : TypeId) (pe : Value) (d g : Nat) (cur : Array Value) (st : St) (w : World) (h : Dec te pe w d g cur st) :
    Calls Tryz.prog 162 #[.pointer (some ⟨d, 0, none⟩)] w (DecEnds te pe w d g cur (.int .u64 (gBe64 st).1) (gBe64 st).2) := by
  rcases st with _ | l
  · obtain ⟨rest, h⟩ := h
    have H := Lib.hid h
    obtain ⟨off, c, hb, hg, hl, hm, hr, hE⟩ := h
    have hc1 := hb.cell 1
    simp at hc1
    clear hb hr hg
    go_enter Tryz.func162, Tryz.ntmps162
    go_wp2
    go_ret
    exact ⟨rfl, ⟨_, H.out⟩, Fr.refl _ _⟩
  · have h : DecOk (.iface te pe) w d g cur l .nilIface := h
    have H := Lib.hid h
    obtain ⟨off, c, hb, hg, hl, hm, hr, hE⟩ := h
    obtain ⟨n, hn⟩ : ∃ n, l.length = n := ⟨_, rfl⟩
    rw [hn] at hb hl
    have hc0 := hb.cell 0
    have hc1 := hb.cell 1
    simp at hc0 hc1
    have HB := Lib.hid hb
    have HR := Lib.hid hr
    have HN := Lib.hid hn
    by_cases h8 : 8 ≤ n
    · have hP := be_read (w := w.drew) (c := c) hg.drew hr n hn h8
      rw [gBe64_long (by omega)]
      simp only []
      obtain ⟨off', ho, hoff⟩ := cut44 g off n c 8 .i64 8 rfl h8
      clear hb hr hg hn
      have HO := Lib.hid ho
      clear ho
      generalize Lib.beNat (l.take 8) = x at hP ⊢
      go_enter Tryz.func162, Tryz.ntmps162
      go_wp2_with fail
      go_region_held3 (fun w' => w'.cell? ⟨d, 0, none⟩ = some (.slice (some ⟨g, off, none⟩) n c)) ((first | exact (hbw.cell (p := ⟨d, 0, none⟩) (by simpa using HB.out.lt)).trans (by simpa using hc0) | go_keep)) ((go_at_call 230; refine hP.mono ?_; rintro r1 w1 ⟨rfl, hbw⟩))
      have hf1 : Fr (fun k => k = d) w w1 := ((Fr.refl _ w).drew).trans (fr_of_below hbw) (fun _ _ s => s)
      have hB1 : Blk w1 d 229 #[.slice (some ⟨g, off, none⟩) n c, .nilIface] := (HB.out.drew).fr (fr_of_below (S := fun _ => False) hbw) (fun e => e)
      have hd0 := hB1.cell 0
      simp at hd0
      have hz0 := hB1.frozen 0
      have RR := Lib.hid (DecOk.cut H.out hf1 hB1 HR.out HN.out hl ⟨hm.1, HN.out ▸ hm.2⟩ h8 HO.out)
      have HF := Lib.hid (hf1.setCell (p := ⟨d, 0, none⟩) (.inl rfl) (.slice (some ⟨g, off', none⟩) (n - 8) (c - 8)))
      clear hB1 hf1 hP hbw hc0 hc1 hE
      go_wp2
      go_ret
      exact ⟨rfl, RR.out, HF.out⟩
    · rw [gBe64_short (by omega)]
      have hf1 := hb.frozen 1
      have h8' : (n : Int) < 8 := by omega
      clear hb hr hg hn
      go_enter Tryz.func162, Tryz.ntmps162
      go_wp2
      go_ret
      refine ⟨rfl, ⟨l, H.out.move (Fr.at_ _ _ _ _) (off' := off) (c' := c) ?_ (by rw [HN.out]; exact hl) hm HR.out⟩, Fr.at_ _ _ _ _⟩
      rw [HN.out]
      simpa using HB.out.set_ 1 (Value.iface te pe)

end Go.Proofs.YtbkookiigkckdaaGreatDoor

/- dennwc's Uvarint at every slice of bytes: what binary.Uvarint's plain function says where it reads a number; (0, m) with m at most 0 elsewhere. Printed by genuv.py. -/
namespace Go.Proofs.YtbkookiigkckdaaGreatDoor
open Go.RowKit
set_option linter.unusedVariables false
set_option linter.unusedSimpArgs false

/-- Two numbers are handed back, the world is as it was. -/
def Two (w : World) (p : Int → Int → Prop) (r : Ending) (w' : World) : Prop := ∃ x k, r = .returned (.tuple #[.int .u64 x, .int .i64 k]) ∧ p x k ∧ w = w'

set_option maxRecDepth 100000 in
set_option maxHeartbeats 2000000 in
theorem uvF0 (g o n c : Nat) (b0 : UInt8) (w : World) (h0 : w.cell? ⟨g, o, none⟩ = some (.int .u8 b0.toNat)) (hn : 10 ≤ n) (hn' : n ≤ 9223372036854775807)  (t0 : (b0.toNat : Int) < 128) :
    Calls Tryz.prog 231 #[.slice (some ⟨g, o, none⟩) n c] w (Two w fun x m => x = (b0.toNat : Int) ∧ m = 1) := by
  have hz : ((n : Int) == 0) = false := by simp; omega
  have q0 := b0.toNat_lt
  have i0 : (0 : Int) < (n : Int) := by omega
  go_enter Tryz.func231, Tryz.ntmps231
  go_wp2
  go_ret2
  refine ⟨_, _, rfl, ?_, rfl⟩
  exact ⟨rfl, rfl⟩

set_option maxRecDepth 100000 in
set_option maxHeartbeats 2000000 in
theorem uvF1 (g o n c : Nat) (b0 b1 : UInt8) (w : World) (h0 : w.cell? ⟨g, o, none⟩ = some (.int .u8 b0.toNat)) (h1 : w.cell? ⟨g, o + 1, none⟩ = some (.int .u8 b1.toNat)) (hn : 10 ≤ n) (hn' : n ≤ 9223372036854775807) (t0 : (128 : Int) ≤ b0.toNat) (t1 : (b1.toNat : Int) < 128) :
    Calls Tryz.prog 231 #[.slice (some ⟨g, o, none⟩) n c] w (Two w fun x m => x = ((b0.toNat : Int) % 128) + (b1.toNat : Int) * 128 ∧ m = 2) := by
  have hz : ((n : Int) == 0) = false := by simp; omega
  have q0 := b0.toNat_lt
  have i0 : (0 : Int) < (n : Int) := by omega
  have q1 := b1.toNat_lt
  have i1 : (1 : Int) < (n : Int) := by omega
  go_enter Tryz.func231, Tryz.ntmps231
  go_wp2
  go_ret2
  refine ⟨_, _, rfl, ?_, rfl⟩
  refine ⟨?_, rfl⟩
  simp (disch := omega) only [u64_wrap_id, u8_and127, u64_orv7, u64_orv14, u64_orv21, u64_orv28, u64_orv35, u64_orv42, u64_orv49, u64_orv56, u64_orv63]

set_option maxRecDepth 100000 in
set_option maxHeartbeats 2000000 in
theorem uvF2 (g o n c : Nat) (b0 b1 b2 : UInt8) (w : World) (h0 : w.cell? ⟨g, o, none⟩ = some (.int .u8 b0.toNat)) (h1 : w.cell? ⟨g, o + 1, none⟩ = some (.int .u8 b1.toNat)) (h2 : w.cell? ⟨g, o + 2, none⟩ = some (.int .u8 b2.toNat)) (hn : 10 ≤ n) (hn' : n ≤ 9223372036854775807) (t0 : (128 : Int) ≤ b0.toNat) (t1 : (128 : Int) ≤ b1.toNat) (t2 : (b2.toNat : Int) < 128) :
    Calls Tryz.prog 231 #[.slice (some ⟨g, o, none⟩) n c] w (Two w fun x m => x = ((b0.toNat : Int) % 128) + ((b1.toNat : Int) % 128) * 128 + (b2.toNat : Int) * 16384 ∧ m = 3) := by
  have hz : ((n : Int) == 0) = false := by simp; omega
  have q0 := b0.toNat_lt
  have i0 : (0 : Int) < (n : Int) := by omega
  have q1 := b1.toNat_lt
  have i1 : (1 : Int) < (n : Int) := by omega
  have q2 := b2.toNat_lt
  have i2 : (2 : Int) < (n : Int) := by omega
  go_enter Tryz.func231, Tryz.ntmps231
  go_wp2
  go_ret2
  refine ⟨_, _, rfl, ?_, rfl⟩
  refine ⟨?_, rfl⟩
  simp (disch := omega) only [u64_wrap_id, u8_and127, u64_orv7, u64_orv14, u64_orv21, u64_orv28, u64_orv35, u64_orv42, u64_orv49, u64_orv56, u64_orv63]

set_option maxRecDepth 100000 in
set_option maxHeartbeats 2000000 in
theorem uvF3 (g o n c : Nat) (b0 b1 b2 b3 : UInt8) (w : World) (h0 : w.cell? ⟨g, o, none⟩ = some (.int .u8 b0.toNat)) (h1 : w.cell? ⟨g, o + 1, none⟩ = some (.int .u8 b1.toNat)) (h2 : w.cell? ⟨g, o + 2, none⟩ = some (.int .u8 b2.toNat)) (h3 : w.cell? ⟨g, o + 3, none⟩ = some (.int .u8 b3.toNat)) (hn : 10 ≤ n) (hn' : n ≤ 9223372036854775807) (t0 : (128 : Int) ≤ b0.toNat) (t1 : (128 : Int) ≤ b1.toNat) (t2 : (128 : Int) ≤ b2.toNat) (t3 : (b3.toNat : Int) < 128) :
    Calls Tryz.prog 231 #[.slice (some ⟨g, o, none⟩) n c] w (Two w fun x m => x = ((b0.toNat : Int) % 128) + ((b1.toNat : Int) % 128) * 128 + ((b2.toNat : Int) % 128) * 16384 + (b3.toNat : Int) * 2097152 ∧ m = 4) := by
  have hz : ((n : Int) == 0) = false := by simp; omega
  have q0 := b0.toNat_lt
  have i0 : (0 : Int) < (n : Int) := by omega
  have q1 := b1.toNat_lt
  have i1 : (1 : Int) < (n : Int) := by omega
  have q2 := b2.toNat_lt
  have i2 : (2 : Int) < (n : Int) := by omega
  have q3 := b3.toNat_lt
  have i3 : (3 : Int) < (n : Int) := by omega
  go_enter Tryz.func231, Tryz.ntmps231
  go_wp2
  go_ret2
  refine ⟨_, _, rfl, ?_, rfl⟩
  refine ⟨?_, rfl⟩
  simp (disch := omega) only [u64_wrap_id, u8_and127, u64_orv7, u64_orv14, u64_orv21, u64_orv28, u64_orv35, u64_orv42, u64_orv49, u64_orv56, u64_orv63]

set_option maxRecDepth 100000 in
set_option maxHeartbeats 2000000 in
theorem uvF4 (g o n c : Nat) (b0 b1 b2 b3 b4 : UInt8) (w : World) (h0 : w.cell? ⟨g, o, none⟩ = some (.int .u8 b0.toNat)) (h1 : w.cell? ⟨g, o + 1, none⟩ = some (.int .u8 b1.toNat)) (h2 : w.cell? ⟨g, o + 2, none⟩ = some (.int .u8 b2.toNat)) (h3 : w.cell? ⟨g, o + 3, none⟩ = some (.int .u8 b3.toNat)) (h4 : w.cell? ⟨g, o + 4, none⟩ = some (.int .u8 b4.toNat)) (hn : 10 ≤ n) (hn' : n ≤ 9223372036854775807) (t0 : (128 : Int) ≤ b0.toNat) (t1 : (128 : Int) ≤ b1.toNat) (t2 : (128 : Int) ≤ b2.toNat) (t3 : (128 : Int) ≤ b3.toNat) (t4 : (b4.toNat : Int) < 128) :
    Calls Tryz.prog 231 #[.slice (some ⟨g, o, none⟩) n c] w (Two w fun x m => x = ((b0.toNat : Int) % 128) + ((b1.toNat : Int) % 128) * 128 + ((b2.toNat : Int) % 128) * 16384 + ((b3.toNat : Int) % 128) * 2097152 + (b4.toNat : Int) * 268435456 ∧ m = 5) := by
  have hz : ((n : Int) == 0) = false := by simp; omega
  have q0 := b0.toNat_lt
  have i0 : (0 : Int) < (n : Int) := by omega
  have q1 := b1.toNat_lt
  have i1 : (1 : Int) < (n : Int) := by omega
  have q2 := b2.toNat_lt
  have i2 : (2 : Int) < (n : Int) := by omega
  have q3 := b3.toNat_lt
  have i3 : (3 : Int) < (n : Int) := by omega
  have q4 := b4.toNat_lt
  have i4 : (4 : Int) < (n : Int) := by omega
  go_enter Tryz.func231, Tryz.ntmps231
  go_wp2
  go_ret2
  refine ⟨_, _, rfl, ?_, rfl⟩
  refine ⟨?_, rfl⟩
  simp (disch := omega) only [u64_wrap_id, u8_and127, u64_orv7, u64_orv14, u64_orv21, u64_orv28, u64_orv35, u64_orv42, u64_orv49, u64_orv56, u64_orv63]

set_option maxRecDepth 100000 in
set_option maxHeartbeats 2000000 in
theorem uvF5 (g o n c : Nat) (b0 b1 b2 b3 b4 b5 : UInt8) (w : World) (h0 : w.cell? ⟨g, o, none⟩ = some (.int .u8 b0.toNat)) (h1 : w.cell? ⟨g, o + 1, none⟩ = some (.int .u8 b1.toNat)) (h2 : w.cell? ⟨g, o + 2, none⟩ = some (.int .u8 b2.toNat)) (h3 : w.cell? ⟨g, o + 3, none⟩ = some (.int .u8 b3.toNat)) (h4 : w.cell? ⟨g, o + 4, none⟩ = some (.int .u8 b4.toNat)) (h5 : w.cell? ⟨g, o + 5, none⟩ = some (.int .u8 b5.toNat)) (hn : 10 ≤ n) (hn' : n ≤ 9223372036854775807) (t0 : (128 : Int) ≤ b0.toNat) (t1 : (128 : Int) ≤ b1.toNat) (t2 : (128 : Int) ≤ b2.toNat) (t3 : (128 : Int) ≤ b3.toNat) (t4 : (128 : Int) ≤ b4.toNat) (t5 : (b5.toNat : Int) < 128) :
    Calls Tryz.prog 231 #[.slice (some ⟨g, o, none⟩) n c] w (Two w fun x m => x = ((b0.toNat : Int) % 128) + ((b1.toNat : Int) % 128) * 128 + ((b2.toNat : Int) % 128) * 16384 + ((b3.toNat : Int) % 128) * 2097152 + ((b4.toNat : Int) % 128) * 268435456 + (b5.toNat : Int) * 34359738368 ∧ m = 6) := by
  have hz : ((n : Int) == 0) = false := by simp; omega
  have q0 := b0.toNat_lt
  have i0 : (0 : Int) < (n : Int) := by omega
  have q1 := b1.toNat_lt
  have i1 : (1 : Int) < (n : Int) := by omega
  have q2 := b2.toNat_lt
  have i2 : (2 : Int) < (n : Int) := by omega
  have q3 := b3.toNat_lt
  have i3 : (3 : Int) < (n : Int) := by omega
  have q4 := b4.toNat_lt
  have i4 : (4 : Int) < (n : Int) := by omega
  have q5 := b5.toNat_lt
  have i5 : (5 : Int) < (n : Int) := by omega
  go_enter Tryz.func231, Tryz.ntmps231
  go_wp2
  go_ret2
  refine ⟨_, _, rfl, ?_, rfl⟩
  refine ⟨?_, rfl⟩
  simp (disch := omega) only [u64_wrap_id, u8_and127, u64_orv7, u64_orv14, u64_orv21, u64_orv28, u64_orv35, u64_orv42, u64_orv49, u64_orv56, u64_orv63]

end Go.Proofs.YtbkookiigkckdaaGreatDoor

