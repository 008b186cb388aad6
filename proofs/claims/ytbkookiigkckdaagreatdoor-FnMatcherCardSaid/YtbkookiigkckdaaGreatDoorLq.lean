/- The labels' buffer, written from its end: encodeSize, marshalLabelToSizedBuffer, marshalLabelsToSizedBuffer. -/
import Derived.Test.YtbkookiigkckdaaGreatDoorLp
import Derived.Lib.LazyBuf
import Derived.Lib.BufferWrite
namespace Go.Proofs.YtbkookiigkckdaaGreatDoor
open Go.RowKit
set_option linter.unusedVariables false
set_option linter.unusedSimpArgs false

/-- The block g has n bytes; those from i on are t. -/
def Buf (w : World) (g n i : Nat) (t : List UInt8) : Prop := i ≤ n ∧ ∃ cs : Array Value, Blk w g 5 cs ∧ cs.size = n ∧ cs.toList.drop i = bc t

theorem Buf.put {w : World} {g n i : Nat} {t : List UInt8} (h : Buf w g n i t) (o : Nat) (vs : List UInt8) (hi : o + vs.length = i) : Buf (w.setCells g o (bc vs)) g n o (vs ++ t) := by
  obtain ⟨hin, cs, hb, hs, hd⟩ := h
  refine ⟨by omega, _, setCells_blk (bc vs) o w cs hb, by rw [setAll_size]; exact hs, ?_⟩
  have hl : (bc vs).length = vs.length := bc_len vs
  rw [setAll_toList _ _ _ (by rw [hl]; omega), hl, hi, hd, List.append_assoc, List.drop_left' (by simp; omega), bc_append]

theorem Buf.fr {w w' : World} {g n i : Nat} {t : List UInt8} {S : Nat → Prop} (h : Buf w g n i t) (hf : Fr S w w') (hn : ¬ S g) : Buf w' g n i t := by
  obtain ⟨hin, cs, hb, hs, hd⟩ := h
  exact ⟨hin, cs, hb.fr hf hn, hs, hd⟩

/-- A length, as it is written. -/
def lenBytes (n : Nat) : List UInt8 := if n < 255 then [UInt8.ofNat n] else [255, UInt8.ofNat n, UInt8.ofNat (n / 256), UInt8.ofNat (n / 65536)]
theorem four_cells (w : World) (g o v : Nat) : w.setCells g o (bc [255, UInt8.ofNat v, UInt8.ofNat (v / 256), UInt8.ofNat (v / 65536)]) =
    ((((w.setCell ⟨g, o, none⟩ (.int .u8 255)).setCell ⟨g, o + 1, none⟩ (.int .u8 ((v : Int) % 256))).setCell ⟨g, o + 2, none⟩ (.int .u8 ((v : Int) / 256 % 256))).setCell ⟨g, o + 3, none⟩ (.int .u8 ((v : Int) / 65536 % 256))) := by
  have e (x : Nat) : ((UInt8.ofNat x).toNat : Int) = (x : Int) % 256 := by simp
  have e1 := e v
  have e2 : ((UInt8.ofNat (v / 256)).toNat : Int) = (v : Int) / 256 % 256 := by rw [e]; simp
  have e3 : ((UInt8.ofNat (v / 65536)).toNat : Int) = (v : Int) / 65536 % 256 := by rw [e]; simp
  rw [← e1, ← e2, ← e3]
  rfl
theorem lenBytes_len (n : Nat) : (lenBytes n).length = lenSize n := by
  unfold lenBytes lenSize
  split <;> rfl
def labBytes (p : Lab) : List UInt8 := lenBytes p.1.size ++ (p.1.data.toList ++ (lenBytes p.2.size ++ p.2.data.toList))
theorem labBytes_len (p : Lab) : (labBytes p).length = labSize p := by
  have h1 : p.1.data.toList.length = p.1.size := by rw [← Lib.size_eq]
  have h2 : p.2.data.toList.length = p.2.size := by rw [← Lib.size_eq]
  simp only [labBytes, List.length_append, lenBytes_len, labSize, h1, h2]
  omega
def labsBytes (l : List Lab) : List UInt8 := l.flatMap labBytes

def SizeEnds (g n o : Nat) (t : List UInt8) (w : World) (r : Ending) (w' : World) : Prop :=
  r = .returned (.int .i64 o) ∧ Buf w' g n o t ∧ Fr (fun k => k = g) w w'

set_option maxRecDepth 100000 in
set_option maxHeartbeats 1000000 in
theorem encodeSize_any (g n i m c v o : Nat) (t : List UInt8) (w : World) (h : Buf w g n i t) (him : i ≤ m) (hmn : m ≤ n) (hm : m ≤ 1099511627776) (hv : v ≤ 16777216) (ho : o + lenSize v = i) :
    Calls Tryz.prog 272 #[.slice (some ⟨g, 0, none⟩) m c, .int .i64 i, .int .i64 v] w (SizeEnds g n o (lenBytes v ++ t) w) := by
  obtain ⟨hin, cs, hb, hs, hd⟩ := h
  have B0 : Buf w g n i t := ⟨hin, cs, hb, hs, hd⟩
  by_cases hlt : v < 255
  · have e1 : lenSize v = 1 := if_pos hlt
    rw [e1] at ho
    subst ho
    have e2 : lenBytes v = [UInt8.ofNat v] := if_pos hlt
    rw [e2]
    have h1 : (v : Int) < 255 := by omega
    have hwr : (v : Int) % 256 = v := by omega
    have hc : (w.cell? ⟨g, o, none⟩).isSome = true := by rw [hb.cell]; simp; omega
    obtain ⟨cv, hcv⟩ := Option.isSome_iff_exists.mp hc
    have hf := hb.frozen o
    have HB := B0.put o [UInt8.ofNat v] rfl
    have hF : Fr (fun k => k = g) w (w.setCell ⟨g, o, none⟩ (.int .u8 (UInt8.ofNat v).toNat)) := Fr.at_ w g o _
    have e3 : ((UInt8.ofNat v).toNat : Int) = v := by simp; omega
    have HB2 : Buf (w.setCell ⟨g, o, none⟩ (.int .u8 (UInt8.ofNat v).toNat)) g n o ([UInt8.ofNat v] ++ t) := HB
    rw [e3] at HB2 hF
    clear HB B0 hd hs
    go_enter Tryz.func272, Tryz.ntmps272
    go_wp2
    go_ret
    exact ⟨rfl, HB2, hF⟩
  · have e1 : lenSize v = 4 := if_neg hlt
    rw [e1] at ho
    subst ho
    have e2 : lenBytes v = [255, UInt8.ofNat v, UInt8.ofNat (v / 256), UInt8.ofNat (v / 65536)] := if_neg hlt
    rw [e2]
    have h1 : ¬ (v : Int) < 255 := by omega
    have hcell : ∀ j, j < 4 → (w.cell? ⟨g, o + j, none⟩).isSome = true := fun j hj => by rw [hb.cell]; simp; omega
    obtain ⟨c0, hc0⟩ := Option.isSome_iff_exists.mp (show (w.cell? ⟨g, o, none⟩).isSome = true from hcell 0 (by omega))
    obtain ⟨c1, hc1⟩ := Option.isSome_iff_exists.mp (hcell 1 (by omega))
    obtain ⟨c2, hc2⟩ := Option.isSome_iff_exists.mp (hcell 2 (by omega))
    obtain ⟨c3, hc3⟩ := Option.isSome_iff_exists.mp (hcell 3 (by omega))
    have hf0 := hb.frozen o
    have hf1 := hb.frozen (o + 1)
    have hf2 := hb.frozen (o + 2)
    have hf3 := hb.frozen (o + 3)
    have HB := Lib.hid (B0.put o [255, UInt8.ofNat v, UInt8.ofNat (v / 256), UInt8.ofNat (v / 65536)] rfl)
    have HF := Lib.hid ((Fr.refl (fun k => k = g) w).setCells (b := g) (.inl rfl) o (bc [255, UInt8.ofNat v, UInt8.ofNat (v / 256), UInt8.ofNat (v / 65536)]))
    clear B0 hd hs hcell
    go_enter Tryz.func272, Tryz.ntmps272
    go_wp2
    go_ret
    rw [← four_cells]
    exact ⟨rfl, HB.out, HF.out⟩

/-- One region of the marshal: a text is copied to its place. -/
theorem buf_copy {w : World} {g n o : Nat} {t : List UInt8} (s : ByteArray) (h : Buf w g n (o + s.size) t) :
    Buf (w.setCells g o (s.data.toList.map fun x => Value.int .u8 (x.toNat : Int))) g n o (s.data.toList ++ t) ∧ Fr (fun k => k = g) w (w.setCells g o (s.data.toList.map fun x => Value.int .u8 (x.toNat : Int))) :=
  ⟨h.put o s.data.toList (by rw [← Lib.size_eq]), (Fr.refl (fun k => k = g) w).setCells (b := g) (.inl rfl) o _⟩
theorem buf_some {w : World} {g n i : Nat} {t : List UInt8} (h : Buf w g n i t) (j : Nat) (hj : j < i) : (w.cell? ⟨g, j, none⟩).isSome = true ∧ w.frozen? ⟨g, j, none⟩ = false := by
  obtain ⟨hin, cs, hb, hs, hd⟩ := h
  exact ⟨by rw [hb.cell]; simp; omega, hb.frozen j⟩

theorem run_copy_buf (w : World) (g o off' dl cc : Nat) (s : ByteArray) (hle : s.size ≤ dl) (hs : off' = o ∨ s.size = 0)
    (hc : ∀ j, j < o + s.size → (w.cell? ⟨g, j, none⟩).isSome = true ∧ w.frozen? ⟨g, j, none⟩ = false) :
    (Builtin.copy_ #[44, 9] 3 #[.slice (some ⟨g, off', none⟩) dl cc, .string s]).run Tryz.prog w = .ok (goInt s.size) (w.setCells g o (s.data.toList.map fun x => Value.int .u8 (x.toNat : Int))) := by
  by_cases h0 : s.size = 0
  · have h := Lib.run_copy_empty_string (P := Tryz.prog) w 44 9 3 5 (some ⟨g, off', none⟩) dl cc s Tryz.underlying44 (by kernel_rfl) h0
    rw [h]
    have e : s.data.toList = [] := List.eq_nil_of_length_eq_zero (by rw [← Lib.size_eq]; exact h0)
    rw [e, h0]
    rfl
  · obtain rfl : off' = o := by omega
    exact run_copy_string w 44 9 3 5 g off' dl cc s Tryz.underlying44 Tryz.size5 hle (fun j hj => (hc (off' + j) (by omega)).1) (fun j hj => (hc (off' + j) (by omega)).2)

theorem step_copy_buf {ops : Array Oper} {o : Oper} {a : Act} {w : World} {K : Act → World → Prop} {Q : Exit → Act → World → Prop} {E : Prop}
    (hg : o.guard = none) (d x : Operand) (hty : o.type = 3) (hop : o.op = Op.call { callee := Callee.builtin Builtin.copy, args := #[d, x], argTypes := #[44, 9] })
    (g off' p dl cc : Nat) (s : ByteArray) (hd : a.eval d = .slice (some ⟨g, off', none⟩) dl cc) (hle : s.size ≤ dl) (hx : a.eval x = .string s) (hs : off' = p ∨ s.size = 0)
    (hc : ∀ j, j < p + s.size → (w.cell? ⟨g, j, none⟩).isSome = true ∧ w.frozen? ⟨g, j, none⟩ = false)
    (hK : K (a.put o.dst (goInt s.size)) (w.setCells g p (s.data.toList.map fun x => Value.int .u8 (x.toNat : Int)))) :
    if Region.wanted o (yielded ops a.tmps) = true then Oper.wp Tryz.prog o a w K Q else E := by
  have hw : Region.wanted o (yielded ops a.tmps) = true := by simp [Region.wanted, hg]
  rw [if_pos hw]
  have hrun := run_copy_buf w g p off' dl cc s hle hs hc
  unfold Oper.wp
  simp [execOp, hop, resolve, invoke, builtin, hd, hx, hty, hrun, Result.andThen]
  exact hK

set_option maxRecDepth 100000 in
set_option maxHeartbeats 1000000 in
theorem marshalLabel_any (b off : Nat) (p : Lab) (g n i c o : Nat) (t : List UInt8) (w : World) (c0 : w.cell? ⟨b, off, none⟩ = some (.string p.1)) (c1 : w.cell? ⟨b, off + 1, none⟩ = some (.string p.2)) (hbg : b ≠ g) (hbw : b < w.heap.size)
    (h : Buf w g n i t) (hn : n ≤ 1099511627776) (hic : i ≤ c) (h1 : p.1.size ≤ 1048576) (h2 : p.2.size ≤ 1048576) (ho : o + labSize p = i) :
    Calls Tryz.prog 249 #[.pointer (some ⟨b, off, none⟩), .slice (some ⟨g, 0, none⟩) i c] w fun r w' => r = .returned (.int .i64 (labSize p)) ∧ Buf w' g n o (labBytes p ++ t) ∧ Fr (fun k => k = g) w w' := by
  obtain ⟨x, y⟩ := p
  simp only [labSize] at *
  have hin := h.1
  have lx : lenSize x.size ≤ 4 := by unfold lenSize; split <;> omega
  have ly : lenSize y.size ≤ 4 := by unfold lenSize; split <;> omega
  have hy := buf_some h
  obtain ⟨p1, hp1⟩ : ∃ p1, p1 + y.size = i := ⟨i - y.size, by omega⟩
  subst hp1
  obtain ⟨off1, ho1, hoff1⟩ := cut44 g 0 (p1 + y.size) c p1 .i64 p1 rfl (by omega)
  rw [Nat.add_sub_cancel_left] at hoff1
  have ho1' : off1 = p1 ∨ y.size = 0 := by omega
  have HB := Lib.hid h
  clear h
  go_enter Tryz.func249, Tryz.ntmps249
  go_wp2
  go_region_law (refine step_copy_buf rfl (.tmp 17) (.tmp 21) rfl rfl g off1 p1 y.size (c - p1) y (by simp [Act.eval, Act.put]) (Nat.le_refl _) (by simp [Act.eval, Act.put]) ho1' (fun j hj => hy j hj) ?_)
  have HB1 : Buf w g n (p1 + y.size) t := HB.out
  obtain ⟨HC1, HF1⟩ := buf_copy y HB1
  have HC1' : Buf (w.drew.setCells g p1 (y.data.toList.map fun x => Value.int .u8 (x.toNat : Int))) g n p1 (y.data.toList ++ t) := (buf_copy y (w := w.drew) HB1).1
  have HF1' : Fr (fun k => k = g) w (w.drew.setCells g p1 (y.data.toList.map fun x => Value.int .u8 (x.toNat : Int))) := (Fr.drew (Fr.refl (fun k => k = g) w)).setCells (b := g) (.inl rfl) _ _
  generalize w.drew.setCells g p1 (y.data.toList.map fun x => Value.int .u8 (x.toNat : Int)) = w1 at HC1' HF1' ⊢
  clear HC1 HF1 HB1
  obtain ⟨p3, hp2⟩ : ∃ p3, (p3 + x.size) + lenSize y.size = p1 := ⟨p1 - lenSize y.size - x.size, by omega⟩
  obtain ⟨off2, ho2, hoff2⟩ := cut44 g 0 (p1 + y.size) c p3 .i64 p3 rfl (by omega)
  have hE1 := encodeSize_any g n p1 (p1 + y.size) c y.size (p3 + x.size) (y.data.toList ++ t) w1 HC1' (by omega) (by omega) (by omega) (by omega) hp2
  have c01 : w1.cell? ⟨b, off, none⟩ = some (.string x) := (HF1'.cell (p := ⟨b, off, none⟩) hbw hbg).trans c0
  have c11 : w1.cell? ⟨b, off + 1, none⟩ = some (.string y) := (HF1'.cell (p := ⟨b, off + 1, none⟩) hbw hbg).trans c1
  have HFh := Lib.hid HF1'
  clear HC1' HF1' c0 c1 hy hoff1
  have hbw1 : b < w1.heap.size := Nat.lt_of_lt_of_le hbw HFh.out.size
  go_wp2_with (go_at_call 272; refine hE1.mono ?_; rintro r w2 ⟨rfl, hB2, hF2⟩; have c02 : w2.cell? ⟨b, off, none⟩ = some (.string x) := (hF2.cell (p := ⟨b, off, none⟩) hbw1 hbg).trans c01)
  have hz2 := buf_some hB2
  have ho2' : off2 = p3 ∨ x.size = 0 := by omega
  have hlx : x.size ≤ p1 + y.size - p3 := by omega
  have HB2 := Lib.hid hB2
  have HF2 := Lib.hid hF2
  clear hE1 ho2 ho1 c01 c11 hB2 hF2
  go_region_law (refine step_copy_buf rfl (.tmp 40) (.tmp 44) rfl rfl g off2 p3 (p1 + y.size - p3) (c - p3) x (by simp [Act.eval, Act.put]) hlx (by simp [Act.eval, Act.put]) ho2' (fun j hj => hz2 j hj) ?_)
  have HC3 : Buf (w2.drew.setCells g p3 (x.data.toList.map fun x => Value.int .u8 (x.toNat : Int))) g n p3 (x.data.toList ++ (lenBytes y.size ++ (y.data.toList ++ t))) := (buf_copy x (w := w2.drew) HB2.out).1
  have HF3 : Fr (fun k => k = g) w2 (w2.drew.setCells g p3 (x.data.toList.map fun x => Value.int .u8 (x.toNat : Int))) := (Fr.drew (Fr.refl (fun k => k = g) w2)).setCells (b := g) (.inl rfl) _ _
  generalize w2.drew.setCells g p3 (x.data.toList.map fun x => Value.int .u8 (x.toNat : Int)) = w3 at HC3 HF3 ⊢
  have hoo : o + lenSize x.size = p3 := by omega
  have hE3 := encodeSize_any g n p3 (p1 + y.size) c x.size o _ w3 HC3 (by omega) (by omega) (by omega) (by omega) hoo
  have hbw3 : b < w3.heap.size := Nat.lt_of_lt_of_le (Nat.lt_of_lt_of_le hbw1 HF2.out.size) HF3.size
  have c03 : w3.cell? ⟨b, off, none⟩ = some (.string x) := (HF3.cell (p := ⟨b, off, none⟩) (Nat.lt_of_lt_of_le hbw1 HF2.out.size) hbg).trans c02
  have HF3h := Lib.hid HF3
  have HO := Lib.hid ho
  clear HC3 HF3 c02 hz2 hoff2
  go_wp2_with (go_at_call 272; refine hE3.mono ?_; rintro r w4 ⟨rfl, hB4, hF4⟩)
  go_ret
  refine ⟨?_, ?_, ((HFh.out.same HF2.out).same HF3h.out).same hF4⟩
  · have h := HO.out
    show Ending.returned (Value.int .i64 ((p1 : Int) + y.size - o)) = _
    congr 2
    omega
  · simp only [labBytes, List.append_assoc]
    exact hB4

theorem labsSize_drop (l : List Lab) (k : Nat) (x : Lab) (h : l[k]? = some x) : labsSize (l.drop k) = labSize x + labsSize (l.drop (k + 1)) := by
  obtain ⟨hk, rfl⟩ := List.getElem?_eq_some_iff.mp h
  rw [List.drop_eq_getElem_cons hk]
  rfl
theorem labsBytes_drop (l : List Lab) (k : Nat) (x : Lab) (h : l[k]? = some x) : labsBytes (l.drop k) = labBytes x ++ labsBytes (l.drop (k + 1)) := by
  obtain ⟨hk, rfl⟩ := List.getElem?_eq_some_iff.mp h
  rw [List.drop_eq_getElem_cons hk]
  rfl
theorem labsBytes_len (l : List Lab) : (labsBytes l).length = labsSize l := by
  induction l with
  | nil => rfl
  | cons x l ih =>
    show (labBytes x ++ labsBytes l).length = labSize x + labsSize l
    rw [List.length_append, labBytes_len, ih]

set_option maxRecDepth 100000 in
set_option maxHeartbeats 2000000 in
theorem marshalLabels_any (P : Nat → Prop) (v : Value) (l : List Lab) (g n c : Nat) (w : World) (h : Sl P w v 2 l.length (l.flatMap labc)) (hg : ¬ P g) (hl : l.length ≤ 4096) (hs : ∀ p ∈ l, p.1.size ≤ 1048576 ∧ p.2.size ≤ 1048576)
    (hB : Buf w g n n []) (hn : n = labsSize l) (hnc : n ≤ c) (hcm : c ≤ 1099511627776) :
    Calls Tryz.prog 209 #[v, .slice (some ⟨g, 0, none⟩) n c] w fun r w' => r = .returned (.int .i64 n) ∧ Buf w' g n 0 (labsBytes l) ∧ Fr (fun k => k = g) w w' := by
  obtain ⟨A, cc, rfl, hlen, hnc', hr⟩ := h
  obtain ⟨m, hm⟩ : ∃ m, l.length = m := ⟨_, rfl⟩
  rw [hm] at hr hnc' hl ⊢
  have HN := Lib.hid hm
  have HR := Lib.hid hr
  have HS := Lib.hid hs
  have HT := Lib.hid hn
  have HBB := Lib.hid hB
  clear hm hr hlen hs hn hB
  go_enter Tryz.func209, Tryz.ntmps209
  go_wp2
  go_loopw [5, 6] (fun vi vk wr => ∃ (i k : Nat), k ≤ m ∧ vk = .int .i64 ((k : Int) - 1) ∧ vi = .int .i64 i ∧ Hid (labsSize (l.drop k) + i = n) ∧ i ≤ n ∧ Hid (Buf wr g n i (labsBytes (l.drop k))) ∧ Hid (Fr (fun k => k = g) w wr)) (fun _ vk _ => (intOf vk + 1).toNat)
  case atStart =>
    refine ⟨n, m, Nat.le_refl _, rfl, rfl, ?_, Nat.le_refl _, ?_, Lib.hid (Fr.refl _ _)⟩
    · have e : l.drop m = [] := List.drop_of_length_le (by rw [HN.out]; exact Nat.le_refl _)
      rw [e]
      exact Lib.hid (Nat.zero_add _)
    · have e : l.drop m = [] := List.drop_of_length_le (by rw [HN.out]; exact Nat.le_refl _)
      rw [e]
      exact HBB
  case round =>
    obtain ⟨i, k, hk, rfl, rfl, HM, hin, HB, HF⟩ := hrel
    rcases k with _ | k
    · go_wp2
      go_ret
      have h0 : i = 0 ∧ labsBytes (l.drop 0) = labsBytes l := by
        have h := HM.out
        have h2 := HT.out
        have e : l.drop 0 = l := rfl
        rw [e] at h
        exact ⟨by omega, by rw [e]⟩
      obtain ⟨rfl, e⟩ := h0
      have hB := HB.out
      rw [e] at hB
      exact ⟨by simp, hB, HF.out⟩
    · obtain ⟨x, hx⟩ : ∃ x, l[k]? = some x := ⟨_, List.getElem?_eq_getElem (by rw [HN.out]; omega)⟩
      obtain ⟨b, off, rfl, hPb, hcell⟩ := HR.out (by omega)
      have e1 : ((k + 1 : Nat) : Int) - 1 = k := by omega
      rw [e1]
      have cc0 : ∀ j, j < 2 → ∀ u, (labc x)[j]? = some u → wr.cell? ⟨b, off + (k * 2 + j), none⟩ = some u ∧ b < w.heap.size := fun j hj u hu => by
        have := hcell (k * 2 + j) u (by rw [flat2 labc (fun _ => rfl) l k x hx j hj]; exact hu)
        have hlt := World.block_lt_of_cell? w _ this
        rw [HF.out.cell (p := ⟨b, off + (k * 2 + j), none⟩) hlt (fun e => hg (by have : b = g := e; rw [← this]; exact hPb))]
        exact ⟨this, hlt⟩
      have c0 : wr.cell? ⟨b, off + k * 2, none⟩ = some (.string x.1) := (cc0 0 (by omega) _ rfl).1
      have c1 : wr.cell? ⟨b, off + k * 2 + 1, none⟩ = some (.string x.2) := (cc0 1 (by omega) _ rfl).1
      have hbw : b < wr.heap.size := Nat.lt_of_lt_of_le (cc0 0 (by omega) _ rfl).2 HF.out.size
      have hbg : b ≠ g := fun e => hg (by rw [← e]; exact hPb)
      have hxs := HS.out x (List.mem_of_getElem? hx)
      have hd1 := labsSize_drop l k x hx
      have hd2 := labsBytes_drop l k x hx
      have hM := HM.out
      obtain ⟨o, ho⟩ : ∃ o, o + labSize x = i := by
        have h1 : labsSize (l.drop k) ≤ labsSize l := by
          have : ∀ (l : List Lab) (k : Nat), labsSize (l.drop k) ≤ labsSize l := by
            intro l
            induction l with
            | nil => intro k; simp
            | cons a l ih =>
              intro k
              cases k with
              | zero => exact Nat.le_refl _
              | succ k => exact Nat.le_trans (ih k) (by show labsSize l ≤ labSize a + labsSize l; omega)
          exact this l k
        have h2 := HT.out
        exact ⟨i - labSize x, by omega⟩
      have hC := marshalLabel_any b (off + k * 2) x g n i c o (labsBytes (l.drop (k + 1))) wr.drew c0 c1 hbg hbw HB.out (by omega) (by omega) hxs.1 hxs.2 ho
      rw [← hd2] at hC
      have HO := Lib.hid (show labsSize (l.drop k) + o = n by omega)
      have HK := Lib.hid ho
      have hz : labSize x ≤ i := by omega
      have hzm := labSize_le x hxs.1 hxs.2
      generalize labSize x = z at hC ho hz hzm
      have ho2 : (i : Int) - z = o := by omega
      clear c0 c1 cc0 hcell hx hd1 hd2 hM hxs HM ho HK
      go_wp2
      go_region_with (go_at_call 249; refine hC.mono ?_; rintro r w1 ⟨rfl, hB1, hF1⟩)
      all_goals go_wp2
      all_goals go_roundw
      all_goals first
        | exact ⟨o, k, by omega, rfl, by first | rfl | go_num | (congr 1; omega), HO, by omega, Lib.hid hB1, Lib.hid (HF.out.same ((Fr.drew (Fr.refl _ _)).same hF1))⟩
        | (show ((k : Int) - 1 + 1).toNat < ((k : Int) + 1).toNat; omega)
end Go.Proofs.YtbkookiigkckdaaGreatDoor
