/- Texts of this seat, merged: Lq, Sort, Ls, Ln. -/
import Derived.Test.YtbkookiigkckdaaGreatDoorK09
import Derived.Lib.LazyBuf
import Derived.Lib.BufferWrite
import Derived.Shelf.SlSortCmp.SmallK
import Derived.Shelf.SlSortCmp.NoneTotal
import Derived.Ground.SlsfProg
import Derived.Test.YtbkookiigkckdaaGreatDoorProg
import Derived.Laws.IdiomStrings
import Derived.Deep.OwnRows
/- The labels' buffer, written from its end: encodeSize, marshalLabelToSizedBuffer, marshalLabelsToSizedBuffer. -/
namespace Go.Proofs.YtbkookiigkckdaaGreatDoor
open Go.RowKit
set_option linter.unusedVariables false
set_option linter.unusedSimpArgs false

/-- The block g has n bytes; those from i on are t. -/
def Buf (w : World) (g n i : Nat) (t : List UInt8) : Prop := i ≤ n ∧ ∃ cs : Array Value, Blk w g 5 cs ∧ cs.size = n ∧ cs.toList.drop i = bc t

theorem Buf.put {w : World} {g n i : Nat} {t : List UInt8} (h : Buf w g n i t) (o : Nat) (vs : List UInt8) (hi : o + vs.length = i) : Buf (w.setCells g o (bc vs)) g n o (vs ++ t) := by
  obtain ⟨hin, cs, hb, hs, hd⟩ := h
  refine ⟨by omega, _, setCells_blk (bc vs) o w cs hb, by rw [setAll_size]; exact hs, ?_⟩
  have hl : (bc vs).length = vs.length := bc_len vs
  rw [setAll_toList _ _ _ (by rw [hl]; omega), hl, hi, hd, List.append_assoc, List.drop_left' (by simp; omega), bc_append]

theorem Buf.fr {w w' : World} {g n i : Nat} {t : List UInt8} {S : Nat → Prop} (h : Buf w g n i t) (hf : Fr S w w') (hn : ¬ S g) : Buf w' g n i t := by
  obtain ⟨hin, cs, hb, hs, hd⟩ := h
  exact ⟨hin, cs, hb.fr hf hn, hs, hd⟩

/-- A length, as it is written. -/
def lenBytes (n : Nat) : List UInt8 := if n < 255 then [UInt8.ofNat n] else [255, UInt8.ofNat n, UInt8.ofNat (n / 256), UInt8.ofNat (n / 65536)]
theorem four_cells (w : World) (g o v : Nat) : w.setCells g o (bc [255, UInt8.ofNat v, UInt8.ofNat (v / 256), UInt8.ofNat (v / 65536)]) =
    ((((w.setCell ⟨g, o, none⟩ (.int .u8 255)).setCell ⟨g, o + 1, none⟩ (.int .u8 ((v : Int) % 256))).setCell ⟨g, o + 2, none⟩ (.int .u8 ((v : Int) / 256 % 256))).setCell ⟨g, o + 3, none⟩ (.int .u8 ((v : Int) / 65536 % 256))) := by
  have e (x : Nat) : ((UInt8.ofNat x).toNat : Int) = (x : Int) % 256 := by simp
  have e1 := e v
  have e2 : ((UInt8.ofNat (v / 256)).toNat : Int) = (v : Int) / 256 % 256 := by rw [e]; simp
  have e3 : ((UInt8.ofNat (v / 65536)).toNat : Int) = (v : Int) / 65536 % 256 := by rw [e]; simp
  rw [← e1, ← e2, ← e3]
  rfl
theorem lenBytes_len (n : Nat) : (lenBytes n).length = lenSize n := by
  unfold lenBytes lenSize
  split <;> rfl
def labBytes (p : Lab) : List UInt8 := lenBytes p.1.size ++ (p.1.data.toList ++ (lenBytes p.2.size ++ p.2.data.toList))
theorem labBytes_len (p : Lab) : (labBytes p).length = labSize p := by
  have h1 : p.1.data.toList.length = p.1.size := by rw [← Lib.size_eq]
  have h2 : p.2.data.toList.length = p.2.size := by rw [← Lib.size_eq]
  simp only [labBytes, List.length_append, lenBytes_len, labSize, h1, h2]
  omega
def labsBytes (l : List Lab) : List UInt8 := l.flatMap labBytes

def SizeEnds (g n o : Nat) (t : List UInt8) (w : World) (r : Ending) (w' : World) : Prop :=
  r = .returned (.int .i64 o) ∧ Buf w' g n o t ∧ Fr (fun k => k = g) w w'

set_option maxRecDepth 100000 in
set_option maxHeartbeats 1000000 in
theorem encodeSize_any (g n i m c v o : Nat) (t : List UInt8) (w : World) (h : Buf w g n i t) (him : i ≤ m) (hmn : m ≤ n) (hm : m ≤ 1099511627776) (hv : v ≤ 16777216) (ho : o + lenSize v = i) :
    Calls Tryz.prog 272 #[.slice (some ⟨g, 0, none⟩) m c, .int .i64 i, .int .i64 v] w (SizeEnds g n o (lenBytes v ++ t) w) := by
  obtain ⟨hin, cs, hb, hs, hd⟩ := h
  have B0 : Buf w g n i t := ⟨hin, cs, hb, hs, hd⟩
  by_cases hlt : v < 255
  · have e1 : lenSize v = 1 := if_pos hlt
    rw [e1] at ho
    subst ho
    have e2 : lenBytes v = [UInt8.ofNat v] := if_pos hlt
    rw [e2]
    have h1 : (v : Int) < 255 := by omega
    have hwr : (v : Int) % 256 = v := by omega
    have hc : (w.cell? ⟨g, o, none⟩).isSome = true := by rw [hb.cell]; simp; omega
    obtain ⟨cv, hcv⟩ := Option.isSome_iff_exists.mp hc
    have hf := hb.frozen o
    have HB := B0.put o [UInt8.ofNat v] rfl
    have hF : Fr (fun k => k = g) w (w.setCell ⟨g, o, none⟩ (.int .u8 (UInt8.ofNat v).toNat)) := Fr.at_ w g o _
    have e3 : ((UInt8.ofNat v).toNat : Int) = v := by simp; omega
    have HB2 : Buf (w.setCell ⟨g, o, none⟩ (.int .u8 (UInt8.ofNat v).toNat)) g n o ([UInt8.ofNat v] ++ t) := HB
    rw [e3] at HB2 hF
    clear HB B0 hd hs
    go_enter Tryz.func272, Tryz.ntmps272
    go_wp2
    go_ret
    exact ⟨rfl, HB2, hF⟩
  · have e1 : lenSize v = 4 := if_neg hlt
    rw [e1] at ho
    subst ho
    have e2 : lenBytes v = [255, UInt8.ofNat v, UInt8.ofNat (v / 256), UInt8.ofNat (v / 65536)] := if_neg hlt
    rw [e2]
    have h1 : ¬ (v : Int) < 255 := by omega
    have hcell : ∀ j, j < 4 → (w.cell? ⟨g, o + j, none⟩).isSome = true := fun j hj => by rw [hb.cell]; simp; omega
    obtain ⟨c0, hc0⟩ := Option.isSome_iff_exists.mp (show (w.cell? ⟨g, o, none⟩).isSome = true from hcell 0 (by omega))
    obtain ⟨c1, hc1⟩ := Option.isSome_iff_exists.mp (hcell 1 (by omega))
    obtain ⟨c2, hc2⟩ := Option.isSome_iff_exists.mp (hcell 2 (by omega))
    obtain ⟨c3, hc3⟩ := Option.isSome_iff_exists.mp (hcell 3 (by omega))
    have hf0 := hb.frozen o
    have hf1 := hb.frozen (o + 1)
    have hf2 := hb.frozen (o + 2)
    have hf3 := hb.frozen (o + 3)
    have HB := Lib.hid (B0.put o [255, UInt8.ofNat v, UInt8.ofNat (v / 256), UInt8.ofNat (v / 65536)] rfl)
    have HF := Lib.hid ((Fr.refl (fun k => k = g) w).setCells (b := g) (.inl rfl) o (bc [255, UInt8.ofNat v, UInt8.ofNat (v / 256), UInt8.ofNat (v / 65536)]))
    clear B0 hd hs hcell
    go_enter Tryz.func272, Tryz.ntmps272
    go_wp2
    go_ret
    rw [← four_cells]
    exact ⟨rfl, HB.out, HF.out⟩

/-- One region of the marshal: a text is copied to its place. -/
theorem buf_copy {w : World} {g n o : Nat} {t : List UInt8} (s : ByteArray) (h : Buf w g n (o + s.size) t) :
    Buf (w.setCells g o (s.data.toList.map fun x => Value.int .u8 (x.toNat : Int))) g n o (s.data.toList ++ t) ∧ Fr (fun k => k = g) w (w.setCells g o (s.data.toList.map fun x => Value.int .u8 (x.toNat : Int))) :=
  ⟨h.put o s.data.toList (by rw [← Lib.size_eq]), (Fr.refl (fun k => k = g) w).setCells (b := g) (.inl rfl) o _⟩
theorem buf_some {w : World} {g n i : Nat} {t : List UInt8} (h : Buf w g n i t) (j : Nat) (hj : j < i) : (w.cell? ⟨g, j, none⟩).isSome = true ∧ w.frozen? ⟨g, j, none⟩ = false := by
  obtain ⟨hin, cs, hb, hs, hd⟩ := h
  exact ⟨by rw [hb.cell]; simp; omega, hb.frozen j⟩

theorem run_copy_buf (w : World) (g o off' dl cc : Nat) (s : ByteArray) (hle : s.size ≤ dl) (hs : off' = o ∨ s.size = 0)
    (hc : ∀ j, j < o + s.size → (w.cell? ⟨g, j, none⟩).isSome = true ∧ w.frozen? ⟨g, j, none⟩ = false) :
    (Builtin.copy_ #[44, 9] 3 #[.slice (some ⟨g, off', none⟩) dl cc, .string s]).run Tryz.prog w = .ok (goInt s.size) (w.setCells g o (s.data.toList.map fun x => Value.int .u8 (x.toNat : Int))) := by
  by_cases h0 : s.size = 0
  · have h := Lib.run_copy_empty_string (P := Tryz.prog) w 44 9 3 5 (some ⟨g, off', none⟩) dl cc s Tryz.underlying44 (by kernel_rfl) h0
    rw [h]
    have e : s.data.toList = [] := List.eq_nil_of_length_eq_zero (by rw [← Lib.size_eq]; exact h0)
    rw [e, h0]
    rfl
  · obtain rfl : off' = o := by omega
    exact run_copy_string w 44 9 3 5 g off' dl cc s Tryz.underlying44 Tryz.size5 hle (fun j hj => (hc (off' + j) (by omega)).1) (fun j hj => (hc (off' + j) (by omega)).2)

theorem step_copy_buf {ops : Array Oper} {o : Oper} {a : Act} {w : World} {K : Act → World → Prop} {Q : Exit → Act → World → Prop} {E : Prop}
    (hg : o.guard = none) (d x : Operand) (hty : o.type = 3) (hop : o.op = Op.call { callee := Callee.builtin Builtin.copy, args := #[d, x], argTypes := #[44, 9] })
    (g off' p dl cc : Nat) (s : ByteArray) (hd : a.eval d = .slice (some ⟨g, off', none⟩) dl cc) (hle : s.size ≤ dl) (hx : a.eval x = .string s) (hs : off' = p ∨ s.size = 0)
    (hc : ∀ j, j < p + s.size → (w.cell? ⟨g, j, none⟩).isSome = true ∧ w.frozen? ⟨g, j, none⟩ = false)
    (hK : K (a.put o.dst (goInt s.size)) (w.setCells g p (s.data.toList.map fun x => Value.int .u8 (x.toNat : Int)))) :
    if Region.wanted o (yielded ops a.tmps) = true then Oper.wp Tryz.prog o a w K Q else E := by
  have hw : Region.wanted o (yielded ops a.tmps) = true := by simp [Region.wanted, hg]
  rw [if_pos hw]
  have hrun := run_copy_buf w g p off' dl cc s hle hs hc
  unfold Oper.wp
  simp [execOp, hop, resolve, invoke, builtin, hd, hx, hty, hrun, Result.andThen]
  exact hK

set_option maxRecDepth 100000 in
set_option maxHeartbeats 1000000 in
theorem marshalLabel_any (b off : Nat) (p : Lab) (g n i c o : Nat) (t : List UInt8) (w : World) (c0 : w.cell? ⟨b, off, none⟩ = some (.string p.1)) (c1 : w.cell? ⟨b, off + 1, none⟩ = some (.string p.2)) (hbg : b ≠ g) (hbw : b < w.heap.size)
    (h : Buf w g n i t) (hn : n ≤ 1099511627776) (hic : i ≤ c) (h1 : p.1.size ≤ 1048576) (h2 : p.2.size ≤ 1048576) (ho : o + labSize p = i) :
    Calls Tryz.prog 249 #[.pointer (some ⟨b, off, none⟩), .slice (some ⟨g, 0, none⟩) i c] w fun r w' => r = .returned (.int .i64 (labSize p)) ∧ Buf w' g n o (labBytes p ++ t) ∧ Fr (fun k => k = g) w w' := by
  obtain ⟨x, y⟩ := p
  simp only [labSize] at *
  have hin := h.1
  have lx : lenSize x.size ≤ 4 := by unfold lenSize; split <;> omega
  have ly : lenSize y.size ≤ 4 := by unfold lenSize; split <;> omega
  have hy := buf_some h
  obtain ⟨p1, hp1⟩ : ∃ p1, p1 + y.size = i := ⟨i - y.size, by omega⟩
  subst hp1
  obtain ⟨off1, ho1, hoff1⟩ := cut44 g 0 (p1 + y.size) c p1 .i64 p1 rfl (by omega)
  rw [Nat.add_sub_cancel_left] at hoff1
  have ho1' : off1 = p1 ∨ y.size = 0 := by omega
  have HB := Lib.hid h
  clear h
  go_enter Tryz.func249, Tryz.ntmps249
  go_wp2
  go_region_law (refine step_copy_buf rfl (.tmp 17) (.tmp 21) rfl rfl g off1 p1 y.size (c - p1) y (by simp [Act.eval, Act.put]) (Nat.le_refl _) (by simp [Act.eval, Act.put]) ho1' (fun j hj => hy j hj) ?_)
  have HB1 : Buf w g n (p1 + y.size) t := HB.out
  obtain ⟨HC1, HF1⟩ := buf_copy y HB1
  have HC1' : Buf (w.drew.setCells g p1 (y.data.toList.map fun x => Value.int .u8 (x.toNat : Int))) g n p1 (y.data.toList ++ t) := (buf_copy y (w := w.drew) HB1).1
  have HF1' : Fr (fun k => k = g) w (w.drew.setCells g p1 (y.data.toList.map fun x => Value.int .u8 (x.toNat : Int))) := (Fr.drew (Fr.refl (fun k => k = g) w)).setCells (b := g) (.inl rfl) _ _
  generalize w.drew.setCells g p1 (y.data.toList.map fun x => Value.int .u8 (x.toNat : Int)) = w1 at HC1' HF1' ⊢
  clear HC1 HF1 HB1
  obtain ⟨p3, hp2⟩ : ∃ p3, (p3 + x.size) + lenSize y.size = p1 := ⟨p1 - lenSize y.size - x.size, by omega⟩
  obtain ⟨off2, ho2, hoff2⟩ := cut44 g 0 (p1 + y.size) c p3 .i64 p3 rfl (by omega)
  have hE1 := encodeSize_any g n p1 (p1 + y.size) c y.size (p3 + x.size) (y.data.toList ++ t) w1 HC1' (by omega) (by omega) (by omega) (by omega) hp2
  have c01 : w1.cell? ⟨b, off, none⟩ = some (.string x) := (HF1'.cell (p := ⟨b, off, none⟩) hbw hbg).trans c0
  have c11 : w1.cell? ⟨b, off + 1, none⟩ = some (.string y) := (HF1'.cell (p := ⟨b, off + 1, none⟩) hbw hbg).trans c1
  have HFh := Lib.hid HF1'
  clear HC1' HF1' c0 c1 hy hoff1
  have hbw1 : b < w1.heap.size := Nat.lt_of_lt_of_le hbw HFh.out.size
  go_wp2_with (go_at_call 272; refine hE1.mono ?_; rintro r w2 ⟨rfl, hB2, hF2⟩; have c02 : w2.cell? ⟨b, off, none⟩ = some (.string x) := (hF2.cell (p := ⟨b, off, none⟩) hbw1 hbg).trans c01)
  have hz2 := buf_some hB2
  have ho2' : off2 = p3 ∨ x.size = 0 := by omega
  have hlx : x.size ≤ p1 + y.size - p3 := by omega
  have HB2 := Lib.hid hB2
  have HF2 := Lib.hid hF2
  clear hE1 ho2 ho1 c01 c11 hB2 hF2
  go_region_law (refine step_copy_buf rfl (.tmp 40) (.tmp 44) rfl rfl g off2 p3 (p1 + y.size - p3) (c - p3) x (by simp [Act.eval, Act.put]) hlx (by simp [Act.eval, Act.put]) ho2' (fun j hj => hz2 j hj) ?_)
  have HC3 : Buf (w2.drew.setCells g p3 (x.data.toList.map fun x => Value.int .u8 (x.toNat : Int))) g n p3 (x.data.toList ++ (lenBytes y.size ++ (y.data.toList ++ t))) := (buf_copy x (w := w2.drew) HB2.out).1
  have HF3 : Fr (fun k => k = g) w2 (w2.drew.setCells g p3 (x.data.toList.map fun x => Value.int .u8 (x.toNat : Int))) := (Fr.drew (Fr.refl (fun k => k = g) w2)).setCells (b := g) (.inl rfl) _ _
  generalize w2.drew.setCells g p3 (x.data.toList.map fun x => Value.int .u8 (x.toNat : Int)) = w3 at HC3 HF3 ⊢
  have hoo : o + lenSize x.size = p3 := by omega
  have hE3 := encodeSize_any g n p3 (p1 + y.size) c x.size o _ w3 HC3 (by omega) (by omega) (by omega) (by omega) hoo
  have hbw3 : b < w3.heap.size := Nat.lt_of_lt_of_le (Nat.lt_of_lt_of_le hbw1 HF2.out.size) HF3.size
  have c03 : w3.cell? ⟨b, off, none⟩ = some (.string x) := (HF3.cell (p := ⟨b, off, none⟩) (Nat.lt_of_lt_of_le hbw1 HF2.out.size) hbg).trans c02
  have HF3h := Lib.hid HF3
  have HO := Lib.hid ho
  clear HC3 HF3 c02 hz2 hoff2
  go_wp2_with (go_at_call 272; refine hE3.mono ?_; rintro r w4 ⟨rfl, hB4, hF4⟩)
  go_ret
  refine ⟨?_, ?_, ((HFh.out.same HF2.out).same HF3h.out).same hF4⟩
  · have h := HO.out
    show Ending.returned (Value.int .i64 ((p1 : Int) + y.size - o)) = _
    congr 2
    omega
  · simp only [labBytes, List.append_assoc]
    exact hB4

theorem labsSize_drop (l : List Lab) (k : Nat) (x : Lab) (h : l[k]? = some x) : labsSize (l.drop k) = labSize x + labsSize (l.drop (k + 1)) := by
  obtain ⟨hk, rfl⟩ := List.getElem?_eq_some_iff.mp h
  rw [List.drop_eq_getElem_cons hk]
  rfl
theorem labsBytes_drop (l : List Lab) (k : Nat) (x : Lab) (h : l[k]? = some x) : labsBytes (l.drop k) = labBytes x ++ labsBytes (l.drop (k + 1)) := by
  obtain ⟨hk, rfl⟩ := List.getElem?_eq_some_iff.mp h
  rw [List.drop_eq_getElem_cons hk]
  rfl
theorem labsBytes_len (l : List Lab) : (labsBytes l).length = labsSize l := by
  induction l with
  | nil => rfl
  | cons x l ih =>
    show (labBytes x ++ labsBytes l).length = labSize x + labsSize l
    rw [List.length_append, labBytes_len, ih]

set_option maxRecDepth 100000 in
set_option maxHeartbeats 2000000 in
theorem marshalLabels_any (P : Nat → Prop) (v : Value) (l : List Lab) (g n c : Nat) (w : World) (h : Sl P w v 2 l.length (l.flatMap labc)) (hg : ¬ P g) (hl : l.length ≤ 4096) (hs : ∀ p ∈ l, p.1.size ≤ 1048576 ∧ p.2.size ≤ 1048576)
    (hB : Buf w g n n []) (hn : n = labsSize l) (hnc : n ≤ c) (hcm : c ≤ 1099511627776) :
    Calls Tryz.prog 209 #[v, .slice (some ⟨g, 0, none⟩) n c] w fun r w' => r = .returned (.int .i64 n) ∧ Buf w' g n 0 (labsBytes l) ∧ Fr (fun k => k = g) w w' := by
  obtain ⟨A, cc, rfl, hlen, hnc', hr⟩ := h
  obtain ⟨m, hm⟩ : ∃ m, l.length = m := ⟨_, rfl⟩
  rw [hm] at hr hnc' hl ⊢
  have HN := Lib.hid hm
  have HR := Lib.hid hr
  have HS := Lib.hid hs
  have HT := Lib.hid hn
  have HBB := Lib.hid hB
  clear hm hr hlen hs hn hB
  go_enter Tryz.func209, Tryz.ntmps209
  go_wp2
  go_loopw [5, 6] (fun vi vk wr => ∃ (i k : Nat), k ≤ m ∧ vk = .int .i64 ((k : Int) - 1) ∧ vi = .int .i64 i ∧ Hid (labsSize (l.drop k) + i = n) ∧ i ≤ n ∧ Hid (Buf wr g n i (labsBytes (l.drop k))) ∧ Hid (Fr (fun k => k = g) w wr)) (fun _ vk _ => (intOf vk + 1).toNat)
  case atStart =>
    refine ⟨n, m, Nat.le_refl _, rfl, rfl, ?_, Nat.le_refl _, ?_, Lib.hid (Fr.refl _ _)⟩
    · have e : l.drop m = [] := List.drop_of_length_le (by rw [HN.out]; exact Nat.le_refl _)
      rw [e]
      exact Lib.hid (Nat.zero_add _)
    · have e : l.drop m = [] := List.drop_of_length_le (by rw [HN.out]; exact Nat.le_refl _)
      rw [e]
      exact HBB
  case round =>
    obtain ⟨i, k, hk, rfl, rfl, HM, hin, HB, HF⟩ := hrel
    rcases k with _ | k
    · go_wp2
      go_ret
      have h0 : i = 0 ∧ labsBytes (l.drop 0) = labsBytes l := by
        have h := HM.out
        have h2 := HT.out
        have e : l.drop 0 = l := rfl
        rw [e] at h
        exact ⟨by omega, by rw [e]⟩
      obtain ⟨rfl, e⟩ := h0
      have hB := HB.out
      rw [e] at hB
      exact ⟨by simp, hB, HF.out⟩
    · obtain ⟨x, hx⟩ : ∃ x, l[k]? = some x := ⟨_, List.getElem?_eq_getElem (by rw [HN.out]; omega)⟩
      obtain ⟨b, off, rfl, hPb, hcell⟩ := HR.out (by omega)
      have e1 : ((k + 1 : Nat) : Int) - 1 = k := by omega
      rw [e1]
      have cc0 : ∀ j, j < 2 → ∀ u, (labc x)[j]? = some u → wr.cell? ⟨b, off + (k * 2 + j), none⟩ = some u ∧ b < w.heap.size := fun j hj u hu => by
        have := hcell (k * 2 + j) u (by rw [flat2 labc (fun _ => rfl) l k x hx j hj]; exact hu)
        have hlt := World.block_lt_of_cell? w _ this
        rw [HF.out.cell (p := ⟨b, off + (k * 2 + j), none⟩) hlt (fun e => hg (by have : b = g := e; rw [← this]; exact hPb))]
        exact ⟨this, hlt⟩
      have c0 : wr.cell? ⟨b, off + k * 2, none⟩ = some (.string x.1) := (cc0 0 (by omega) _ rfl).1
      have c1 : wr.cell? ⟨b, off + k * 2 + 1, none⟩ = some (.string x.2) := (cc0 1 (by omega) _ rfl).1
      have hbw : b < wr.heap.size := Nat.lt_of_lt_of_le (cc0 0 (by omega) _ rfl).2 HF.out.size
      have hbg : b ≠ g := fun e => hg (by rw [← e]; exact hPb)
      have hxs := HS.out x (List.mem_of_getElem? hx)
      have hd1 := labsSize_drop l k x hx
      have hd2 := labsBytes_drop l k x hx
      have hM := HM.out
      obtain ⟨o, ho⟩ : ∃ o, o + labSize x = i := by
        have h1 : labsSize (l.drop k) ≤ labsSize l := by
          have : ∀ (l : List Lab) (k : Nat), labsSize (l.drop k) ≤ labsSize l := by
            intro l
            induction l with
            | nil => intro k; simp
            | cons a l ih =>
              intro k
              cases k with
              | zero => exact Nat.le_refl _
              | succ k => exact Nat.le_trans (ih k) (by show labsSize l ≤ labSize a + labsSize l; omega)
          exact this l k
        have h2 := HT.out
        exact ⟨i - labSize x, by omega⟩
      have hC := marshalLabel_any b (off + k * 2) x g n i c o (labsBytes (l.drop (k + 1))) wr.drew c0 c1 hbg hbw HB.out (by omega) (by omega) hxs.1 hxs.2 ho
      rw [← hd2] at hC
      have HO := Lib.hid (show labsSize (l.drop k) + o = n by omega)
      have HK := Lib.hid ho
      have hz : labSize x ≤ i := by omega
      have hzm := labSize_le x hxs.1 hxs.2
      generalize labSize x = z at hC ho hz hzm
      have ho2 : (i : Int) - z = o := by omega
      clear c0 c1 cc0 hcell hx hd1 hd2 hM hxs HM ho HK
      go_wp2
      go_region_with (go_at_call 249; refine hC.mono ?_; rintro r w1 ⟨rfl, hB1, hF1⟩)
      all_goals go_wp2
      all_goals go_roundw
      all_goals first
        | exact ⟨o, k, by omega, rfl, by first | rfl | go_num | (congr 1; omega), HO, by omega, Lib.hid hB1, Lib.hid (HF.out.same ((Fr.drew (Fr.refl _ _)).same hF1))⟩
        | (show ((k : Int) - 1 + 1).toNat < ((k : Int) + 1).toNat; omega)
end Go.Proofs.YtbkookiigkckdaaGreatDoor

/-
  DERIVED: THE SHELF's CONTRACTS AT THIS DUMP, IN PLAIN WORDS (tools/lay-plain.mjs out of 'YtbkookiigkckdaaGreatDoorSortS.lean', which tools/lay-shelf.mjs wrote): THE SAME DECLARATIONS UNDER THE SAME NAMES: 'import', 'namespace', 'open', 'def', 'theorem' AND NOTHING ELSE: no command of the shelf's: FOR A HAND-IN. Each laying: the table of numbers ('.._ren') and one theorem, a field a fact of the dump's own or the kernel's comparison; each contract: ONE APPLICATION.
-/
namespace Go.Proofs
open Go.Shelf
def Tryz.sortLab_ren : Go.Shelf.Ren := ⟨fun | 6 => 205 | 15 => 157 | 14 => 246 | 28 => 228 | 29 => 229 | 20 => 262 | 21 => 263 | 22 => 264 | 23 => 265 | 24 => 266 | 25 => 267 | 26 => 268 | 27 => 269 | 46 => 289 | 47 => 258 | 48 => 259 | 49 => 290 | 50 => 291 | 57 => 299 | n => n, fun | 22 => 115 | 24 => 108 | 25 => 326 | 3 => 3 | 39 => 268 | 0 => 0 | 53 => 317 | 55 => 111 | 4 => 4 | 46 => 347 | 45 => 346 | 50 => 86 | 5 => 5 | 9 => 9 | 66 => 383 | 70 => 386 | 76 => 401 | 77 => 261 | n => n, fun | n => n⟩
theorem Tryz.sortLab : Go.Proofs.SlLaysF0.n6 Tryz.prog Tryz.sortLab_ren := {
  mixed := by kernel_rfl
  f6 := ⟨Tryz.f205.name, by decide, Tryz.func205.trans (congrArg some (by kernel_rfl))⟩
  f14 := ⟨Tryz.f246.name, by decide, Tryz.func246.trans (congrArg some (by kernel_rfl))⟩
  f15 := Tryz.func157.trans (congrArg some (by kernel_rfl))
  f20 := ⟨Tryz.f262.name, by decide, Tryz.func262.trans (congrArg some (by kernel_rfl))⟩
  f21 := ⟨Tryz.f263.name, by decide, Tryz.func263.trans (congrArg some (by kernel_rfl))⟩
  f22 := ⟨Tryz.f264.name, by decide, Tryz.func264.trans (congrArg some (by kernel_rfl))⟩
  f23 := ⟨Tryz.f265.name, by decide, Tryz.func265.trans (congrArg some (by kernel_rfl))⟩
  f24 := ⟨Tryz.f266.name, by decide, Tryz.func266.trans (congrArg some (by kernel_rfl))⟩
  f25 := ⟨Tryz.f267.name, by decide, Tryz.func267.trans (congrArg some (by kernel_rfl))⟩
  f26 := ⟨Tryz.f268.name, by decide, Tryz.func268.trans (congrArg some (by kernel_rfl))⟩
  f27 := ⟨Tryz.f269.name, by decide, Tryz.func269.trans (congrArg some (by kernel_rfl))⟩
  f28 := Tryz.func228.trans (congrArg some (by kernel_rfl))
  f29 := Tryz.func229.trans (congrArg some (by kernel_rfl))
  f46 := ⟨Tryz.f289.name, by decide, Tryz.func289.trans (congrArg some (by kernel_rfl))⟩
  f47 := Tryz.func258.trans (congrArg some (by kernel_rfl))
  f48 := Tryz.func259.trans (congrArg some (by kernel_rfl))
  f49 := ⟨Tryz.f290.name, by decide, Tryz.func290.trans (congrArg some (by kernel_rfl))⟩
  f50 := ⟨Tryz.f291.name, by decide, Tryz.func291.trans (congrArg some (by kernel_rfl))⟩
  f57 := ⟨Tryz.f299.name, by decide, Tryz.func299.trans (congrArg some (by kernel_rfl))⟩
  t0 := Tryz.underlying0
  a0 := Tryz.isAgg0
  z0 := Tryz.sizeOf0
  v0 := Tryz.zeroValue0
  t3 := Tryz.underlying3
  a3 := Tryz.isAgg3
  z3 := Tryz.sizeOf3
  v3 := Tryz.zeroValue3
  t4 := Tryz.underlying4
  a4 := Tryz.isAgg4
  z4 := Tryz.sizeOf4
  v4 := Tryz.zeroValue4
  t5 := Tryz.underlying5
  a5 := Tryz.isAgg5
  z5 := Tryz.sizeOf5
  v5 := Tryz.zeroValue5
  t9 := Tryz.underlying9
  a9 := Tryz.isAgg9
  z9 := Tryz.sizeOf9
  v9 := Tryz.zeroValue9
  t22 := Tryz.underlying115
  a22 := Tryz.isAgg115
  z22 := Tryz.sizeOf115
  v22 := Tryz.zeroValue115
  t25 := Tryz.underlying326
  a25 := Tryz.isAgg326
  z25 := Tryz.sizeOf326
  v25 := Tryz.zeroValue326
  t39 := Tryz.underlying268
  a39 := Tryz.isAgg268
  z39 := Tryz.sizeOf268
  v39 := Tryz.zeroValue268
  t45 := Tryz.underlying346
  a45 := Tryz.isAgg346
  z45 := Tryz.sizeOf346
  v45 := Tryz.zeroValue346
  t46 := Tryz.underlying347
  a46 := Tryz.isAgg347
  z46 := Tryz.sizeOf347
  v46 := Tryz.zeroValue347
  t50 := Tryz.underlying86
  a50 := Tryz.isAgg86
  z50 := Tryz.sizeOf86
  v50 := Tryz.zeroValue86
  t53 := Tryz.underlying317
  a53 := Tryz.isAgg317
  z53 := Tryz.sizeOf317
  v53 := Tryz.zeroValue317
  t55 := Tryz.underlying111
  a55 := Tryz.isAgg111
  z55 := Tryz.sizeOf111
  v55 := Tryz.zeroValue111
  t66 := Tryz.underlying383
  a66 := Tryz.isAgg383
  z66 := Tryz.sizeOf383
  v66 := Tryz.zeroValue383
  t70 := Tryz.underlying386
  a70 := Tryz.isAgg386
  z70 := Tryz.sizeOf386
  v70 := Tryz.zeroValue386
  t76 := Tryz.underlying401
  a76 := Tryz.isAgg401
  z76 := Tryz.sizeOf401
  v76 := Tryz.zeroValue401
  t77 := Tryz.underlying261
  a77 := Tryz.isAgg261
  z77 := Tryz.sizeOf261
  v77 := Tryz.zeroValue261 }
end Go.Proofs

/- slices.SortFunc at labels, by their names (labels.New's closure). -/
namespace Go.Proofs.YtbkookiigkckdaaGreatDoor
open Go.RowKit Go.Sort
set_option linter.unusedVariables false
set_option linter.unusedSimpArgs false

theorem cmp_lt : ∀ (a b : List UInt8), Lib.compareBytes a b < 0 ↔ a < b
  | [], [] => by simp [Lib.compareBytes]
  | [], _ :: _ => by simp [Lib.compareBytes]
  | _ :: _, [] => by simp [Lib.compareBytes]
  | a :: xs, b :: ys => by
    simp only [Lib.compareBytes, List.cons_lt_cons_iff]
    by_cases h1 : a < b
    · simp [h1]
    · by_cases h2 : b < a
      · simp only [if_neg h1, if_pos h2]
        constructor
        · intro h; exact absurd h (by decide)
        · rintro (h | ⟨rfl, _⟩)
          · exact absurd h h1
          · exact absurd h2 h1
      · rw [if_neg h1, if_neg h2, cmp_lt xs ys]
        have e : a = b := UInt8.le_antisymm (UInt8.not_lt.mp h2) (UInt8.not_lt.mp h1)
        simp [e]

/-- A name stands before another. -/
def nlt (a b : ByteArray) : Bool := decide (a.data.toList < b.data.toList)
def labCmp (x y : Lab) : Int := Lib.compareBytes x.1.data.toList y.1.data.toList
theorem lab_lt (x y : Lab) : ltOf labCmp x y = nlt x.1 y.1 := by
  unfold ltOf labCmp nlt
  exact decide_eq_decide.mpr (cmp_lt _ _)
theorem swoLab : SWO (ltOf labCmp) where
  irrefl x := by rw [lab_lt]; simp [nlt, List.lt_irrefl]
  trans x y z h1 h2 := by simp only [lab_lt, nlt, decide_eq_true_eq] at *; exact List.lt_trans h1 h2
  ntrans x y z h1 h2 := by
    simp only [lab_lt, nlt, decide_eq_false_iff_not, List.not_lt] at *
    exact List.le_trans h2 h1

theorem flat2_len (l : List Lab) : (l.flatMap labc).length = l.length * 2 := by
  induction l with
  | nil => rfl
  | cons x l ih => rw [List.flatMap_cons, List.length_append, ih, List.length_cons, Nat.add_mul]; show 2 + _ = _; omega
theorem flatK_labs (l : List Lab) : flatK labc 2 l.toArray = (l.flatMap labc).toArray := by
  have hl : (l.flatMap labc).length = l.length * 2 := flat2_len l
  refine ext_get! (by simp [hl]) fun t ht => ?_
  have ht' : t < l.length * 2 := by simpa using ht
  rw [get_flatK _ _ _ t (by simpa using ht')]
  have hk : t / 2 < l.length := by omega
  have h2 := flat2 labc (fun _ => rfl) l (t / 2) l[t / 2] (List.getElem?_eq_getElem hk) (t % 2) (by omega)
  rw [show t / 2 * 2 + t % 2 = t by omega] at h2
  rw [getElem!_pos l.toArray (t / 2) (by simpa using hk)]
  have ht2 : t < (l.flatMap labc).length := by omega
  rw [getElem!_pos (l.flatMap labc).toArray t (by simpa using ht2)]
  rw [List.getElem?_eq_getElem ht2] at h2
  have h3 : t % 2 < (labc l[t / 2]).length := by show t % 2 < 2; omega
  rw [List.getElem?_eq_getElem h3] at h2
  injection h2 with h2
  rw [show l.toArray[t / 2] = l[t / 2] from by simp, getElem!_pos (labc l[t / 2]) (t % 2) h3]
  simpa using h2.symm

set_option maxHeartbeats 1000000 in
theorem new1_any (x y : Lab) (W : World) : Calls Tryz.prog 219 #[.agg #[.string x.1, .string x.2], .agg #[.string y.1, .string y.2]] W fun e w' => e = .returned (.int .i64 (labCmp x y)) ∧ ∃ q os', w' = grow (W.drewN q) os' := by
  have hcon := fun W' => Tryz.strings_Compare x.1 y.1 W'
  unfold labCmp
  generalize Lib.compareBytes x.1.data.toList y.1.data.toList = r at hcon ⊢
  go_enter Tryz.func219, Tryz.ntmps219
  go_wp2_with (go_at_call 207; refine (hcon _).mono ?_; rintro e w' ⟨rfl, rfl⟩)
  go_ret
  exact ⟨rfl, 0, _, by rw [alloc_eq_grow, alloc_eq_grow, grow_grow]; rfl⟩

theorem len157 (n : Nat) (W : World) (h : n ≤ 12) : Calls Tryz.prog 157 #[.int .u64 n] W fun e w' => (∃ l : Int, e = .returned (.int .i64 l)) ∧ w' = W :=
  (Tryz.bits_Len n W (by omega) (by omega)).mono fun _ _ ⟨he, hw⟩ => ⟨⟨_, he⟩, hw⟩

theorem Fr.sortWorldK {w : World} (n blk off : Nat) (d : Array Lab) (os : Array Obj) (hb : blk < w.heap.size) : Fr (fun k => k = blk) w (sortWorldK labc 2 w blk off n d os) := by
  unfold Go.Proofs.sortWorldK
  refine ⟨rfl, rfl, rfl, ?_, ?_⟩
  · rw [size_grow, size_putRowK]
    exact Nat.le_add_right _ _
  · intro k hk hn
    rw [heap_grow_old _ _ (by rw [size_putRowK]; exact hk)]
    unfold putRowK putRow mapBlock
    show (Array.modify w.heap blk _)[k]? = _
    rw [Array.getElem?_modify, if_neg (fun e => hn e.symm)]

def SortEnds (v : Value) (l : List Lab) (w : World) (r : Ending) (w' : World) : Prop :=
  r = .returned (.tuple #[]) ∧ ∃ l' : List Lab, l'.Perm l ∧ l'.Pairwise (fun a b => nlt b.1 a.1 = false) ∧ Sl (fun g => v.ownBlock = some g) w' v 2 l'.length (l'.flatMap labc) ∧ Fr (fun g => v.ownBlock = some g) w w'

theorem sort_any (base : Nat) (v : Value) (l : List Lab) (w : World) (h : w.ownsRow base 108 2 v l.length (l.flatMap labc)) (hl : l.length ≤ 12) :
    Calls Tryz.prog 205 #[v, .func (.func 219) #[] #[]] w (SortEnds v l w) := by
  rcases h with ⟨hlen, ⟨rfl, hn⟩ | ⟨g, c, cur, rfl, hb, hh, hc, hm, hcs, ht⟩⟩
  · have e : l = [] := List.eq_nil_of_length_eq_zero hn
    subst e
    have hcon := AnyF.slices_SortFunc_none Tryz.sortLab none 0 (.func (.func 219) #[] #[]) w
    refine hcon.mono ?_
    rintro r w' ⟨rfl, rfl⟩
    refine ⟨rfl, [], List.Perm.refl _, List.Pairwise.nil, ?_, Fr.refl _ _⟩
    exact Sl.ofOwn (World.ownsRow_nil (base := base) (e := 108) (size := 2) (w := w'))
  · have eg : ∀ args w, (callFunc 219 args).run Tryz.prog w = .ok (.enter 219 args) w := enters_of Tryz.func219 (by kernel_rfl) rfl
    have hblk : g < w.heap.size := Blk.lt (t := 108) hh
    have hH : HoldsK labc 2 w g 0 l.toArray := by
      unfold HoldsK
      rw [flatK_labs]
      intro j hj
      have hj2 : j < (l.flatMap labc).length := by simpa using hj
      rw [Nat.zero_add, Blk.cell (t := 108) hh, getElem!_pos _ j hj]
      refine ⟨?_, Blk.frozen (t := 108) hh j⟩
      have e : (l.flatMap labc)[j]? = cur[j]? := by
        rw [← ht, List.getElem?_take, if_pos (by omega)]
        simp
      rw [← e, List.getElem?_eq_getElem hj2]
      simp
    have hcon := AnyQ.slices_SortFunc_small_sorted Tryz.sortLab 2 Tryz.isAgg108 Tryz.sizeOf108 labc (fun _ => rfl) (fun x v hv => by simp [labc] at hv; rcases hv with rfl | rfl <;> rfl) labCmp 219 #[] swoLab g 0 c l.toArray w eg (fun _ _ _ _ x y => new1_any x y _) hH hblk (by simpa using hl) len157
    change Calls Tryz.prog 205 #[.slice (some ⟨g, 0, none⟩) l.toArray.size c, _] _ _ at hcon
    rw [List.size_toArray] at hcon
    refine hcon.mono ?_
    rintro r w' ⟨rfl, d', n, os, hp, hs, rfl⟩
    obtain ⟨hsz, _, hperm⟩ := hp
    have hsz' : d'.size = l.length := by simpa using hsz
    have ed : d'.toList.toArray = d' := by simp
    refine ⟨rfl, d'.toList, ?_, ?_, ?_, (Fr.sortWorldK n g 0 d' os hblk).mono fun k _ e => by subst e; rfl⟩
    · have e1 : d'.extract 0 l.length = d' := by rw [← hsz']; simp
      have e2 : l.toArray.extract 0 l.length = l.toArray := by simp
      rw [e1, e2] at hperm
      exact hperm
    · rw [List.pairwise_iff_getElem]
      intro i j hi hj hij
      have hi' : i < d'.size := by simpa using hi
      have hj' : j < d'.size := by simpa using hj
      have := hs i j (Nat.zero_le _) hij (by omega)
      rw [getElem!_pos d' j hj', getElem!_pos d' i hi', lab_lt] at this
      simpa using this
    · have hH2 : HoldsK labc 2 (sortWorldK labc 2 w g 0 n d' os) g 0 d' := holdsK_sortWorldK_c labc 2 w g 0 l.toArray d' n os hH hblk (by simpa using hsz')
      have e9 : d'.toList.length = l.length := by simpa using hsz'
      show Sl (fun k => (Value.slice (some ⟨g, 0, none⟩) l.length c).ownBlock = some k) _ (.slice (some ⟨g, 0, none⟩) l.length c) 2 _ _
      rw [e9]
      refine ⟨some ⟨g, 0, none⟩, c, rfl, ?_, hc, fun _ => ⟨g, 0, rfl, rfl, ?_⟩⟩
      · rw [flat2_len, e9]
      · intro j u hu
        have hj : j < (d'.toList.flatMap labc).length := by
          rcases Nat.lt_or_ge j (d'.toList.flatMap labc).length with h | h
          · exact h
          · rw [List.getElem?_eq_none h] at hu; cases hu
        unfold HoldsK at hH2
        rw [← ed, flatK_labs, ed] at hH2
        have := (hH2 j (by simpa using hj)).1
        rw [this, getElem!_pos _ j (by simpa using hj)]
        rw [List.getElem?_eq_getElem hj] at hu
        simpa using hu
end Go.Proofs.YtbkookiigkckdaaGreatDoor

/- labels.New. -/
namespace Go.Proofs.YtbkookiigkckdaaGreatDoor
open Go.RowKit
set_option linter.unusedVariables false
set_option linter.unusedSimpArgs false

theorem yolo_any (g n c : Nat) (bs : List UInt8) (w : World) (h : Buf w g n 0 bs) : Calls Tryz.prog 210 #[.slice (some ⟨g, 0, none⟩) n c] w fun r w' => r = .returned (.string ⟨bs.toArray⟩) ∧ w = w' := by
  obtain ⟨_, cs, hb, hs, hd⟩ := h
  rw [List.drop_zero] at hd
  have hn : bs.length = n := by rw [← hs, ← bc_len bs, ← hd]; simp
  subst hn
  have hc := run_convert_bytes_back (P := Tryz.prog) w 44 9 5 ⟨g, 0, none⟩ c bs Tryz.underlying44 Tryz.underlying5 Tryz.underlying9 (fun j hj => by
    have e1 : (⟨g, 0, none⟩ : Addr).add j = ⟨g, 0 + j, none⟩ := by unfold Addr.add; split <;> simp_all
    rw [e1, Nat.zero_add, hb.cell]
    have e2 : cs[j]? = (bc bs)[j]? := by rw [← hd]; simp
    rw [e2, bc_get, List.getElem?_eq_getElem hj]
    rfl)
  go_enter Tryz.func210, Tryz.ntmps210
  go_wp2
  go_ret
  exact ⟨rfl, rfl⟩

/-- The text of labels, as it is kept. -/
def labStr (l : List Lab) : ByteArray := ⟨(labsBytes l).toArray⟩
def LabMade (l : List Lab) (S : Nat → Prop) (w : World) (r : Ending) (w' : World) : Prop :=
  ∃ l' : List Lab, l'.Perm l ∧ l'.Pairwise (fun a b => nlt b.1 a.1 = false) ∧ r = .returned (.agg #[.string (labStr l')]) ∧ Fr S w w'
theorem Tryz.info99 : (Tryz.prog.info? 99).map (fun i => (i.zero, i.size, i.bytes)) = some (some (.agg #[.string ⟨#[]⟩]), 1, 16) := by kernel_rfl

theorem buf_new (w : World) (n : Nat) : Buf (w.alloc (.cells (madeCells #[.int .u8 0] n) 5)) w.heap.size n n [] := by
  refine ⟨Nat.le_refl _, _, Blk.new w 5 _, size_madeCells _ _, ?_⟩
  rw [List.drop_of_length_le (by rw [Array.length_toList, size_madeCells]; exact Nat.le_refl _)]
  rfl

theorem perm_small {l l' : List Lab} (h : l'.Perm l) (hs : ∀ p ∈ l, p.1.size ≤ 1048576 ∧ p.2.size ≤ 1048576) : ∀ p ∈ l', p.1.size ≤ 1048576 ∧ p.2.size ≤ 1048576 := fun p hp => hs p (h.mem_iff.mp hp)

set_option maxRecDepth 100000 in
set_option maxHeartbeats 2000000 in
theorem new_any (base : Nat) (v : Value) (l : List Lab) (w : World) (h : w.ownsRow base 108 2 v l.length (l.flatMap labc)) (hl : l.length ≤ 12) (hs : ∀ p ∈ l, p.1.size ≤ 1048576 ∧ p.2.size ≤ 1048576) :
    Calls Tryz.prog 148 #[v] w (LabMade l (fun k => v.ownBlock = some k) w) := by
  have hA : w.alloc (.cells #[.string ⟨#[]⟩] 99) = w.alloc (.cells #[.string ⟨#[]⟩] 99) := rfl
  have hown : (w.alloc (.cells #[.string ⟨#[]⟩] 99)).ownsRow base 108 2 v l.length (l.flatMap labc) := h.alloc _
  have hSort := sort_any base v l _ hown hl
  have HO := Lib.hid h
  have HS := Lib.hid hs
  have hlt : ∀ k, v.ownBlock = some k → k < w.heap.size := fun k hk => own_lt h hk
  clear h hs hown hA
  go_enter Tryz.func148, Tryz.ntmps148
  go_wp2_with (go_at_call 205; refine hSort.mono ?_; rintro r w1 ⟨rfl, l', hperm, hsort, hsl, hf⟩)
  have hb0 : Blk w1 w.heap.size 99 #[.string ⟨#[]⟩] := (Blk.new w 99 _).fr hf (fun e => Nat.lt_irrefl _ (hlt _ e))
  have hs' := perm_small hperm HS.out
  have hl' : l'.length ≤ 12 := by rw [hperm.length_eq]; exact hl
  have hF1 : Fr (fun k => v.ownBlock = some k) w w1 := ((Fr.refl _ w).alloc _).same hf
  refine (labelsSize_any _ v l' w1 hsl (by omega) hs').mono ?_
  rintro r w2 ⟨rfl, hf2⟩
  have hsl2 := hsl.fr hf2 (fun _ _ e => e)
  have hb2 := hb0.fr hf2 (fun e => e)
  have hle := labsSize_le l' hs'
  obtain ⟨n, hn⟩ : ∃ n, labsSize l' = n := ⟨_, rfl⟩
  rw [hn] at hle ⊢
  have hnb : n ≤ 25165920 := by
    have : l'.length * 2097160 ≤ 12 * 2097160 := Nat.mul_le_mul_right _ hl'
    exact Nat.le_trans hle this
  have hmk : ∀ W : World, (Instr.makeSlice 44 (.int .i64 (n : Int)) (.int .i64 (n : Int))).run Tryz.prog W = .ok (.slice (some ⟨W.heap.size, 0, none⟩) n n) (W.alloc (.cells (madeCells #[.int .u8 0] n) 5)) := fun W =>
    run_make_row' (P := Tryz.prog) 44 5 (.int .u8 0) 1 Tryz.underlying44 Tryz.info5 rfl .i64 .i64 n (by omega) (by omega) W
  have hF2 : Fr (fun k => v.ownBlock = some k) w w2 := hF1.trans hf2 (fun _ _ e => e.elim)
  have hM := marshalLabels_any _ v l' w2.heap.size n n (w2.alloc (.cells (madeCells #[.int .u8 0] n) 5)) (hsl2.fr ((Fr.refl (fun _ => False) w2).alloc _) (fun _ _ e => e))
    (fun e => Nat.lt_irrefl _ (Nat.lt_of_lt_of_le (hlt _ e) hF2.size)) (by omega) hs' (buf_new w2 n) hn.symm (Nat.le_refl _) (by omega)
  have hbne : w.heap.size ≠ w2.heap.size := Nat.ne_of_lt hb2.lt
  have hF3 : Fr (fun k => v.ownBlock = some k) w (w2.alloc (.cells (madeCells #[.int .u8 0] n) 5)) := hF2.alloc _
  have hb3 := hb2.alloc (.cells (madeCells #[.int .u8 0] n) 5)
  have H := Lib.hid (And.intro hperm (And.intro hsort (And.intro hF3 (And.intro hb3 (And.intro hlt hF2.size)))))
  clear HO HS hsl hsl2 hF1 hF2 hb0 hb2 hf hf2 hs' hle hn hlt hperm hsort hF3 hb3 hSort hl'
  go_wp2_with (first | (go_at_call 209; refine hM.mono ?_; rintro r w3 ⟨rfl, hB3, hf3⟩; have hY := yolo_any w2.heap.size n n (labsBytes l') w3 hB3) | (go_at_call 210; refine hY.mono ?_; rintro r w4 ⟨rfl, rfl⟩; have hb4 := H.out.2.2.2.1.fr hf3 hbne; have c4 := hb4.cell 0; have f4 := hb4.frozen 0))
  have hb5 := hb4.set_ 0 (.string ⟨(labsBytes l').toArray⟩)
  obtain ⟨h1, h2, h3, _, hlt, hsz⟩ := H.out
  have hF4 : Fr (fun k => v.ownBlock = some k) w w3 := h3.trans (S' := fun k => k = w2.heap.size) hf3 (fun k hk e => by subst e; omega)
  have hF5 : Fr (fun k => v.ownBlock = some k) w (w3.setCell ⟨w.heap.size, 0, none⟩ (.string ⟨(labsBytes l').toArray⟩)) := hF4.setCell (p := ⟨w.heap.size, 0, none⟩) (.inr (Nat.le_refl _)) _
  have hb6 : Blk (w3.setCell ⟨w.heap.size, 0, none⟩ (.string ⟨(labsBytes l').toArray⟩)) w.heap.size 99 #[.string (labStr l')] := hb5
  clear hb5
  generalize w3.setCell ⟨w.heap.size, 0, none⟩ (.string ⟨(labsBytes l').toArray⟩) = w5 at hb6 hF5 ⊢
  refine bodyPost_ret (results_cell_row (P := Tryz.prog) rfl _ _ w.heap.size 99 #[.string (labStr l')] (0, 0) _ rfl hb6 Tryz.underlying99 rfl (by kernel_rfl)) rfl ?_
  exact ⟨l', h1, h2, rfl, hF5⟩

/-- impl.made. -/
theorem made_any (P : Nat → Prop) (v : Value) (l : List Lab) (w : World) (h : Sl P w v 2 l.length (l.flatMap labc)) (hl : l.length ≤ 12) (hs : ∀ p ∈ l, p.1.size ≤ 1048576 ∧ p.2.size ≤ 1048576) :
    Calls Tryz.prog 54 #[v] w (LabMade l (fun _ => False) w) := by
  have hw : ∀ o, Sl P (w.alloc o) v 2 l.length (l.flatMap labc) := fun o => h.fr ((Fr.refl (fun _ => False) w).alloc o) (fun _ _ e => e)
  have hP := pairs_any P v l _ (hw (.cells #[.string ⟨#[]⟩] 99)) (by omega)
  clear h hw
  go_enter Tryz.func54, Tryz.ntmps54
  go_wp2_with (go_at_call 149; refine hP.mono ?_; rintro r w1 ⟨v1, rfl, hown, hf⟩)
  refine (new_any _ v1 l w1 hown hl hs).mono ?_
  rintro r w2 ⟨l', h1, h2, rfl, hf2⟩
  have hb0 : Blk w1 w.heap.size 99 #[.string ⟨#[]⟩] := (Blk.new w 99 _).fr hf (fun e => e)
  have hlo : ∀ k, v1.ownBlock = some k → w.heap.size < k := fun k hk => by
    have := (hown.lt k hk).1
    rw [World.size_alloc] at this
    exact this
  have hb1 : Blk w2 w.heap.size 99 #[.string ⟨#[]⟩] := hb0.fr hf2 (fun e => Nat.lt_irrefl _ (hlo _ e))
  have c1 := hb1.cell 0
  have f1 := hb1.frozen 0
  have hF : Fr (fun _ => False) w w2 := ((Fr.refl _ w).alloc _).same hf |>.trans hf2 (fun k hk e => Nat.lt_asymm hk (hlo k e))
  go_wp2
  have hb5 := hb1.set_ 0 (.string (labStr l'))
  have hF5 : Fr (fun _ => False) w (w2.setCell ⟨w.heap.size, 0, none⟩ (.string (labStr l'))) := hF.setCell (p := ⟨w.heap.size, 0, none⟩) (.inr (Nat.le_refl _)) _
  have hb6 : Blk (w2.setCell ⟨w.heap.size, 0, none⟩ (.string (labStr l'))) w.heap.size 99 #[.string (labStr l')] := hb5
  clear hb5
  generalize w2.setCell ⟨w.heap.size, 0, none⟩ (.string (labStr l')) = w5 at hb6 hF5 ⊢
  refine bodyPost_ret (results_cell_row (P := Tryz.prog) rfl _ _ w.heap.size 99 #[.string (labStr l')] (0, 0) _ rfl hb6 Tryz.underlying99 rfl (by kernel_rfl)) rfl ?_
  exact ⟨l', h1, h2, rfl, hF5⟩
end Go.Proofs.YtbkookiigkckdaaGreatDoor

