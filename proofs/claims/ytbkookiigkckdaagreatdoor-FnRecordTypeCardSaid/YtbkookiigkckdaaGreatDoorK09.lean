/- Texts of this seat, merged: Nd, H4, Lq, Sort. -/
import Derived.Test.YtbkookiigkckdaaGreatDoorK05
import Derived.Test.YtbkookiigkckdaaGreatDoorK08
import Derived.Lib.LazyBuf
import Derived.Lib.BufferWrite
import Derived.Shelf.SlSortCmp.SmallK
import Derived.Shelf.SlSortCmp.NoneTotal
import Derived.Ground.SlsfProg
import Derived.Test.YtbkookiigkckdaaGreatDoorProg
/- Metadata: refMetadata 82, Encoder.Metadata 96. Printed by gen_nd.py. -/
namespace Go.Proofs.YtbkookiigkckdaaGreatDoor
open Go.RowKit
set_option linter.unusedVariables false
set_option linter.unusedSimpArgs false

/-- A part of a record of metadata. -/
structure Mta where
  ref : Nat
  ty : UInt8
  unit : ByteArray
  help : ByteArray
def Mta.wf (s : Mta) : Prop := s.ref < 18446744073709551616 ∧ s.unit.size ≤ 4096 ∧ s.help.size ≤ 4096
def Mta.c (s : Mta) : List Value := [.int .u64 s.ref, .int .u8 s.ty.toNat, .string s.unit, .string s.help]
theorem Tryz.info174 : (Tryz.prog.info? 174).map (fun i => (i.zero, i.size, i.bytes)) = some (some (.agg #[.int .u64 0, .int .u8 0, .string ⟨#[]⟩, .string ⟨#[]⟩]), 4, 48) := by kernel_rfl
theorem flat4 {α : Type} (f : α → List Value) (h3 : ∀ x, (f x).length = 4) : ∀ (l : List α) (k : Nat) (x : α), l[k]? = some x → ∀ j, j < 4 → (l.flatMap f)[k * 4 + j]? = (f x)[j]?
  | [], k, x, h, j, hj => by simp at h
  | y :: l, 0, x, h, j, hj => by
    simp at h; subst h
    rw [List.flatMap_cons, List.getElem?_append_left (by rw [h3]; omega)]
    simp
  | y :: l, k + 1, x, h, j, hj => by
    rw [List.flatMap_cons, List.getElem?_append_right (by rw [h3]; omega), h3, show (k + 1) * 4 + j - 4 = k * 4 + j by omega]
    exact flat4 f h3 l k x (by simpa using h) j hj

def RefMetadataEnds (w : World) (l : List Mta) (r : Ending) (w' : World) : Prop :=
  ∃ v, r = .returned v ∧ w'.ownsRow w.heap.size 174 4 v l.length (l.flatMap Mta.c) ∧ Fr (fun _ => False) w w'

set_option maxHeartbeats 1000000 in
set_option maxRecDepth 100000 in
theorem refMetadata_any (P : Nat → Prop) (v : Value) (l : List Mta) (w : World) (h : Sl P w v 4 l.length (l.flatMap Mta.c)) (hl : l.length ≤ 1099511627776) :
    Calls Tryz.prog 82 #[v] w (RefMetadataEnds w l) := by
  obtain ⟨A, c, rfl, hlen, hnc, hr⟩ := h
  obtain ⟨n, hn⟩ : ∃ n, l.length = n := ⟨_, rfl⟩
  rw [hn] at hr hnc hl ⊢
  have HN := Lib.hid hn
  have HR := Lib.hid hr
  obtain ⟨i0, hi0, hz0, hz1, hz2⟩ := info_parts Tryz.info174
  clear hn hr hlen
  go_enter Tryz.func82, Tryz.ntmps82
  go_wp2
  go_loopw [2, 7] (fun v i wr => ∃ k : Nat, k ≤ n ∧ i = .int .i64 k ∧ wr.ownsRow w.heap.size 174 4 v k ((l.take k).flatMap Mta.c) ∧ Fr (fun _ => False) w wr) (fun _ i _ => n - (intOf i).toNat)
  case atStart => exact ⟨0, Nat.zero_le _, rfl, World.ownsRow_nil _ _ _ _, Fr.refl _ _⟩
  case round =>
    obtain ⟨k, hk, rfl, hown, hf⟩ := hrel
    by_cases hlt : k < n
    · obtain ⟨g, off, rfl, _, hcell⟩ := HR.out (by omega)
      obtain ⟨x, hx⟩ : ∃ x, l[k]? = some x := ⟨_, List.getElem?_eq_getElem (by rw [HN.out]; exact hlt)⟩
      have cc : ∀ j, j < 4 → ∀ u, (Mta.c x)[j]? = some u → wr.cell? ⟨g, off + (k * 4 + j), none⟩ = some u := fun j hj u hu => by
        have := hcell (k * 4 + j) u (by rw [flat4 Mta.c (fun _ => rfl) l k x hx j hj]; exact hu)
        rw [hf.cell (p := ⟨g, off + (k * 4 + j), none⟩) (World.block_lt_of_cell? w _ this) (fun e => e)]
        exact this
      have c0 : wr.cell? ⟨g, off + k * 4, none⟩ = some (.int .u64 x.ref) := cc 0 (by omega) _ rfl
      have c1 : wr.cell? ⟨g, off + k * 4 + 1, none⟩ = some (.int .u8 x.ty.toNat) := cc 1 (by omega) _ rfl
      have c2 : wr.cell? ⟨g, off + k * 4 + 2, none⟩ = some (.string x.unit) := cc 2 (by omega) _ rfl
      have c3 : wr.cell? ⟨g, off + k * 4 + 3, none⟩ = some (.string x.help) := cc 3 (by omega) _ rfl
      have HC := Lib.hid hcell
      have HO := Lib.hid hown
      have HX := Lib.hid hx
      obtain ⟨a', n', k', rfl⟩ := own_slice hown
      clear hcell cc hown hx
      go_wp2_with (at_builtin; refine Hid.out ?_)
      refine Lib.hid ?_
      refine wpList_append_src _ rfl _ _ 169 169 rfl w.heap.size 174 i0 _ 4 48 Tryz.underlying169 hi0 hz0 hz1 hz2 rfl (by decide) _ k ((l.take k).flatMap Mta.c) rfl ((HO.out.alloc _).alloc _) _ 1 (Mta.c x) rfl (src_blk Tryz.underlying169 (blk_new2 wr _ 174 (Mta.c x).toArray) rfl (by simp [Mta.c, Value.oneCell'])) (by unfold maxLen; omega) (by omega) (by first | omega | (simp; omega) | (have := hf.size; simp; omega)) ?_
      intro v' w2 hown' hgrow hat
      have hown2 : w2.ownsRow w.heap.size 174 4 v' (k + 1) ((l.take (k + 1)).flatMap Mta.c) := by rw [flatMap_take_succ Mta.c l k x HX.out]; exact hown'
      have hf2 : Fr (fun _ => False) w w2 := ((hf.alloc _).alloc _).grown hgrow (fun g hg => .inr (((HO.out.lt g hg)).1))
      have HO2 := Lib.hid hown2
      have HF2 := Lib.hid hf2
      clear hown' hgrow hown2 hf2 hf c0 c1 c2 c3 hat
      go_wp2
      go_roundw
      case rel => exact ⟨k + 1, by omega, by go_num, HO2.out, HF2.out⟩
      case measure => simp [intOf]; omega
    · go_wp2
      go_ret
      obtain rfl : k = n := by omega
      refine ⟨_, rfl, ?_, hf⟩
      rw [← HN.out] at hown ⊢
      rw [List.take_length] at hown
      exact hown

theorem flatMap_lenM {α : Type} (f : α → List UInt8) (m : Nat) : ∀ l : List α, (∀ x ∈ l, (f x).length ≤ m) → (l.flatMap f).length ≤ l.length * m
  | [], _ => by simp
  | x :: l, hf => by
    have h1 := flatMap_lenM f m l (fun y hy => hf y (List.mem_cons_of_mem _ hy))
    have h2 := hf x (List.mem_cons_self ..)
    rw [List.flatMap_cons, List.length_append, List.length_cons, Nat.add_mul]
    omega
def encMta (s : Mta) : List UInt8 := Lib.uvarint s.ref ++ (s.ty :: (Lib.uvarint 2 ++ (encStr ⟨#[85, 78, 73, 84]⟩ ++ (encStr s.unit ++ (encStr ⟨#[72, 69, 76, 80]⟩ ++ encStr s.help)))))
def encMetas (l : List Mta) : List UInt8 := 6 :: l.flatMap encMta
theorem encStr_len (s : ByteArray) (h : s.size < 18446744073709551616) : (encStr s).length ≤ 10 + s.size := by
  have := Lib.uvarint_length64 h
  rw [encStr, List.length_append, ← Lib.size_eq]
  omega
theorem encMta_len (s : Mta) (h : s.wf) : (encMta s).length ≤ 8300 := by
  obtain ⟨h0, h1, h2⟩ := h
  have a0 := Lib.uvarint_length64 h0
  have a1 := Lib.uvarint_length64 (x := 2) (by omega)
  have a2 := encStr_len ⟨#[85, 78, 73, 84]⟩ (by decide)
  have a3 := encStr_len s.unit (by omega)
  have a4 := encStr_len ⟨#[72, 69, 76, 80]⟩ (by decide)
  have a5 := encStr_len s.help (by omega)
  have e1 : (⟨#[85, 78, 73, 84]⟩ : ByteArray).size = 4 := rfl
  have e2 : (⟨#[72, 69, 76, 80]⟩ : ByteArray).size = 4 := rfl
  simp only [encMta, List.length_append, List.length_cons]
  omega

set_option maxRecDepth 100000 in
set_option maxHeartbeats 4000000 in
theorem encMetas_any (ep : Value) (sv : Value) (P : Nat → Prop) (v : Value) (xs : List UInt8) (l : List Mta) (w : World) (h : Sl P w sv 4 l.length (l.flatMap Mta.c)) (hown : w.ownsRow 0 5 1 v xs.length (bc xs)) (hl : xs.length ≤ 1073741824)
    (hsl : l.length ≤ 1048576) (hwf : ∀ s ∈ l, s.wf) (hP : ∀ g, P g → g < w.heap.size ∧ some g ≠ v.ownBlock) :
    Calls Tryz.prog 96 #[ep, sv, v] w (EncodeEnds w v.ownBlock (xs ++ encMetas l)) := by
  obtain ⟨A, c, rfl, hlen, hnc, hr⟩ := h
  obtain ⟨a', n', k', rfl⟩ := own_slice hown
  obtain ⟨n, hn⟩ : ∃ n, l.length = n := ⟨_, rfl⟩
  rw [hn] at hnc hr hsl ⊢
  have hE := Enc.made (z := .int .u8 0) hown _ rfl
  have hQ := putByte w.heap.size _ xs 6 _ hE (by omega)
  have e2 : ((6 : UInt8).toNat : Int) = 6 := rfl
  rw [e2] at hQ
  have HN := Lib.hid hn
  have HR := Lib.hid hr
  have HP := Lib.hid hP
  have HE := Lib.hid hE
  clear hE hr e2 hn hlen hP
  go_enter Tryz.func96, Tryz.ntmps96
  go_wp2_with (go_at_call 180; refine hQ.mono ?_; rintro r1 w1 ⟨rfl, R⟩; refine Hid.out ?_)
  have HR1 := Lib.hid R
  clear R hQ
  refine Lib.hid ?_
  go_wp2_with fail
  have hFW : Fr (fun k => some k = (Value.slice a' n' k').ownBlock) w (w.alloc (.cells #[.slice a' n' k', .int .u8 0, .int .u8 0, .int .u8 0, .int .u8 0, .int .u8 0, .int .u8 0, .int .u8 0, .int .u8 0, .int .u8 0, .int .u8 0] 224)) := (Fr.refl _ w).alloc _
  generalize hWB : w.alloc _ = WB at HE HR1 hFW
  have hB : w.heap.size < WB.heap.size := by rw [← hWB]; simp
  clear hWB
  have HFW := Lib.hid hFW
  clear hFW
  go_loopw [15] (fun i wr => ∃ k : Nat, k ≤ n ∧ i = .int .i64 k ∧ Put WB w.heap.size (Value.slice a' n' k').ownBlock xs ([6] ++ (l.take k).flatMap encMta) wr) (fun i _ => n - (intOf i).toNat)
  case atStart => exact ⟨0, Nat.zero_le _, rfl, by simpa using HR1.out⟩
  case round =>
    obtain ⟨k, hk, rfl, R⟩ := hrel
    by_cases hlt : k < n
    · obtain ⟨g, off, rfl, hPg, hcell⟩ := HR.out (by omega)
      have hg := HP.out g hPg
      obtain ⟨x, hx⟩ : ∃ x, l[k]? = some x := ⟨_, List.getElem?_eq_getElem (by rw [HN.out]; exact hlt)⟩
      have hwx := hwf x (List.mem_of_getElem? hx)
      have hFk : Fr (fun k => some k = (Value.slice a' n' k').ownBlock) w wr := HFW.out.trans R.fr (fun k hk e => by
        rcases e with e | e
        · omega
        · exact e)
      have cc : ∀ j, j < 4 → ∀ u, (Mta.c x)[j]? = some u → wr.cell? ⟨g, off + (k * 4 + j), none⟩ = some u := fun j hj u hu => by
        have := hcell (k * 4 + j) u (by rw [flat4 Mta.c (fun _ => rfl) l k x hx j hj]; exact hu)
        rw [hFk.cell (p := ⟨g, off + (k * 4 + j), none⟩) hg.1 hg.2]
        exact this
      have d0 : wr.cell? ⟨g, off + k * 4, none⟩ = some (.int .u64 x.ref) := cc 0 (by omega) _ rfl
      have d1 : wr.cell? ⟨g, off + k * 4 + 1, none⟩ = some (.int .u8 x.ty.toNat) := cc 1 (by omega) _ rfl
      have d2 : wr.cell? ⟨g, off + k * 4 + 2, none⟩ = some (.string x.unit) := cc 2 (by omega) _ rfl
      have d3 : wr.cell? ⟨g, off + k * 4 + 3, none⟩ = some (.string x.help) := cc 3 (by omega) _ rfl
      have hyl : ([(6 : UInt8)] ++ (l.take k).flatMap encMta).length ≤ 1 + k * 8300 := by
        have h1 := flatMap_lenM encMta 8300 (l.take k) (fun s hs => encMta_len s (hwf s (List.mem_of_mem_take hs)))
        have h2 : (l.take k).length ≤ k := List.length_take_le _ _
        have h3 : (l.take k).length * 8300 ≤ k * 8300 := Nat.mul_le_mul_right _ h2
        rw [List.length_append, List.length_singleton]; omega
      have hk9 : k * 8300 ≤ 1048576 * 8300 := Nat.mul_le_mul_right _ (by omega)
      obtain ⟨h0, h1, h2⟩ := hwx
      have u0 := Lib.uvarint_length64 h0
      have u1 := Lib.uvarint_length64 (x := 2) (by omega)
      have u2 := encStr_len ⟨#[85, 78, 73, 84]⟩ (by decide)
      have u3 := encStr_len x.unit (by omega)
      have u4 := encStr_len ⟨#[72, 69, 76, 80]⟩ (by decide)
      have z1 : (⟨#[85, 78, 73, 84]⟩ : ByteArray).size = 4 := rfl
      have z2 : (⟨#[72, 69, 76, 80]⟩ : ByteArray).size = 4 := rfl
      obtain ⟨Y, hY⟩ : ∃ Y, [(6 : UInt8)] ++ (l.take k).flatMap encMta = Y := ⟨_, rfl⟩
      rw [hY] at hyl
      rw [hY] at R
      have HY := Lib.hid hY
      have HX := Lib.hid hx
      have hBx := Blk.new wr 174 #[.int .u64 x.ref, .int .u8 x.ty.toNat, .string x.unit, .string x.help]
      have RA := R.alloc (.cells #[.int .u64 x.ref, .int .u8 x.ty.toNat, .string x.unit, .string x.help] 174)
      have HBX := Lib.hid hBx
      have HRA := Lib.hid RA
      have hyl2 : Y.length ≤ 8703182849 := by omega
      have HU := Lib.hid (And.intro u0 (And.intro u1 (And.intro u2 (And.intro u3 (And.intro u4 (And.intro z1 z2))))))
      have HW := Lib.hid (And.intro h0 (And.intro h1 h2))
      clear hx hFk cc hBx hcell hY R RA hyl hk9 h0 h1 h2 u0 u1 u2 u3 u4 z1 z2 hwf
      go_wp2_with (first
        | (go_at_call 185; refine (put_more2 HRA.out (f := 185) (args := #[.pointer (some ⟨w.heap.size, 0, none⟩), .int .u64 x.ref]) (zs := Lib.uvarint x.ref) (fun o2 he => putUvarint64 _ o2 _ _ HW.out.1 _ he (by rw [List.length_append]; omega))).mono ?_; rintro rA wA ⟨rfl, R1, K1⟩
           have hB1 := K1.out _ _ _ (by decide) (by decide) HBX.out
           have p1 := hB1.cell 1
           have HB1 := Lib.hid hB1
           have HR2 := Lib.hid R1
           have hv2 : (Y ++ Lib.uvarint x.ref).length ≤ 8703182859 := by have := HU.out.1; rw [List.length_append]; omega
           clear R1 K1 hB1)
        | (go_at_call 180; refine (put_more2 HR2.out (f := 180) (args := #[.pointer (some ⟨w.heap.size, 0, none⟩), .int .u8 x.ty.toNat]) (zs := [x.ty]) (fun o2 he => putByte _ o2 _ _ _ he (by rw [List.length_append]; omega))).mono ?_; rintro rB wB ⟨rfl, R1, K1⟩
           have hB1 := K1.out _ _ _ (by decide) (by decide) HB1.out
           have HB2 := Lib.hid hB1
           have HR3 := Lib.hid R1
           have hv3 : (Y ++ Lib.uvarint x.ref ++ [x.ty]).length ≤ 8703182860 := by rw [List.length_append]; simp only [List.length_singleton]; omega
           clear R1 K1 hB1 HB1 HR2)
        | (go_at_call 186; refine (put_more2 HR3.out (f := 186) (args := #[.pointer (some ⟨w.heap.size, 0, none⟩), .int .i64 2]) (zs := Lib.uvarint 2) (fun o2 he => putUvarint _ o2 _ 2 (by omega) _ he (by rw [List.length_append]; omega))).mono ?_; rintro rC wC ⟨rfl, R1, K1⟩
           have hB1 := K1.out _ _ _ (by decide) (by decide) HB2.out
           have HB3 := Lib.hid hB1
           have HR4 := Lib.hid R1
           have hv4 : (Y ++ Lib.uvarint x.ref ++ [x.ty] ++ Lib.uvarint 2).length ≤ 8703182870 := by have := HU.out.2.1; rw [List.length_append]; omega
           clear R1 K1 hB1 HB2 HR3)
        | (go_at_call 187; refine (put_more2 HR4.out (f := 187) (args := #[.pointer (some ⟨w.heap.size, 0, none⟩), .string ⟨#[85, 78, 73, 84]⟩]) (zs := encStr ⟨#[85, 78, 73, 84]⟩) (fun o2 he => putUvarintStr _ o2 _ _ _ he (by rw [List.length_append]; omega) (by have := HU.out.2.2.2.2.2.1; omega))).mono ?_; rintro rD wD ⟨rfl, R1, K1⟩
           have hB1 := K1.out _ _ _ (by decide) (by decide) HB3.out
           have p2 := hB1.cell 2
           have HB4 := Lib.hid hB1
           have HR5 := Lib.hid R1
           have hv5 : (Y ++ Lib.uvarint x.ref ++ [x.ty] ++ Lib.uvarint 2 ++ encStr ⟨#[85, 78, 73, 84]⟩).length ≤ 8703182884 := by have := HU.out.2.2.1; have := HU.out.2.2.2.2.2.1; rw [List.length_append]; omega
           clear R1 K1 hB1 HB3 HR4)
        | (go_at_call 187; refine (put_more2 HR5.out (f := 187) (args := #[.pointer (some ⟨w.heap.size, 0, none⟩), .string x.unit]) (zs := encStr x.unit) (fun o2 he => putUvarintStr _ o2 _ _ _ he (by rw [List.length_append]; omega) (by have := HW.out.2.1; omega))).mono ?_; rintro rE wE ⟨rfl, R1, K1⟩
           have hB1 := K1.out _ _ _ (by decide) (by decide) HB4.out
           have HB5 := Lib.hid hB1
           have HR6 := Lib.hid R1
           have hv6 : (Y ++ Lib.uvarint x.ref ++ [x.ty] ++ Lib.uvarint 2 ++ encStr ⟨#[85, 78, 73, 84]⟩ ++ encStr x.unit).length ≤ 8703186990 := by have := HU.out.2.2.2.1; have := HW.out.2.1; rw [List.length_append]; omega
           clear R1 K1 hB1 HB4 HR5)
        | (go_at_call 187; refine (put_more2 HR6.out (f := 187) (args := #[.pointer (some ⟨w.heap.size, 0, none⟩), .string ⟨#[72, 69, 76, 80]⟩]) (zs := encStr ⟨#[72, 69, 76, 80]⟩) (fun o2 he => putUvarintStr _ o2 _ _ _ he (by rw [List.length_append]; omega) (by have := HU.out.2.2.2.2.2.2; omega))).mono ?_; rintro rF wF ⟨rfl, R1, K1⟩
           have hB1 := K1.out _ _ _ (by decide) (by decide) HB5.out
           have p3 := hB1.cell 3
           have HR7 := Lib.hid R1
           have hv7 : (Y ++ Lib.uvarint x.ref ++ [x.ty] ++ Lib.uvarint 2 ++ encStr ⟨#[85, 78, 73, 84]⟩ ++ encStr x.unit ++ encStr ⟨#[72, 69, 76, 80]⟩).length ≤ 8703187004 := by have := HU.out.2.2.2.2.1; have := HU.out.2.2.2.2.2.2; rw [List.length_append]; omega
           clear R1 K1 hB1 HB5 HR6)
        | (go_at_call 187; refine (put_more2 HR7.out (f := 187) (args := #[.pointer (some ⟨w.heap.size, 0, none⟩), .string x.help]) (zs := encStr x.help) (fun o2 he => putUvarintStr _ o2 _ _ _ he (by rw [List.length_append]; omega) (by have := HW.out.2.2; omega))).mono ?_; rintro rG wG ⟨rfl, R1, K1⟩
           have HR8 := Lib.hid R1
           clear R1 K1 HR7))
      have RE : Put WB w.heap.size (Value.slice a' n' k').ownBlock xs ([6] ++ (l.take (k + 1)).flatMap encMta) wG := by
        rw [flatMap_take_succ' encMta l k x HX.out, ← List.append_assoc, HY.out]
        simpa [encMta, List.append_assoc] using HR8.out
      have HRE := Lib.hid RE
      clear RE HR8
      go_wp2
      go_roundw
      case rel => exact ⟨k + 1, by omega, by go_num, HRE.out⟩
      case measure => simp [intOf]; omega
    · obtain rfl : k = n := by omega
      obtain ⟨oZ, hEZ, hfZ, hoZ⟩ := R
      have hG := encGet _ _ _ _ hEZ
      have HEZ := Lib.hid hEZ
      have HZ := Lib.hid hfZ
      clear hEZ hfZ
      go_wp2_with (go_at_call 116; refine hG.mono ?_; rintro rr w2 ⟨v2, rfl, rfl, hown2, hv2⟩)
      go_ret
      refine ⟨v2, rfl, ?_, HFW.out.trans HZ.out (fun k hk e => ?_), ?_⟩
      · have e1 : l.take k = l := List.take_of_length_le (by rw [HN.out]; exact Nat.le_refl _)
        rw [e1] at hown2
        simpa [encMetas] using hown2
      · rcases e with e | e
        · omega
        · exact e
      · rw [hv2]
        rcases hoZ with h | ⟨k2, h, hk2⟩
        · exact .inl h
        · exact .inr ⟨k2, h, by omega⟩
end Go.Proofs.YtbkookiigkckdaaGreatDoor

/- Histograms: EncodeHistogram 189, EncodeFloatHistogram 192. Printed by gen_h4.py. -/
namespace Go.Proofs.YtbkookiigkckdaaGreatDoor
open Go.RowKit
set_option linter.unusedVariables false
set_option linter.unusedSimpArgs false

def zzu (x : Int) : List UInt8 := Lib.uvarint (Lib.zigzag x)
def encSpan (p : Int × Nat) : List UInt8 := zzu p.1 ++ Lib.uvarint p.2
def encSpans (l : List (Int × Nat)) : List UInt8 := Lib.uvarint l.length ++ l.flatMap encSpan
def encInts (l : List Int) : List UInt8 := Lib.uvarint l.length ++ l.flatMap zzu
def encBits (l : List Nat) : List UInt8 := Lib.uvarint l.length ++ l.flatMap (Lib.beBytes 8)
def encCus (h : Hst) : List UInt8 := if h.schema = -53 then encBits h.cus else []
def encHistW (h : Hst) : List UInt8 := [h.hint] ++ zzu h.schema ++ Lib.beBytes 8 h.thr ++ Lib.uvarint h.zc ++ Lib.uvarint h.cnt ++ Lib.beBytes 8 h.sum ++ encSpans h.pos ++ encSpans h.neg ++ encInts h.ups ++ encInts h.downs ++ encCus h
def encHistF (h : Hst) : List UInt8 := [h.hint] ++ zzu h.schema ++ Lib.beBytes 8 h.thr ++ Lib.beBytes 8 h.zc ++ Lib.beBytes 8 h.cnt ++ Lib.beBytes 8 h.sum ++ encSpans h.pos ++ encSpans h.neg ++ encBits h.fups ++ encBits h.fdowns ++ encCus h
/-- What a histogram's numbers are within, and few spans and buckets. -/
structure Hst.ok (h : Hst) : Prop where
  few : h.few 60
  s0 : -2147483648 ≤ h.schema
  s1 : h.schema ≤ 2147483647
  thr : h.thr < 18446744073709551616
  sum : h.sum < 18446744073709551616
  zc : h.zc < 18446744073709551616
  cnt : h.cnt < 18446744073709551616
  pos : ∀ p ∈ h.pos, -2147483648 ≤ p.1 ∧ p.1 ≤ 2147483647 ∧ p.2 < 4294967296
  neg : ∀ p ∈ h.neg, -2147483648 ≤ p.1 ∧ p.1 ≤ 2147483647 ∧ p.2 < 4294967296
  ups : ∀ x ∈ h.ups, -9223372036854775808 ≤ x ∧ x ≤ 9223372036854775807
  downs : ∀ x ∈ h.downs, -9223372036854775808 ≤ x ∧ x ≤ 9223372036854775807
  fups : ∀ x ∈ h.fups, x < 18446744073709551616
  fdowns : ∀ x ∈ h.fdowns, x < 18446744073709551616
  cus : ∀ x ∈ h.cus, x < 18446744073709551616
theorem Sl.at {P : Nat → Prop} {w : World} {A : Option Addr} {m c size n : Nat} {xs : List Value} (h : Sl P w (.slice A m c) size n xs) (hn : 0 < n) : ∃ g off, A = some ⟨g, off, none⟩ ∧ P g ∧ ∀ j u, xs[j]? = some u → w.cell? ⟨g, off + j, none⟩ = some u := by
  obtain ⟨A', c', e, _, _, hr⟩ := h
  injection e with e1 e2 e3
  subst e1
  exact hr hn
theorem zzu_len (x : Int) (h0 : -9223372036854775808 ≤ x) (h1 : x ≤ 9223372036854775807) : (zzu x).length ≤ 10 := zz_len x h0 h1
theorem encSpan_len (p : Int × Nat) (h : -2147483648 ≤ p.1 ∧ p.1 ≤ 2147483647 ∧ p.2 < 4294967296) : (encSpan p).length ≤ 20 := by
  have h1 := zzu_len p.1 (by omega) (by omega)
  have h2 := Lib.uvarint_length64 (x := p.2) (by omega)
  rw [encSpan, List.length_append]; omega
theorem isCustom_any (s : Int) (w : World) : Calls Tryz.prog 233 #[.int .i32 s] w fun r w' => r = .returned (.bool (s == -53)) ∧ w = w' := by
  go_enter Tryz.func233, Tryz.ntmps233
  go_wp2
  go_ret
  exact ⟨rfl, rfl⟩
theorem take_len_le {α : Type} (f : α → List UInt8) (m : Nat) (l : List α) (k : Nat) (h : ∀ x ∈ l, (f x).length ≤ m) : ((l.take k).flatMap f).length ≤ k * m := by
  have h1 := flatMap_lenM f m (l.take k) (fun y hy => h y (List.mem_of_mem_take hy))
  have h2 : (l.take k).length ≤ k := List.length_take_le _ _
  have h3 : (l.take k).length * m ≤ k * m := Nat.mul_le_mul_right _ h2
  omega


set_option maxHeartbeats 8000000 in
set_option maxRecDepth 100000 in
theorem encHistW_any (P : Nat → Prop) (e : Nat) (o : Option Nat) (xs : List UInt8) (h : Hst) (v : Value) (w : World) (hr : RdW P w h v) (hE : Enc w e o xs) (hl : xs.length ≤ 549755813888) (hok : h.ok) (hP : ∀ g, P g → ¬ (g = e ∨ some g = o)) :
    Calls Tryz.prog 189 #[.pointer (some ⟨e, 0, none⟩), v] w (PutEnds w e o xs (encHistW h)) := by
  obtain ⟨g, s, rfl, hPg, hb, z1, z2, z3, z4, z5⟩ := hr
  obtain ⟨⟨l1, l2, l3, l4, l5, l6, l7⟩, hs0, hs1, ht, hsu, hz, hcn, hpos, hneg, hups, hdowns, hfups, hfdowns, hcus⟩ := hok
  obtain ⟨hint, schema, thr, sum, zc, cnt, pos, neg, ups, downs, fups, fdowns, cus⟩ := h
  obtain ⟨sp, sn, su, sd, sc⟩ := s
  simp only [hcW] at hb z1 z2 z3 z4 z5 l1 l2 l3 l4 l5 l6 l7 hs0 hs1 ht hsu hz hcn hpos hneg hups hdowns hfups hfdowns hcus
  obtain ⟨A1, c1, rfl⟩ := z1.shape
  obtain ⟨A2, c2, rfl⟩ := z2.shape
  obtain ⟨A3, c3, rfl⟩ := z3.shape
  obtain ⟨A4, c4, rfl⟩ := z4.shape
  obtain ⟨A5, c5, rfl⟩ := z5.shape
  obtain ⟨n1, e1⟩ : ∃ n, pos.length = n := ⟨_, rfl⟩
  obtain ⟨n2, e2⟩ : ∃ n, neg.length = n := ⟨_, rfl⟩
  obtain ⟨n3, e3⟩ : ∃ n, ups.length = n := ⟨_, rfl⟩
  obtain ⟨n4, e4⟩ : ∃ n, downs.length = n := ⟨_, rfl⟩
  obtain ⟨n5, e5⟩ : ∃ n, cus.length = n := ⟨_, rfl⟩
  rw [e1] at hb z1 l1
  rw [e2] at hb z2 l2
  rw [e3] at hb z3 l3
  rw [e4] at hb z4 l4
  rw [e5] at hb z5 l7
  have HE1 := Lib.hid e1
  have HE2 := Lib.hid e2
  have HE3 := Lib.hid e3
  have HE4 := Lib.hid e4
  have HE5 := Lib.hid e5
  have Z1 := Lib.hid z1
  have Z2 := Lib.hid z2
  have Z3 := Lib.hid z3
  have Z4 := Lib.hid z4
  have Z5 := Lib.hid z5
  have V1 := Lib.hid hpos
  have V2 := Lib.hid hneg
  have V3 := Lib.hid hups
  have V4 := Lib.hid hdowns
  have V5 := Lib.hid hcus
  have HPP := Lib.hid hP
  have HK0 := Lib.hid hb
  have HB := Lib.hid hb
  have HE := Lib.hid hE
  obtain ⟨Y0, hY0⟩ : ∃ Y : List UInt8, [] = Y := ⟨_, rfl⟩
  have HR0 : Hid (Put w e o xs Y0 w) := Lib.hid (by rw [← hY0]; exact Put.refl hE)
  have hv0 : Y0.length ≤ 0 := by rw [← hY0]; exact Nat.le_refl _
  have HY0 := Lib.hid hY0
  have p0 : w.cell? ⟨g, 0, none⟩ = some (.int .u8 hint.toNat) := hb.cell 0
  have hr8 := run168
  clear e1 e2 e3 e4 e5 z1 z2 z3 z4 z5 hpos hneg hups hdowns hfups hfdowns hcus hP hb hE hY0
  go_enter Tryz.func189, Tryz.ntmps189
  go_wp2_with (first
    | (go_at_call 180; refine (put_more2 HR0.out (f := 180) (args := #[.pointer (some ⟨e, 0, none⟩), .int .u8 hint.toNat]) (zs := [hint]) (fun o2 he => putByte _ o2 _ hint _ he (by rw [List.length_append]; omega))).mono ?_; rintro r1 w1 ⟨rfl, R, K⟩
       have hB := K.out _ _ _ (by decide) (by decide) HK0.out
       have p1 : w1.cell? ⟨g, 1, none⟩ = some (.int .i32 schema) := hB.cell 1
       have HK1 := Lib.hid hB
       obtain ⟨Y1, hY⟩ : ∃ Y, Y0 ++ [hint] = Y := ⟨_, rfl⟩
       rw [hY] at R
       have hv1 : Y1.length ≤ 1 := by have hq : ([hint]).length ≤ 1 := (by simp); rw [← hY, List.length_append]; omega
       have HY1 := Lib.hid hY
       have HR1 := Lib.hid R
       clear R K hB hY HR0 HK0 hv0 p0)
    | (go_at_call 183; refine (put_more2 HR1.out (f := 183) (args := #[.pointer (some ⟨e, 0, none⟩), .int .i64 schema]) (zs := zzu schema) (fun o2 he => putVarint64 _ o2 _ schema (by omega) (by omega) _ he (by rw [List.length_append]; omega))).mono ?_; rintro r2 w2 ⟨rfl, R, K⟩
       have hB := K.out _ _ _ (by decide) (by decide) HK1.out
       have p2 : w2.cell? ⟨g, 2, none⟩ = some (.float .f64 thr) := hB.cell 2
       have HK2 := Lib.hid hB
       obtain ⟨Y2, hY⟩ : ∃ Y, Y1 ++ zzu schema = Y := ⟨_, rfl⟩
       rw [hY] at R
       have hv2 : Y2.length ≤ 11 := by have hq : (zzu schema).length ≤ 10 := zzu_len schema (by omega) (by omega); rw [← hY, List.length_append]; omega
       have HY2 := Lib.hid hY
       have HR2 := Lib.hid R
       clear R K hB hY HR1 HK1 hv1 p1)
    | (go_at_call 181; refine (put_more2 HR2.out (f := 181) (args := #[.pointer (some ⟨e, 0, none⟩), .int .u64 thr]) (zs := Lib.beBytes 8 thr) (fun o2 he => putBE64 _ o2 _ thr ht _ he (by rw [List.length_append]; omega))).mono ?_; rintro r3 w3 ⟨rfl, R, K⟩
       have hB := K.out _ _ _ (by decide) (by decide) HK2.out
       have p3 : w3.cell? ⟨g, 3, none⟩ = some (.int .u64 zc) := hB.cell 3
       have HK3 := Lib.hid hB
       obtain ⟨Y3, hY⟩ : ∃ Y, Y2 ++ Lib.beBytes 8 thr = Y := ⟨_, rfl⟩
       rw [hY] at R
       have hv3 : Y3.length ≤ 19 := by have hq : (Lib.beBytes 8 thr).length ≤ 8 := (by simp [Lib.beBytes_length]); rw [← hY, List.length_append]; omega
       have HY3 := Lib.hid hY
       have HR3 := Lib.hid R
       clear R K hB hY HR2 HK2 hv2 p2)
    | (go_at_call 185; refine (put_more2 HR3.out (f := 185) (args := #[.pointer (some ⟨e, 0, none⟩), .int .u64 zc]) (zs := Lib.uvarint zc) (fun o2 he => putUvarint64 _ o2 _ zc hz _ he (by rw [List.length_append]; omega))).mono ?_; rintro r4 w4 ⟨rfl, R, K⟩
       have hB := K.out _ _ _ (by decide) (by decide) HK3.out
       have p4 : w4.cell? ⟨g, 4, none⟩ = some (.int .u64 cnt) := hB.cell 4
       have HK4 := Lib.hid hB
       obtain ⟨Y4, hY⟩ : ∃ Y, Y3 ++ Lib.uvarint zc = Y := ⟨_, rfl⟩
       rw [hY] at R
       have hv4 : Y4.length ≤ 29 := by have hq : (Lib.uvarint zc).length ≤ 10 := Lib.uvarint_length64 hz; rw [← hY, List.length_append]; omega
       have HY4 := Lib.hid hY
       have HR4 := Lib.hid R
       clear R K hB hY HR3 HK3 hv3 p3)
    | (go_at_call 185; refine (put_more2 HR4.out (f := 185) (args := #[.pointer (some ⟨e, 0, none⟩), .int .u64 cnt]) (zs := Lib.uvarint cnt) (fun o2 he => putUvarint64 _ o2 _ cnt hcn _ he (by rw [List.length_append]; omega))).mono ?_; rintro r5 w5 ⟨rfl, R, K⟩
       have hB := K.out _ _ _ (by decide) (by decide) HK4.out
       have p5 : w5.cell? ⟨g, 5, none⟩ = some (.float .f64 sum) := hB.cell 5
       have HK5 := Lib.hid hB
       obtain ⟨Y5, hY⟩ : ∃ Y, Y4 ++ Lib.uvarint cnt = Y := ⟨_, rfl⟩
       rw [hY] at R
       have hv5 : Y5.length ≤ 39 := by have hq : (Lib.uvarint cnt).length ≤ 10 := Lib.uvarint_length64 hcn; rw [← hY, List.length_append]; omega
       have HY5 := Lib.hid hY
       have HR5 := Lib.hid R
       clear R K hB hY HR4 HK4 hv4 p4)
    | (go_at_call 181; refine (put_more2 HR5.out (f := 181) (args := #[.pointer (some ⟨e, 0, none⟩), .int .u64 sum]) (zs := Lib.beBytes 8 sum) (fun o2 he => putBE64 _ o2 _ sum hsu _ he (by rw [List.length_append]; omega))).mono ?_; rintro r6 w6 ⟨rfl, R, K⟩
       have hB := K.out _ _ _ (by decide) (by decide) HK5.out
       have p6 : w6.cell? ⟨g, 6, none⟩ = some (.slice A1 n1 c1) := hB.cell 6
       have HK6 := Lib.hid hB
       obtain ⟨Y6, hY⟩ : ∃ Y, Y5 ++ Lib.beBytes 8 sum = Y := ⟨_, rfl⟩
       rw [hY] at R
       have hv6 : Y6.length ≤ 47 := by have hq : (Lib.beBytes 8 sum).length ≤ 8 := (by simp [Lib.beBytes_length]); rw [← hY, List.length_append]; omega
       have HY6 := Lib.hid hY
       have HR6 := Lib.hid R
       clear R K hB hY HR5 HK5 hv5 p5)
    | (go_at_call 186; refine (put_more2 HR6.out (f := 186) (args := #[.pointer (some ⟨e, 0, none⟩), .int .i64 n1]) (zs := Lib.uvarint n1) (fun o2 he => putUvarint _ o2 _ n1 (by omega) _ he (by rw [List.length_append]; omega))).mono ?_; rintro r7 w7 ⟨rfl, R, K⟩
       clear p6
       have hB := K.out _ _ _ (by decide) (by decide) HK6.out
       have p6 : w7.cell? ⟨g, 6, none⟩ = some (.slice A1 n1 c1) := hB.cell 6
       have HK7 := Lib.hid hB
       obtain ⟨Y7, hY⟩ : ∃ Y, Y6 ++ Lib.uvarint n1 = Y := ⟨_, rfl⟩
       rw [hY] at R
       have hv7 : Y7.length ≤ 57 := by have hq : (Lib.uvarint n1).length ≤ 10 := Lib.uvarint_length64 (by omega); rw [← hY, List.length_append]; omega
       have HY7 := Lib.hid hY
       have HR7 := Lib.hid R
       clear R K hB hY HR6 HK6 hv6))
  go_loopw [65] (fun i wr => ∃ k : Nat, k ≤ n1 ∧ i = .int .i64 k ∧ Hid (Put w e o xs (Y7 ++ (pos.take k).flatMap encSpan) wr)) (fun i _ => n1 - (intOf i).toNat)
  case atStart => exact ⟨0, Nat.zero_le _, rfl, Lib.hid (by simpa using HR7.out)⟩
  case round =>
    obtain ⟨k, hk, rfl, HRk⟩ := hrel
    by_cases hlt : k < n1
    · have hzz := Z1.out.fr (HRk.out).fr HPP.out
      obtain ⟨g1, off, rfl, _, hcell⟩ := hzz.at (by omega)
      obtain ⟨x, hx⟩ : ∃ x, pos[k]? = some x := ⟨_, List.getElem?_eq_getElem (by rw [HE1.out]; exact hlt)⟩
      obtain ⟨hx0, hx1, hx2⟩ := V1.out x (List.mem_of_getElem? hx)
      have d0 : wr.cell? ⟨g1, off + k * 2, none⟩ = some (.int .i32 x.1) := hcell (k * 2) _ (by rw [show k * 2 = k * 2 + 0 by rfl, flat2 spc (fun _ => rfl) pos k x hx 0 (by omega)]; rfl)
      have d1 : wr.cell? ⟨g1, off + k * 2 + 1, none⟩ = some (.int .u32 x.2) := hcell (k * 2 + 1) _ (by rw [flat2 spc (fun _ => rfl) pos k x hx 1 (by omega)]; rfl)
      have hyl := take_len_le encSpan 20 pos k (fun x hx => encSpan_len x (V1.out x hx))
      have hk9 : k * 20 ≤ 60 * 20 := Nat.mul_le_mul_right _ (by omega)
      have HX := Lib.hid hx
      obtain ⟨x1, x2⟩ := x
      simp only [] at hx0 hx1 hx2 d0 d1
      have RA := (HRk.out).alloc (.cells #[.int .i32 x1, .int .u32 x2] 361)
      obtain ⟨Y, hY⟩ : ∃ Y, Y7 ++ (pos.take k).flatMap encSpan = Y := ⟨_, rfl⟩
      rw [hY] at RA
      have hv : Y.length ≤ 57 + 1200 := by rw [← hY, List.length_append]; omega
      have HY := Lib.hid hY
      have HBX := Lib.hid (Blk.new wr 361 #[.int .i32 x1, .int .u32 x2])
      have HRA := Lib.hid RA
      have hw1 := zzu_len x1 (by omega) (by omega)
      clear hzz hcell hx hyl hk9 RA hY HRk
      go_wp2_with (first
        | (go_at_call 183; refine (put_more2 HRA.out (f := 183) (args := #[.pointer (some ⟨e, 0, none⟩), .int .i64 x1]) (zs := zzu x1) (fun o2 he => putVarint64 _ o2 _ x1 (by omega) (by omega) _ he (by rw [List.length_append]; omega))).mono ?_; rintro rA wA ⟨rfl, R1, K1⟩
           have p1 : wA.cell? ⟨wr.heap.size, 1, none⟩ = some (.int .u32 x2) := (K1.out _ _ _ (by decide) (by decide) HBX.out).cell 1
           have HR2 := Lib.hid R1
           have hv2 : (Y ++ zzu x1).length ≤ 57 + 1210 := by rw [List.length_append]; omega
           clear R1 K1 HRA)
        | (go_at_call 243; refine (put_more2 HR2.out (f := 243) (args := #[.pointer (some ⟨e, 0, none⟩), .int .u32 x2]) (zs := Lib.uvarint x2) (fun o2 he => putUvarint32 _ o2 _ x2 hx2 _ he (by rw [List.length_append]; omega))).mono ?_; rintro rB wB ⟨rfl, R1, K1⟩
           have HR8 := Lib.hid R1
           clear R1 K1 HR2))
      have HRE : Hid (Put w e o xs (Y7 ++ (pos.take (k + 1)).flatMap encSpan) wB) := Lib.hid (by
        rw [flatMap_take_succ' encSpan pos k _ HX.out, ← List.append_assoc, HY.out]
        simpa [encSpan, List.append_assoc] using HR8.out)
      clear HR8
      go_wp2
      go_roundw
      case rel => exact ⟨k + 1, by omega, by go_num, HRE⟩
      case measure => simp [intOf]; omega
    · obtain rfl : k = n1 := by omega
      have R := HRk.out
      rw [List.take_of_length_le (by rw [HE1.out]; exact Nat.le_refl _)] at R
      have hyl := take_len_le encSpan 20 pos k (fun x hx => encSpan_len x (V1.out x hx))
      rw [List.take_of_length_le (by rw [HE1.out]; exact Nat.le_refl _)] at hyl
      have hk9 : k * 20 ≤ 60 * 20 := Nat.mul_le_mul_right _ (by omega)
      obtain ⟨Y8, hY⟩ : ∃ Y, Y7 ++ pos.flatMap encSpan = Y := ⟨_, rfl⟩
      rw [hY] at R
      have hv8 : Y8.length ≤ 1257 := by rw [← hY, List.length_append]; omega
      have HY8 := Lib.hid hY
      have hB := R.blk HE.out HB.out (by decide) (by decide)
      have HK8 := Lib.hid hB
      have HR8 := Lib.hid R
      have p7 : wr.cell? ⟨g, 7, none⟩ = some (.slice A2 n2 c2) := hB.cell 7
      clear R hyl hk9 hY hB HRk HR7 HK7 hv7 hlt hk
      go_wp2_with (go_at_call 186; refine (put_more2 HR8.out (f := 186) (args := #[.pointer (some ⟨e, 0, none⟩), .int .i64 n2]) (zs := Lib.uvarint n2) (fun o2 he => putUvarint _ o2 _ n2 (by omega) _ he (by rw [List.length_append]; omega))).mono ?_; rintro r9 w9 ⟨rfl, R, K⟩
                   clear p7
                   have hB := K.out _ _ _ (by decide) (by decide) HK8.out
                   have p7 : w9.cell? ⟨g, 7, none⟩ = some (.slice A2 n2 c2) := hB.cell 7
                   have HK9 := Lib.hid hB
                   obtain ⟨Y9, hY⟩ : ∃ Y, Y8 ++ Lib.uvarint n2 = Y := ⟨_, rfl⟩
                   rw [hY] at R
                   have hv9 : Y9.length ≤ 1267 := by have hq : (Lib.uvarint n2).length ≤ 10 := Lib.uvarint_length64 (by omega); rw [← hY, List.length_append]; omega
                   have HY9 := Lib.hid hY
                   have HR9 := Lib.hid R
                   clear R K hB hY HR8 HK8 hv8)
      go_loopw [91] (fun i wr => ∃ k : Nat, k ≤ n2 ∧ i = .int .i64 k ∧ Hid (Put w e o xs (Y9 ++ (neg.take k).flatMap encSpan) wr)) (fun i _ => n2 - (intOf i).toNat)
      case atStart => exact ⟨0, Nat.zero_le _, rfl, Lib.hid (by simpa using HR9.out)⟩
      case round =>
        obtain ⟨k, hk, rfl, HRk⟩ := hrel
        by_cases hlt : k < n2
        · have hzz := Z2.out.fr (HRk.out).fr HPP.out
          obtain ⟨g1, off, rfl, _, hcell⟩ := hzz.at (by omega)
          obtain ⟨x, hx⟩ : ∃ x, neg[k]? = some x := ⟨_, List.getElem?_eq_getElem (by rw [HE2.out]; exact hlt)⟩
          obtain ⟨hx0, hx1, hx2⟩ := V2.out x (List.mem_of_getElem? hx)
          have d0 : wr.cell? ⟨g1, off + k * 2, none⟩ = some (.int .i32 x.1) := hcell (k * 2) _ (by rw [show k * 2 = k * 2 + 0 by rfl, flat2 spc (fun _ => rfl) neg k x hx 0 (by omega)]; rfl)
          have d1 : wr.cell? ⟨g1, off + k * 2 + 1, none⟩ = some (.int .u32 x.2) := hcell (k * 2 + 1) _ (by rw [flat2 spc (fun _ => rfl) neg k x hx 1 (by omega)]; rfl)
          have hyl := take_len_le encSpan 20 neg k (fun x hx => encSpan_len x (V2.out x hx))
          have hk9 : k * 20 ≤ 60 * 20 := Nat.mul_le_mul_right _ (by omega)
          have HX := Lib.hid hx
          obtain ⟨x1, x2⟩ := x
          simp only [] at hx0 hx1 hx2 d0 d1
          have RA := (HRk.out).alloc (.cells #[.int .i32 x1, .int .u32 x2] 361)
          obtain ⟨Y, hY⟩ : ∃ Y, Y9 ++ (neg.take k).flatMap encSpan = Y := ⟨_, rfl⟩
          rw [hY] at RA
          have hv : Y.length ≤ 1267 + 1200 := by rw [← hY, List.length_append]; omega
          have HY := Lib.hid hY
          have HBX := Lib.hid (Blk.new wr 361 #[.int .i32 x1, .int .u32 x2])
          have HRA := Lib.hid RA
          have hw1 := zzu_len x1 (by omega) (by omega)
          clear hzz hcell hx hyl hk9 RA hY HRk
          go_wp2_with (first
            | (go_at_call 183; refine (put_more2 HRA.out (f := 183) (args := #[.pointer (some ⟨e, 0, none⟩), .int .i64 x1]) (zs := zzu x1) (fun o2 he => putVarint64 _ o2 _ x1 (by omega) (by omega) _ he (by rw [List.length_append]; omega))).mono ?_; rintro rA wA ⟨rfl, R1, K1⟩
               have p1 : wA.cell? ⟨wr.heap.size, 1, none⟩ = some (.int .u32 x2) := (K1.out _ _ _ (by decide) (by decide) HBX.out).cell 1
               have HR2 := Lib.hid R1
               have hv2 : (Y ++ zzu x1).length ≤ 1267 + 1210 := by rw [List.length_append]; omega
               clear R1 K1 HRA)
            | (go_at_call 243; refine (put_more2 HR2.out (f := 243) (args := #[.pointer (some ⟨e, 0, none⟩), .int .u32 x2]) (zs := Lib.uvarint x2) (fun o2 he => putUvarint32 _ o2 _ x2 hx2 _ he (by rw [List.length_append]; omega))).mono ?_; rintro rB wB ⟨rfl, R1, K1⟩
               have HR8 := Lib.hid R1
               clear R1 K1 HR2))
          have HRE : Hid (Put w e o xs (Y9 ++ (neg.take (k + 1)).flatMap encSpan) wB) := Lib.hid (by
            rw [flatMap_take_succ' encSpan neg k _ HX.out, ← List.append_assoc, HY.out]
            simpa [encSpan, List.append_assoc] using HR8.out)
          clear HR8
          go_wp2
          go_roundw
          case rel => exact ⟨k + 1, by omega, by go_num, HRE⟩
          case measure => simp [intOf]; omega
        · obtain rfl : k = n2 := by omega
          have R := HRk.out
          rw [List.take_of_length_le (by rw [HE2.out]; exact Nat.le_refl _)] at R
          have hyl := take_len_le encSpan 20 neg k (fun x hx => encSpan_len x (V2.out x hx))
          rw [List.take_of_length_le (by rw [HE2.out]; exact Nat.le_refl _)] at hyl
          have hk9 : k * 20 ≤ 60 * 20 := Nat.mul_le_mul_right _ (by omega)
          obtain ⟨Y10, hY⟩ : ∃ Y, Y9 ++ neg.flatMap encSpan = Y := ⟨_, rfl⟩
          rw [hY] at R
          have hv10 : Y10.length ≤ 2467 := by rw [← hY, List.length_append]; omega
          have HY10 := Lib.hid hY
          have hB := R.blk HE.out HB.out (by decide) (by decide)
          have HK10 := Lib.hid hB
          have HR10 := Lib.hid R
          have p8 : wr.cell? ⟨g, 8, none⟩ = some (.slice A3 n3 c3) := hB.cell 8
          clear R hyl hk9 hY hB HRk HR9 HK9 hv9 hlt hk
          go_wp2_with (go_at_call 186; refine (put_more2 HR10.out (f := 186) (args := #[.pointer (some ⟨e, 0, none⟩), .int .i64 n3]) (zs := Lib.uvarint n3) (fun o2 he => putUvarint _ o2 _ n3 (by omega) _ he (by rw [List.length_append]; omega))).mono ?_; rintro r11 w11 ⟨rfl, R, K⟩
                       clear p8
                       have hB := K.out _ _ _ (by decide) (by decide) HK10.out
                       have p8 : w11.cell? ⟨g, 8, none⟩ = some (.slice A3 n3 c3) := hB.cell 8
                       have HK11 := Lib.hid hB
                       obtain ⟨Y11, hY⟩ : ∃ Y, Y10 ++ Lib.uvarint n3 = Y := ⟨_, rfl⟩
                       rw [hY] at R
                       have hv11 : Y11.length ≤ 2477 := by have hq : (Lib.uvarint n3).length ≤ 10 := Lib.uvarint_length64 (by omega); rw [← hY, List.length_append]; omega
                       have HY11 := Lib.hid hY
                       have HR11 := Lib.hid R
                       clear R K hB hY HR10 HK10 hv10)
          go_loopw [117] (fun i wr => ∃ k : Nat, k ≤ n3 ∧ i = .int .i64 k ∧ Hid (Put w e o xs (Y11 ++ (ups.take k).flatMap zzu) wr)) (fun i _ => n3 - (intOf i).toNat)
          case atStart => exact ⟨0, Nat.zero_le _, rfl, Lib.hid (by simpa using HR11.out)⟩
          case round =>
            obtain ⟨k, hk, rfl, HRk⟩ := hrel
            by_cases hlt : k < n3
            · have hzz := Z3.out.fr (HRk.out).fr HPP.out
              obtain ⟨g1, off, rfl, _, hcell⟩ := hzz.at (by omega)
              obtain ⟨x, hx⟩ : ∃ x, ups[k]? = some x := ⟨_, List.getElem?_eq_getElem (by rw [HE3.out]; exact hlt)⟩
              obtain ⟨hx0, hx1⟩ := V3.out x (List.mem_of_getElem? hx)
              have d0 : wr.cell? ⟨g1, off + k, none⟩ = some (.int .i64 x) := hcell k _ (by rw [flat1 i1 (fun _ => rfl) ups k x hx]; rfl)
              have hyl := take_len_le zzu 10 ups k (fun x hx => zzu_len x (V3.out x hx).1 (V3.out x hx).2)
              have hk9 : k * 10 ≤ 60 * 10 := Nat.mul_le_mul_right _ (by omega)
              have HX := Lib.hid hx
              have RA := HRk.out
              obtain ⟨Y, hY⟩ : ∃ Y, Y11 ++ (ups.take k).flatMap zzu = Y := ⟨_, rfl⟩
              rw [hY] at RA
              have hv : Y.length ≤ 2477 + 600 := by rw [← hY, List.length_append]; omega
              have HY := Lib.hid hY
              have HRA := Lib.hid RA
              clear hzz hcell hx hyl hk9 RA hY HRk
              go_wp2_with (go_at_call 183; refine (put_more2 HRA.out (f := 183) (args := #[.pointer (some ⟨e, 0, none⟩), .int .i64 x]) (zs := zzu x) (fun o2 he => putVarint64 _ o2 _ x hx0 hx1 _ he (by rw [List.length_append]; omega))).mono ?_; rintro rA wA ⟨rfl, R1, K1⟩
                           have HR8 := Lib.hid R1
                           clear R1 K1 HRA)
              have HRE : Hid (Put w e o xs (Y11 ++ (ups.take (k + 1)).flatMap zzu) wA) := Lib.hid (by
                rw [flatMap_take_succ' zzu ups k _ HX.out, ← List.append_assoc, HY.out]
                exact HR8.out)
              clear HR8
              go_wp2
              go_roundw
              case rel => exact ⟨k + 1, by omega, by go_num, HRE⟩
              case measure => simp [intOf]; omega
            · obtain rfl : k = n3 := by omega
              have R := HRk.out
              rw [List.take_of_length_le (by rw [HE3.out]; exact Nat.le_refl _)] at R
              have hyl := take_len_le zzu 10 ups k (fun x hx => zzu_len x (V3.out x hx).1 (V3.out x hx).2)
              rw [List.take_of_length_le (by rw [HE3.out]; exact Nat.le_refl _)] at hyl
              have hk9 : k * 10 ≤ 60 * 10 := Nat.mul_le_mul_right _ (by omega)
              obtain ⟨Y12, hY⟩ : ∃ Y, Y11 ++ ups.flatMap zzu = Y := ⟨_, rfl⟩
              rw [hY] at R
              have hv12 : Y12.length ≤ 3077 := by rw [← hY, List.length_append]; omega
              have HY12 := Lib.hid hY
              have hB := R.blk HE.out HB.out (by decide) (by decide)
              have HK12 := Lib.hid hB
              have HR12 := Lib.hid R
              have p9 : wr.cell? ⟨g, 9, none⟩ = some (.slice A4 n4 c4) := hB.cell 9
              clear R hyl hk9 hY hB HRk HR11 HK11 hv11 hlt hk
              go_wp2_with (go_at_call 186; refine (put_more2 HR12.out (f := 186) (args := #[.pointer (some ⟨e, 0, none⟩), .int .i64 n4]) (zs := Lib.uvarint n4) (fun o2 he => putUvarint _ o2 _ n4 (by omega) _ he (by rw [List.length_append]; omega))).mono ?_; rintro r13 w13 ⟨rfl, R, K⟩
                           clear p9
                           have hB := K.out _ _ _ (by decide) (by decide) HK12.out
                           have p9 : w13.cell? ⟨g, 9, none⟩ = some (.slice A4 n4 c4) := hB.cell 9
                           have HK13 := Lib.hid hB
                           obtain ⟨Y13, hY⟩ : ∃ Y, Y12 ++ Lib.uvarint n4 = Y := ⟨_, rfl⟩
                           rw [hY] at R
                           have hv13 : Y13.length ≤ 3087 := by have hq : (Lib.uvarint n4).length ≤ 10 := Lib.uvarint_length64 (by omega); rw [← hY, List.length_append]; omega
                           have HY13 := Lib.hid hY
                           have HR13 := Lib.hid R
                           clear R K hB hY HR12 HK12 hv12)
              go_loopw [137] (fun i wr => ∃ k : Nat, k ≤ n4 ∧ i = .int .i64 k ∧ Hid (Put w e o xs (Y13 ++ (downs.take k).flatMap zzu) wr)) (fun i _ => n4 - (intOf i).toNat)
              case atStart => exact ⟨0, Nat.zero_le _, rfl, Lib.hid (by simpa using HR13.out)⟩
              case round =>
                obtain ⟨k, hk, rfl, HRk⟩ := hrel
                by_cases hlt : k < n4
                · have hzz := Z4.out.fr (HRk.out).fr HPP.out
                  obtain ⟨g1, off, rfl, _, hcell⟩ := hzz.at (by omega)
                  obtain ⟨x, hx⟩ : ∃ x, downs[k]? = some x := ⟨_, List.getElem?_eq_getElem (by rw [HE4.out]; exact hlt)⟩
                  obtain ⟨hx0, hx1⟩ := V4.out x (List.mem_of_getElem? hx)
                  have d0 : wr.cell? ⟨g1, off + k, none⟩ = some (.int .i64 x) := hcell k _ (by rw [flat1 i1 (fun _ => rfl) downs k x hx]; rfl)
                  have hyl := take_len_le zzu 10 downs k (fun x hx => zzu_len x (V4.out x hx).1 (V4.out x hx).2)
                  have hk9 : k * 10 ≤ 60 * 10 := Nat.mul_le_mul_right _ (by omega)
                  have HX := Lib.hid hx
                  have RA := HRk.out
                  obtain ⟨Y, hY⟩ : ∃ Y, Y13 ++ (downs.take k).flatMap zzu = Y := ⟨_, rfl⟩
                  rw [hY] at RA
                  have hv : Y.length ≤ 3087 + 600 := by rw [← hY, List.length_append]; omega
                  have HY := Lib.hid hY
                  have HRA := Lib.hid RA
                  clear hzz hcell hx hyl hk9 RA hY HRk
                  go_wp2_with (go_at_call 183; refine (put_more2 HRA.out (f := 183) (args := #[.pointer (some ⟨e, 0, none⟩), .int .i64 x]) (zs := zzu x) (fun o2 he => putVarint64 _ o2 _ x hx0 hx1 _ he (by rw [List.length_append]; omega))).mono ?_; rintro rA wA ⟨rfl, R1, K1⟩
                               have HR8 := Lib.hid R1
                               clear R1 K1 HRA)
                  have HRE : Hid (Put w e o xs (Y13 ++ (downs.take (k + 1)).flatMap zzu) wA) := Lib.hid (by
                    rw [flatMap_take_succ' zzu downs k _ HX.out, ← List.append_assoc, HY.out]
                    exact HR8.out)
                  clear HR8
                  go_wp2
                  go_roundw
                  case rel => exact ⟨k + 1, by omega, by go_num, HRE⟩
                  case measure => simp [intOf]; omega
                · obtain rfl : k = n4 := by omega
                  have R := HRk.out
                  rw [List.take_of_length_le (by rw [HE4.out]; exact Nat.le_refl _)] at R
                  have hyl := take_len_le zzu 10 downs k (fun x hx => zzu_len x (V4.out x hx).1 (V4.out x hx).2)
                  rw [List.take_of_length_le (by rw [HE4.out]; exact Nat.le_refl _)] at hyl
                  have hk9 : k * 10 ≤ 60 * 10 := Nat.mul_le_mul_right _ (by omega)
                  obtain ⟨Y14, hY⟩ : ∃ Y, Y13 ++ downs.flatMap zzu = Y := ⟨_, rfl⟩
                  rw [hY] at R
                  have hv14 : Y14.length ≤ 3687 := by rw [← hY, List.length_append]; omega
                  have HY14 := Lib.hid hY
                  have hB := R.blk HE.out HB.out (by decide) (by decide)
                  have HK14 := Lib.hid hB
                  have HR14 := Lib.hid R
                  have p1 : wr.cell? ⟨g, 1, none⟩ = some (.int .i32 schema) := hB.cell 1
                  clear R hyl hk9 hY hB HRk HR13 HK13 hv13 hlt hk
                  rcases hcu : (schema == -53) with _ | _
                  · go_wp2_with (go_at_call 233; refine (isCustom_any schema _).mono ?_; rintro rc wc ⟨rfl, rfl⟩)
                    go_end0
                    refine ⟨rfl, ?_⟩
                    have hR := HR14.out
                    have hne : ¬ schema = -53 := by simpa using hcu
                    rw [← HY14.out, ← HY13.out, ← HY12.out, ← HY11.out, ← HY10.out, ← HY9.out, ← HY8.out, ← HY7.out, ← HY6.out, ← HY5.out, ← HY4.out, ← HY3.out, ← HY2.out, ← HY1.out, ← HY0.out] at hR
                    simpa [encHistW, encSpans, encInts, encBits, encCus, hne, HE1.out, HE2.out, HE3.out, HE4.out, List.append_assoc] using hR
                  · have p10 : wr.cell? ⟨g, 10, none⟩ = some (.slice A5 n5 c5) := HK14.out.cell 10
                    go_wp2_with (first
                      | (go_at_call 233; refine (isCustom_any schema _).mono ?_; rintro rc wc ⟨rfl, rfl⟩)
                      | (go_at_call 186; refine (put_more2 HR14.out (f := 186) (args := #[.pointer (some ⟨e, 0, none⟩), .int .i64 n5]) (zs := Lib.uvarint n5) (fun o2 he => putUvarint _ o2 _ n5 (by omega) _ he (by rw [List.length_append]; omega))).mono ?_; rintro r15 w15 ⟨rfl, R, K⟩
                         clear p10 p1
                         have hB := K.out _ _ _ (by decide) (by decide) HK14.out
                         have p10 : w15.cell? ⟨g, 10, none⟩ = some (.slice A5 n5 c5) := hB.cell 10
                         have HK15 := Lib.hid hB
                         obtain ⟨Y15, hY⟩ : ∃ Y, Y14 ++ Lib.uvarint n5 = Y := ⟨_, rfl⟩
                         rw [hY] at R
                         have hv15 : Y15.length ≤ 3697 := by have hq : (Lib.uvarint n5).length ≤ 10 := Lib.uvarint_length64 (by omega); rw [← hY, List.length_append]; omega
                         have HY15 := Lib.hid hY
                         have HR15 := Lib.hid R
                         clear R K hB hY HR14 HK14 hv14))
                    go_loopw [162] (fun i wr => ∃ k : Nat, k ≤ n5 ∧ i = .int .i64 k ∧ Hid (Put w e o xs (Y15 ++ (cus.take k).flatMap (Lib.beBytes 8)) wr)) (fun i _ => n5 - (intOf i).toNat)
                    case atStart => exact ⟨0, Nat.zero_le _, rfl, Lib.hid (by simpa using HR15.out)⟩
                    case round =>
                      obtain ⟨k, hk, rfl, HRk⟩ := hrel
                      by_cases hlt : k < n5
                      · have hzz := Z5.out.fr (HRk.out).fr HPP.out
                        obtain ⟨g1, off, rfl, _, hcell⟩ := hzz.at (by omega)
                        obtain ⟨x, hx⟩ : ∃ x, cus[k]? = some x := ⟨_, List.getElem?_eq_getElem (by rw [HE5.out]; exact hlt)⟩
                        have hx0 := V5.out x (List.mem_of_getElem? hx)
                        have d0 : wr.cell? ⟨g1, off + k, none⟩ = some (.float .f64 x) := hcell k _ (by rw [flat1 f1 (fun _ => rfl) cus k x hx]; rfl)
                        have hyl := take_len_le (Lib.beBytes 8) 8 cus k (fun x hx => by simp [Lib.beBytes_length])
                        have hk9 : k * 8 ≤ 60 * 8 := Nat.mul_le_mul_right _ (by omega)
                        have HX := Lib.hid hx
                        have RA := HRk.out
                        obtain ⟨Y, hY⟩ : ∃ Y, Y15 ++ (cus.take k).flatMap (Lib.beBytes 8) = Y := ⟨_, rfl⟩
                        rw [hY] at RA
                        have hv : Y.length ≤ 3697 + 480 := by rw [← hY, List.length_append]; omega
                        have HY := Lib.hid hY
                        have HRA := Lib.hid RA
                        clear hzz hcell hx hyl hk9 RA hY HRk
                        go_wp2_with (go_at_call 244; refine (put_more2 HRA.out (f := 244) (args := #[.pointer (some ⟨e, 0, none⟩), .float .f64 x]) (zs := Lib.beBytes 8 x) (fun o2 he => putBEFloat64 _ o2 _ x hx0 _ he (by rw [List.length_append]; omega))).mono ?_; rintro rA wA ⟨rfl, R1, K1⟩
                                     have HR8 := Lib.hid R1
                                     clear R1 K1 HRA)
                        have HRE : Hid (Put w e o xs (Y15 ++ (cus.take (k + 1)).flatMap (Lib.beBytes 8)) wA) := Lib.hid (by
                          rw [flatMap_take_succ' (Lib.beBytes 8) cus k _ HX.out, ← List.append_assoc, HY.out]
                          exact HR8.out)
                        clear HR8
                        go_wp2
                        go_roundw
                        case rel => exact ⟨k + 1, by omega, by go_num, HRE⟩
                        case measure => simp [intOf]; omega
                      · obtain rfl : k = n5 := by omega
                        have R := HRk.out
                        rw [List.take_of_length_le (by rw [HE5.out]; exact Nat.le_refl _)] at R
                        have hyl := take_len_le (Lib.beBytes 8) 8 cus k (fun x hx => by simp [Lib.beBytes_length])
                        rw [List.take_of_length_le (by rw [HE5.out]; exact Nat.le_refl _)] at hyl
                        have hk9 : k * 8 ≤ 60 * 8 := Nat.mul_le_mul_right _ (by omega)
                        obtain ⟨Y16, hY⟩ : ∃ Y, Y15 ++ cus.flatMap (Lib.beBytes 8) = Y := ⟨_, rfl⟩
                        rw [hY] at R
                        have hv16 : Y16.length ≤ 4177 := by rw [← hY, List.length_append]; omega
                        have HY16 := Lib.hid hY
                        have hB := R.blk HE.out HB.out (by decide) (by decide)
                        have HK16 := Lib.hid hB
                        have HR16 := Lib.hid R
                        clear hyl hk9 hY hB HRk HR15 HK15 hv15 hlt hk
                        go_wp2
                        go_end0
                        refine ⟨rfl, ?_⟩
                        have hR := R
                        have hne : schema = -53 := by simpa using hcu
                        rw [← HY16.out, ← HY15.out, ← HY14.out, ← HY13.out, ← HY12.out, ← HY11.out, ← HY10.out, ← HY9.out, ← HY8.out, ← HY7.out, ← HY6.out, ← HY5.out, ← HY4.out, ← HY3.out, ← HY2.out, ← HY1.out, ← HY0.out] at hR
                        simpa [encHistW, encSpans, encInts, encBits, encCus, hne, HE1.out, HE2.out, HE3.out, HE4.out, HE5.out, List.append_assoc] using hR


set_option maxHeartbeats 8000000 in
set_option maxRecDepth 100000 in
theorem encHistF_any (P : Nat → Prop) (e : Nat) (o : Option Nat) (xs : List UInt8) (h : Hst) (v : Value) (w : World) (hr : RdF P w h v) (hE : Enc w e o xs) (hl : xs.length ≤ 549755813888) (hok : h.ok) (hP : ∀ g, P g → ¬ (g = e ∨ some g = o)) :
    Calls Tryz.prog 192 #[.pointer (some ⟨e, 0, none⟩), v] w (PutEnds w e o xs (encHistF h)) := by
  obtain ⟨g, s, rfl, hPg, hb, z1, z2, z3, z4, z5⟩ := hr
  obtain ⟨⟨l1, l2, l3, l4, l5, l6, l7⟩, hs0, hs1, ht, hsu, hz, hcn, hpos, hneg, hups, hdowns, hfups, hfdowns, hcus⟩ := hok
  obtain ⟨hint, schema, thr, sum, zc, cnt, pos, neg, ups, downs, fups, fdowns, cus⟩ := h
  obtain ⟨sp, sn, su, sd, sc⟩ := s
  simp only [hcF] at hb z1 z2 z3 z4 z5 l1 l2 l3 l4 l5 l6 l7 hs0 hs1 ht hsu hz hcn hpos hneg hups hdowns hfups hfdowns hcus
  obtain ⟨A1, c1, rfl⟩ := z1.shape
  obtain ⟨A2, c2, rfl⟩ := z2.shape
  obtain ⟨A3, c3, rfl⟩ := z3.shape
  obtain ⟨A4, c4, rfl⟩ := z4.shape
  obtain ⟨A5, c5, rfl⟩ := z5.shape
  obtain ⟨n1, e1⟩ : ∃ n, pos.length = n := ⟨_, rfl⟩
  obtain ⟨n2, e2⟩ : ∃ n, neg.length = n := ⟨_, rfl⟩
  obtain ⟨n3, e3⟩ : ∃ n, fups.length = n := ⟨_, rfl⟩
  obtain ⟨n4, e4⟩ : ∃ n, fdowns.length = n := ⟨_, rfl⟩
  obtain ⟨n5, e5⟩ : ∃ n, cus.length = n := ⟨_, rfl⟩
  rw [e1] at hb z1 l1
  rw [e2] at hb z2 l2
  rw [e3] at hb z3 l5
  rw [e4] at hb z4 l6
  rw [e5] at hb z5 l7
  have HE1 := Lib.hid e1
  have HE2 := Lib.hid e2
  have HE3 := Lib.hid e3
  have HE4 := Lib.hid e4
  have HE5 := Lib.hid e5
  have Z1 := Lib.hid z1
  have Z2 := Lib.hid z2
  have Z3 := Lib.hid z3
  have Z4 := Lib.hid z4
  have Z5 := Lib.hid z5
  have V1 := Lib.hid hpos
  have V2 := Lib.hid hneg
  have V3 := Lib.hid hfups
  have V4 := Lib.hid hfdowns
  have V5 := Lib.hid hcus
  have HPP := Lib.hid hP
  have HK0 := Lib.hid hb
  have HB := Lib.hid hb
  have HE := Lib.hid hE
  obtain ⟨Y0, hY0⟩ : ∃ Y : List UInt8, [] = Y := ⟨_, rfl⟩
  have HR0 : Hid (Put w e o xs Y0 w) := Lib.hid (by rw [← hY0]; exact Put.refl hE)
  have hv0 : Y0.length ≤ 0 := by rw [← hY0]; exact Nat.le_refl _
  have HY0 := Lib.hid hY0
  have p0 : w.cell? ⟨g, 0, none⟩ = some (.int .u8 hint.toNat) := hb.cell 0
  have hr8 := run168
  clear e1 e2 e3 e4 e5 z1 z2 z3 z4 z5 hpos hneg hups hdowns hfups hfdowns hcus hP hb hE hY0
  go_enter Tryz.func192, Tryz.ntmps192
  go_wp2_with (first
    | (go_at_call 180; refine (put_more2 HR0.out (f := 180) (args := #[.pointer (some ⟨e, 0, none⟩), .int .u8 hint.toNat]) (zs := [hint]) (fun o2 he => putByte _ o2 _ hint _ he (by rw [List.length_append]; omega))).mono ?_; rintro r1 w1 ⟨rfl, R, K⟩
       have hB := K.out _ _ _ (by decide) (by decide) HK0.out
       have p1 : w1.cell? ⟨g, 1, none⟩ = some (.int .i32 schema) := hB.cell 1
       have HK1 := Lib.hid hB
       obtain ⟨Y1, hY⟩ : ∃ Y, Y0 ++ [hint] = Y := ⟨_, rfl⟩
       rw [hY] at R
       have hv1 : Y1.length ≤ 1 := by have hq : ([hint]).length ≤ 1 := (by simp); rw [← hY, List.length_append]; omega
       have HY1 := Lib.hid hY
       have HR1 := Lib.hid R
       clear R K hB hY HR0 HK0 hv0 p0)
    | (go_at_call 183; refine (put_more2 HR1.out (f := 183) (args := #[.pointer (some ⟨e, 0, none⟩), .int .i64 schema]) (zs := zzu schema) (fun o2 he => putVarint64 _ o2 _ schema (by omega) (by omega) _ he (by rw [List.length_append]; omega))).mono ?_; rintro r2 w2 ⟨rfl, R, K⟩
       have hB := K.out _ _ _ (by decide) (by decide) HK1.out
       have p2 : w2.cell? ⟨g, 2, none⟩ = some (.float .f64 thr) := hB.cell 2
       have HK2 := Lib.hid hB
       obtain ⟨Y2, hY⟩ : ∃ Y, Y1 ++ zzu schema = Y := ⟨_, rfl⟩
       rw [hY] at R
       have hv2 : Y2.length ≤ 11 := by have hq : (zzu schema).length ≤ 10 := zzu_len schema (by omega) (by omega); rw [← hY, List.length_append]; omega
       have HY2 := Lib.hid hY
       have HR2 := Lib.hid R
       clear R K hB hY HR1 HK1 hv1 p1)
    | (go_at_call 244; refine (put_more2 HR2.out (f := 244) (args := #[.pointer (some ⟨e, 0, none⟩), .float .f64 thr]) (zs := Lib.beBytes 8 thr) (fun o2 he => putBEFloat64 _ o2 _ thr ht _ he (by rw [List.length_append]; omega))).mono ?_; rintro r3 w3 ⟨rfl, R, K⟩
       have hB := K.out _ _ _ (by decide) (by decide) HK2.out
       have p3 : w3.cell? ⟨g, 3, none⟩ = some (.float .f64 zc) := hB.cell 3
       have HK3 := Lib.hid hB
       obtain ⟨Y3, hY⟩ : ∃ Y, Y2 ++ Lib.beBytes 8 thr = Y := ⟨_, rfl⟩
       rw [hY] at R
       have hv3 : Y3.length ≤ 19 := by have hq : (Lib.beBytes 8 thr).length ≤ 8 := (by simp [Lib.beBytes_length]); rw [← hY, List.length_append]; omega
       have HY3 := Lib.hid hY
       have HR3 := Lib.hid R
       clear R K hB hY HR2 HK2 hv2 p2)
    | (go_at_call 244; refine (put_more2 HR3.out (f := 244) (args := #[.pointer (some ⟨e, 0, none⟩), .float .f64 zc]) (zs := Lib.beBytes 8 zc) (fun o2 he => putBEFloat64 _ o2 _ zc hz _ he (by rw [List.length_append]; omega))).mono ?_; rintro r4 w4 ⟨rfl, R, K⟩
       have hB := K.out _ _ _ (by decide) (by decide) HK3.out
       have p4 : w4.cell? ⟨g, 4, none⟩ = some (.float .f64 cnt) := hB.cell 4
       have HK4 := Lib.hid hB
       obtain ⟨Y4, hY⟩ : ∃ Y, Y3 ++ Lib.beBytes 8 zc = Y := ⟨_, rfl⟩
       rw [hY] at R
       have hv4 : Y4.length ≤ 27 := by have hq : (Lib.beBytes 8 zc).length ≤ 8 := (by simp [Lib.beBytes_length]); rw [← hY, List.length_append]; omega
       have HY4 := Lib.hid hY
       have HR4 := Lib.hid R
       clear R K hB hY HR3 HK3 hv3 p3)
    | (go_at_call 244; refine (put_more2 HR4.out (f := 244) (args := #[.pointer (some ⟨e, 0, none⟩), .float .f64 cnt]) (zs := Lib.beBytes 8 cnt) (fun o2 he => putBEFloat64 _ o2 _ cnt hcn _ he (by rw [List.length_append]; omega))).mono ?_; rintro r5 w5 ⟨rfl, R, K⟩
       have hB := K.out _ _ _ (by decide) (by decide) HK4.out
       have p5 : w5.cell? ⟨g, 5, none⟩ = some (.float .f64 sum) := hB.cell 5
       have HK5 := Lib.hid hB
       obtain ⟨Y5, hY⟩ : ∃ Y, Y4 ++ Lib.beBytes 8 cnt = Y := ⟨_, rfl⟩
       rw [hY] at R
       have hv5 : Y5.length ≤ 35 := by have hq : (Lib.beBytes 8 cnt).length ≤ 8 := (by simp [Lib.beBytes_length]); rw [← hY, List.length_append]; omega
       have HY5 := Lib.hid hY
       have HR5 := Lib.hid R
       clear R K hB hY HR4 HK4 hv4 p4)
    | (go_at_call 244; refine (put_more2 HR5.out (f := 244) (args := #[.pointer (some ⟨e, 0, none⟩), .float .f64 sum]) (zs := Lib.beBytes 8 sum) (fun o2 he => putBEFloat64 _ o2 _ sum hsu _ he (by rw [List.length_append]; omega))).mono ?_; rintro r6 w6 ⟨rfl, R, K⟩
       have hB := K.out _ _ _ (by decide) (by decide) HK5.out
       have p6 : w6.cell? ⟨g, 6, none⟩ = some (.slice A1 n1 c1) := hB.cell 6
       have HK6 := Lib.hid hB
       obtain ⟨Y6, hY⟩ : ∃ Y, Y5 ++ Lib.beBytes 8 sum = Y := ⟨_, rfl⟩
       rw [hY] at R
       have hv6 : Y6.length ≤ 43 := by have hq : (Lib.beBytes 8 sum).length ≤ 8 := (by simp [Lib.beBytes_length]); rw [← hY, List.length_append]; omega
       have HY6 := Lib.hid hY
       have HR6 := Lib.hid R
       clear R K hB hY HR5 HK5 hv5 p5)
    | (go_at_call 186; refine (put_more2 HR6.out (f := 186) (args := #[.pointer (some ⟨e, 0, none⟩), .int .i64 n1]) (zs := Lib.uvarint n1) (fun o2 he => putUvarint _ o2 _ n1 (by omega) _ he (by rw [List.length_append]; omega))).mono ?_; rintro r7 w7 ⟨rfl, R, K⟩
       clear p6
       have hB := K.out _ _ _ (by decide) (by decide) HK6.out
       have p6 : w7.cell? ⟨g, 6, none⟩ = some (.slice A1 n1 c1) := hB.cell 6
       have HK7 := Lib.hid hB
       obtain ⟨Y7, hY⟩ : ∃ Y, Y6 ++ Lib.uvarint n1 = Y := ⟨_, rfl⟩
       rw [hY] at R
       have hv7 : Y7.length ≤ 53 := by have hq : (Lib.uvarint n1).length ≤ 10 := Lib.uvarint_length64 (by omega); rw [← hY, List.length_append]; omega
       have HY7 := Lib.hid hY
       have HR7 := Lib.hid R
       clear R K hB hY HR6 HK6 hv6))
  go_loopw [63] (fun i wr => ∃ k : Nat, k ≤ n1 ∧ i = .int .i64 k ∧ Hid (Put w e o xs (Y7 ++ (pos.take k).flatMap encSpan) wr)) (fun i _ => n1 - (intOf i).toNat)
  case atStart => exact ⟨0, Nat.zero_le _, rfl, Lib.hid (by simpa using HR7.out)⟩
  case round =>
    obtain ⟨k, hk, rfl, HRk⟩ := hrel
    by_cases hlt : k < n1
    · have hzz := Z1.out.fr (HRk.out).fr HPP.out
      obtain ⟨g1, off, rfl, _, hcell⟩ := hzz.at (by omega)
      obtain ⟨x, hx⟩ : ∃ x, pos[k]? = some x := ⟨_, List.getElem?_eq_getElem (by rw [HE1.out]; exact hlt)⟩
      obtain ⟨hx0, hx1, hx2⟩ := V1.out x (List.mem_of_getElem? hx)
      have d0 : wr.cell? ⟨g1, off + k * 2, none⟩ = some (.int .i32 x.1) := hcell (k * 2) _ (by rw [show k * 2 = k * 2 + 0 by rfl, flat2 spc (fun _ => rfl) pos k x hx 0 (by omega)]; rfl)
      have d1 : wr.cell? ⟨g1, off + k * 2 + 1, none⟩ = some (.int .u32 x.2) := hcell (k * 2 + 1) _ (by rw [flat2 spc (fun _ => rfl) pos k x hx 1 (by omega)]; rfl)
      have hyl := take_len_le encSpan 20 pos k (fun x hx => encSpan_len x (V1.out x hx))
      have hk9 : k * 20 ≤ 60 * 20 := Nat.mul_le_mul_right _ (by omega)
      have HX := Lib.hid hx
      obtain ⟨x1, x2⟩ := x
      simp only [] at hx0 hx1 hx2 d0 d1
      have RA := (HRk.out).alloc (.cells #[.int .i32 x1, .int .u32 x2] 361)
      obtain ⟨Y, hY⟩ : ∃ Y, Y7 ++ (pos.take k).flatMap encSpan = Y := ⟨_, rfl⟩
      rw [hY] at RA
      have hv : Y.length ≤ 53 + 1200 := by rw [← hY, List.length_append]; omega
      have HY := Lib.hid hY
      have HBX := Lib.hid (Blk.new wr 361 #[.int .i32 x1, .int .u32 x2])
      have HRA := Lib.hid RA
      have hw1 := zzu_len x1 (by omega) (by omega)
      clear hzz hcell hx hyl hk9 RA hY HRk
      go_wp2_with (first
        | (go_at_call 183; refine (put_more2 HRA.out (f := 183) (args := #[.pointer (some ⟨e, 0, none⟩), .int .i64 x1]) (zs := zzu x1) (fun o2 he => putVarint64 _ o2 _ x1 (by omega) (by omega) _ he (by rw [List.length_append]; omega))).mono ?_; rintro rA wA ⟨rfl, R1, K1⟩
           have p1 : wA.cell? ⟨wr.heap.size, 1, none⟩ = some (.int .u32 x2) := (K1.out _ _ _ (by decide) (by decide) HBX.out).cell 1
           have HR2 := Lib.hid R1
           have hv2 : (Y ++ zzu x1).length ≤ 53 + 1210 := by rw [List.length_append]; omega
           clear R1 K1 HRA)
        | (go_at_call 243; refine (put_more2 HR2.out (f := 243) (args := #[.pointer (some ⟨e, 0, none⟩), .int .u32 x2]) (zs := Lib.uvarint x2) (fun o2 he => putUvarint32 _ o2 _ x2 hx2 _ he (by rw [List.length_append]; omega))).mono ?_; rintro rB wB ⟨rfl, R1, K1⟩
           have HR8 := Lib.hid R1
           clear R1 K1 HR2))
      have HRE : Hid (Put w e o xs (Y7 ++ (pos.take (k + 1)).flatMap encSpan) wB) := Lib.hid (by
        rw [flatMap_take_succ' encSpan pos k _ HX.out, ← List.append_assoc, HY.out]
        simpa [encSpan, List.append_assoc] using HR8.out)
      clear HR8
      go_wp2
      go_roundw
      case rel => exact ⟨k + 1, by omega, by go_num, HRE⟩
      case measure => simp [intOf]; omega
    · obtain rfl : k = n1 := by omega
      have R := HRk.out
      rw [List.take_of_length_le (by rw [HE1.out]; exact Nat.le_refl _)] at R
      have hyl := take_len_le encSpan 20 pos k (fun x hx => encSpan_len x (V1.out x hx))
      rw [List.take_of_length_le (by rw [HE1.out]; exact Nat.le_refl _)] at hyl
      have hk9 : k * 20 ≤ 60 * 20 := Nat.mul_le_mul_right _ (by omega)
      obtain ⟨Y8, hY⟩ : ∃ Y, Y7 ++ pos.flatMap encSpan = Y := ⟨_, rfl⟩
      rw [hY] at R
      have hv8 : Y8.length ≤ 1253 := by rw [← hY, List.length_append]; omega
      have HY8 := Lib.hid hY
      have hB := R.blk HE.out HB.out (by decide) (by decide)
      have HK8 := Lib.hid hB
      have HR8 := Lib.hid R
      have p7 : wr.cell? ⟨g, 7, none⟩ = some (.slice A2 n2 c2) := hB.cell 7
      clear R hyl hk9 hY hB HRk HR7 HK7 hv7 hlt hk
      go_wp2_with (go_at_call 186; refine (put_more2 HR8.out (f := 186) (args := #[.pointer (some ⟨e, 0, none⟩), .int .i64 n2]) (zs := Lib.uvarint n2) (fun o2 he => putUvarint _ o2 _ n2 (by omega) _ he (by rw [List.length_append]; omega))).mono ?_; rintro r9 w9 ⟨rfl, R, K⟩
                   clear p7
                   have hB := K.out _ _ _ (by decide) (by decide) HK8.out
                   have p7 : w9.cell? ⟨g, 7, none⟩ = some (.slice A2 n2 c2) := hB.cell 7
                   have HK9 := Lib.hid hB
                   obtain ⟨Y9, hY⟩ : ∃ Y, Y8 ++ Lib.uvarint n2 = Y := ⟨_, rfl⟩
                   rw [hY] at R
                   have hv9 : Y9.length ≤ 1263 := by have hq : (Lib.uvarint n2).length ≤ 10 := Lib.uvarint_length64 (by omega); rw [← hY, List.length_append]; omega
                   have HY9 := Lib.hid hY
                   have HR9 := Lib.hid R
                   clear R K hB hY HR8 HK8 hv8)
      go_loopw [89] (fun i wr => ∃ k : Nat, k ≤ n2 ∧ i = .int .i64 k ∧ Hid (Put w e o xs (Y9 ++ (neg.take k).flatMap encSpan) wr)) (fun i _ => n2 - (intOf i).toNat)
      case atStart => exact ⟨0, Nat.zero_le _, rfl, Lib.hid (by simpa using HR9.out)⟩
      case round =>
        obtain ⟨k, hk, rfl, HRk⟩ := hrel
        by_cases hlt : k < n2
        · have hzz := Z2.out.fr (HRk.out).fr HPP.out
          obtain ⟨g1, off, rfl, _, hcell⟩ := hzz.at (by omega)
          obtain ⟨x, hx⟩ : ∃ x, neg[k]? = some x := ⟨_, List.getElem?_eq_getElem (by rw [HE2.out]; exact hlt)⟩
          obtain ⟨hx0, hx1, hx2⟩ := V2.out x (List.mem_of_getElem? hx)
          have d0 : wr.cell? ⟨g1, off + k * 2, none⟩ = some (.int .i32 x.1) := hcell (k * 2) _ (by rw [show k * 2 = k * 2 + 0 by rfl, flat2 spc (fun _ => rfl) neg k x hx 0 (by omega)]; rfl)
          have d1 : wr.cell? ⟨g1, off + k * 2 + 1, none⟩ = some (.int .u32 x.2) := hcell (k * 2 + 1) _ (by rw [flat2 spc (fun _ => rfl) neg k x hx 1 (by omega)]; rfl)
          have hyl := take_len_le encSpan 20 neg k (fun x hx => encSpan_len x (V2.out x hx))
          have hk9 : k * 20 ≤ 60 * 20 := Nat.mul_le_mul_right _ (by omega)
          have HX := Lib.hid hx
          obtain ⟨x1, x2⟩ := x
          simp only [] at hx0 hx1 hx2 d0 d1
          have RA := (HRk.out).alloc (.cells #[.int .i32 x1, .int .u32 x2] 361)
          obtain ⟨Y, hY⟩ : ∃ Y, Y9 ++ (neg.take k).flatMap encSpan = Y := ⟨_, rfl⟩
          rw [hY] at RA
          have hv : Y.length ≤ 1263 + 1200 := by rw [← hY, List.length_append]; omega
          have HY := Lib.hid hY
          have HBX := Lib.hid (Blk.new wr 361 #[.int .i32 x1, .int .u32 x2])
          have HRA := Lib.hid RA
          have hw1 := zzu_len x1 (by omega) (by omega)
          clear hzz hcell hx hyl hk9 RA hY HRk
          go_wp2_with (first
            | (go_at_call 183; refine (put_more2 HRA.out (f := 183) (args := #[.pointer (some ⟨e, 0, none⟩), .int .i64 x1]) (zs := zzu x1) (fun o2 he => putVarint64 _ o2 _ x1 (by omega) (by omega) _ he (by rw [List.length_append]; omega))).mono ?_; rintro rA wA ⟨rfl, R1, K1⟩
               have p1 : wA.cell? ⟨wr.heap.size, 1, none⟩ = some (.int .u32 x2) := (K1.out _ _ _ (by decide) (by decide) HBX.out).cell 1
               have HR2 := Lib.hid R1
               have hv2 : (Y ++ zzu x1).length ≤ 1263 + 1210 := by rw [List.length_append]; omega
               clear R1 K1 HRA)
            | (go_at_call 243; refine (put_more2 HR2.out (f := 243) (args := #[.pointer (some ⟨e, 0, none⟩), .int .u32 x2]) (zs := Lib.uvarint x2) (fun o2 he => putUvarint32 _ o2 _ x2 hx2 _ he (by rw [List.length_append]; omega))).mono ?_; rintro rB wB ⟨rfl, R1, K1⟩
               have HR8 := Lib.hid R1
               clear R1 K1 HR2))
          have HRE : Hid (Put w e o xs (Y9 ++ (neg.take (k + 1)).flatMap encSpan) wB) := Lib.hid (by
            rw [flatMap_take_succ' encSpan neg k _ HX.out, ← List.append_assoc, HY.out]
            simpa [encSpan, List.append_assoc] using HR8.out)
          clear HR8
          go_wp2
          go_roundw
          case rel => exact ⟨k + 1, by omega, by go_num, HRE⟩
          case measure => simp [intOf]; omega
        · obtain rfl : k = n2 := by omega
          have R := HRk.out
          rw [List.take_of_length_le (by rw [HE2.out]; exact Nat.le_refl _)] at R
          have hyl := take_len_le encSpan 20 neg k (fun x hx => encSpan_len x (V2.out x hx))
          rw [List.take_of_length_le (by rw [HE2.out]; exact Nat.le_refl _)] at hyl
          have hk9 : k * 20 ≤ 60 * 20 := Nat.mul_le_mul_right _ (by omega)
          obtain ⟨Y10, hY⟩ : ∃ Y, Y9 ++ neg.flatMap encSpan = Y := ⟨_, rfl⟩
          rw [hY] at R
          have hv10 : Y10.length ≤ 2463 := by rw [← hY, List.length_append]; omega
          have HY10 := Lib.hid hY
          have hB := R.blk HE.out HB.out (by decide) (by decide)
          have HK10 := Lib.hid hB
          have HR10 := Lib.hid R
          have p8 : wr.cell? ⟨g, 8, none⟩ = some (.slice A3 n3 c3) := hB.cell 8
          clear R hyl hk9 hY hB HRk HR9 HK9 hv9 hlt hk
          go_wp2_with (go_at_call 186; refine (put_more2 HR10.out (f := 186) (args := #[.pointer (some ⟨e, 0, none⟩), .int .i64 n3]) (zs := Lib.uvarint n3) (fun o2 he => putUvarint _ o2 _ n3 (by omega) _ he (by rw [List.length_append]; omega))).mono ?_; rintro r11 w11 ⟨rfl, R, K⟩
                       clear p8
                       have hB := K.out _ _ _ (by decide) (by decide) HK10.out
                       have p8 : w11.cell? ⟨g, 8, none⟩ = some (.slice A3 n3 c3) := hB.cell 8
                       have HK11 := Lib.hid hB
                       obtain ⟨Y11, hY⟩ : ∃ Y, Y10 ++ Lib.uvarint n3 = Y := ⟨_, rfl⟩
                       rw [hY] at R
                       have hv11 : Y11.length ≤ 2473 := by have hq : (Lib.uvarint n3).length ≤ 10 := Lib.uvarint_length64 (by omega); rw [← hY, List.length_append]; omega
                       have HY11 := Lib.hid hY
                       have HR11 := Lib.hid R
                       clear R K hB hY HR10 HK10 hv10)
          go_loopw [115] (fun i wr => ∃ k : Nat, k ≤ n3 ∧ i = .int .i64 k ∧ Hid (Put w e o xs (Y11 ++ (fups.take k).flatMap (Lib.beBytes 8)) wr)) (fun i _ => n3 - (intOf i).toNat)
          case atStart => exact ⟨0, Nat.zero_le _, rfl, Lib.hid (by simpa using HR11.out)⟩
          case round =>
            obtain ⟨k, hk, rfl, HRk⟩ := hrel
            by_cases hlt : k < n3
            · have hzz := Z3.out.fr (HRk.out).fr HPP.out
              obtain ⟨g1, off, rfl, _, hcell⟩ := hzz.at (by omega)
              obtain ⟨x, hx⟩ : ∃ x, fups[k]? = some x := ⟨_, List.getElem?_eq_getElem (by rw [HE3.out]; exact hlt)⟩
              have hx0 := V3.out x (List.mem_of_getElem? hx)
              have d0 : wr.cell? ⟨g1, off + k, none⟩ = some (.float .f64 x) := hcell k _ (by rw [flat1 f1 (fun _ => rfl) fups k x hx]; rfl)
              have hyl := take_len_le (Lib.beBytes 8) 8 fups k (fun x hx => by simp [Lib.beBytes_length])
              have hk9 : k * 8 ≤ 60 * 8 := Nat.mul_le_mul_right _ (by omega)
              have HX := Lib.hid hx
              have RA := HRk.out
              obtain ⟨Y, hY⟩ : ∃ Y, Y11 ++ (fups.take k).flatMap (Lib.beBytes 8) = Y := ⟨_, rfl⟩
              rw [hY] at RA
              have hv : Y.length ≤ 2473 + 480 := by rw [← hY, List.length_append]; omega
              have HY := Lib.hid hY
              have HRA := Lib.hid RA
              clear hzz hcell hx hyl hk9 RA hY HRk
              go_wp2_with (go_at_call 244; refine (put_more2 HRA.out (f := 244) (args := #[.pointer (some ⟨e, 0, none⟩), .float .f64 x]) (zs := Lib.beBytes 8 x) (fun o2 he => putBEFloat64 _ o2 _ x hx0 _ he (by rw [List.length_append]; omega))).mono ?_; rintro rA wA ⟨rfl, R1, K1⟩
                           have HR8 := Lib.hid R1
                           clear R1 K1 HRA)
              have HRE : Hid (Put w e o xs (Y11 ++ (fups.take (k + 1)).flatMap (Lib.beBytes 8)) wA) := Lib.hid (by
                rw [flatMap_take_succ' (Lib.beBytes 8) fups k _ HX.out, ← List.append_assoc, HY.out]
                exact HR8.out)
              clear HR8
              go_wp2
              go_roundw
              case rel => exact ⟨k + 1, by omega, by go_num, HRE⟩
              case measure => simp [intOf]; omega
            · obtain rfl : k = n3 := by omega
              have R := HRk.out
              rw [List.take_of_length_le (by rw [HE3.out]; exact Nat.le_refl _)] at R
              have hyl := take_len_le (Lib.beBytes 8) 8 fups k (fun x hx => by simp [Lib.beBytes_length])
              rw [List.take_of_length_le (by rw [HE3.out]; exact Nat.le_refl _)] at hyl
              have hk9 : k * 8 ≤ 60 * 8 := Nat.mul_le_mul_right _ (by omega)
              obtain ⟨Y12, hY⟩ : ∃ Y, Y11 ++ fups.flatMap (Lib.beBytes 8) = Y := ⟨_, rfl⟩
              rw [hY] at R
              have hv12 : Y12.length ≤ 2953 := by rw [← hY, List.length_append]; omega
              have HY12 := Lib.hid hY
              have hB := R.blk HE.out HB.out (by decide) (by decide)
              have HK12 := Lib.hid hB
              have HR12 := Lib.hid R
              have p9 : wr.cell? ⟨g, 9, none⟩ = some (.slice A4 n4 c4) := hB.cell 9
              clear R hyl hk9 hY hB HRk HR11 HK11 hv11 hlt hk
              go_wp2_with (go_at_call 186; refine (put_more2 HR12.out (f := 186) (args := #[.pointer (some ⟨e, 0, none⟩), .int .i64 n4]) (zs := Lib.uvarint n4) (fun o2 he => putUvarint _ o2 _ n4 (by omega) _ he (by rw [List.length_append]; omega))).mono ?_; rintro r13 w13 ⟨rfl, R, K⟩
                           clear p9
                           have hB := K.out _ _ _ (by decide) (by decide) HK12.out
                           have p9 : w13.cell? ⟨g, 9, none⟩ = some (.slice A4 n4 c4) := hB.cell 9
                           have HK13 := Lib.hid hB
                           obtain ⟨Y13, hY⟩ : ∃ Y, Y12 ++ Lib.uvarint n4 = Y := ⟨_, rfl⟩
                           rw [hY] at R
                           have hv13 : Y13.length ≤ 2963 := by have hq : (Lib.uvarint n4).length ≤ 10 := Lib.uvarint_length64 (by omega); rw [← hY, List.length_append]; omega
                           have HY13 := Lib.hid hY
                           have HR13 := Lib.hid R
                           clear R K hB hY HR12 HK12 hv12)
              go_loopw [135] (fun i wr => ∃ k : Nat, k ≤ n4 ∧ i = .int .i64 k ∧ Hid (Put w e o xs (Y13 ++ (fdowns.take k).flatMap (Lib.beBytes 8)) wr)) (fun i _ => n4 - (intOf i).toNat)
              case atStart => exact ⟨0, Nat.zero_le _, rfl, Lib.hid (by simpa using HR13.out)⟩
              case round =>
                obtain ⟨k, hk, rfl, HRk⟩ := hrel
                by_cases hlt : k < n4
                · have hzz := Z4.out.fr (HRk.out).fr HPP.out
                  obtain ⟨g1, off, rfl, _, hcell⟩ := hzz.at (by omega)
                  obtain ⟨x, hx⟩ : ∃ x, fdowns[k]? = some x := ⟨_, List.getElem?_eq_getElem (by rw [HE4.out]; exact hlt)⟩
                  have hx0 := V4.out x (List.mem_of_getElem? hx)
                  have d0 : wr.cell? ⟨g1, off + k, none⟩ = some (.float .f64 x) := hcell k _ (by rw [flat1 f1 (fun _ => rfl) fdowns k x hx]; rfl)
                  have hyl := take_len_le (Lib.beBytes 8) 8 fdowns k (fun x hx => by simp [Lib.beBytes_length])
                  have hk9 : k * 8 ≤ 60 * 8 := Nat.mul_le_mul_right _ (by omega)
                  have HX := Lib.hid hx
                  have RA := HRk.out
                  obtain ⟨Y, hY⟩ : ∃ Y, Y13 ++ (fdowns.take k).flatMap (Lib.beBytes 8) = Y := ⟨_, rfl⟩
                  rw [hY] at RA
                  have hv : Y.length ≤ 2963 + 480 := by rw [← hY, List.length_append]; omega
                  have HY := Lib.hid hY
                  have HRA := Lib.hid RA
                  clear hzz hcell hx hyl hk9 RA hY HRk
                  go_wp2_with (go_at_call 244; refine (put_more2 HRA.out (f := 244) (args := #[.pointer (some ⟨e, 0, none⟩), .float .f64 x]) (zs := Lib.beBytes 8 x) (fun o2 he => putBEFloat64 _ o2 _ x hx0 _ he (by rw [List.length_append]; omega))).mono ?_; rintro rA wA ⟨rfl, R1, K1⟩
                               have HR8 := Lib.hid R1
                               clear R1 K1 HRA)
                  have HRE : Hid (Put w e o xs (Y13 ++ (fdowns.take (k + 1)).flatMap (Lib.beBytes 8)) wA) := Lib.hid (by
                    rw [flatMap_take_succ' (Lib.beBytes 8) fdowns k _ HX.out, ← List.append_assoc, HY.out]
                    exact HR8.out)
                  clear HR8
                  go_wp2
                  go_roundw
                  case rel => exact ⟨k + 1, by omega, by go_num, HRE⟩
                  case measure => simp [intOf]; omega
                · obtain rfl : k = n4 := by omega
                  have R := HRk.out
                  rw [List.take_of_length_le (by rw [HE4.out]; exact Nat.le_refl _)] at R
                  have hyl := take_len_le (Lib.beBytes 8) 8 fdowns k (fun x hx => by simp [Lib.beBytes_length])
                  rw [List.take_of_length_le (by rw [HE4.out]; exact Nat.le_refl _)] at hyl
                  have hk9 : k * 8 ≤ 60 * 8 := Nat.mul_le_mul_right _ (by omega)
                  obtain ⟨Y14, hY⟩ : ∃ Y, Y13 ++ fdowns.flatMap (Lib.beBytes 8) = Y := ⟨_, rfl⟩
                  rw [hY] at R
                  have hv14 : Y14.length ≤ 3443 := by rw [← hY, List.length_append]; omega
                  have HY14 := Lib.hid hY
                  have hB := R.blk HE.out HB.out (by decide) (by decide)
                  have HK14 := Lib.hid hB
                  have HR14 := Lib.hid R
                  have p1 : wr.cell? ⟨g, 1, none⟩ = some (.int .i32 schema) := hB.cell 1
                  clear R hyl hk9 hY hB HRk HR13 HK13 hv13 hlt hk
                  rcases hcu : (schema == -53) with _ | _
                  · go_wp2_with (go_at_call 233; refine (isCustom_any schema _).mono ?_; rintro rc wc ⟨rfl, rfl⟩)
                    go_end0
                    refine ⟨rfl, ?_⟩
                    have hR := HR14.out
                    have hne : ¬ schema = -53 := by simpa using hcu
                    rw [← HY14.out, ← HY13.out, ← HY12.out, ← HY11.out, ← HY10.out, ← HY9.out, ← HY8.out, ← HY7.out, ← HY6.out, ← HY5.out, ← HY4.out, ← HY3.out, ← HY2.out, ← HY1.out, ← HY0.out] at hR
                    simpa [encHistF, encSpans, encInts, encBits, encCus, hne, HE1.out, HE2.out, HE3.out, HE4.out, List.append_assoc] using hR
                  · have p10 : wr.cell? ⟨g, 10, none⟩ = some (.slice A5 n5 c5) := HK14.out.cell 10
                    go_wp2_with (first
                      | (go_at_call 233; refine (isCustom_any schema _).mono ?_; rintro rc wc ⟨rfl, rfl⟩)
                      | (go_at_call 186; refine (put_more2 HR14.out (f := 186) (args := #[.pointer (some ⟨e, 0, none⟩), .int .i64 n5]) (zs := Lib.uvarint n5) (fun o2 he => putUvarint _ o2 _ n5 (by omega) _ he (by rw [List.length_append]; omega))).mono ?_; rintro r15 w15 ⟨rfl, R, K⟩
                         clear p10 p1
                         have hB := K.out _ _ _ (by decide) (by decide) HK14.out
                         have p10 : w15.cell? ⟨g, 10, none⟩ = some (.slice A5 n5 c5) := hB.cell 10
                         have HK15 := Lib.hid hB
                         obtain ⟨Y15, hY⟩ : ∃ Y, Y14 ++ Lib.uvarint n5 = Y := ⟨_, rfl⟩
                         rw [hY] at R
                         have hv15 : Y15.length ≤ 3453 := by have hq : (Lib.uvarint n5).length ≤ 10 := Lib.uvarint_length64 (by omega); rw [← hY, List.length_append]; omega
                         have HY15 := Lib.hid hY
                         have HR15 := Lib.hid R
                         clear R K hB hY HR14 HK14 hv14))
                    go_loopw [160] (fun i wr => ∃ k : Nat, k ≤ n5 ∧ i = .int .i64 k ∧ Hid (Put w e o xs (Y15 ++ (cus.take k).flatMap (Lib.beBytes 8)) wr)) (fun i _ => n5 - (intOf i).toNat)
                    case atStart => exact ⟨0, Nat.zero_le _, rfl, Lib.hid (by simpa using HR15.out)⟩
                    case round =>
                      obtain ⟨k, hk, rfl, HRk⟩ := hrel
                      by_cases hlt : k < n5
                      · have hzz := Z5.out.fr (HRk.out).fr HPP.out
                        obtain ⟨g1, off, rfl, _, hcell⟩ := hzz.at (by omega)
                        obtain ⟨x, hx⟩ : ∃ x, cus[k]? = some x := ⟨_, List.getElem?_eq_getElem (by rw [HE5.out]; exact hlt)⟩
                        have hx0 := V5.out x (List.mem_of_getElem? hx)
                        have d0 : wr.cell? ⟨g1, off + k, none⟩ = some (.float .f64 x) := hcell k _ (by rw [flat1 f1 (fun _ => rfl) cus k x hx]; rfl)
                        have hyl := take_len_le (Lib.beBytes 8) 8 cus k (fun x hx => by simp [Lib.beBytes_length])
                        have hk9 : k * 8 ≤ 60 * 8 := Nat.mul_le_mul_right _ (by omega)
                        have HX := Lib.hid hx
                        have RA := HRk.out
                        obtain ⟨Y, hY⟩ : ∃ Y, Y15 ++ (cus.take k).flatMap (Lib.beBytes 8) = Y := ⟨_, rfl⟩
                        rw [hY] at RA
                        have hv : Y.length ≤ 3453 + 480 := by rw [← hY, List.length_append]; omega
                        have HY := Lib.hid hY
                        have HRA := Lib.hid RA
                        clear hzz hcell hx hyl hk9 RA hY HRk
                        go_wp2_with (go_at_call 244; refine (put_more2 HRA.out (f := 244) (args := #[.pointer (some ⟨e, 0, none⟩), .float .f64 x]) (zs := Lib.beBytes 8 x) (fun o2 he => putBEFloat64 _ o2 _ x hx0 _ he (by rw [List.length_append]; omega))).mono ?_; rintro rA wA ⟨rfl, R1, K1⟩
                                     have HR8 := Lib.hid R1
                                     clear R1 K1 HRA)
                        have HRE : Hid (Put w e o xs (Y15 ++ (cus.take (k + 1)).flatMap (Lib.beBytes 8)) wA) := Lib.hid (by
                          rw [flatMap_take_succ' (Lib.beBytes 8) cus k _ HX.out, ← List.append_assoc, HY.out]
                          exact HR8.out)
                        clear HR8
                        go_wp2
                        go_roundw
                        case rel => exact ⟨k + 1, by omega, by go_num, HRE⟩
                        case measure => simp [intOf]; omega
                      · obtain rfl : k = n5 := by omega
                        have R := HRk.out
                        rw [List.take_of_length_le (by rw [HE5.out]; exact Nat.le_refl _)] at R
                        have hyl := take_len_le (Lib.beBytes 8) 8 cus k (fun x hx => by simp [Lib.beBytes_length])
                        rw [List.take_of_length_le (by rw [HE5.out]; exact Nat.le_refl _)] at hyl
                        have hk9 : k * 8 ≤ 60 * 8 := Nat.mul_le_mul_right _ (by omega)
                        obtain ⟨Y16, hY⟩ : ∃ Y, Y15 ++ cus.flatMap (Lib.beBytes 8) = Y := ⟨_, rfl⟩
                        rw [hY] at R
                        have hv16 : Y16.length ≤ 3933 := by rw [← hY, List.length_append]; omega
                        have HY16 := Lib.hid hY
                        have hB := R.blk HE.out HB.out (by decide) (by decide)
                        have HK16 := Lib.hid hB
                        have HR16 := Lib.hid R
                        clear hyl hk9 hY hB HRk HR15 HK15 hv15 hlt hk
                        go_wp2
                        go_end0
                        refine ⟨rfl, ?_⟩
                        have hR := R
                        have hne : schema = -53 := by simpa using hcu
                        rw [← HY16.out, ← HY15.out, ← HY14.out, ← HY13.out, ← HY12.out, ← HY11.out, ← HY10.out, ← HY9.out, ← HY8.out, ← HY7.out, ← HY6.out, ← HY5.out, ← HY4.out, ← HY3.out, ← HY2.out, ← HY1.out, ← HY0.out] at hR
                        simpa [encHistF, encSpans, encInts, encBits, encCus, hne, HE1.out, HE2.out, HE3.out, HE4.out, HE5.out, List.append_assoc] using hR

end Go.Proofs.YtbkookiigkckdaaGreatDoor

/- The labels' buffer, written from its end: encodeSize, marshalLabelToSizedBuffer, marshalLabelsToSizedBuffer. -/
namespace Go.Proofs.YtbkookiigkckdaaGreatDoor
open Go.RowKit
set_option linter.unusedVariables false
set_option linter.unusedSimpArgs false

/-- The block g has n bytes; those from i on are t. -/
def Buf (w : World) (g n i : Nat) (t : List UInt8) : Prop := i ≤ n ∧ ∃ cs : Array Value, Blk w g 5 cs ∧ cs.size = n ∧ cs.toList.drop i = bc t

theorem Buf.put {w : World} {g n i : Nat} {t : List UInt8} (h : Buf w g n i t) (o : Nat) (vs : List UInt8) (hi : o + vs.length = i) : Buf (w.setCells g o (bc vs)) g n o (vs ++ t) := by
  obtain ⟨hin, cs, hb, hs, hd⟩ := h
  refine ⟨by omega, _, setCells_blk (bc vs) o w cs hb, by rw [setAll_size]; exact hs, ?_⟩
  have hl : (bc vs).length = vs.length := bc_len vs
  rw [setAll_toList _ _ _ (by rw [hl]; omega), hl, hi, hd, List.append_assoc, List.drop_left' (by simp; omega), bc_append]

theorem Buf.fr {w w' : World} {g n i : Nat} {t : List UInt8} {S : Nat → Prop} (h : Buf w g n i t) (hf : Fr S w w') (hn : ¬ S g) : Buf w' g n i t := by
  obtain ⟨hin, cs, hb, hs, hd⟩ := h
  exact ⟨hin, cs, hb.fr hf hn, hs, hd⟩

/-- A length, as it is written. -/
def lenBytes (n : Nat) : List UInt8 := if n < 255 then [UInt8.ofNat n] else [255, UInt8.ofNat n, UInt8.ofNat (n / 256), UInt8.ofNat (n / 65536)]
theorem four_cells (w : World) (g o v : Nat) : w.setCells g o (bc [255, UInt8.ofNat v, UInt8.ofNat (v / 256), UInt8.ofNat (v / 65536)]) =
    ((((w.setCell ⟨g, o, none⟩ (.int .u8 255)).setCell ⟨g, o + 1, none⟩ (.int .u8 ((v : Int) % 256))).setCell ⟨g, o + 2, none⟩ (.int .u8 ((v : Int) / 256 % 256))).setCell ⟨g, o + 3, none⟩ (.int .u8 ((v : Int) / 65536 % 256))) := by
  have e (x : Nat) : ((UInt8.ofNat x).toNat : Int) = (x : Int) % 256 := by simp
  have e1 := e v
  have e2 : ((UInt8.ofNat (v / 256)).toNat : Int) = (v : Int) / 256 % 256 := by rw [e]; simp
  have e3 : ((UInt8.ofNat (v / 65536)).toNat : Int) = (v : Int) / 65536 % 256 := by rw [e]; simp
  rw [← e1, ← e2, ← e3]
  rfl
theorem lenBytes_len (n : Nat) : (lenBytes n).length = lenSize n := by
  unfold lenBytes lenSize
  split <;> rfl
def labBytes (p : Lab) : List UInt8 := lenBytes p.1.size ++ (p.1.data.toList ++ (lenBytes p.2.size ++ p.2.data.toList))
theorem labBytes_len (p : Lab) : (labBytes p).length = labSize p := by
  have h1 : p.1.data.toList.length = p.1.size := by rw [← Lib.size_eq]
  have h2 : p.2.data.toList.length = p.2.size := by rw [← Lib.size_eq]
  simp only [labBytes, List.length_append, lenBytes_len, labSize, h1, h2]
  omega
def labsBytes (l : List Lab) : List UInt8 := l.flatMap labBytes

def SizeEnds (g n o : Nat) (t : List UInt8) (w : World) (r : Ending) (w' : World) : Prop :=
  r = .returned (.int .i64 o) ∧ Buf w' g n o t ∧ Fr (fun k => k = g) w w'

set_option maxRecDepth 100000 in
set_option maxHeartbeats 1000000 in
theorem encodeSize_any (g n i m c v o : Nat) (t : List UInt8) (w : World) (h : Buf w g n i t) (him : i ≤ m) (hmn : m ≤ n) (hm : m ≤ 1099511627776) (hv : v ≤ 16777216) (ho : o + lenSize v = i) :
    Calls Tryz.prog 272 #[.slice (some ⟨g, 0, none⟩) m c, .int .i64 i, .int .i64 v] w (SizeEnds g n o (lenBytes v ++ t) w) := by
  obtain ⟨hin, cs, hb, hs, hd⟩ := h
  have B0 : Buf w g n i t := ⟨hin, cs, hb, hs, hd⟩
  by_cases hlt : v < 255
  · have e1 : lenSize v = 1 := if_pos hlt
    rw [e1] at ho
    subst ho
    have e2 : lenBytes v = [UInt8.ofNat v] := if_pos hlt
    rw [e2]
    have h1 : (v : Int) < 255 := by omega
    have hwr : (v : Int) % 256 = v := by omega
    have hc : (w.cell? ⟨g, o, none⟩).isSome = true := by rw [hb.cell]; simp; omega
    obtain ⟨cv, hcv⟩ := Option.isSome_iff_exists.mp hc
    have hf := hb.frozen o
    have HB := B0.put o [UInt8.ofNat v] rfl
    have hF : Fr (fun k => k = g) w (w.setCell ⟨g, o, none⟩ (.int .u8 (UInt8.ofNat v).toNat)) := Fr.at_ w g o _
    have e3 : ((UInt8.ofNat v).toNat : Int) = v := by simp; omega
    have HB2 : Buf (w.setCell ⟨g, o, none⟩ (.int .u8 (UInt8.ofNat v).toNat)) g n o ([UInt8.ofNat v] ++ t) := HB
    rw [e3] at HB2 hF
    clear HB B0 hd hs
    go_enter Tryz.func272, Tryz.ntmps272
    go_wp2
    go_ret
    exact ⟨rfl, HB2, hF⟩
  · have e1 : lenSize v = 4 := if_neg hlt
    rw [e1] at ho
    subst ho
    have e2 : lenBytes v = [255, UInt8.ofNat v, UInt8.ofNat (v / 256), UInt8.ofNat (v / 65536)] := if_neg hlt
    rw [e2]
    have h1 : ¬ (v : Int) < 255 := by omega
    have hcell : ∀ j, j < 4 → (w.cell? ⟨g, o + j, none⟩).isSome = true := fun j hj => by rw [hb.cell]; simp; omega
    obtain ⟨c0, hc0⟩ := Option.isSome_iff_exists.mp (show (w.cell? ⟨g, o, none⟩).isSome = true from hcell 0 (by omega))
    obtain ⟨c1, hc1⟩ := Option.isSome_iff_exists.mp (hcell 1 (by omega))
    obtain ⟨c2, hc2⟩ := Option.isSome_iff_exists.mp (hcell 2 (by omega))
    obtain ⟨c3, hc3⟩ := Option.isSome_iff_exists.mp (hcell 3 (by omega))
    have hf0 := hb.frozen o
    have hf1 := hb.frozen (o + 1)
    have hf2 := hb.frozen (o + 2)
    have hf3 := hb.frozen (o + 3)
    have HB := Lib.hid (B0.put o [255, UInt8.ofNat v, UInt8.ofNat (v / 256), UInt8.ofNat (v / 65536)] rfl)
    have HF := Lib.hid ((Fr.refl (fun k => k = g) w).setCells (b := g) (.inl rfl) o (bc [255, UInt8.ofNat v, UInt8.ofNat (v / 256), UInt8.ofNat (v / 65536)]))
    clear B0 hd hs hcell
    go_enter Tryz.func272, Tryz.ntmps272
    go_wp2
    go_ret
    rw [← four_cells]
    exact ⟨rfl, HB.out, HF.out⟩

/-- One region of the marshal: a text is copied to its place. -/
theorem buf_copy {w : World} {g n o : Nat} {t : List UInt8} (s : ByteArray) (h : Buf w g n (o + s.size) t) :
    Buf (w.setCells g o (s.data.toList.map fun x => Value.int .u8 (x.toNat : Int))) g n o (s.data.toList ++ t) ∧ Fr (fun k => k = g) w (w.setCells g o (s.data.toList.map fun x => Value.int .u8 (x.toNat : Int))) :=
  ⟨h.put o s.data.toList (by rw [← Lib.size_eq]), (Fr.refl (fun k => k = g) w).setCells (b := g) (.inl rfl) o _⟩
theorem buf_some {w : World} {g n i : Nat} {t : List UInt8} (h : Buf w g n i t) (j : Nat) (hj : j < i) : (w.cell? ⟨g, j, none⟩).isSome = true ∧ w.frozen? ⟨g, j, none⟩ = false := by
  obtain ⟨hin, cs, hb, hs, hd⟩ := h
  exact ⟨by rw [hb.cell]; simp; omega, hb.frozen j⟩

theorem run_copy_buf (w : World) (g o off' dl cc : Nat) (s : ByteArray) (hle : s.size ≤ dl) (hs : off' = o ∨ s.size = 0)
    (hc : ∀ j, j < o + s.size → (w.cell? ⟨g, j, none⟩).isSome = true ∧ w.frozen? ⟨g, j, none⟩ = false) :
    (Builtin.copy_ #[44, 9] 3 #[.slice (some ⟨g, off', none⟩) dl cc, .string s]).run Tryz.prog w = .ok (goInt s.size) (w.setCells g o (s.data.toList.map fun x => Value.int .u8 (x.toNat : Int))) := by
  by_cases h0 : s.size = 0
  · have h := Lib.run_copy_empty_string (P := Tryz.prog) w 44 9 3 5 (some ⟨g, off', none⟩) dl cc s Tryz.underlying44 (by kernel_rfl) h0
    rw [h]
    have e : s.data.toList = [] := List.eq_nil_of_length_eq_zero (by rw [← Lib.size_eq]; exact h0)
    rw [e, h0]
    rfl
  · obtain rfl : off' = o := by omega
    exact run_copy_string w 44 9 3 5 g off' dl cc s Tryz.underlying44 Tryz.size5 hle (fun j hj => (hc (off' + j) (by omega)).1) (fun j hj => (hc (off' + j) (by omega)).2)

theorem step_copy_buf {ops : Array Oper} {o : Oper} {a : Act} {w : World} {K : Act → World → Prop} {Q : Exit → Act → World → Prop} {E : Prop}
    (hg : o.guard = none) (d x : Operand) (hty : o.type = 3) (hop : o.op = Op.call { callee := Callee.builtin Builtin.copy, args := #[d, x], argTypes := #[44, 9] })
    (g off' p dl cc : Nat) (s : ByteArray) (hd : a.eval d = .slice (some ⟨g, off', none⟩) dl cc) (hle : s.size ≤ dl) (hx : a.eval x = .string s) (hs : off' = p ∨ s.size = 0)
    (hc : ∀ j, j < p + s.size → (w.cell? ⟨g, j, none⟩).isSome = true ∧ w.frozen? ⟨g, j, none⟩ = false)
    (hK : K (a.put o.dst (goInt s.size)) (w.setCells g p (s.data.toList.map fun x => Value.int .u8 (x.toNat : Int)))) :
    if Region.wanted o (yielded ops a.tmps) = true then Oper.wp Tryz.prog o a w K Q else E := by
  have hw : Region.wanted o (yielded ops a.tmps) = true := by simp [Region.wanted, hg]
  rw [if_pos hw]
  have hrun := run_copy_buf w g p off' dl cc s hle hs hc
  unfold Oper.wp
  simp [execOp, hop, resolve, invoke, builtin, hd, hx, hty, hrun, Result.andThen]
  exact hK

set_option maxRecDepth 100000 in
set_option maxHeartbeats 1000000 in
theorem marshalLabel_any (b off : Nat) (p : Lab) (g n i c o : Nat) (t : List UInt8) (w : World) (c0 : w.cell? ⟨b, off, none⟩ = some (.string p.1)) (c1 : w.cell? ⟨b, off + 1, none⟩ = some (.string p.2)) (hbg : b ≠ g) (hbw : b < w.heap.size)
    (h : Buf w g n i t) (hn : n ≤ 1099511627776) (hic : i ≤ c) (h1 : p.1.size ≤ 1048576) (h2 : p.2.size ≤ 1048576) (ho : o + labSize p = i) :
    Calls Tryz.prog 249 #[.pointer (some ⟨b, off, none⟩), .slice (some ⟨g, 0, none⟩) i c] w fun r w' => r = .returned (.int .i64 (labSize p)) ∧ Buf w' g n o (labBytes p ++ t) ∧ Fr (fun k => k = g) w w' := by
  obtain ⟨x, y⟩ := p
  simp only [labSize] at *
  have hin := h.1
  have lx : lenSize x.size ≤ 4 := by unfold lenSize; split <;> omega
  have ly : lenSize y.size ≤ 4 := by unfold lenSize; split <;> omega
  have hy := buf_some h
  obtain ⟨p1, hp1⟩ : ∃ p1, p1 + y.size = i := ⟨i - y.size, by omega⟩
  subst hp1
  obtain ⟨off1, ho1, hoff1⟩ := cut44 g 0 (p1 + y.size) c p1 .i64 p1 rfl (by omega)
  rw [Nat.add_sub_cancel_left] at hoff1
  have ho1' : off1 = p1 ∨ y.size = 0 := by omega
  have HB := Lib.hid h
  clear h
  go_enter Tryz.func249, Tryz.ntmps249
  go_wp2
  go_region_law (refine step_copy_buf rfl (.tmp 17) (.tmp 21) rfl rfl g off1 p1 y.size (c - p1) y (by simp [Act.eval, Act.put]) (Nat.le_refl _) (by simp [Act.eval, Act.put]) ho1' (fun j hj => hy j hj) ?_)
  have HB1 : Buf w g n (p1 + y.size) t := HB.out
  obtain ⟨HC1, HF1⟩ := buf_copy y HB1
  have HC1' : Buf (w.drew.setCells g p1 (y.data.toList.map fun x => Value.int .u8 (x.toNat : Int))) g n p1 (y.data.toList ++ t) := (buf_copy y (w := w.drew) HB1).1
  have HF1' : Fr (fun k => k = g) w (w.drew.setCells g p1 (y.data.toList.map fun x => Value.int .u8 (x.toNat : Int))) := (Fr.drew (Fr.refl (fun k => k = g) w)).setCells (b := g) (.inl rfl) _ _
  generalize w.drew.setCells g p1 (y.data.toList.map fun x => Value.int .u8 (x.toNat : Int)) = w1 at HC1' HF1' ⊢
  clear HC1 HF1 HB1
  obtain ⟨p3, hp2⟩ : ∃ p3, (p3 + x.size) + lenSize y.size = p1 := ⟨p1 - lenSize y.size - x.size, by omega⟩
  obtain ⟨off2, ho2, hoff2⟩ := cut44 g 0 (p1 + y.size) c p3 .i64 p3 rfl (by omega)
  have hE1 := encodeSize_any g n p1 (p1 + y.size) c y.size (p3 + x.size) (y.data.toList ++ t) w1 HC1' (by omega) (by omega) (by omega) (by omega) hp2
  have c01 : w1.cell? ⟨b, off, none⟩ = some (.string x) := (HF1'.cell (p := ⟨b, off, none⟩) hbw hbg).trans c0
  have c11 : w1.cell? ⟨b, off + 1, none⟩ = some (.string y) := (HF1'.cell (p := ⟨b, off + 1, none⟩) hbw hbg).trans c1
  have HFh := Lib.hid HF1'
  clear HC1' HF1' c0 c1 hy hoff1
  have hbw1 : b < w1.heap.size := Nat.lt_of_lt_of_le hbw HFh.out.size
  go_wp2_with (go_at_call 272; refine hE1.mono ?_; rintro r w2 ⟨rfl, hB2, hF2⟩; have c02 : w2.cell? ⟨b, off, none⟩ = some (.string x) := (hF2.cell (p := ⟨b, off, none⟩) hbw1 hbg).trans c01)
  have hz2 := buf_some hB2
  have ho2' : off2 = p3 ∨ x.size = 0 := by omega
  have hlx : x.size ≤ p1 + y.size - p3 := by omega
  have HB2 := Lib.hid hB2
  have HF2 := Lib.hid hF2
  clear hE1 ho2 ho1 c01 c11 hB2 hF2
  go_region_law (refine step_copy_buf rfl (.tmp 40) (.tmp 44) rfl rfl g off2 p3 (p1 + y.size - p3) (c - p3) x (by simp [Act.eval, Act.put]) hlx (by simp [Act.eval, Act.put]) ho2' (fun j hj => hz2 j hj) ?_)
  have HC3 : Buf (w2.drew.setCells g p3 (x.data.toList.map fun x => Value.int .u8 (x.toNat : Int))) g n p3 (x.data.toList ++ (lenBytes y.size ++ (y.data.toList ++ t))) := (buf_copy x (w := w2.drew) HB2.out).1
  have HF3 : Fr (fun k => k = g) w2 (w2.drew.setCells g p3 (x.data.toList.map fun x => Value.int .u8 (x.toNat : Int))) := (Fr.drew (Fr.refl (fun k => k = g) w2)).setCells (b := g) (.inl rfl) _ _
  generalize w2.drew.setCells g p3 (x.data.toList.map fun x => Value.int .u8 (x.toNat : Int)) = w3 at HC3 HF3 ⊢
  have hoo : o + lenSize x.size = p3 := by omega
  have hE3 := encodeSize_any g n p3 (p1 + y.size) c x.size o _ w3 HC3 (by omega) (by omega) (by omega) (by omega) hoo
  have hbw3 : b < w3.heap.size := Nat.lt_of_lt_of_le (Nat.lt_of_lt_of_le hbw1 HF2.out.size) HF3.size
  have c03 : w3.cell? ⟨b, off, none⟩ = some (.string x) := (HF3.cell (p := ⟨b, off, none⟩) (Nat.lt_of_lt_of_le hbw1 HF2.out.size) hbg).trans c02
  have HF3h := Lib.hid HF3
  have HO := Lib.hid ho
  clear HC3 HF3 c02 hz2 hoff2
  go_wp2_with (go_at_call 272; refine hE3.mono ?_; rintro r w4 ⟨rfl, hB4, hF4⟩)
  go_ret
  refine ⟨?_, ?_, ((HFh.out.same HF2.out).same HF3h.out).same hF4⟩
  · have h := HO.out
    show Ending.returned (Value.int .i64 ((p1 : Int) + y.size - o)) = _
    congr 2
    omega
  · simp only [labBytes, List.append_assoc]
    exact hB4

theorem labsSize_drop (l : List Lab) (k : Nat) (x : Lab) (h : l[k]? = some x) : labsSize (l.drop k) = labSize x + labsSize (l.drop (k + 1)) := by
  obtain ⟨hk, rfl⟩ := List.getElem?_eq_some_iff.mp h
  rw [List.drop_eq_getElem_cons hk]
  rfl
theorem labsBytes_drop (l : List Lab) (k : Nat) (x : Lab) (h : l[k]? = some x) : labsBytes (l.drop k) = labBytes x ++ labsBytes (l.drop (k + 1)) := by
  obtain ⟨hk, rfl⟩ := List.getElem?_eq_some_iff.mp h
  rw [List.drop_eq_getElem_cons hk]
  rfl
theorem labsBytes_len (l : List Lab) : (labsBytes l).length = labsSize l := by
  induction l with
  | nil => rfl
  | cons x l ih =>
    show (labBytes x ++ labsBytes l).length = labSize x + labsSize l
    rw [List.length_append, labBytes_len, ih]

set_option maxRecDepth 100000 in
set_option maxHeartbeats 2000000 in
theorem marshalLabels_any (P : Nat → Prop) (v : Value) (l : List Lab) (g n c : Nat) (w : World) (h : Sl P w v 2 l.length (l.flatMap labc)) (hg : ¬ P g) (hl : l.length ≤ 4096) (hs : ∀ p ∈ l, p.1.size ≤ 1048576 ∧ p.2.size ≤ 1048576)
    (hB : Buf w g n n []) (hn : n = labsSize l) (hnc : n ≤ c) (hcm : c ≤ 1099511627776) :
    Calls Tryz.prog 209 #[v, .slice (some ⟨g, 0, none⟩) n c] w fun r w' => r = .returned (.int .i64 n) ∧ Buf w' g n 0 (labsBytes l) ∧ Fr (fun k => k = g) w w' := by
  obtain ⟨A, cc, rfl, hlen, hnc', hr⟩ := h
  obtain ⟨m, hm⟩ : ∃ m, l.length = m := ⟨_, rfl⟩
  rw [hm] at hr hnc' hl ⊢
  have HN := Lib.hid hm
  have HR := Lib.hid hr
  have HS := Lib.hid hs
  have HT := Lib.hid hn
  have HBB := Lib.hid hB
  clear hm hr hlen hs hn hB
  go_enter Tryz.func209, Tryz.ntmps209
  go_wp2
  go_loopw [5, 6] (fun vi vk wr => ∃ (i k : Nat), k ≤ m ∧ vk = .int .i64 ((k : Int) - 1) ∧ vi = .int .i64 i ∧ Hid (labsSize (l.drop k) + i = n) ∧ i ≤ n ∧ Hid (Buf wr g n i (labsBytes (l.drop k))) ∧ Hid (Fr (fun k => k = g) w wr)) (fun _ vk _ => (intOf vk + 1).toNat)
  case atStart =>
    refine ⟨n, m, Nat.le_refl _, rfl, rfl, ?_, Nat.le_refl _, ?_, Lib.hid (Fr.refl _ _)⟩
    · have e : l.drop m = [] := List.drop_of_length_le (by rw [HN.out]; exact Nat.le_refl _)
      rw [e]
      exact Lib.hid (Nat.zero_add _)
    · have e : l.drop m = [] := List.drop_of_length_le (by rw [HN.out]; exact Nat.le_refl _)
      rw [e]
      exact HBB
  case round =>
    obtain ⟨i, k, hk, rfl, rfl, HM, hin, HB, HF⟩ := hrel
    rcases k with _ | k
    · go_wp2
      go_ret
      have h0 : i = 0 ∧ labsBytes (l.drop 0) = labsBytes l := by
        have h := HM.out
        have h2 := HT.out
        have e : l.drop 0 = l := rfl
        rw [e] at h
        exact ⟨by omega, by rw [e]⟩
      obtain ⟨rfl, e⟩ := h0
      have hB := HB.out
      rw [e] at hB
      exact ⟨by simp, hB, HF.out⟩
    · obtain ⟨x, hx⟩ : ∃ x, l[k]? = some x := ⟨_, List.getElem?_eq_getElem (by rw [HN.out]; omega)⟩
      obtain ⟨b, off, rfl, hPb, hcell⟩ := HR.out (by omega)
      have e1 : ((k + 1 : Nat) : Int) - 1 = k := by omega
      rw [e1]
      have cc0 : ∀ j, j < 2 → ∀ u, (labc x)[j]? = some u → wr.cell? ⟨b, off + (k * 2 + j), none⟩ = some u ∧ b < w.heap.size := fun j hj u hu => by
        have := hcell (k * 2 + j) u (by rw [flat2 labc (fun _ => rfl) l k x hx j hj]; exact hu)
        have hlt := World.block_lt_of_cell? w _ this
        rw [HF.out.cell (p := ⟨b, off + (k * 2 + j), none⟩) hlt (fun e => hg (by have : b = g := e; rw [← this]; exact hPb))]
        exact ⟨this, hlt⟩
      have c0 : wr.cell? ⟨b, off + k * 2, none⟩ = some (.string x.1) := (cc0 0 (by omega) _ rfl).1
      have c1 : wr.cell? ⟨b, off + k * 2 + 1, none⟩ = some (.string x.2) := (cc0 1 (by omega) _ rfl).1
      have hbw : b < wr.heap.size := Nat.lt_of_lt_of_le (cc0 0 (by omega) _ rfl).2 HF.out.size
      have hbg : b ≠ g := fun e => hg (by rw [← e]; exact hPb)
      have hxs := HS.out x (List.mem_of_getElem? hx)
      have hd1 := labsSize_drop l k x hx
      have hd2 := labsBytes_drop l k x hx
      have hM := HM.out
      obtain ⟨o, ho⟩ : ∃ o, o + labSize x = i := by
        have h1 : labsSize (l.drop k) ≤ labsSize l := by
          have : ∀ (l : List Lab) (k : Nat), labsSize (l.drop k) ≤ labsSize l := by
            intro l
            induction l with
            | nil => intro k; simp
            | cons a l ih =>
              intro k
              cases k with
              | zero => exact Nat.le_refl _
              | succ k => exact Nat.le_trans (ih k) (by show labsSize l ≤ labSize a + labsSize l; omega)
          exact this l k
        have h2 := HT.out
        exact ⟨i - labSize x, by omega⟩
      have hC := marshalLabel_any b (off + k * 2) x g n i c o (labsBytes (l.drop (k + 1))) wr.drew c0 c1 hbg hbw HB.out (by omega) (by omega) hxs.1 hxs.2 ho
      rw [← hd2] at hC
      have HO := Lib.hid (show labsSize (l.drop k) + o = n by omega)
      have HK := Lib.hid ho
      have hz : labSize x ≤ i := by omega
      have hzm := labSize_le x hxs.1 hxs.2
      generalize labSize x = z at hC ho hz hzm
      have ho2 : (i : Int) - z = o := by omega
      clear c0 c1 cc0 hcell hx hd1 hd2 hM hxs HM ho HK
      go_wp2
      go_region_with (go_at_call 249; refine hC.mono ?_; rintro r w1 ⟨rfl, hB1, hF1⟩)
      all_goals go_wp2
      all_goals go_roundw
      all_goals first
        | exact ⟨o, k, by omega, rfl, by first | rfl | go_num | (congr 1; omega), HO, by omega, Lib.hid hB1, Lib.hid (HF.out.same ((Fr.drew (Fr.refl _ _)).same hF1))⟩
        | (show ((k : Int) - 1 + 1).toNat < ((k : Int) + 1).toNat; omega)
end Go.Proofs.YtbkookiigkckdaaGreatDoor

/-
  DERIVED: THE SHELF's CONTRACTS AT THIS DUMP, IN PLAIN WORDS (tools/lay-plain.mjs out of 'YtbkookiigkckdaaGreatDoorSortS.lean', which tools/lay-shelf.mjs wrote): THE SAME DECLARATIONS UNDER THE SAME NAMES: 'import', 'namespace', 'open', 'def', 'theorem' AND NOTHING ELSE: no command of the shelf's: FOR A HAND-IN. Each laying: the table of numbers ('.._ren') and one theorem, a field a fact of the dump's own or the kernel's comparison; each contract: ONE APPLICATION.
-/
namespace Go.Proofs
open Go.Shelf
def Tryz.sortLab_ren : Go.Shelf.Ren := ⟨fun | 6 => 205 | 15 => 157 | 14 => 246 | 28 => 228 | 29 => 229 | 20 => 262 | 21 => 263 | 22 => 264 | 23 => 265 | 24 => 266 | 25 => 267 | 26 => 268 | 27 => 269 | 46 => 289 | 47 => 258 | 48 => 259 | 49 => 290 | 50 => 291 | 57 => 299 | n => n, fun | 22 => 115 | 24 => 108 | 25 => 326 | 3 => 3 | 39 => 268 | 0 => 0 | 53 => 317 | 55 => 111 | 4 => 4 | 46 => 347 | 45 => 346 | 50 => 86 | 5 => 5 | 9 => 9 | 66 => 383 | 70 => 386 | 76 => 401 | 77 => 261 | n => n, fun | n => n⟩
theorem Tryz.sortLab : Go.Proofs.SlLaysF0.n6 Tryz.prog Tryz.sortLab_ren := {
  mixed := by kernel_rfl
  f6 := ⟨Tryz.f205.name, by decide, Tryz.func205.trans (congrArg some (by kernel_rfl))⟩
  f14 := ⟨Tryz.f246.name, by decide, Tryz.func246.trans (congrArg some (by kernel_rfl))⟩
  f15 := Tryz.func157.trans (congrArg some (by kernel_rfl))
  f20 := ⟨Tryz.f262.name, by decide, Tryz.func262.trans (congrArg some (by kernel_rfl))⟩
  f21 := ⟨Tryz.f263.name, by decide, Tryz.func263.trans (congrArg some (by kernel_rfl))⟩
  f22 := ⟨Tryz.f264.name, by decide, Tryz.func264.trans (congrArg some (by kernel_rfl))⟩
  f23 := ⟨Tryz.f265.name, by decide, Tryz.func265.trans (congrArg some (by kernel_rfl))⟩
  f24 := ⟨Tryz.f266.name, by decide, Tryz.func266.trans (congrArg some (by kernel_rfl))⟩
  f25 := ⟨Tryz.f267.name, by decide, Tryz.func267.trans (congrArg some (by kernel_rfl))⟩
  f26 := ⟨Tryz.f268.name, by decide, Tryz.func268.trans (congrArg some (by kernel_rfl))⟩
  f27 := ⟨Tryz.f269.name, by decide, Tryz.func269.trans (congrArg some (by kernel_rfl))⟩
  f28 := Tryz.func228.trans (congrArg some (by kernel_rfl))
  f29 := Tryz.func229.trans (congrArg some (by kernel_rfl))
  f46 := ⟨Tryz.f289.name, by decide, Tryz.func289.trans (congrArg some (by kernel_rfl))⟩
  f47 := Tryz.func258.trans (congrArg some (by kernel_rfl))
  f48 := Tryz.func259.trans (congrArg some (by kernel_rfl))
  f49 := ⟨Tryz.f290.name, by decide, Tryz.func290.trans (congrArg some (by kernel_rfl))⟩
  f50 := ⟨Tryz.f291.name, by decide, Tryz.func291.trans (congrArg some (by kernel_rfl))⟩
  f57 := ⟨Tryz.f299.name, by decide, Tryz.func299.trans (congrArg some (by kernel_rfl))⟩
  t0 := Tryz.underlying0
  a0 := Tryz.isAgg0
  z0 := Tryz.sizeOf0
  v0 := Tryz.zeroValue0
  t3 := Tryz.underlying3
  a3 := Tryz.isAgg3
  z3 := Tryz.sizeOf3
  v3 := Tryz.zeroValue3
  t4 := Tryz.underlying4
  a4 := Tryz.isAgg4
  z4 := Tryz.sizeOf4
  v4 := Tryz.zeroValue4
  t5 := Tryz.underlying5
  a5 := Tryz.isAgg5
  z5 := Tryz.sizeOf5
  v5 := Tryz.zeroValue5
  t9 := Tryz.underlying9
  a9 := Tryz.isAgg9
  z9 := Tryz.sizeOf9
  v9 := Tryz.zeroValue9
  t22 := Tryz.underlying115
  a22 := Tryz.isAgg115
  z22 := Tryz.sizeOf115
  v22 := Tryz.zeroValue115
  t25 := Tryz.underlying326
  a25 := Tryz.isAgg326
  z25 := Tryz.sizeOf326
  v25 := Tryz.zeroValue326
  t39 := Tryz.underlying268
  a39 := Tryz.isAgg268
  z39 := Tryz.sizeOf268
  v39 := Tryz.zeroValue268
  t45 := Tryz.underlying346
  a45 := Tryz.isAgg346
  z45 := Tryz.sizeOf346
  v45 := Tryz.zeroValue346
  t46 := Tryz.underlying347
  a46 := Tryz.isAgg347
  z46 := Tryz.sizeOf347
  v46 := Tryz.zeroValue347
  t50 := Tryz.underlying86
  a50 := Tryz.isAgg86
  z50 := Tryz.sizeOf86
  v50 := Tryz.zeroValue86
  t53 := Tryz.underlying317
  a53 := Tryz.isAgg317
  z53 := Tryz.sizeOf317
  v53 := Tryz.zeroValue317
  t55 := Tryz.underlying111
  a55 := Tryz.isAgg111
  z55 := Tryz.sizeOf111
  v55 := Tryz.zeroValue111
  t66 := Tryz.underlying383
  a66 := Tryz.isAgg383
  z66 := Tryz.sizeOf383
  v66 := Tryz.zeroValue383
  t70 := Tryz.underlying386
  a70 := Tryz.isAgg386
  z70 := Tryz.sizeOf386
  v70 := Tryz.zeroValue386
  t76 := Tryz.underlying401
  a76 := Tryz.isAgg401
  z76 := Tryz.sizeOf401
  v76 := Tryz.zeroValue401
  t77 := Tryz.underlying261
  a77 := Tryz.isAgg261
  z77 := Tryz.sizeOf261
  v77 := Tryz.zeroValue261 }
end Go.Proofs

