/- Texts of this seat, merged and shortened. -/
import Derived.Test.YtbkookiigkckdaaGreatDoorK03
import Derived.Lib.LazyBuf
import Derived.Lib.BufferWrite
import Derived.OrdersHeld
import Derived.StillTail
import Derived.RowKit
import Derived.Laws.IdiomStrings
import Derived.Shelf.SlSortCmp.SmallK
import Derived.Shelf.SlSortCmp.NoneTotal
import Derived.Ground.SlsfProg
import Derived.Deep.OwnRows
set_option linter.unusedVariables false
set_option linter.unusedSimpArgs false
set_option maxRecDepth 100000
set_option maxHeartbeats 8000000
namespace Go.Proofs.YtbkookiigkckdaaGreatDoor
open Go.RowKit Go.Proofs.Tryz
abbrev Lab := ByteArray × ByteArray
def zaI (p : Lab) : List Value := [.string p.1, .string p.2]
theorem info40 : (prog.info? 40).map (fun i => (i.zero, i.size, i.bytes)) = some (some (.agg #[.string ⟨#[]⟩, .string ⟨#[]⟩]), 2, 32) := by kernel_rfl
def zeo (t : TypeId) (w : World) (l : List Lab) (r : Ending) (w' : World) : Prop :=
 ∃ v, r = .returned v /\ w'.ownsRow w.heap.size t 2 v l.length (l.flatMap zaI) /\ Fr (fun _ => False) w w'
theorem pairs_any (P : Nat -> Prop) (v : Value) (l : List Lab) (w : World) (h : Sl P w v 2 l.length (l.flatMap zaI)) (hl : l.length <= 1099511627776) :
 Calls prog 149 #[v] w (zeo 108 w l) := by
 obtain ⟨A, c, rfl, ai, aR, hr⟩ := h; obtain ⟨n, hn⟩ := exE l.length; rw [hn] at hr aR hl ⊢; have HN := zlM hn; have HR := zlM hr; obtain ⟨i0, aB, ay, ax, aA⟩ := info_parts zh0; clear hn hr ai; go_enter func149, ntmps149; go_wp2
 go_loopw [3, 8] (fun v i wr => ∃ k : Nat, k <= n /\ i = .int .i64 k /\ wr.ownsRow w.heap.size 108 2 v k ((l.take k).flatMap zaI) /\ Fr (fun _ => False) w wr) (fun _ i _ => n - (intOf i).toNat)
 case atStart => exact ⟨0, zlX _, rfl, zl0 _ _ _ _, zmR _ _⟩
 case round =>
  obtain ⟨k, hk, rfl, ab, hf⟩ := hrel; by_cases hlt : k < n
  ·obtain ⟨g, off, rfl, _, aa⟩ := HR.out (by omega)
   obtain ⟨x, hx⟩ : ∃ x, l[k]? = some x := ⟨_, zlO (by rw [HN.out]; exact hlt)⟩; have cc : ∀ j, j < 2 -> ∀ u, (zaI x)[j]? = some u -> wr.cell? ⟨g, off + (k * 2 + j), none⟩ = some u := fun j hj u hu => by
    have := aa (k * 2 + j) u (by rw [zbB zaI (fun _ => rfl) l k x hx j hj]; exact hu); rw [hf.cell (p := ⟨g, off + (k * 2 + j), none⟩) (zlT w _ this) (fun e => e)]; exact this
   have c0 : wr.cell? ⟨g, off + k * 2, none⟩ = some (.string x.1) := cc 0 (by omega) _ rfl; have c1 : wr.cell? ⟨g, off + k * 2 + 1, none⟩ = some (.string x.2) := cc 1 (by omega) _ rfl; have HC := zlM aa; have HO := zlM ab; have HX := zlM hx; obtain ⟨a', n', k', rfl⟩ := zab ab; clear aa cc ab hx; go_wp2_with (at_builtin; refine Hid.out ?_)
   refine zlM ?_; refine zae _ rfl _ _ 115 115 rfl w.heap.size 108 i0 _ 2 32 underlying115 aB ay ax aA rfl (by decide) _ k ((l.take k).flatMap zaI) rfl ((HO.out.alloc _).alloc _) _ 1 (zaI x) rfl (zaF underlying115 (zaL wr _ 108 (zaI x).toArray) rfl (by simp [zaI, Value.oneCell'])) (by unfold maxLen; omega) (by omega) (by have := hf.size; simp; omega) ?_
   intro v' w2 ac ad aw
   have af : w2.ownsRow w.heap.size 108 2 v' (k + 1) ((l.take (k + 1)).flatMap zaI) := by rw [zam zaI l k x HX.out]; exact ac
   have ar : Fr (fun _ => False) w w2 := ((hf.alloc _).alloc _).grown ad (fun g hg => .inr (((HO.out.lt g hg)).1)); have cL := zlM af; have bx := zlM ar; clear ac ad af ar hf c0 c1 aw
   go_wp2; go_roundw
   case rel => exact ⟨k + 1, by omega, by go_num, cL.out, bx.out⟩
   case measure => simp [intOf]; omega
  ·go_wp2
   go_ret; obtain rfl : k = n := by omega
   refine ⟨_, rfl, ?_, hf⟩; rw [<- HN.out] at ab ⊢; rw [zmd] at ab; exact ab
def zaz (n : Nat) : Nat := if n < 255 then 1 else 4
def za7 (p : Lab) : Nat := (p.1.size + zaz p.1.size) + (p.2.size + zaz p.2.size)
def zaB (l : List Lab) : Nat := (l.map za7).sum
theorem zfo (n : Nat) (hn : n <= 16777216) (w : World) : Calls prog 271 #[.int .u64 n] w fun r w' => r = .returned (.int .i64 (zaz n)) /\ w = w' := by
 by_cases h : n < 255
 ·have e : zaz n = 1 := if_pos h
  have h1 : (n : Int) < 255 := by omega
  rw [e]; go_enter func271, ntmps271; go_wp2; go_ret; exact ⟨rfl, rfl⟩
 ·have e : zaz n = 4 := zmI h
  have h1 : ¬ (n : Int) < 255 := by omega
  have h2 : (n : Int) <= 16777216 := by omega
  rw [e]; go_enter func271, ntmps271; go_wp2; go_ret; exact ⟨rfl, rfl⟩
theorem zhY (g off : Nat) (p : Lab) (h1 : p.1.size <= 1048576) (h2 : p.2.size <= 1048576) (w : World) (c0 : w.cell? ⟨g, off, none⟩ = some (.string p.1)) (c1 : w.cell? ⟨g, off + 1, none⟩ = some (.string p.2)) :
 Calls prog 248 #[.pointer (some ⟨g, off, none⟩)] w fun r w' => r = .returned (.int .i64 (za7 p)) /\ w = w' := by
 have e1 : za7 p = (p.1.size + zaz p.1.size) + (p.2.size + zaz p.2.size) := rfl; have bw : zaz p.1.size <= 4 := by unfold zaz; split <;> omega
 have gi : zaz p.2.size <= 4 := by unfold zaz; split <;> omega
 have q1 := zfo p.1.size (by omega) w; have q2 := zfo p.2.size (by omega) w; generalize za7 p = s at e1 ⊢; obtain ⟨a, b⟩ := p; simp only [] at c0 c1 h1 h2 bw gi q1 q2 e1; generalize zaz a.size = x at bw q1 e1; generalize zaz b.size = y at gi q2 e1; have hs : (s : Int) = (a.size : Int) + x + ((b.size : Int) + y) := by omega
 clear e1; go_enter func248, ntmps248; go_wp2_with (go_at_call 271; first | (refine q1.mono ?_; rintro r w1 ⟨rfl, rfl⟩) | (refine q2.mono ?_; rintro r w1 ⟨rfl, rfl⟩))
 go_ret; exact ⟨by rw [hs]; rfl, rfl⟩
theorem zfc (p : Lab) (h1 : p.1.size <= 1048576) (h2 : p.2.size <= 1048576) : za7 p <= 2097160 := by
 have bw : zaz p.1.size <= 4 := by unfold zaz; split <;> omega
 have gi : zaz p.2.size <= 4 := by unfold zaz; split <;> omega
 unfold za7; omega
theorem zhV (l : List Lab) (k : Nat) (x : Lab) (h : l[k]? = some x) : zaB (l.take (k + 1)) = zaB (l.take k) + za7 x := by
 unfold zaB; rw [zmn, h]; simp
theorem zdM : ∀ (l : List Lab), (∀ p ∈ l, p.1.size <= 1048576 /\ p.2.size <= 1048576) -> zaB l <= l.length * 2097160
 | [], _ => by simp [zaB]
 | p :: l, h => by
   have h1 := zdM l (fun q hq => h q (by simp [hq])); have h2 := zfc p (h p (by simp)).1 (h p (by simp)).2; have e : zaB (p :: l) = za7 p + zaB l := rfl; rw [e, zl4, Nat.add_mul]; omega
theorem sum_small (s k : Nat) (h : s <= k * 2097160) (hk : k <= 4096) : s <= 8589967360 := by omega
theorem zeB (P : Nat -> Prop) (v : Value) (l : List Lab) (w : World) (h : Sl P w v 2 l.length (l.flatMap zaI)) (hl : l.length <= 4096) (hs : ∀ p ∈ l, p.1.size <= 1048576 /\ p.2.size <= 1048576) :
 Calls prog 208 #[v] w fun r w' => r = .returned (.int .i64 (zaB l)) /\ Fr (fun _ => False) w w' := by
 obtain ⟨A, c, rfl, ai, aR, hr⟩ := h; obtain ⟨n, hn⟩ := exE l.length; rw [hn] at hr aR hl ⊢; have HN := zlM hn; have HR := zlM hr; have HS := zlM hs; clear hn hr ai hs; go_enter func208, ntmps208; go_wp2
 go_loopw [2, 7] (fun v i wr => ∃ k s : Nat, k <= n /\ i = .int .i64 k /\ v = .int .i64 s /\ Hid (zaB (l.take k) = s) /\ s <= k * 2097160 /\ Hid (Fr (fun _ => False) w wr)) (fun _ i _ => n - (intOf i).toNat)
 case atStart => exact ⟨0, 0, zlX _, rfl, rfl, zlM rfl, zlX _, zlM (zmR _ _)⟩
 case round =>
  obtain ⟨k, s, hk, rfl, rfl, HM, hsb, HF⟩ := hrel; by_cases hlt : k < n
  ·obtain ⟨g, off, rfl, _, aa⟩ := HR.out (by omega)
   obtain ⟨x, hx⟩ : ∃ x, l[k]? = some x := ⟨_, zlO (by rw [HN.out]; exact hlt)⟩; have cc : ∀ j, j < 2 -> ∀ u, (zaI x)[j]? = some u -> wr.cell? ⟨g, off + (k * 2 + j), none⟩ = some u := fun j hj u hu => by
    have := aa (k * 2 + j) u (by rw [zbB zaI (fun _ => rfl) l k x hx j hj]; exact hu); rw [HF.out.cell (p := ⟨g, off + (k * 2 + j), none⟩) (zlT w _ this) (fun e => e)]; exact this
   have c0 : wr.cell? ⟨g, off + k * 2, none⟩ = some (.string x.1) := cc 0 (by omega) _ rfl; have c1 : wr.cell? ⟨g, off + k * 2 + 1, none⟩ = some (.string x.2) := cc 1 (by omega) _ rfl; have el := HS.out x (zlU hx); have bN := zfc x el.1 el.2; have hB := zmS wr 108 #[.string x.1, .string x.2]
   have hC := zhY wr.heap.size 0 x el.1 el.2 (wr.alloc (.cells #[.string x.1, .string x.2] 108)) (hB.cell 0) (hB.cell 1); have HT := zlM (zhV l k x hx); have gi : s + 2097160 <= (k + 1) * 2097160 := by rw [Nat.add_mul]; omega
   have hk4 : s <= 8589967360 := sum_small s k hsb (by omega); generalize za7 x = z at bN hC HT; clear cc hx hB el aa; go_wp2_with (go_at_call 248; refine hC.mono ?_; rintro r w1 ⟨rfl, rfl⟩)
   go_roundw
   case rel => exact ⟨k + 1, s + z, by omega, by go_num, by first | rfl | go_num | (congr 1; omega), zlM (by rw [HT.out, HM.out]), by omega, zlM (HF.out.alloc _)⟩
   case measure => simp [intOf]; omega
  ·go_wp2
   go_ret; obtain rfl : k = n := by omega
   refine ⟨?_, HF.out⟩; have e1 : l.take k = l := zlV (by rw [HN.out]; exact zlY _); have h := HM.out; rw [e1] at h; rw [h]; rfl
def zaM (s : ByteArray) : List UInt8 := Lib.uvarint s.size ++ s.data.toList
def zbN (p : Lab) : List UInt8 := zaM p.1 ++ zaM p.2
def zbj (l : List Lab) : List UInt8 := Lib.uvarint l.length ++ l.flatMap zbN
def zcn (st : St) : ByteArray × St := match (gUv st).2 with
 | none => (⟨#[]⟩, none)
 | some r => if r.length < (gUv st).1 then (⟨#[]⟩, none) else (⟨(r.take (gUv st).1).toArray⟩, some (r.drop (gUv st).1))
theorem zdP (s : ByteArray) (r : List UInt8) (h : s.size < 18446744073709551616) : zcn (some (zaM s ++ r)) = (s, some r) := by
 have e : s.data.toList.length = s.size := by rw [<- zmG]
 have e2 : some (zaM s ++ r) = some (Lib.uvarint s.size ++ (s.data.toList ++ r)) := by rw [zaM, zlP]
 unfold zcn; rw [e2, zeC _ h]; simp only []; rw [zmI (by rw [zlN]; omega), List.take_left' e, List.drop_left' e]
theorem ziL (l : List UInt8) (s : ByteArray) (st : St) (h : zcn (some l) = (s, st)) : s.size <= l.length /\ ∀ r, st = some r -> r.length <= l.length := by
 unfold zcn at h; have bN : ∀ r, (gUv (some l)).2 = some r -> r.length <= l.length := fun r hr => by
  unfold gUv at hr; simp only [] at hr; split at hr
  ·injection hr with hr
   rw [<- hr, List.length_drop]; omega
  ·cases hr
 split at h
 ·injection h with h1 h2
  subst h1 h2; exact ⟨zlX _, fun r hr => by cases hr⟩
 ·rename_i r hr
  have := bN r hr; split at h
  ·injection h with h1 h2
   subst h1 h2; exact ⟨zlX _, fun r hr => by cases hr⟩
  ·injection h with h1 h2
   subst h1 h2; refine ⟨?_, fun r' hr' => ?_⟩
   ·show (r.take _).toArray.size <= _
    simp; omega
   ·injection hr' with hr'
    rw [<- hr', List.length_drop]; omega
def gLab (st : St) : Lab × St := (((zcn st).1, (zcn (zcn st).2).1), (zcn (zcn st).2).2)
theorem gLab_enc (p : Lab) (r : List UInt8) (h1 : p.1.size < 18446744073709551616) (h2 : p.2.size < 18446744073709551616) : gLab (some (zbN p ++ r)) = (p, some r) := by
 unfold gLab zbN; rw [zlP, zdP _ _ h1]; simp only []; rw [zdP _ _ h2]
def zba (st : St) : Nat -> List Lab × St
 | 0 => ([], st)
 | k + 1 => ((zba st k).1 ++ [(gLab (zba st k).2).1], (gLab (zba st k).2).2)
theorem zgv (l : List Lab) (r : List UInt8) (hs : ∀ p ∈ l, p.1.size < 18446744073709551616 /\ p.2.size < 18446744073709551616) :
 ∀ k, k <= l.length -> zba (some (l.flatMap zbN ++ r)) k = (l.take k, some ((l.drop k).flatMap zbN ++ r))
 | 0, _ => by simp [zba]
 | k + 1, hk => by
   have ih := zgv l r hs k (by omega); have hx : l[k]? = some l[k] := zlO (by omega); have hm := hs _ (zlU hx); rw [zba, ih]; simp only []; rw [List.drop_eq_getElem_cons (by omega : k < l.length), zl1, zlP, gLab_enc _ _ hm.1 hm.2]; simp only []; rw [List.take_succ_eq_append_getElem (by omega)]
def Buf (w : World) (g n i : Nat) (t : List UInt8) : Prop := i <= n /\ ∃ cs : Array Value, Blk w g 5 cs /\ cs.size = n /\ cs.toList.drop i = bc t
theorem Buf.put {w : World} {g n i : Nat} {t : List UInt8} (h : Buf w g n i t) (o : Nat) (vs : List UInt8) (hi : o + vs.length = i) : Buf (w.setCells g o (bc vs)) g n o (vs ++ t) := by
 obtain ⟨co, cs, hb, hs, hd⟩ := h; refine ⟨by omega, _, zdf (bc vs) o w cs hb, by rw [zdG]; exact hs, ?_⟩; have hl : (bc vs).length = vs.length := zdF vs; rw [zcq _ _ _ (by rw [hl]; omega), hl, hi, hd, zlP, List.drop_left' (by simp; omega), zjb]
def zbx (n : Nat) : List UInt8 := if n < 255 then [UInt8.ofNat n] else [255, UInt8.ofNat n, UInt8.ofNat (n / 256), UInt8.ofNat (n / 65536)]
theorem zk9 (w : World) (g o v : Nat) : w.setCells g o (bc [255, UInt8.ofNat v, UInt8.ofNat (v / 256), UInt8.ofNat (v / 65536)]) =
 ((((w.setCell ⟨g, o, none⟩ (.int .u8 255)).setCell ⟨g, o + 1, none⟩ (.int .u8 ((v : Int) % 256))).setCell ⟨g, o + 2, none⟩ (.int .u8 ((v : Int) / 256 % 256))).setCell ⟨g, o + 3, none⟩ (.int .u8 ((v : Int) / 65536 % 256))) := by
 have e (x : Nat) : ((UInt8.ofNat x).toNat : Int) = (x : Int) % 256 := by simp
 have e1 := e v; have e2 : ((UInt8.ofNat (v / 256)).toNat : Int) = (v : Int) / 256 % 256 := by rw [e]; simp
 have e3 : ((UInt8.ofNat (v / 65536)).toNat : Int) = (v : Int) / 65536 % 256 := by rw [e]; simp
 rw [<- e1, <- e2, <- e3]; rfl
theorem zb1 (n : Nat) : (zbx n).length = zaz n := by
 unfold zbx zaz; split <;> rfl
def zcV (p : Lab) : List UInt8 := zbx p.1.size ++ (p.1.data.toList ++ (zbx p.2.size ++ p.2.data.toList))
theorem ziH (p : Lab) : (zcV p).length = za7 p := by
 have h1 : p.1.data.toList.length = p.1.size := by rw [<- zmG]
 have h2 : p.2.data.toList.length = p.2.size := by rw [<- zmG]
 simp only [zcV, zlN, zb1, za7, h1, h2]; omega
def zaw (l : List Lab) : List UInt8 := l.flatMap zcV
def SizeEnds (g n o : Nat) (t : List UInt8) (w : World) (r : Ending) (w' : World) : Prop :=
 r = .returned (.int .i64 o) /\ Buf w' g n o t /\ Fr (fun k => k = g) w w'
theorem zeD (g n i m c v o : Nat) (t : List UInt8) (w : World) (h : Buf w g n i t) (him : i <= m) (hmn : m <= n) (hm : m <= 1099511627776) (hv : v <= 16777216) (ho : o + zaz v = i) :
 Calls prog 272 #[.slice (some ⟨g, 0, none⟩) m c, .int .i64 i, .int .i64 v] w (SizeEnds g n o (zbx v ++ t) w) := by
 obtain ⟨co, cs, hb, hs, hd⟩ := h; have B0 : Buf w g n i t := ⟨co, cs, hb, hs, hd⟩; by_cases hlt : v < 255
 ·have e1 : zaz v = 1 := if_pos hlt
  rw [e1] at ho; subst ho; have e2 : zbx v = [UInt8.ofNat v] := if_pos hlt; rw [e2]; have h1 : (v : Int) < 255 := by omega
  have hwr : (v : Int) % 256 = v := by omega
  have hc : (w.cell? ⟨g, o, none⟩).isSome = true := by rw [hb.cell]; simp; omega
  obtain ⟨cv, iF⟩ := Option.isSome_iff_exists.mp hc; have hf := hb.frozen o; have HB := B0.put o [UInt8.ofNat v] rfl; have hF : Fr (fun k => k = g) w (w.setCell ⟨g, o, none⟩ (.int .u8 (UInt8.ofNat v).toNat)) := Fr.at_ w g o _; have e3 : ((UInt8.ofNat v).toNat : Int) = v := by simp; omega
  have dm : Buf (w.setCell ⟨g, o, none⟩ (.int .u8 (UInt8.ofNat v).toNat)) g n o ([UInt8.ofNat v] ++ t) := HB; rw [e3] at dm hF; clear HB B0 hd hs; go_enter func272, ntmps272; go_wp2; go_ret; exact ⟨rfl, dm, hF⟩
 ·have e1 : zaz v = 4 := zmI hlt
  rw [e1] at ho; subst ho; have e2 : zbx v = [255, UInt8.ofNat v, UInt8.ofNat (v / 256), UInt8.ofNat (v / 65536)] := zmI hlt; rw [e2]; have h1 : ¬ (v : Int) < 255 := by omega
  have aa : ∀ j, j < 4 -> (w.cell? ⟨g, o + j, none⟩).isSome = true := fun j hj => by rw [hb.cell]; simp; omega
  obtain ⟨c0, fb⟩ := Option.isSome_iff_exists.mp (show (w.cell? ⟨g, o, none⟩).isSome = true from aa 0 (by omega)); obtain ⟨c1, bQ⟩ := Option.isSome_iff_exists.mp (aa 1 (by omega)); obtain ⟨c2, iG⟩ := Option.isSome_iff_exists.mp (aa 2 (by omega)); obtain ⟨c3, hc3⟩ := Option.isSome_iff_exists.mp (aa 3 (by omega)); have fm := hb.frozen o; have ag := hb.frozen (o + 1)
  have ar := hb.frozen (o + 2); have bJ := hb.frozen (o + 3); have HB := zlM (B0.put o [255, UInt8.ofNat v, UInt8.ofNat (v / 256), UInt8.ofNat (v / 65536)] rfl); have HF := zlM ((zmR (fun k => k = g) w).setCells (b := g) (.inl rfl) o (bc [255, UInt8.ofNat v, UInt8.ofNat (v / 256), UInt8.ofNat (v / 65536)])); clear B0 hd hs aa; go_enter func272, ntmps272; go_wp2; go_ret
  rw [<- zk9]; exact ⟨rfl, HB.out, HF.out⟩
theorem zif {w : World} {g n o : Nat} {t : List UInt8} (s : ByteArray) (h : Buf w g n (o + s.size) t) :
 Buf (w.setCells g o (s.data.toList.map fun x => Value.int .u8 (x.toNat : Int))) g n o (s.data.toList ++ t) /\ Fr (fun k => k = g) w (w.setCells g o (s.data.toList.map fun x => Value.int .u8 (x.toNat : Int))) :=
 ⟨h.put o s.data.toList (by rw [<- zmG]), (zmR (fun k => k = g) w).setCells (b := g) (.inl rfl) o _⟩
theorem zkE {w : World} {g n i : Nat} {t : List UInt8} (h : Buf w g n i t) (j : Nat) (hj : j < i) : (w.cell? ⟨g, j, none⟩).isSome = true /\ w.frozen? ⟨g, j, none⟩ = false := by
 obtain ⟨co, cs, hb, hs, hd⟩ := h; exact ⟨by rw [hb.cell]; simp; omega, hb.frozen j⟩
theorem ziv (w : World) (g o off' dl cc : Nat) (s : ByteArray) (bN : s.size <= dl) (hs : off' = o ∨ s.size = 0)
 (hc : ∀ j, j < o + s.size -> (w.cell? ⟨g, j, none⟩).isSome = true /\ w.frozen? ⟨g, j, none⟩ = false) :
 (Builtin.copy_ #[44, 9] 3 #[.slice (some ⟨g, off', none⟩) dl cc, .string s]).run prog w = .ok (goInt s.size) (w.setCells g o (s.data.toList.map fun x => Value.int .u8 (x.toNat : Int))) := by
 by_cases h0 : s.size = 0
 ·have h := Lib.run_copy_empty_string (P := prog) w 44 9 3 5 (some ⟨g, off', none⟩) dl cc s underlying44 (by kernel_rfl) h0
  rw [h]; have e : s.data.toList = [] := zme (by rw [<- zmG]; exact h0); rw [e, h0]; rfl
 ·obtain rfl : off' = o := by omega
  exact run_copy_string w 44 9 3 5 g off' dl cc s underlying44 size5 bN (fun j hj => (hc (off' + j) (by omega)).1) (fun j hj => (hc (off' + j) (by omega)).2)
theorem zeP {ops : Array Oper} {o : Oper} {a : Act} {w : World} {K : Act -> World -> Prop} {Q : Exit -> Act -> World -> Prop} {E : Prop}
 (hg : o.guard = none) (d x : Operand) (mN : o.type = 3) (hop : o.op = Op.call { callee := Callee.builtin Builtin.copy, args := #[d, x], argTypes := #[44, 9] })
 (g off' p dl cc : Nat) (s : ByteArray) (hd : a.eval d = .slice (some ⟨g, off', none⟩) dl cc) (bN : s.size <= dl) (hx : a.eval x = .string s) (hs : off' = p ∨ s.size = 0)
 (hc : ∀ j, j < p + s.size -> (w.cell? ⟨g, j, none⟩).isSome = true /\ w.frozen? ⟨g, j, none⟩ = false)
 (hK : K (a.put o.dst (goInt s.size)) (w.setCells g p (s.data.toList.map fun x => Value.int .u8 (x.toNat : Int)))) :
 if Region.wanted o (yielded ops a.tmps) = true then Oper.wp prog o a w K Q else E := by
 have hw : Region.wanted o (yielded ops a.tmps) = true := by simp [Region.wanted, hg]
 rw [if_pos hw]; have js := ziv w g p off' dl cc s bN hs hc; unfold Oper.wp; simp [execOp, hop, resolve, invoke, builtin, hd, hx, mN, js, Result.andThen]; exact hK
theorem zfE (b off : Nat) (p : Lab) (g n i c o : Nat) (t : List UInt8) (w : World) (c0 : w.cell? ⟨b, off, none⟩ = some (.string p.1)) (c1 : w.cell? ⟨b, off + 1, none⟩ = some (.string p.2)) (mh : b ≠ g) (kj : b < w.heap.size)
 (h : Buf w g n i t) (hn : n <= 1099511627776) (hic : i <= c) (h1 : p.1.size <= 1048576) (h2 : p.2.size <= 1048576) (ho : o + za7 p = i) :
 Calls prog 249 #[.pointer (some ⟨b, off, none⟩), .slice (some ⟨g, 0, none⟩) i c] w fun r w' => r = .returned (.int .i64 (za7 p)) /\ Buf w' g n o (zcV p ++ t) /\ Fr (fun k => k = g) w w' := by
 obtain ⟨x, y⟩ := p; simp only [za7] at *
 have co := h.1; have lx : zaz x.size <= 4 := by unfold zaz; split <;> omega
 have ly : zaz y.size <= 4 := by unfold zaz; split <;> omega
 have hy := zkE h; obtain ⟨p1, hp1⟩ : ∃ p1, p1 + y.size = i := ⟨i - y.size, by omega⟩; subst hp1; obtain ⟨oW, dN, lW⟩ := zlD g 0 (p1 + y.size) c p1 .i64 p1 rfl (by omega); rw [Nat.add_sub_cancel_left] at lW; have ho1' : oW = p1 ∨ y.size = 0 := by omega
 have HB := zlM h; clear h; go_enter func249, ntmps249; go_wp2; go_region_law (refine zeP rfl (.tmp 17) (.tmp 21) rfl rfl g oW p1 y.size (c - p1) y (by simp [Act.eval, Act.put]) (zlY _) (by simp [Act.eval, Act.put]) ho1' (fun j hj => hy j hj) ?_)
 have cI : Buf w g n (p1 + y.size) t := HB.out; obtain ⟨HC1, cd⟩ := zif y cI; have oo : Buf (w.drew.setCells g p1 (y.data.toList.map fun x => Value.int .u8 (x.toNat : Int))) g n p1 (y.data.toList ++ t) := (zif y (w := w.drew) cI).1
 have jW : Fr (fun k => k = g) w (w.drew.setCells g p1 (y.data.toList.map fun x => Value.int .u8 (x.toNat : Int))) := (Fr.drew (zmR (fun k => k = g) w)).setCells (b := g) (.inl rfl) _ _; generalize w.drew.setCells g p1 (y.data.toList.map fun x => Value.int .u8 (x.toNat : Int)) = w1 at oo jW ⊢; clear HC1 cd cI
 obtain ⟨p3, aG⟩ : ∃ p3, (p3 + x.size) + zaz y.size = p1 := ⟨p1 - zaz y.size - x.size, by omega⟩; obtain ⟨ap, fi, pB⟩ := zlD g 0 (p1 + y.size) c p3 .i64 p3 rfl (by omega); have eJ := zeD g n p1 (p1 + y.size) c y.size (p3 + x.size) (y.data.toList ++ t) w1 oo (by omega) (by omega) (by omega) (by omega) aG
 have c01 : w1.cell? ⟨b, off, none⟩ = some (.string x) := (jW.cell (p := ⟨b, off, none⟩) kj mh).trans c0; have c11 : w1.cell? ⟨b, off + 1, none⟩ = some (.string y) := (jW.cell (p := ⟨b, off + 1, none⟩) kj mh).trans c1; have HFh := zlM jW; clear oo jW c0 c1 hy lW; have nt : b < w1.heap.size := zmb kj HFh.out.size
 go_wp2_with (go_at_call 272; refine eJ.mono ?_; rintro r w2 ⟨rfl, bh, fY⟩; have c02 : w2.cell? ⟨b, off, none⟩ = some (.string x) := (fY.cell (p := ⟨b, off, none⟩) nt mh).trans c01)
 have aA := zkE bh; have ho2' : ap = p3 ∨ x.size = 0 := by omega
 have kQ : x.size <= p1 + y.size - p3 := by omega
 have dm := zlM bh; have bx := zlM fY; clear eJ fi dN c01 c11 bh fY; go_region_law (refine zeP rfl (.tmp 40) (.tmp 44) rfl rfl g ap p3 (p1 + y.size - p3) (c - p3) x (by simp [Act.eval, Act.put]) kQ (by simp [Act.eval, Act.put]) ho2' (fun j hj => aA j hj) ?_)
 have rQ : Buf (w2.drew.setCells g p3 (x.data.toList.map fun x => Value.int .u8 (x.toNat : Int))) g n p3 (x.data.toList ++ (zbx y.size ++ (y.data.toList ++ t))) := (zif x (w := w2.drew) dm.out).1; have bH : Fr (fun k => k = g) w2 (w2.drew.setCells g p3 (x.data.toList.map fun x => Value.int .u8 (x.toNat : Int))) := (Fr.drew (zmR (fun k => k = g) w2)).setCells (b := g) (.inl rfl) _ _
 generalize w2.drew.setCells g p3 (x.data.toList.map fun x => Value.int .u8 (x.toNat : Int)) = w3 at rQ bH ⊢; have hoo : o + zaz x.size = p3 := by omega
 have hE3 := zeD g n p3 (p1 + y.size) c x.size o _ w3 rQ (by omega) (by omega) (by omega) (by omega) hoo; have hbw3 : b < w3.heap.size := zmb (zmb nt bx.out.size) bH.size; have c03 : w3.cell? ⟨b, off, none⟩ = some (.string x) := (bH.cell (p := ⟨b, off, none⟩) (zmb nt bx.out.size) mh).trans c02; have HF3h := zlM bH
 have HO := zlM ho; clear rQ bH c02 aA pB; go_wp2_with (go_at_call 272; refine hE3.mono ?_; rintro r w4 ⟨rfl, lq, hF4⟩)
 go_ret; refine ⟨?_, ?_, ((HFh.out.same bx.out).same HF3h.out).same hF4⟩
 ·have h := HO.out
  show Ending.returned (Value.int .i64 ((p1 : Int) + y.size - o)) = _; congr 2; omega
 ·simp only [zcV, zlP]
  exact lq
theorem zhW (l : List Lab) (k : Nat) (x : Lab) (h : l[k]? = some x) : zaB (l.drop k) = za7 x + zaB (l.drop (k + 1)) := by
 obtain ⟨hk, rfl⟩ := List.getElem?_eq_some_iff.mp h; rw [List.drop_eq_getElem_cons hk]; rfl
theorem zdr (l : List Lab) (k : Nat) (x : Lab) (h : l[k]? = some x) : zaw (l.drop k) = zcV x ++ zaw (l.drop (k + 1)) := by
 obtain ⟨hk, rfl⟩ := List.getElem?_eq_some_iff.mp h; rw [List.drop_eq_getElem_cons hk]; rfl
theorem zhX (l : List Lab) : (zaw l).length = zaB l := by
 induction l with
 | nil => rfl
 | cons x l ih =>
   show (zcV x ++ zaw l).length = za7 x + zaB l; rw [zlN, ziH, ih]
theorem zdA (P : Nat -> Prop) (v : Value) (l : List Lab) (g n c : Nat) (w : World) (h : Sl P w v 2 l.length (l.flatMap zaI)) (hg : ¬ P g) (hl : l.length <= 4096) (hs : ∀ p ∈ l, p.1.size <= 1048576 /\ p.2.size <= 1048576)
 (hB : Buf w g n n []) (hn : n = zaB l) (aR : n <= c) (hcm : c <= 1099511627776) :
 Calls prog 209 #[v, .slice (some ⟨g, 0, none⟩) n c] w fun r w' => r = .returned (.int .i64 n) /\ Buf w' g n 0 (zaw l) /\ Fr (fun k => k = g) w w' := by
 obtain ⟨A, cc, rfl, ai, hnc', hr⟩ := h; obtain ⟨m, hm⟩ := exE l.length; rw [hm] at hr hnc' hl ⊢; have HN := zlM hm; have HR := zlM hr; have HS := zlM hs; have HT := zlM hn; have ot := zlM hB; clear hm hr ai hs hn hB; go_enter func209, ntmps209; go_wp2
 go_loopw [5, 6] (fun vi vk wr => ∃ (i k : Nat), k <= m /\ vk = .int .i64 ((k : Int) - 1) /\ vi = .int .i64 i /\ Hid (zaB (l.drop k) + i = n) /\ i <= n /\ Hid (Buf wr g n i (zaw (l.drop k))) /\ Hid (Fr (fun k => k = g) w wr)) (fun _ vk _ => (intOf vk + 1).toNat)
 case atStart =>
  refine ⟨n, m, zlY _, rfl, rfl, ?_, zlY _, ?_, zlM (zmR _ _)⟩
  ·have e : l.drop m = [] := List.drop_of_length_le (by rw [HN.out]; exact zlY _)
   rw [e]; exact zlM (zmh _)
  ·have e : l.drop m = [] := List.drop_of_length_le (by rw [HN.out]; exact zlY _)
   rw [e]; exact ot
 case round =>
  obtain ⟨i, k, hk, rfl, rfl, HM, co, HB, HF⟩ := hrel; rcases k with _ | k
  ·go_wp2
   go_ret; have h0 : i = 0 /\ zaw (l.drop 0) = zaw l := by
    have h := HM.out; have h2 := HT.out; have e : l.drop 0 = l := rfl; rw [e] at h; exact ⟨by omega, by rw [e]⟩
   obtain ⟨rfl, e⟩ := h0; have hB := HB.out; rw [e] at hB; exact ⟨by simp, hB, HF.out⟩
  ·obtain ⟨x, hx⟩ : ∃ x, l[k]? = some x := ⟨_, zlO (by rw [HN.out]; omega)⟩
   obtain ⟨b, off, rfl, dX, aa⟩ := HR.out (by omega); have e1 : ((k + 1 : Nat) : Int) - 1 = k := by omega
   rw [e1]; have cc0 : ∀ j, j < 2 -> ∀ u, (zaI x)[j]? = some u -> wr.cell? ⟨b, off + (k * 2 + j), none⟩ = some u /\ b < w.heap.size := fun j hj u hu => by
    have := aa (k * 2 + j) u (by rw [zbB zaI (fun _ => rfl) l k x hx j hj]; exact hu); have hlt := zlT w _ this; rw [HF.out.cell (p := ⟨b, off + (k * 2 + j), none⟩) hlt (fun e => hg (by have : b = g := e; rw [<- this]; exact dX))]; exact ⟨this, hlt⟩
   have c0 : wr.cell? ⟨b, off + k * 2, none⟩ = some (.string x.1) := (cc0 0 (by omega) _ rfl).1; have c1 : wr.cell? ⟨b, off + k * 2 + 1, none⟩ = some (.string x.2) := (cc0 1 (by omega) _ rfl).1; have kj : b < wr.heap.size := zmb (cc0 0 (by omega) _ rfl).2 HF.out.size; have mh : b ≠ g := fun e => hg (by rw [<- e]; exact dX); have el := HS.out x (zlU hx)
   have hd1 := zhW l k x hx; have hd2 := zdr l k x hx; have hM := HM.out; obtain ⟨o, ho⟩ : ∃ o, o + za7 x = i := by
    have h1 : zaB (l.drop k) <= zaB l := by
     have : ∀ (l : List Lab) (k : Nat), zaB (l.drop k) <= zaB l := by
      intro l; induction l with
      | nil => intro k; simp
      | cons a l ih =>
        intro k; cases k with
        | zero => exact zlY _
        | succ k => exact zmv (ih k) (by show zaB l <= za7 a + zaB l; omega)
     exact this l k
    have h2 := HT.out; exact ⟨i - za7 x, by omega⟩
   have hC := zfE b (off + k * 2) x g n i c o (zaw (l.drop (k + 1))) wr.drew c0 c1 mh kj HB.out (by omega) (by omega) el.1 el.2 ho; rw [<- hd2] at hC; have HO := zlM (show zaB (l.drop k) + o = n by omega); have HK := zlM ho; have hz : za7 x <= i := by omega
   have hzm := zfc x el.1 el.2; generalize za7 x = z at hC ho hz hzm; have fi : (i : Int) - z = o := by omega
   clear c0 c1 cc0 aa hx hd1 hd2 hM el HM ho HK; go_wp2; go_region_with (go_at_call 249; refine hC.mono ?_; rintro r w1 ⟨rfl, av, dI⟩)
   all_goals go_wp2
   all_goals go_roundw
   all_goals first
    | exact ⟨o, k, by omega, rfl, by first | rfl | go_num | (congr 1; omega), HO, by omega, zlM av, zlM (HF.out.same ((Fr.drew (zmR _ _)).same dI))⟩
    | (show ((k : Int) - 1 + 1).toNat < ((k : Int) + 1).toNat; omega)
end Go.Proofs.YtbkookiigkckdaaGreatDoor
namespace Go.Proofs.YtbkookiigkckdaaGreatDoor
open Go Go.RowKit Go.Proofs.Tryz
section
variable {P : Program} {ops : Array Oper} {Q : Exit -> Act -> World -> Prop} {md : Region.Mode} {S : World -> Prop} {c : Nat}
def zc1 (P : Program) (md : Region.Mode) (ops : Array Oper) (Q : Exit -> Act -> World -> Prop) (S : World -> Prop) (c : Nat) : Nat -> Array Bool -> Act -> World -> Prop
 | 0, ah, a, w => Region.ready md ops ah = [] /\ Q .normal a w
 | fuel + 1, ah, a, w =>
   (Region.ready md ops ah = [] -> Q .normal a w) /\
   ∀ i ∈ Region.ready md ops ah, wpOp P ops Q i (fun a' w' => ((ah.setIfInBounds i true).getD c false = false -> S w') /\ zc1 P md ops Q S c fuel (ah.setIfInBounds i true) a' w') a w
theorem zfm : ∀ (fuel : Nat) (ah : Array Bool) (a : Act) (w : World), zc1 P md ops Q S c fuel ah a w -> wpAny P md ops Q fuel ah a w
 | 0, _, _, _, h => h
 | fuel + 1, _, _, _, h => ⟨h.1, fun i hi => wpOp_mono (fun a' w' h' => zfm fuel _ a' w' h'.2) (h.2 i hi)⟩
def zkF (md : Region.Mode) (ops : Array Oper) (i : Nat) (C : List Nat) : Bool :=
 C.all fun j => Region.waitsFor md ops j i || C.any fun k => Region.waitsFor md ops j k
theorem zfD {C : List Nat} {i j : Nat} {ah : Array Bool} (hb : zkF md ops i C = true) (hi : ah.getD i false = false) (hC : ∀ k ∈ C, ah.getD k false = false) (hj : j ∈ Region.ready md ops ah) : j ∉ C := by
 intro hjC; obtain ⟨_, oj, ju, bu⟩ := mem_ready.1 hj; have h1 := List.all_eq_true.1 hb j hjC; rw [Bool.or_eq_true] at h1; have aC : ∀ k, ah.getD k false = false -> Region.waitsFor md ops j k = true -> False := fun k hk hw => by
  obtain ⟨oj', hoj', e, he, lf, hon⟩ := Region.waitsFor_spec hw; have : oj' = oj := zmB (hoj'.symm.trans ju); subst this; have h2 := bu e he lf; rw [hon, hk] at h2; cases h2
 rcases h1 with h1 | h1
 ·exact aC i hi h1
 ·obtain ⟨k, hk, hw⟩ := List.any_eq_true.1 h1
  exact aC k (hC k hk) hw
theorem zjo {C : List Nat} {i : Nat} {oi : Oper} {v : Value} (hi : ops[i]? = some oi) (jq : ∀ (j : Nat) (o : Oper) cs b, ops[j]? = some o -> o.op ≠ .select cs b)
 (hQ : ∀ c a w, Q (.panic c) (a.put oi.dst v) w -> Q (.panic c) a w) (hb : zkF md ops i C = true) (hc : c ∈ C) (hic : i ≠ c) :
 ∀ (fuel : Nat) (ah : Array Bool) (a : Act) (w : World),
  (∀ j oj, ops[j]? = some oj -> j ≠ i -> ah.getD j true = false -> (∀ e ∈ oj.after, Region.binds md e = true -> e.on ≠ i) -> oi.apart ops oj = true) ->
  (∀ k ∈ C, ah.getD k false = false) -> i ∈ Region.ready md ops ah -> YieldsIf P ops S oi v a -> S w ->
  zc1 P md ops Q S c fuel (ah.setIfInBounds i true) (a.put oi.dst v) w -> zc1 P md ops Q S c (fuel + 1) ah a w := by
 intro fuel; induction fuel with
 | zero =>
   intro ah a w _ _ hr hy hS H; refine ⟨fun h => (by rw [h] at hr; cases hr), fun j hj => ?_⟩; by_cases hji : j = i
   ·subst hji; exact hy.wpOp hi hS ⟨fun _ => hS, H⟩
   ·have := ready_mono hj hji
    rw [H.1] at this; cases this
 | succ fuel ih =>
   intro ah a w fT hC hr hy hS H; refine ⟨fun h => (by rw [h] at hr; cases hr), fun j hj => ?_⟩; by_cases hji : j = i
   ·subst hji; exact hy.wpOp hi hS ⟨fun _ => hS, H⟩
   ·have h1 := H.2 j (ready_mono hj hji)
    obtain ⟨jB, oj, ju, bu⟩ := mem_ready.1 hj; have kT := getD_both (mem_ready.1 hr).1; have hjC : j ∉ C := zfD hb kT hC hj; have hjc : j ≠ c := by rintro rfl; exact hjC hc
    have kM : ∀ e ∈ oj.after, Region.binds md e = true -> e.on ≠ i := fun e he hb heq => by
     have h1 := bu e he hb; rw [heq, kT] at h1; cases h1
    have h2 := wpOp_putIf ju (fT j oj ju hji jB kM) (fun cs b => jq i oi cs b hi) (fun cs b => jq j oj cs b ju) hQ hy h1; have gE : ∀ k ok, ops[k]? = some ok -> k ≠ i -> (ah.setIfInBounds j true).getD k true = false ->
     (∀ e ∈ ok.after, Region.binds md e = true -> e.on ≠ i) -> oi.apart ops ok = true := fun k ok hk hki pj nc => by
     refine fT k ok hk hki ?_ nc; by_cases hjk : j = k
     ·subst hjk; exact jB
     ·rw [getD_set_ne true hjk] at pj; exact pj
    have hC' : ∀ k ∈ C, (ah.setIfInBounds j true).getD k false = false := fun k hk => by
     have hkj : j ≠ k := by rintro rfl; exact hjC hk
     rw [getD_set_ne false hkj]; exact hC k hk
    have eR : ((ah.setIfInBounds i true).setIfInBounds j true).getD c false = false := by
     rw [getD_set_ne false hjc, getD_set_ne false hic]; exact hC c hc
    refine wpOp_mono (fun a' w' h3 => ⟨fun _ => h3.2.1 eR, ih (ah.setIfInBounds j true) a' w' gE hC' (ready_mono hr (Ne.symm hji)) h3.1 (h3.2.1 eR) ?_⟩) h2; rw [Array.setIfInBounds_comm _ _ hji]; exact h3.2.2
theorem zjp {i : Nat} {oi : Oper} {v : Value} (hi : ops[i]? = some oi) (jq : ∀ (j : Nat) (o : Oper) cs b, ops[j]? = some o -> o.op ≠ .select cs b)
 (hQ : ∀ c a w, Q (.panic c) (a.put oi.dst v) w -> Q (.panic c) a w) (hic : i ≠ c) :
 ∀ (fuel : Nat) (ah : Array Bool) (a : Act) (w : World),
  (∀ j oj, ops[j]? = some oj -> j ≠ i -> ah.getD j true = false -> (∀ e ∈ oj.after, Region.binds md e = true -> e.on ≠ i) -> oi.apart ops oj = true) ->
  (ah.getD c false = false -> S w) -> i ∈ Region.ready md ops ah -> Yields P ops oi v a ->
  zc1 P md ops Q S c fuel (ah.setIfInBounds i true) (a.put oi.dst v) w -> zc1 P md ops Q S c (fuel + 1) ah a w := by
 have mX : ∀ (l : Array Bool), (l.setIfInBounds i true).getD c false = l.getD c false := fun l => getD_set_ne false hic; intro fuel; induction fuel with
 | zero =>
   intro ah a w _ hI hr hy H; refine ⟨fun h => (by rw [h] at hr; cases hr), fun j hj => ?_⟩; by_cases hji : j = i
   ·subst hji; exact hy.wpOp hi ⟨fun h => hI (by rw [mX] at h; exact h), H⟩
   ·have := ready_mono hj hji
    rw [H.1] at this; cases this
 | succ fuel ih =>
   intro ah a w fT hI hr hy H; refine ⟨fun h => (by rw [h] at hr; cases hr), fun j hj => ?_⟩; by_cases hji : j = i
   ·subst hji; exact hy.wpOp hi ⟨fun h => hI (by rw [mX] at h; exact h), H⟩
   ·have h1 := H.2 j (ready_mono hj hji)
    obtain ⟨jB, oj, ju, bu⟩ := mem_ready.1 hj; have kT := getD_both (mem_ready.1 hr).1; have kM : ∀ e ∈ oj.after, Region.binds md e = true -> e.on ≠ i := fun e he hb heq => by
     have h1 := bu e he hb; rw [heq, kT] at h1; cases h1
    have h2 := wpOp_put ju (fT j oj ju hji jB kM) (fun cs b => jq i oi cs b hi) (fun cs b => jq j oj cs b ju) hQ hy h1; have gE : ∀ k ok, ops[k]? = some ok -> k ≠ i -> (ah.setIfInBounds j true).getD k true = false ->
     (∀ e ∈ ok.after, Region.binds md e = true -> e.on ≠ i) -> oi.apart ops ok = true := fun k ok hk hki pj nc => by
     refine fT k ok hk hki ?_ nc; by_cases hjk : j = k
     ·subst hjk; exact jB
     ·rw [getD_set_ne true hjk] at pj; exact pj
    have ow : ((ah.setIfInBounds i true).setIfInBounds j true).getD c false = (ah.setIfInBounds j true).getD c false := by
     rw [Array.setIfInBounds_comm _ _ (Ne.symm hji), mX]
    refine wpOp_mono (fun a' w' h3 => ⟨fun h => h3.2.1 (by rw [ow]; exact h), ih (ah.setIfInBounds j true) a' w' gE (fun h => h3.2.1 (by rw [ow]; exact h)) (ready_mono hr (Ne.symm hji)) h3.1 ?_⟩) h2; rw [Array.setIfInBounds_comm _ _ hji]; exact h3.2.2
theorem zkL (i : Nat) (C : List Nat) {oi : Oper} (v : Value) {fuel : Nat} {ah : Array Bool} {a : Act} {w : World} (hi : ops[i]? = some oi)
 (hs : Region.noSelect ops = true) (hf : Region.free md ops ah i = true) (hr : (Region.ready md ops ah).contains i = true) (hb : zkF md ops i C = true) (hC : (C.all fun k => !ah.getD k false) = true) (hc : C.contains c = true) (hic : (i == c) = false)
 (hQ : ∀ c a w, Q (.panic c) (a.put oi.dst v) w -> Q (.panic c) a w) (hw : Region.wanted oi (yielded ops a.tmps) = true) (hy : ∀ w, S w -> (execOp a.eval oi).run P w = .ok (.value v) w) (hS : S w)
 (h : zc1 P md ops Q S c fuel (ah.setIfInBounds i true) (a.put oi.dst v) w) : zc1 P md ops Q S c (fuel + 1) ah a w :=
 zjo hi (Region.noSelect_spec hs) hQ hb (by simpa using hc) (by simpa using hic) fuel ah a w (Region.free_spec hi hf) (fun k hk => by simpa using List.all_eq_true.1 hC k hk) (by simpa using hr) (.inl ⟨hw, hy⟩) hS h
theorem zkK (i : Nat) {oi : Oper} (v : Value) {fuel : Nat} {ah : Array Bool} {a : Act} {w : World} (hi : ops[i]? = some oi)
 (hs : Region.noSelect ops = true) (hf : Region.free md ops ah i = true) (hr : (Region.ready md ops ah).contains i = true) (hic : (i == c) = false)
 (hQ : ∀ c a w, Q (.panic c) (a.put oi.dst v) w -> Q (.panic c) a w) (hw : Region.wanted oi (yielded ops a.tmps) = true) (hy : ∀ w, (execOp a.eval oi).run P w = .ok (.value v) w) (hS : S w)
 (h : zc1 P md ops Q S c fuel (ah.setIfInBounds i true) (a.put oi.dst v) w) : zc1 P md ops Q S c (fuel + 1) ah a w :=
 zjp hi (Region.noSelect_spec hs) hQ (by simpa using hic) fuel ah a w (Region.free_spec hi hf) (fun _ => hS) (by simpa using hr) (.inl ⟨hw, hy⟩) h
theorem zap (i : Nat) {fuel : Nat} {ah : Array Bool} {a : Act} {w : World} {o : Oper} (hr : Region.ready md ops ah = [i]) (ho : ops[i]? = some o)
 (hw : Region.wanted o (yielded ops a.tmps) = true)
 (h : ∀ K' : Act -> World -> Prop, Shut (∀ a w, S w -> zc1 P md ops Q S c fuel (ah.setIfInBounds i true) a w -> K' a w) -> Oper.wp P o a w K' Q) : zc1 P md ops Q S c (fuel + 1) ah a w := by
 refine ⟨fun h0 => (by rw [hr] at h0; cases h0), fun j hj => ?_⟩; rw [hr, zmt] at hj; subst hj; unfold wpOp; simp only [ho, hw, if_true]; exact .inl (h _ (fun a w hS hW => ⟨fun _ => hS, hW⟩))
theorem zaA (i : Nat) {fuel : Nat} {ah : Array Bool} {a : Act} {w : World} {o : Oper} (hr : Region.ready md ops ah = [i]) (ho : ops[i]? = some o) (hc : (ah.setIfInBounds i true).getD c false = true)
 (hw : Region.wanted o (yielded ops a.tmps) = true)
 (h : ∀ K' : Act -> World -> Prop, Shut (∀ a w, zc1 P md ops Q S c fuel (ah.setIfInBounds i true) a w -> K' a w) -> Oper.wp P o a w K' Q) : zc1 P md ops Q S c (fuel + 1) ah a w := by
 refine ⟨fun h0 => (by rw [hr] at h0; cases h0), fun j hj => ?_⟩; rw [hr, zmt] at hj; subst hj; unfold wpOp; simp only [ho, hw, if_true]; exact .inl (h _ (fun a w hW => ⟨fun hn => (by rw [hc] at hn; cases hn), hW⟩))
theorem zbQ {ah : Array Bool} {a : Act} {w : World} (hr : Region.ready md ops ah = []) (h : Q .normal a w) :
 ∀ fuel, zc1 P md ops Q S c fuel ah a w
 | 0 => ⟨hr, h⟩
 | _ + 1 => ⟨fun _ => h, by rw [hr]; simp⟩
theorem zaV (S : World -> Prop) (c : Nat) {id : Nat} {a : Act} {w : World} (hm : P.follows .mixedOrders = true) (hS : S w.drew)
 (h : S w.drew -> zc1 P .any ops Q S c ops.size (Array.replicate ops.size false) a w.drew) : (Code.region id ops true).wp P Q a w :=
 wp_region_any hm (zfm _ _ _ _ (h hS))
end
theorem wpT {P : Program} {ops : Array Oper} {Q : Exit -> Act -> World -> Prop} {md : Region.Mode} {S : World -> Prop} {c : Nat} (i : Nat) {oi : Oper} (v : Value) {fuel : Nat} {ah : Array Bool} {a : Act} {w : World} (hi : ops[i]? = some oi)
 (hy : ∀ w, (execOp a.eval oi).run P w = .ok (.value v) w) (hS : S w) (h : zc1 P md ops Q S c fuel (ah.setIfInBounds i true) (a.put oi.dst v) w)
 (hs : Region.noSelect ops = true := by kernel_rfl) (hf : Region.free md ops ah i = true := by kernel_rfl) (hr : (Region.ready md ops ah).contains i = true := by kernel_rfl) (hic : (i == c) = false := by kernel_rfl)
 (hQ : ∀ c a w, Q (.panic c) (a.put oi.dst v) w -> Q (.panic c) a w := by exact fun _ _ _ h => h) (hw : Region.wanted oi (yielded ops a.tmps) = true := by kernel_rfl) : zc1 P md ops Q S c (fuel + 1) ah a w :=
 zkK i v hi hs hf hr hic hQ hw hy hS h
theorem wpL {P : Program} {ops : Array Oper} {Q : Exit -> Act -> World -> Prop} {md : Region.Mode} {S : World -> Prop} {c : Nat} (i : Nat) (C : List Nat) {oi : Oper} (v : Value) {fuel : Nat} {ah : Array Bool} {a : Act} {w : World} (hi : ops[i]? = some oi)
 (hy : ∀ w, S w -> (execOp a.eval oi).run P w = .ok (.value v) w) (hS : S w) (h : zc1 P md ops Q S c fuel (ah.setIfInBounds i true) (a.put oi.dst v) w)
 (hs : Region.noSelect ops = true := by kernel_rfl) (hf : Region.free md ops ah i = true := by kernel_rfl) (hr : (Region.ready md ops ah).contains i = true := by kernel_rfl) (hb : zkF md ops i C = true := by kernel_rfl) (hC : (C.all fun k => !ah.getD k false) = true := by kernel_rfl) (hc : C.contains c = true := by kernel_rfl) (hic : (i == c) = false := by kernel_rfl)
 (hQ : ∀ c a w, Q (.panic c) (a.put oi.dst v) w -> Q (.panic c) a w := by exact fun _ _ _ h => h) (hw : Region.wanted oi (yielded ops a.tmps) = true := by kernel_rfl) : zc1 P md ops Q S c (fuel + 1) ah a w :=
 zkL i C v hi hs hf hr hb hC hc hic hQ hw hy hS h
end Go.Proofs.YtbkookiigkckdaaGreatDoor
namespace Go.Proofs.YtbkookiigkckdaaGreatDoor
open Go.RowKit Go.Proofs.Tryz
theorem cutTo {t e : TypeId} {sz : Nat} (he : prog.elem t = e) (ht : prog.underlying t = some (.slice e)) (hs : ∀ W, (sizeOf e).run prog W = .ok sz W) (A : Option Addr) (n c k : Nat) (kd : IntKind) (x : Int) (hx : x = k) (hk : k <= c) (W : World) :
 (Instr.slice t (.slice A n c) none (some (.int kd x)) none).run prog W = .ok (.slice A k c) W := by
 subst hx; subst he; rw [run_slice_h (P := prog) W t A n c ht kd k (by omega) (by omega), hs]; have e0 : ∀ a : Addr, a.add 0 = a := fun a => by unfold Addr.add; split <;> simp_all
 cases A <;> simp [Result.andThen, sliced, e0]
theorem yolo_at (g off c : Nat) (bs : List UInt8) (w : World) (h : ∀ j b, bs[j]? = some b -> w.cell? ⟨g, off + j, none⟩ = some (.int .u8 b.toNat)) : Calls prog 210 #[.slice (some ⟨g, off, none⟩) bs.length c] w fun r w' => r = .returned (.string ⟨bs.toArray⟩) /\ w = w' := by
 have hc := run_convert_bytes_back (P := prog) w 44 9 5 ⟨g, off, none⟩ c bs underlying44 underlying5 underlying9 (fun j hj => by
  have e1 : (⟨g, off, none⟩ : Addr).add j = ⟨g, off + j, none⟩ := by unfold Addr.add; split <;> simp_all
  rw [e1, h j _ (zlO hj)])
 generalize bs.length = n at hc ⊢; clear h; go_enter func210, ntmps210; go_wp2; go_ret; exact ⟨rfl, rfl⟩
def zjg (te : TypeId) (pe : Value) (w : World) (d g : Nat) (cur : Array Value) (s : ByteArray) (st : St) (r : Ending) (w' : World) : Prop :=
 ∃ g' off c : Nat, r = .returned (.slice (some ⟨g', off, none⟩) s.data.toList.length c) /\ g' ≠ d /\ (∀ j b, s.data.toList[j]? = some b -> w'.cell? ⟨g', off + j, none⟩ = some (.int .u8 b.toNat)) /\ Dec te pe w' d g cur st /\ Fr (fun k => k = d) w w'
theorem gStr_none {st : St} (h : (gUv st).2 = none) : zcn st = (⟨#[]⟩, none) := by unfold zcn; rw [h]
theorem zk6 {st : St} {r : List UInt8} (h : (gUv st).2 = some r) (hn : r.length < (gUv st).1) : zcn st = (⟨#[]⟩, none) := by unfold zcn; rw [h]; simp only []; rw [if_pos hn]
theorem gStr_long {st : St} {r : List UInt8} (h : (gUv st).2 = some r) (hn : ¬ r.length < (gUv st).1) : zcn st = (⟨(r.take (gUv st).1).toArray⟩, some (r.drop (gUv st).1)) := by unfold zcn; rw [h]; simp only []; rw [zmI hn]
theorem zid (te : TypeId) (pe : Value) (d g : Nat) (cur : Array Value) (st : St) (w : World) (h : Dec te pe w d g cur st) (hn : (gUv st).1 < 9223372036854775808) :
 Calls prog 203 #[.pointer (some ⟨d, 0, none⟩)] w (zjg te pe w d g cur (zcn st).1 (zcn st).2) := by
 have hU := zlw te pe d g cur st w h; clear h; rcases aZ : (gUv st).2 with _ | r
 ·rw [gStr_none aZ]
  rw [aZ] at hU; generalize (gUv st).1 = n at hn hU; clear aZ; go_enter func203, ntmps203; go_wp2_with (go_at_call 171; refine hU.mono ?_; rintro e w1 ⟨rfl, ⟨rest, HD⟩, hf⟩; have H := zlM HD; obtain ⟨off, c, hb, hg, hl, hm, hr, hE⟩ := HD; have bQ := hb.cell 1; simp at bQ; have HB := zlM hb; have HF := zlM hf; clear hb hg hr hf)
  go_ret; refine ⟨w1.heap.size, 0, _, rfl, fun e => ?_, fun j b hj => by simp at hj, ⟨rest, ?_⟩, HF.out.alloc _⟩
  ·have := HB.out.lt; omega
  ·obtain ⟨off, c, hb, hg, hl, hm, hr, hE⟩ := H.out
   exact ⟨off, c, hb.alloc _, hg.alloc _, hl, hm, hr, by rw [((zmR (fun _ => False) w1).alloc _).cell (p := ⟨2, 0, none⟩) (zlT w1 _ hE) (fun e => e)]; exact hE⟩
 ·by_cases hlt : r.length < (gUv st).1
  ·rw [zk6 aZ hlt]
   rw [aZ] at hU; generalize (gUv st).1 = n at hn hlt hU; clear aZ; obtain ⟨m, hm0⟩ := exE r.length; rw [hm0] at hlt; have hlt' : (m : Int) < n := by omega
   have hwr : wrap64 (n : Int) = n := by unfold wrap64; omega
   go_enter func203, ntmps203
   go_wp2_with (go_at_call 171; refine hU.mono ?_; rintro e w1 ⟨rfl, HD, hf⟩; have HD : DecOk (.iface te pe) w1 d g cur r .nilIface := HD; have H := zlM HD; obtain ⟨off, c, hb, hg, hl, hm, hr, hE⟩ := HD; rw [hm0] at hb hl hm; have fb := hb.cell 0; have bQ := hb.cell 1; simp at fb bQ; have ax := hb.frozen 1; have HB := zlM hb; have HF := zlM hf; have HR := zlM hr; clear hb hg hr hf)
   go_ret; refine ⟨w1.heap.size, 0, 0, by simp [World.setCell], fun e => ?_, fun j b hj => by simp at hj, ⟨r, ?_⟩, (HF.out.setCell (p := ⟨d, 1, none⟩) (.inl rfl) _).alloc _⟩
   ·have := HB.out.lt; omega
   ·have kO := H.out.move (Fr.at_ w1 d 1 (.iface te pe)) (E' := .iface te pe) (rest' := r) (off' := off) (c' := c) (by rw [hm0]; simpa using HB.out.set_ 1 (Value.iface te pe)) (by rw [hm0]; exact hl) (by rw [hm0]; exact hm) HR.out
    obtain ⟨off, c, hb, hg, hl, hm, hr, hE⟩ := kO; exact ⟨off, c, hb.alloc _, hg.alloc _, hl, hm, hr, by rw [((zmR (fun _ => False) _).alloc _).cell (p := ⟨2, 0, none⟩) (zlT _ _ hE) (fun e => e)]; exact hE⟩
  ·rw [gStr_long aZ hlt]
   rw [aZ] at hU; generalize (gUv st).1 = n at hn hlt hU ⊢; clear aZ; obtain ⟨m, hm0⟩ := exE r.length; rw [hm0] at hlt; have bN : n <= m := Nat.le_of_not_lt hlt; have hlt' : ¬ (m : Int) < n := by omega
   have hwr : wrap64 (n : Int) = n := by unfold wrap64; omega
   go_enter func203, ntmps203
   go_wp2_with (go_at_call 171; refine hU.mono ?_; rintro e w1 ⟨rfl, HD, hf⟩; have HD : DecOk (.iface te pe) w1 d g cur r .nilIface := HD; have H := zlM HD; obtain ⟨off, c, hb, hg, hl, hm, hr, hE⟩ := HD; rw [hm0] at hb hl hm; have fb := hb.cell 0; have bQ := hb.cell 1; simp at fb bQ; have ay := hb.frozen 0; have HB := zlM hb; have HF := zlM hf; have HR := zlM hr; have hdg := zmT hg hb (by decide); have HG := zlM hg; obtain ⟨off', ho, nb⟩ := zlD g off m c n .u64 n rfl bN; have HO := zlM ho; have mO := cutTo zka underlying44 size5 (some ⟨g, off, none⟩) m c n .u64 n rfl (zmv bN hl); clear hb hg hr hf ho)
   go_ret; have hcut := DecOk.cut H.out (zmR _ _) HB.out HR.out hm0 hl hm bN HO.out; refine ⟨g, off, c, ?_, hdg, fun j b hj => ?_, hcut, HF.out.setCell (p := ⟨d, 0, none⟩) (.inl rfl) _⟩
   ·have e1 : (⟨(r.take n).toArray⟩ : ByteArray).data.toList.length = n := by simp; omega
    rw [e1]; rfl
   ·have e1 : (⟨(r.take n).toArray⟩ : ByteArray).data.toList = r.take n := by simp
    rw [e1, List.getElem?_take] at hj; split at hj
    ·have h2 := HR.out j (.int .u8 b.toNat) (by rw [zeE, hj]; rfl)
     rw [((HG.out).far (p := ⟨d, 0, none⟩) hdg _).cell, h2]
    ·cases hj
def Bld (w : World) (b0 d : Nat) (l : List Lab) (o : ByteArray) : Prop := ∃ v x, Blk w d 119 #[v, .string o, x] /\ w.ownsRow b0 108 2 v l.length (l.flatMap zaI)
theorem Bld.fr {w w' : World} {b0 d : Nat} {l : List Lab} {o : ByteArray} {S : Nat -> Prop} (h : Bld w b0 d l o) (hf : Fr S w w') (hd : ¬ S d) (hs : ∀ g, w.heap[g]?.isSome -> (∃ cs, Blk w g 108 cs) -> ¬ S g) : Bld w' b0 d l o := by
 obtain ⟨v, x, hb, ho⟩ := h; refine ⟨v, x, hb.fr hf hd, zai ho hf (fun g hg e => ?_)⟩; rcases ho.2 with ⟨rfl, _⟩ | ⟨g', c, cur, rfl, _, hh, _⟩
 ·simp [Value.ownBlock] at hg
 ·obtain rfl : g' = g := by simpa [Value.ownBlock] using hg
  exact hs g' (by rw [hh]; rfl) ⟨cur, hh⟩ e
theorem own_none {w : World} {base : Nat} {e : TypeId} {size n c : Nat} {A : Option Addr} {xs : List Value} (h : w.ownsRow base e size (.slice A n c) n xs) : w.ownsRow base e size (.slice A 0 c) 0 [] := by
 rcases h.2 with ⟨hv, _⟩ | ⟨g, aP, cur, hv, hb, hh, hn, hm, nr, ht⟩
 ·injection hv with h1 h2 h3
  subst h1 h3; exact zl0 _ _ _ _
 ·injection hv with h1 h2 h3
  subst h1 h3; exact ⟨by simp, .inr ⟨g, c, cur, rfl, hb, hh, zlX _, hm, nr, by simp⟩⟩
theorem elem115' : prog.elem 115 = 108 := by kernel_rfl
theorem size108 (w : World) : (sizeOf 108).run prog w = .ok 2 w := by kernel_rfl
theorem zgJ (w : World) : Calls prog 134 #[] w fun r w' => r = .returned (.agg #[.string ⟨#[]⟩]) /\ Fr (fun _ => False) w w' := by
 have hB := zmS w 99 #[.string ⟨#[]⟩]; have c0 := hB.cell 0; have f0 := hB.frozen 0; have gL := hB; go_enter func134, ntmps134; go_wp2; refine bodyPost_ret (results_cell_row (P := prog) rfl _ _ w.heap.size 99 #[.string ⟨#[]⟩] (0, 0) _ rfl gL underlying99 rfl (by kernel_rfl)) rfl ?_; exact ⟨rfl, (zmR _ w).alloc _⟩
theorem reset_any (b0 d : Nat) (l : List Lab) (o : ByteArray) (w : World) (h : Bld w b0 d l o) :
 Calls prog 202 #[.pointer (some ⟨d, 0, none⟩)] w fun r w' => r = .returned (.tuple #[]) /\ Bld w' b0 d [] ⟨#[]⟩ /\ Fr (fun k => k = d) w w' := by
 obtain ⟨v, x, hb, ho⟩ := h; obtain ⟨A, c, rfl⟩ := zaa ho; have mO := fun n : Nat => cutTo elem115' underlying115 size108 A l.length c 0 .i64 0 rfl (zlX _); have hcut := own_none ho; have c0 := hb.cell 0; have f0 := hb.frozen 0; simp at c0
 have hb1 : Blk (w.setCell ⟨d, 0, none⟩ (.slice A 0 c)) d 119 #[.slice A 0 c, .string o, x] := by simpa using hb.set_ 0 (.slice A 0 c)
 have dN : (w.setCell ⟨d, 0, none⟩ (.slice A 0 c)).ownsRow b0 108 2 (.slice A 0 c) 0 [] := zai (S := fun k => k = d) hcut (Fr.at_ w d 0 _) (fun g hg e => zak hcut hb (by decide) (by rw [hg]; exact zmC some e)); have hE := zgJ (w.setCell ⟨d, 0, none⟩ (.slice A 0 c)); have HB := zlM hb1; have HO := zlM dN; have hto0 := mO 0; generalize l.length = n at c0 hto0
 clear hb ho hcut hb1 dN mO; go_enter func202, ntmps202; go_wp2_with (go_at_call 134; refine hE.mono ?_; rintro r w1 ⟨rfl, hf⟩; have hb2 := HB.out.fr hf (fun e => e); have f1 := hb2.frozen 1; have c1 := hb2.cell 1; simp at c1)
 go_end0; refine ⟨rfl, ⟨_, _, by simpa using hb2.set_ 1 (.string ⟨#[]⟩), ?_⟩, ?_⟩
 ·have fi := zai HO.out hf (fun _ _ e => e)
  exact zai (S := fun k => k = d) fi (Fr.at_ w1 d 1 _) (fun g hg e => zak fi hb2 (by decide) (by rw [hg]; exact zmC some e))
 ·exact ((Fr.at_ w d 0 _).trans hf (fun _ _ e => e.elim)).setCell (p := ⟨d, 1, none⟩) (.inl rfl) _
def zdx (w : World) (b0 d k : Nat) : Prop := k = d ∨ (b0 <= k /\ ∃ cs, Blk w k 108 cs)
theorem zlE (s : ByteArray) : (⟨s.data.toList.toArray⟩ : ByteArray) = s := by cases s; simp
theorem bld_push {w w1 w2 : World} {b0 d : Nat} {l : List Lab} {o : ByteArray} {v v' z : Value} {x : Lab} (hb : Blk w d 119 #[v, .string o, z]) (ho : w.ownsRow b0 108 2 v l.length (l.flatMap zaI)) (hf : Fr (fun _ => False) w w1) (fD : b0 <= w.heap.size)
 (ab : w2.ownsRow b0 108 2 v' (l.length + 1) (l.flatMap zaI ++ zaI x)) (ad : w1.grownBy w2 v.ownBlock) :
 Blk w2 d 119 #[v, .string o, z] /\ Bld (w2.setCell ⟨d, 0, none⟩ v') b0 d (l ++ [x]) o /\ Fr (zdx w b0 d) w (w2.setCell ⟨d, 0, none⟩ v') := by
 have bD := zak ho hb (by decide); have hb2 : Blk w2 d 119 #[v, .string o, z] := (hb.fr hf (fun e => e)).grown ad (fun e => bD e.symm); have e1 : (l ++ [x]).length = l.length + 1 := by simp
 have e2 : (l ++ [x]).flatMap zaI = l.flatMap zaI ++ zaI x := by simp
 refine ⟨hb2, ⟨v', z, by simpa using hb2.set_ 0 v', ?_⟩, ?_⟩
 ·rw [e1, e2]
  exact zai (S := fun k => k = d) ab (Fr.at_ w2 d 0 _) (fun g hg e => zak ab hb2 (by decide) (by rw [hg]; exact zmC some e))
 ·refine ((hf.mono (S' := zdx w b0 d) (fun _ _ e => e.elim)).grown ad (fun k hk => .inl (.inr ?_))).setCell (p := ⟨d, 0, none⟩) (.inl (.inl rfl)) _
  rcases ho.2 with ⟨rfl, _⟩ | ⟨g', c, cur, rfl, bK, hh, _⟩
  ·simp [Value.ownBlock] at hk
  ·obtain rfl : g' = k := by simpa [Value.ownBlock] using hk
   exact ⟨bK, cur, hh⟩
theorem zhK (b0 d : Nat) (l : List Lab) (o : ByteArray) (x : Lab) (g1 o1 c1 g2 o2 c2 : Nat) (w : World) (h : Bld w b0 d l o) (fD : b0 <= w.heap.size) (hl : l.length <= 1099511627776)
 (h1 : ∀ j b, x.1.data.toList[j]? = some b -> w.cell? ⟨g1, o1 + j, none⟩ = some (.int .u8 b.toNat)) (h2 : ∀ j b, x.2.data.toList[j]? = some b -> w.cell? ⟨g2, o2 + j, none⟩ = some (.int .u8 b.toNat)) :
 Calls prog 204 #[.pointer (some ⟨d, 0, none⟩), .slice (some ⟨g1, o1, none⟩) x.1.data.toList.length c1, .slice (some ⟨g2, o2, none⟩) x.2.data.toList.length c2] w fun r w' => r = .returned (.tuple #[]) /\ Bld w' b0 d (l ++ [x]) o /\ Fr (zdx w b0 d) w w' := by
 obtain ⟨v, z, hb, ho⟩ := h; obtain ⟨A, c, rfl⟩ := zaa ho; obtain ⟨i0, aB, ay, ax, aA⟩ := info_parts zh0; have q1 := yolo_at g1 o1 c1 x.1.data.toList w.drew h1; have q2 := yolo_at g2 o2 c2 x.2.data.toList w.drew h2; rw [zlE] at q1 q2; obtain ⟨a, b⟩ := x; simp only [] at q1 q2
 have k0 : w.drew.cell? ⟨d, 0, none⟩ = some (.slice A l.length c) := by have := hb.drew.cell 0; simpa using this
 have HB := zlM hb; have HO := zlM ho; clear hb ho h1 h2; generalize a.data.toList.length = n1 at q1 ⊢; generalize b.data.toList.length = n2 at q2 ⊢; go_enter func204, ntmps204; go_wp2_with fail
 refine zaV (fun w' => w'.cell? ⟨d, 0, none⟩ = some (.slice A l.length c)) 11 (by kernel_rfl) k0 ?_; intro hS; refine wpT 0 (.pointer (some ⟨d, 0, none⟩)) rfl (by intro w; go_simp) hS ?_; try simp only [Act.put, zlQ, zlR, zlS]
 refine wpT 1 (.pointer (some ⟨d, 0, none⟩)) rfl (by intro w; go_simp) hS ?_; try simp only [Act.put, zlQ, zlR, zlS]
 refine wpT 2 (.pointer (some ⟨d, 0, none⟩)) rfl (by intro w; go_simp) hS ?_; try simp only [Act.put, zlQ, zlR, zlS]
 refine wpT 3 (.pointer (some ⟨d, 0, none⟩)) rfl (by intro w; go_simp) hS ?_; try simp only [Act.put, zlQ, zlR, zlS]
 refine wpL 4 [11, 14] (.slice A l.length c) rfl (by rintro w h1; go_simp) hS ?_; try simp only [Act.put, zlQ, zlR, zlS]
 refine wpT 5 (.slice (some ⟨g1, o1, none⟩) n1 c1) rfl (by intro w; go_simp) hS ?_; try simp only [Act.put, zlQ, zlR, zlS]
 refine wpT 7 (.slice (some ⟨g2, o2, none⟩) n2 c2) rfl (by intro w; go_simp) hS ?_; try simp only [Act.put, zlQ, zlR, zlS]
 refine zap 6 (by kernel_rfl) rfl (by rfl) (fun K hK => ?_); go_simp; go_at_call 210
 refine q1.mono ?_; rintro r w' ⟨rfl, rfl⟩; refine hK.out _ _ hS ?_; clear hK K; try simp only [Act.put, zlQ, zlR, zlS]
 refine zap 8 (by kernel_rfl) rfl (by rfl) (fun K hK => ?_); go_simp; go_at_call 210
 refine q2.mono ?_; rintro r w' ⟨rfl, rfl⟩; refine hK.out _ _ hS ?_; clear hK K; try simp only [Act.put, zlQ, zlR, zlS]
 refine wpT 9 (.agg #[.string a, .string b]) rfl (by intro w; go_simp) hS ?_; try simp only [Act.put, zlQ, zlR, zlS]
 refine zap 10 (by kernel_rfl) rfl (by rfl) (fun K hK => ?_); go_simp; refine hK.out _ _ ((HB.out.drew.alloc _).cell 0) ?_; clear hK K; try simp only [Act.put, zlQ, zlR, zlS]
 refine zaA 11 (by kernel_rfl) rfl (by kernel_rfl) (by rfl) (fun K hK => ?_)
 refine zay _ _ _ 115 115 (by rfl) b0 108 i0 _ 2 32 underlying115 aB ay ax aA rfl (by decide) (.slice A l.length c) l.length (l.flatMap zaI) (by rfl) (World.ownsRow.alloc (w := w.drew) HO.out (.cells (zaI (a, b)).toArray 108)) _ 1 (zaI (a, b)) (by rfl) (zaF underlying115 (zmS w.drew 108 (zaI (a, b)).toArray) rfl (by simp [zaI, Value.oneCell'])) (by unfold maxLen; omega) (by omega) (by simp; omega) ?_
 intro v' w2 ac ad aw
 obtain ⟨KB, KD, KF⟩ := bld_push (x := (a, b)) HB.out HO.out ((zmR (fun _ => False) w).drew.alloc (.cells (zaI (a, b)).toArray 108)) fD ac ad; obtain ⟨a5, n5, k5, rfl⟩ := zab ac; have q0 := KB.cell 0; simp at q0; have z0 := KB.frozen 0; have HD := zlM (zmD KD KF); clear KB KD KF ac ad aw
 refine hK.out _ _ ?_; clear hK K hS; try simp only [Act.put, zlQ, zlR, zlS]
 refine zaA 12 (by kernel_rfl) rfl (by kernel_rfl) (by rfl) (fun K hK => ?_); go_simp; refine hK.out _ _ ?_; clear hK K; refine zaA 13 (by kernel_rfl) rfl (by kernel_rfl) (by rfl) (fun K hK => ?_); go_simp; refine hK.out _ _ ?_; clear hK K; refine zaA 14 (by kernel_rfl) rfl (by kernel_rfl) (by rfl) (fun K hK => ?_); go_simp; refine hK.out _ _ ?_; clear hK K
 refine zbQ (by kernel_rfl) ?_ _; go_end0; exact ⟨rfl, HD.out.1, HD.out.2⟩
end Go.Proofs.YtbkookiigkckdaaGreatDoor
namespace Go.Proofs
open Go.Shelf
def Tryz.sortLab_ren : Go.Shelf.Ren := ⟨fun | 6 => 205 | 15 => 157 | 14 => 246 | 28 => 228 | 29 => 229 | 20 => 262 | 21 => 263 | 22 => 264 | 23 => 265 | 24 => 266 | 25 => 267 | 26 => 268 | 27 => 269 | 46 => 289 | 47 => 258 | 48 => 259 | 49 => 290 | 50 => 291 | 57 => 299 | n => n, fun | 22 => 115 | 24 => 108 | 25 => 326 | 3 => 3 | 39 => 268 | 0 => 0 | 53 => 317 | 55 => 111 | 4 => 4 | 46 => 347 | 45 => 346 | 50 => 86 | 5 => 5 | 9 => 9 | 66 => 383 | 70 => 386 | 76 => 401 | 77 => 261 | n => n, fun | n => n⟩
theorem Tryz.sortLab : Go.Proofs.SlLaysF0.n6 Tryz.prog Tryz.sortLab_ren := {
 mixed := by kernel_rfl
 f6 := ⟨Tryz.f205.name, by decide, Tryz.func205.trans (zmC some (by kernel_rfl))⟩
 f14 := ⟨Tryz.f246.name, by decide, Tryz.func246.trans (zmC some (by kernel_rfl))⟩
 f15 := Tryz.func157.trans (zmC some (by kernel_rfl))
 f20 := ⟨Tryz.f262.name, by decide, Tryz.func262.trans (zmC some (by kernel_rfl))⟩
 f21 := ⟨Tryz.f263.name, by decide, Tryz.func263.trans (zmC some (by kernel_rfl))⟩
 f22 := ⟨Tryz.f264.name, by decide, Tryz.func264.trans (zmC some (by kernel_rfl))⟩
 f23 := ⟨Tryz.f265.name, by decide, Tryz.func265.trans (zmC some (by kernel_rfl))⟩
 f24 := ⟨Tryz.f266.name, by decide, Tryz.func266.trans (zmC some (by kernel_rfl))⟩
 f25 := ⟨Tryz.f267.name, by decide, Tryz.func267.trans (zmC some (by kernel_rfl))⟩
 f26 := ⟨Tryz.f268.name, by decide, Tryz.func268.trans (zmC some (by kernel_rfl))⟩
 f27 := ⟨Tryz.f269.name, by decide, Tryz.func269.trans (zmC some (by kernel_rfl))⟩
 f28 := Tryz.func228.trans (zmC some (by kernel_rfl))
 f29 := Tryz.func229.trans (zmC some (by kernel_rfl))
 f46 := ⟨Tryz.f289.name, by decide, Tryz.func289.trans (zmC some (by kernel_rfl))⟩
 f47 := Tryz.func258.trans (zmC some (by kernel_rfl))
 f48 := Tryz.func259.trans (zmC some (by kernel_rfl))
 f49 := ⟨Tryz.f290.name, by decide, Tryz.func290.trans (zmC some (by kernel_rfl))⟩
 f50 := ⟨Tryz.f291.name, by decide, Tryz.func291.trans (zmC some (by kernel_rfl))⟩
 f57 := ⟨Tryz.f299.name, by decide, Tryz.func299.trans (zmC some (by kernel_rfl))⟩
 t0 := Tryz.underlying0
 a0 := Tryz.isAgg0
 z0 := Tryz.sizeOf0
 v0 := Tryz.zeroValue0
 t3 := Tryz.underlying3
 a3 := Tryz.isAgg3
 z3 := Tryz.sizeOf3
 v3 := Tryz.zeroValue3
 t4 := Tryz.underlying4
 a4 := Tryz.isAgg4
 z4 := Tryz.sizeOf4
 v4 := Tryz.zeroValue4
 t5 := Tryz.underlying5
 a5 := Tryz.isAgg5
 z5 := Tryz.sizeOf5
 v5 := Tryz.zeroValue5
 t9 := Tryz.underlying9
 a9 := Tryz.isAgg9
 z9 := Tryz.sizeOf9
 v9 := Tryz.zeroValue9
 t22 := Tryz.underlying115
 a22 := Tryz.isAgg115
 z22 := Tryz.sizeOf115
 v22 := Tryz.zeroValue115
 t25 := Tryz.underlying326
 a25 := Tryz.isAgg326
 z25 := Tryz.sizeOf326
 v25 := Tryz.zeroValue326
 t39 := Tryz.underlying268
 a39 := Tryz.isAgg268
 z39 := Tryz.sizeOf268
 v39 := Tryz.zeroValue268
 t45 := Tryz.underlying346
 a45 := Tryz.isAgg346
 z45 := Tryz.sizeOf346
 v45 := Tryz.zeroValue346
 t46 := Tryz.underlying347
 a46 := Tryz.isAgg347
 z46 := Tryz.sizeOf347
 v46 := Tryz.zeroValue347
 t50 := Tryz.underlying86
 a50 := Tryz.isAgg86
 z50 := Tryz.sizeOf86
 v50 := Tryz.zeroValue86
 t53 := Tryz.underlying317
 a53 := Tryz.isAgg317
 z53 := Tryz.sizeOf317
 v53 := Tryz.zeroValue317
 t55 := Tryz.underlying111
 a55 := Tryz.isAgg111
 z55 := Tryz.sizeOf111
 v55 := Tryz.zeroValue111
 t66 := Tryz.underlying383
 a66 := Tryz.isAgg383
 z66 := Tryz.sizeOf383
 v66 := Tryz.zeroValue383
 t70 := Tryz.underlying386
 a70 := Tryz.isAgg386
 z70 := Tryz.sizeOf386
 v70 := Tryz.zeroValue386
 t76 := Tryz.underlying401
 a76 := Tryz.isAgg401
 z76 := Tryz.sizeOf401
 v76 := Tryz.zeroValue401
 t77 := Tryz.underlying261
 a77 := Tryz.isAgg261
 z77 := Tryz.sizeOf261
 v77 := Tryz.zeroValue261 }
end Go.Proofs
namespace Go.Proofs.YtbkookiigkckdaaGreatDoor
open Go.RowKit Go.Sort Go.Proofs.Tryz
theorem cmp_lt : ∀ (a b : List UInt8), Lib.compareBytes a b < 0 ↔ a < b
 | [], [] => by simp [Lib.compareBytes]
 | [], _ :: _ => by simp [Lib.compareBytes]
 | _ :: _, [] => by simp [Lib.compareBytes]
 | a :: xs, b :: ys => by
   simp only [Lib.compareBytes, List.cons_lt_cons_iff]; by_cases h1 : a < b
   ·simp [h1]
   ·by_cases h2 : b < a
    ·simp only [zmI h1, if_pos h2]
     constructor
     ·intro h; exact absurd h (by decide)
     ·rintro (h | ⟨rfl, _⟩)
      ·exact absurd h h1
      ·exact absurd h2 h1
    ·rw [zmI h1, zmI h2, cmp_lt xs ys]
     have e : a = b := UInt8.le_antisymm (UInt8.not_lt.mp h2) (UInt8.not_lt.mp h1); simp [e]
def nlt (a b : ByteArray) : Bool := decide (a.data.toList < b.data.toList)
def zhm (x y : Lab) : Int := Lib.compareBytes x.1.data.toList y.1.data.toList
theorem zkv (x y : Lab) : ltOf zhm x y = nlt x.1 y.1 := by
 unfold ltOf zhm nlt; exact decide_eq_decide.mpr (cmp_lt _ _)
theorem swoLab : SWO (ltOf zhm) where
 irrefl x := by rw [zkv]; simp [nlt, List.lt_irrefl]
 trans x y z h1 h2 := by simp only [zkv, nlt, decide_eq_true_eq] at *; exact List.lt_trans h1 h2
 ntrans x y z h1 h2 := by
  simp only [zkv, nlt, decide_eq_false_iff_not, List.not_lt] at *
  exact List.le_trans h2 h1
theorem zej (l : List Lab) : (l.flatMap zaI).length = l.length * 2 := by
 induction l with
 | nil => rfl
 | cons x l ih => rw [zl1, zlN, ih, zl4, Nat.add_mul]; show 2 + _ = _; omega
theorem zht (l : List Lab) : flatK zaI 2 l.toArray = (l.flatMap zaI).toArray := by
 have hl : (l.flatMap zaI).length = l.length * 2 := zej l; refine ext_get! (by simp [hl]) fun t ht => ?_; have ht' : t < l.length * 2 := by simpa using ht
 rw [get_flatK _ _ _ t (by simpa using ht')]; have hk : t / 2 < l.length := by omega
 have h2 := zbB zaI (fun _ => rfl) l (t / 2) l[t / 2] (zlO hk) (t % 2) (by omega); rw [show t / 2 * 2 + t % 2 = t by omega] at h2; rw [getElem!_pos l.toArray (t / 2) (by simpa using hk)]; have ht2 : t < (l.flatMap zaI).length := by omega
 rw [getElem!_pos (l.flatMap zaI).toArray t (by simpa using ht2)]; rw [zlO ht2] at h2; have h3 : t % 2 < (zaI l[t / 2]).length := by show t % 2 < 2; omega
 rw [zlO h3] at h2; injection h2 with h2; rw [show l.toArray[t / 2] = l[t / 2] from by simp, getElem!_pos (zaI l[t / 2]) (t % 2) h3]; simpa using h2.symm
theorem new1_any (x y : Lab) (W : World) : Calls prog 219 #[.agg #[.string x.1, .string x.2], .agg #[.string y.1, .string y.2]] W fun e w' => e = .returned (.int .i64 (zhm x y)) /\ ∃ q os', w' = grow (W.drewN q) os' := by
 have fU := fun W' => strings_Compare x.1 y.1 W'; unfold zhm; generalize Lib.compareBytes x.1.data.toList y.1.data.toList = r at fU ⊢; go_enter func219, ntmps219; go_wp2_with (go_at_call 207; refine (fU _).mono ?_; rintro e w' ⟨rfl, rfl⟩)
 go_ret; exact ⟨rfl, 0, _, by rw [alloc_eq_grow, alloc_eq_grow, grow_grow]; rfl⟩
theorem len157 (n : Nat) (W : World) (h : n <= 12) : Calls prog 157 #[.int .u64 n] W fun e w' => (∃ l : Int, e = .returned (.int .i64 l)) /\ w' = W :=
 (bits_Len n W (by omega) (by omega)).mono fun _ _ ⟨he, hw⟩ => ⟨⟨_, he⟩, hw⟩
theorem Fr.sortWorldK {w : World} (n blk off : Nat) (d : Array Lab) (os : Array Obj) (hb : blk < w.heap.size) : Fr (fun k => k = blk) w (sortWorldK zaI 2 w blk off n d os) := by
 unfold Go.Proofs.sortWorldK; refine ⟨rfl, rfl, rfl, ?_, ?_⟩
 ·rw [size_grow, size_putRowK]
  exact Nat.le_add_right _ _
 ·intro k hk hn
  rw [heap_grow_old _ _ (by rw [size_putRowK]; exact hk)]; unfold putRowK putRow mapBlock; show (Array.modify w.heap blk _)[k]? = _; rw [Array.getElem?_modify, zmI (fun e => hn e.symm)]
def SortEnds (v : Value) (l : List Lab) (w : World) (r : Ending) (w' : World) : Prop :=
 r = .returned (.tuple #[]) /\ ∃ l' : List Lab, l'.Perm l /\ l'.Pairwise (fun a b => nlt b.1 a.1 = false) /\ Sl (fun g => v.ownBlock = some g) w' v 2 l'.length (l'.flatMap zaI) /\ Fr (fun g => v.ownBlock = some g) w w'
theorem sort_any (base : Nat) (v : Value) (l : List Lab) (w : World) (h : w.ownsRow base 108 2 v l.length (l.flatMap zaI)) (hl : l.length <= 12) :
 Calls prog 205 #[v, .func (.func 219) #[] #[]] w (SortEnds v l w) := by
 rcases h with ⟨ai, ⟨rfl, hn⟩ | ⟨g, c, cur, rfl, hb, hh, hc, hm, nr, ht⟩⟩
 ·have e : l = [] := zme hn
  subst e; have fU := AnyF.slices_SortFunc_none sortLab none 0 (.func (.func 219) #[] #[]) w; refine fU.mono ?_; rintro r w' ⟨rfl, rfl⟩; refine ⟨rfl, [], List.Perm.refl _, List.Pairwise.nil, ?_, zmR _ _⟩; exact zmU (zl0 (base := base) (e := 108) (size := 2) (w := w'))
 ·have eg : ∀ args w, (callFunc 219 args).run prog w = .ok (.enter 219 args) w := enters_of func219 (by kernel_rfl) rfl
  have nw : g < w.heap.size := Blk.lt (t := 108) hh; have hH : HoldsK zaI 2 w g 0 l.toArray := by
   unfold HoldsK; rw [zht]; intro j hj; have pM : j < (l.flatMap zaI).length := by simpa using hj
   rw [zmh, Blk.cell (t := 108) hh, getElem!_pos _ j hj]; refine ⟨?_, Blk.frozen (t := 108) hh j⟩; have e : (l.flatMap zaI)[j]? = cur[j]? := by
    rw [<- ht, List.getElem?_take, if_pos (by omega)]; simp
   rw [<- e, zlO pM]; simp
  have fU := AnyQ.slices_SortFunc_small_sorted sortLab 2 isAgg108 sizeOf108 zaI (fun _ => rfl) (fun x v hv => by simp [zaI] at hv; rcases hv with rfl | rfl <;> rfl) zhm 219 #[] swoLab g 0 c l.toArray w eg (fun _ _ _ _ x y => new1_any x y _) hH nw (by simpa using hl) len157; change Calls prog 205 #[.slice (some ⟨g, 0, none⟩) l.toArray.size c, _] _ _ at fU
  rw [List.size_toArray] at fU; refine fU.mono ?_; rintro r w' ⟨rfl, d', n, os, hp, hs, rfl⟩; obtain ⟨bF, _, ex⟩ := hp; have mS : d'.size = l.length := by simpa using bF
  have ed : d'.toList.toArray = d' := by simp
  refine ⟨rfl, d'.toList, ?_, ?_, ?_, (Fr.sortWorldK n g 0 d' os nw).mono fun k _ e => by subst e; rfl⟩
  ·have e1 : d'.extract 0 l.length = d' := by rw [<- mS]; simp
   have e2 : l.toArray.extract 0 l.length = l.toArray := by simp
   rw [e1, e2] at ex; exact ex
  ·rw [List.pairwise_iff_getElem]
   intro i j hi hj hij; have hi' : i < d'.size := by simpa using hi
   have hj' : j < d'.size := by simpa using hj
   have := hs i j (zlX _) hij (by omega); rw [getElem!_pos d' j hj', getElem!_pos d' i hi', zkv] at this; simpa using this
  ·have hH2 : HoldsK zaI 2 (sortWorldK zaI 2 w g 0 n d' os) g 0 d' := holdsK_sortWorldK_c zaI 2 w g 0 l.toArray d' n os hH nw (by simpa using mS)
   have e9 : d'.toList.length = l.length := by simpa using mS
   show Sl (fun k => (Value.slice (some ⟨g, 0, none⟩) l.length c).ownBlock = some k) _ (.slice (some ⟨g, 0, none⟩) l.length c) 2 _ _; rw [e9]; refine ⟨some ⟨g, 0, none⟩, c, rfl, ?_, hc, fun _ => ⟨g, 0, rfl, rfl, ?_⟩⟩
   ·rw [zej, e9]
   ·intro j u hu
    have hj : j < (d'.toList.flatMap zaI).length := by
     rcases zmf j (d'.toList.flatMap zaI).length with h | h
     ·exact h
     ·rw [zmg h] at hu; cases hu
    unfold HoldsK at hH2; rw [<- ed, zht, ed] at hH2; have := (hH2 j (by simpa using hj)).1; rw [this, getElem!_pos _ j (by simpa using hj)]; rw [zlO hj] at hu; simpa using hu
end Go.Proofs.YtbkookiigkckdaaGreatDoor
namespace Go.Proofs.YtbkookiigkckdaaGreatDoor
open Go.RowKit Go.Proofs.Tryz
theorem zko (g n c : Nat) (bs : List UInt8) (w : World) (h : Buf w g n 0 bs) : Calls prog 210 #[.slice (some ⟨g, 0, none⟩) n c] w fun r w' => r = .returned (.string ⟨bs.toArray⟩) /\ w = w' := by
 obtain ⟨_, cs, hb, hs, hd⟩ := h; rw [List.drop_zero] at hd; have hn : bs.length = n := by rw [<- hs, <- zdF bs, <- hd]; simp
 subst hn
 have hc := run_convert_bytes_back (P := prog) w 44 9 5 ⟨g, 0, none⟩ c bs underlying44 underlying5 underlying9 (fun j hj => by
  have e1 : (⟨g, 0, none⟩ : Addr).add j = ⟨g, 0 + j, none⟩ := by unfold Addr.add; split <;> simp_all
  rw [e1, zmh, hb.cell]; have e2 : cs[j]? = (bc bs)[j]? := by rw [<- hd]; simp
  rw [e2, zeE, zlO hj]
  rfl)
 go_enter func210, ntmps210; go_wp2; go_ret; exact ⟨rfl, rfl⟩
def zat (l : List Lab) : ByteArray := ⟨(zaw l).toArray⟩
def LabMade (l : List Lab) (S : Nat -> Prop) (w : World) (r : Ending) (w' : World) : Prop :=
 ∃ l' : List Lab, l'.Perm l /\ l'.Pairwise (fun a b => nlt b.1 a.1 = false) /\ r = .returned (.agg #[.string (zat l')]) /\ Fr S w w'
theorem buf_new (w : World) (n : Nat) : Buf (w.alloc (.cells (madeCells #[.int .u8 0] n) 5)) w.heap.size n n [] := by
 refine ⟨zlY _, _, zmS w 5 _, size_madeCells _ _, ?_⟩; rw [List.drop_of_length_le (by rw [Array.length_toList, size_madeCells]; exact zlY _)]; rfl
theorem zkT {l l' : List Lab} (h : l'.Perm l) (hs : ∀ p ∈ l, p.1.size <= 1048576 /\ p.2.size <= 1048576) : ∀ p ∈ l', p.1.size <= 1048576 /\ p.2.size <= 1048576 := fun p hp => hs p (h.mem_iff.mp hp)
theorem new_any (base : Nat) (v : Value) (l : List Lab) (w : World) (h : w.ownsRow base 108 2 v l.length (l.flatMap zaI)) (hl : l.length <= 12) (hs : ∀ p ∈ l, p.1.size <= 1048576 /\ p.2.size <= 1048576) :
 Calls prog 148 #[v] w (LabMade l (fun k => v.ownBlock = some k) w) := by
 have hA : w.alloc (.cells #[.string ⟨#[]⟩] 99) = w.alloc (.cells #[.string ⟨#[]⟩] 99) := rfl; have ab : (w.alloc (.cells #[.string ⟨#[]⟩] 99)).ownsRow base 108 2 v l.length (l.flatMap zaI) := h.alloc _; have ml := sort_any base v l _ ab hl; have HO := zlM h; have HS := zlM hs; have hlt : ∀ k, v.ownBlock = some k -> k < w.heap.size := fun k hk => zar h hk; clear h hs ab hA
 go_enter func148, ntmps148; go_wp2_with (go_at_call 205; refine ml.mono ?_; rintro r w1 ⟨rfl, l', ex, lR, au, hf⟩)
 have fD : Blk w1 w.heap.size 99 #[.string ⟨#[]⟩] := (zmS w 99 _).fr hf (fun e => zmw _ (hlt _ e)); have lS := zkT ex HS.out; have fR : l'.length <= 12 := by rw [ex.length_eq]; exact hl
 have dI : Fr (fun k => v.ownBlock = some k) w w1 := ((zmR _ w).alloc _).same hf; refine (zeB _ v l' w1 au (by omega) lS).mono ?_; rintro r w2 ⟨rfl, ar⟩; have dc := au.fr ar (fun _ _ e => e); have hb2 := fD.fr ar (fun e => e); have bN := zdM l' lS; obtain ⟨n, hn⟩ := exE (zaB l'); rw [hn] at bN ⊢; have hnb : n <= 25165920 := by
  have : l'.length * 2097160 <= 12 * 2097160 := zlZ _ fR; exact zmv bN this
 have eC : ∀ W : World, (Instr.makeSlice 44 (.int .i64 (n : Int)) (.int .i64 (n : Int))).run prog W = .ok (.slice (some ⟨W.heap.size, 0, none⟩) n n) (W.alloc (.cells (madeCells #[.int .u8 0] n) 5)) := fun W =>
  run_make_row' (P := prog) 44 5 (.int .u8 0) 1 underlying44 zfd rfl .i64 .i64 n (by omega) (by omega) W
 have fY : Fr (fun k => v.ownBlock = some k) w w2 := dI.trans ar (fun _ _ e => e.elim); have hM := zdA _ v l' w2.heap.size n n (w2.alloc (.cells (madeCells #[.int .u8 0] n) 5)) (dc.fr ((zmR (fun _ => False) w2).alloc _) (fun _ _ e => e))
  (fun e => zmw _ (zmb (hlt _ e) fY.size)) (by omega) lS (buf_new w2 n) hn.symm (zlY _) (by omega)
 have hbne : w.heap.size ≠ w2.heap.size := Nat.ne_of_lt hb2.lt; have iM : Fr (fun k => v.ownBlock = some k) w (w2.alloc (.cells (madeCells #[.int .u8 0] n) 5)) := fY.alloc _; have hb3 := hb2.alloc (.cells (madeCells #[.int .u8 0] n) 5); have H := zlM (zmD ex (zmD lR (zmD iM (zmD hb3 (zmD hlt fY.size)))))
 clear HO HS au dc dI fY fD hb2 hf ar lS bN hn hlt ex lR iM hb3 ml fR; go_wp2_with (first | (go_at_call 209; refine hM.mono ?_; rintro r w3 ⟨rfl, gR, bJ⟩; have hY := zko w2.heap.size n n (zaw l') w3 gR) | (go_at_call 210; refine hY.mono ?_; rintro r w4 ⟨rfl, rfl⟩; have qd := H.out.2.2.2.1.fr bJ hbne; have c4 := qd.cell 0; have f4 := qd.frozen 0))
 have ch := qd.set_ 0 (.string ⟨(zaw l').toArray⟩); obtain ⟨h1, h2, h3, _, hlt, bF⟩ := H.out; have hF4 : Fr (fun k => v.ownBlock = some k) w w3 := h3.trans (S' := fun k => k = w2.heap.size) bJ (fun k hk e => by subst e; omega)
 have hF5 : Fr (fun k => v.ownBlock = some k) w (w3.setCell ⟨w.heap.size, 0, none⟩ (.string ⟨(zaw l').toArray⟩)) := hF4.setCell (p := ⟨w.heap.size, 0, none⟩) (.inr (zlY _)) _; have gL : Blk (w3.setCell ⟨w.heap.size, 0, none⟩ (.string ⟨(zaw l').toArray⟩)) w.heap.size 99 #[.string (zat l')] := ch; clear ch
 generalize w3.setCell ⟨w.heap.size, 0, none⟩ (.string ⟨(zaw l').toArray⟩) = w5 at gL hF5 ⊢; refine bodyPost_ret (results_cell_row (P := prog) rfl _ _ w.heap.size 99 #[.string (zat l')] (0, 0) _ rfl gL underlying99 rfl (by kernel_rfl)) rfl ?_; exact ⟨l', h1, h2, rfl, hF5⟩
theorem made_any (P : Nat -> Prop) (v : Value) (l : List Lab) (w : World) (h : Sl P w v 2 l.length (l.flatMap zaI)) (hl : l.length <= 12) (hs : ∀ p ∈ l, p.1.size <= 1048576 /\ p.2.size <= 1048576) :
 Calls prog 54 #[v] w (LabMade l (fun _ => False) w) := by
 have hw : ∀ o, Sl P (w.alloc o) v 2 l.length (l.flatMap zaI) := fun o => h.fr ((zmR (fun _ => False) w).alloc o) (fun _ _ e => e); have hP := pairs_any P v l _ (hw (.cells #[.string ⟨#[]⟩] 99)) (by omega); clear h hw; go_enter func54, ntmps54; go_wp2_with (go_at_call 149; refine hP.mono ?_; rintro r w1 ⟨v1, rfl, ab, hf⟩)
 refine (new_any _ v1 l w1 ab hl hs).mono ?_; rintro r w2 ⟨l', h1, h2, rfl, ar⟩; have fD : Blk w1 w.heap.size 99 #[.string ⟨#[]⟩] := (zmS w 99 _).fr hf (fun e => e); have hlo : ∀ k, v1.ownBlock = some k -> w.heap.size < k := fun k hk => by
  have := (ab.lt k hk).1; rw [World.size_alloc] at this; exact this
 have hb1 : Blk w2 w.heap.size 99 #[.string ⟨#[]⟩] := fD.fr ar (fun e => zmw _ (hlo _ e)); have c1 := hb1.cell 0; have f1 := hb1.frozen 0; have hF : Fr (fun _ => False) w w2 := ((zmR _ w).alloc _).same hf |>.trans ar (fun k hk e => Nat.lt_asymm hk (hlo k e)); go_wp2; have ch := hb1.set_ 0 (.string (zat l'))
 have hF5 : Fr (fun _ => False) w (w2.setCell ⟨w.heap.size, 0, none⟩ (.string (zat l'))) := hF.setCell (p := ⟨w.heap.size, 0, none⟩) (.inr (zlY _)) _; have gL : Blk (w2.setCell ⟨w.heap.size, 0, none⟩ (.string (zat l'))) w.heap.size 99 #[.string (zat l')] := ch; clear ch; generalize w2.setCell ⟨w.heap.size, 0, none⟩ (.string (zat l')) = w5 at gL hF5 ⊢
 refine bodyPost_ret (results_cell_row (P := prog) rfl _ _ w.heap.size 99 #[.string (zat l')] (0, 0) _ rfl gL underlying99 rfl (by kernel_rfl)) rfl ?_; exact ⟨l', h1, h2, rfl, hF5⟩
theorem zjS (s : ByteArray) (w : World) : Calls prog 56 #[.agg #[.string s]] w fun r w' => r = .returned (.bool (decide (s.size = 0))) /\ Fr (fun _ => False) w w' := by
 by_cases h : s.size = 0
 ·have h' : (s.size : Int) = 0 := by omega
  rw [decide_eq_true h]; go_enter func56, ntmps56; go_wp2; go_ret; exact ⟨rfl, (zmR _ w).alloc _⟩
 ·have h' : ((s.size : Int) == 0) = false := by rw [beq_eq_false_iff_ne]; omega
  rw [decide_eq_false h]; go_enter func56, ntmps56; go_wp2; go_ret; exact ⟨rfl, (zmR _ w).alloc _⟩
theorem zfk (b0 d : Nat) (l : List Lab) (w : World) (h : Bld w b0 d l ⟨#[]⟩) (hl : l.length <= 4096) (hs : ∀ p ∈ l, p.1.size <= 1048576 /\ p.2.size <= 1048576) :
 Calls prog 132 #[.pointer (some ⟨d, 0, none⟩)] w fun r w' => r = .returned (.agg #[.string (zat l)]) /\ Bld w' b0 d l (zat l) /\ Fr (fun k => k = d) w w' := by
 obtain ⟨v, z, hb, ho⟩ := h; obtain ⟨A, c, rfl⟩ := zaa ho; have hdw := hb.lt; have iW := zlM (zak ho hb (by decide)); have F1 : Fr (fun _ => False) w (w.alloc (.cells #[.string ⟨#[]⟩] 99)) := (zmR _ w).alloc _; have av : Blk (w.alloc (.cells #[.string ⟨#[]⟩] 99)) w.heap.size 99 #[.string ⟨#[]⟩] := zmS w 99 _; have hQ := zjS ⟨#[]⟩ (w.alloc (.cells #[.string ⟨#[]⟩] 99))
 have cz := hb.fr F1 (fun e => e); have k1 := cz.cell 1; simp at k1; have HO := zlM ho; have aI := zlM cz; have cI := zlM av; have cd := zlM F1; have HS := zlM hs; have bN : zaB l <= 1099511627776 := by
  have := zdM l hs; have h : l.length * 2097160 <= 4096 * 2097160 := zlZ _ hl; omega
 obtain ⟨n, hn⟩ := exE (zaB l); rw [hn] at bN; obtain ⟨m, hm⟩ := exE l.length; have HM := zlM hm; have HN := zlM hn; rw [hm] at hl; rw [decide_eq_true (show (⟨#[]⟩ : ByteArray).size = 0 from rfl)] at hQ
 have eC : ∀ W : World, (Instr.makeSlice 44 (.int .i64 (n : Int)) (.int .i64 (n : Int))).run prog W = .ok (.slice (some ⟨W.heap.size, 0, none⟩) n n) (W.alloc (.cells (madeCells #[.int .u8 0] n) 5)) := fun W =>
  run_make_row' (P := prog) 44 5 (.int .u8 0) 1 underlying44 zfd rfl .i64 .i64 n (by omega) (by omega) W
 clear hb ho hs hm hn av F1 cz; go_enter func132, ntmps132
 go_wp2_with (first
  | (go_at_call 56; refine hQ.mono ?_; rintro r w1 ⟨rfl, ag⟩
     have km := zlM (aI.out.fr ag (fun e => e)); have k2 := km.out.cell 0; simp at k2; rw [HM.out] at k2; have qm := zlM (cd.out.same ag); have dc := zlM ((zmU HO.out).fr qm.out (fun _ _ e => e)); have bh := zlM (cI.out.fr ag (fun e => e)); have hZ := zeB _ _ l w1 dc.out (by rw [HM.out]; omega) HS.out
     rw [HM.out, HN.out] at hZ)
  | (go_at_call 208; refine hZ.mono ?_; rintro r w2 ⟨rfl, ar⟩; refine Hid.out ?_))
 have gR := bh.out.fr ar (fun e => e); have lm := km.out.fr ar (fun e => e); have jp := dc.out.fr ar (fun _ _ e => e); have iM := qm.out.same ar; have hDr := lm.alloc (.cells (madeCells #[.int .u8 0] n) 5); have hBr := gR.alloc (.cells (madeCells #[.int .u8 0] n) 5); have hnd : d ≠ w2.heap.size := Nat.ne_of_lt lm.lt; have hnb : w.heap.size ≠ w2.heap.size := Nat.ne_of_lt gR.lt
 have kd0 := hDr.cell 0; have kb0 := (World.ownsRow.lt HO.out); have hM := zdA _ _ l w2.heap.size n n (w2.alloc (.cells (madeCells #[.int .u8 0] n) 5)) (jp.fr ((zmR (fun _ => False) w2).alloc _) (fun _ _ e => e))
  (fun e => zmw _ (zmb ((World.ownsRow.lt HO.out) _ e).2 iM.size)) (by rw [HM.out]; omega) HS.out (buf_new w2 n) HN.out.symm (zlY _) (by omega)
 rw [HM.out] at hM kd0; simp at kd0; have H3 := zlM (zmD hBr (zmD hDr (zmD (iM.alloc (.cells (madeCells #[.int .u8 0] n) 5)) iM.size))); have H5 := zlM (zmD hnd hnb); clear gR lm jp iM hDr hBr hnd hnb kb0 hQ k1 k2 hZ; refine zlM ?_
 go_wp2_with (first
  | (go_at_call 209
     refine hM.mono ?_; rintro r w4 ⟨rfl, lq, dA⟩; have hY := zko w2.heap.size n n (zaw l) w4 lq; have mn := zlM (H3.out.2.1.fr dA H5.out.1); have oE := zlM (H3.out.1.fr dA H5.out.2); have k4 := mn.out.cell 1; have z4 := mn.out.frozen 1; simp at k4
     have hF4 : Hid (Fr (fun _ => False) w w4) := zlM (H3.out.2.2.1.trans (S' := fun k => k = w2.heap.size) dA (fun k hk e => by have := H3.out.2.2.2; omega)))
  | (go_at_call 210; refine hY.mono ?_; rintro r w5 ⟨rfl, rfl⟩; refine Hid.out ?_))
 have hdb : w.heap.size ≠ d := by omega
 have jL : Blk (w4.setCell ⟨d, 1, none⟩ (.string ⟨(zaw l).toArray⟩)) d 119 #[.slice A l.length c, .string ⟨(zaw l).toArray⟩, z] := by simpa using mn.out.set_ 1 (.string ⟨(zaw l).toArray⟩)
 have li := oE.out.far (p := ⟨d, 1, none⟩) hdb (.string ⟨(zaw l).toArray⟩); have hF5 : Fr (fun k => k = d) w (w4.setCell ⟨d, 1, none⟩ (.string ⟨(zaw l).toArray⟩)) := (hF4.out.mono (S' := fun k => k = d) (fun _ _ e => e.elim)).setCell (p := ⟨d, 1, none⟩) (.inl rfl) _; have k5 := jL.cell 1; have k6 := li.cell 0; have z6 := li.frozen 0; simp at k5 k6
 have H6 := zlM (zmD jL (zmD li hF5)); clear jL li hF5 hM hY; refine zlM ?_; generalize hS : (⟨(zaw l).toArray⟩ : ByteArray) = s at *
 go_wp2_with fail
 obtain ⟨jL, li, hF5⟩ := H6.out; have hD7 := jL.far (p := ⟨w.heap.size, 0, none⟩) hdb.symm (.string s); have hR7 : Blk ((w4.setCell ⟨d, 1, none⟩ (.string s)).setCell ⟨w.heap.size, 0, none⟩ (.string s)) w.heap.size 99 #[.string s] := by simpa using li.set_ 0 (.string s)
 have hF7 : Fr (fun k => k = d) w ((w4.setCell ⟨d, 1, none⟩ (.string s)).setCell ⟨w.heap.size, 0, none⟩ (.string s)) := hF5.setCell (p := ⟨w.heap.size, 0, none⟩) (.inr (zlY _)) _; have hO7 := zai HO.out hF7 (fun g hg e => iW.out (by rw [hg]; exact zmC some e)); generalize (w4.setCell ⟨d, 1, none⟩ (.string s)).setCell ⟨w.heap.size, 0, none⟩ (.string s) = w7 at hD7 hR7 hF7 hO7 ⊢
 refine bodyPost_ret (results_cell_row (P := prog) rfl _ _ w.heap.size 99 #[.string s] (0, 0) _ rfl hR7 underlying99 rfl (by kernel_rfl)) rfl ?_; have hSS : zat l = s := hS; rw [hSS]; exact ⟨rfl, ⟨_, _, hD7, hO7⟩, hF7⟩
theorem ziZ {te : TypeId} {pe : Value} {w w' : World} {d g : Nat} {cur : Array Value} {st : St} {S : Nat -> Prop} (h : Dec te pe w d g cur st) (hf : Fr S w w') (h1 : ¬ S d) (h2 : ¬ S g) (h3 : ¬ S 2) : Dec te pe w' d g cur st := by
 have aC : ∀ rest E, DecOk (.iface te pe) w d g cur rest E -> DecOk (.iface te pe) w' d g cur rest E := by
  rintro rest E ⟨off, c, hb, hg, hl, hm, hr, hE⟩; exact ⟨off, c, hb.fr hf h1, hg.fr hf h2, hl, hm, hr, by rw [hf.cell (p := ⟨2, 0, none⟩) (zlT w _ hE) h3]; exact hE⟩
 rcases st with _ | l
 ·obtain ⟨rest, h⟩ := h
  exact ⟨rest, aC _ _ h⟩
 ·exact aC _ _ h
theorem zcd {te : TypeId} {pe : Value} {w : World} {d g : Nat} {cur : Array Value} {st : St} (h : Dec te pe w d g cur st) : ∃ cs, Blk w d 229 cs /\ Blk w g 5 cur /\ 2 < w.heap.size := by
 rcases st with _ | l
 ·obtain ⟨rest, off, c, hb, hg, hl, hm, hr, hE⟩ := h
  exact ⟨_, hb, hg, zlT w _ hE⟩
 ·obtain ⟨off, c, hb, hg, hl, hm, hr, hE⟩ := h
  exact ⟨_, hb, hg, zlT w _ hE⟩
def DS (w : World) (b0 d d2 k : Nat) : Prop := k = d2 ∨ zdx w b0 d k
theorem DS.back {w w' : World} {b0 d d2 : Nat} (h : Fr (DS w b0 d d2) w w') (k : Nat) (hk : k < w.heap.size) (hs : DS w' b0 d d2 k) : DS w b0 d d2 k := by
 rcases Classical.em (DS w b0 d d2 k) with hy | hn
 ·exact hy
 ·rcases hs with rfl | rfl | ⟨hb, cs, hc⟩
  ·exact .inl rfl
  ·exact .inr (.inl rfl)
  ·exact .inr (.inr ⟨hb, cs, (h.block k hk hn).symm.trans hc⟩)
theorem zig {w : World} {b0 d k : Nat} {t : TypeId} {cs : Array Value} (h : Blk w k t cs) (h1 : k ≠ d) (h2 : t ≠ 108) : ¬ zdx w b0 d k := by
 rintro (e | ⟨_, jM, hc⟩)
 ·exact h1 e
 ·exact h2 (h.tag hc).1
theorem zhG {w w' : World} {b0 d d2 : Nat} {l : List Lab} {o : ByteArray} {cs : Array Value} (h : Bld w b0 d l o) (hd : Blk w d2 229 cs) (hf : Fr (fun k => k = d2) w w') : Bld w' b0 d l o := by
 obtain ⟨v, x, hb, ho⟩ := h; exact ⟨v, x, hb.fr hf (zmT hb hd (by decide)), zai ho hf (fun g hg e => zak ho hd (by decide) (by rw [hg]; exact zmC some e))⟩
theorem zdC (te : TypeId) (pe : Value) (b0 d d2 g : Nat) (cur : Array Value) (l0 : List Lab) (o0 : ByteArray) (st : St) (w : World) (hB : Bld w b0 d l0 o0) (hD : Dec te pe w d2 g cur st) (fD : b0 <= w.heap.size) (h2 : 2 < b0) (lf : b0 <= d)
 (n : Nat) (bO : St) (hgu : gUv st = (n, bO)) (hn : n <= 4096) (hu : ∀ k, k < n -> (gUv (zba bO k).2).1 < 9223372036854775808 /\ (gUv (zcn (zba bO k).2).2).1 < 9223372036854775808)
 (hs : ∀ p ∈ (zba bO n).1, p.1.size <= 1048576 /\ p.2.size <= 1048576) (ai : ∀ k, (zba bO k).1.length = k) :
 Calls prog 117 #[.pointer (some ⟨d, 0, none⟩), .pointer (some ⟨d2, 0, none⟩)] w fun r w' => r = .returned (.agg #[.string (zat (zba bO n).1)]) /\ Dec te pe w' d2 g cur (zba bO n).2 /\ Fr (DS w b0 d d2) w w' /\ Bld w' b0 d (zba bO n).1 (zat (zba bO n).1) := by
 have hi : i64 n = n := by unfold i64 wrap64; omega
 have F1 : Fr (fun _ => False) w (w.alloc (.cells #[.string ⟨#[]⟩] 99)) := (zmR _ w).alloc _; have eH : Blk (w.alloc (.cells #[.string ⟨#[]⟩] 99)) w.heap.size 99 #[.string ⟨#[]⟩] := zmS w 99 _; have hdl : d < w.heap.size := let ⟨_, _, h, _⟩ := hB; h.lt
 have av : Bld (w.alloc (.cells #[.string ⟨#[]⟩] 99)) b0 d l0 o0 := hB.fr F1 (fun e => e) (fun _ _ _ e => e); have cz := ziZ hD F1 (fun e => e) (fun e => e) (fun e => e); have jJ := reset_any b0 d l0 o0 _ av; have cd := zlM F1; have cY := zlM eH; have aI := zlM cz; have ot := zlM av; have HU := zlM hu; have HS := zlM hs; have HL := zlM ai
 have HG := zlM hgu; clear F1 eH av cz hu hs ai hB hD hgu; go_enter func117, ntmps117
 go_wp2_with (first
  | (go_at_call 202
     refine jJ.mono ?_; rintro r w1 ⟨rfl, bh, ar⟩; have km : Dec te pe w1 d2 g cur st := by
      obtain ⟨cs, hb2, eo, hlt2⟩ := zcd aI.out; obtain ⟨_, _, fW, _⟩ := ot.out; exact ziZ aI.out ar (fun e => zmT hb2 fW (by decide) e) (fun e => zmT eo fW (by decide) e) (by omega)
     have hU := zbl te pe d2 g cur st w1 km; rw [HG.out] at hU; dsimp only at hU
     rw [hi] at hU)
  | (go_at_call 172; refine hU.mono ?_; rintro r w2 ⟨rfl, lm, bJ⟩; refine Hid.out ?_))
 obtain ⟨cs2, hb2, eo, hlt2⟩ := zcd km; have gR := zhG bh hb2 bJ; have hR3 : Blk w2 w.heap.size 99 #[.string ⟨#[]⟩] := (cY.out.fr ar (by omega)).fr bJ (fun e => zmT (cY.out.fr ar (by omega)) hb2 (by decide) e); have iM : Fr (DS w b0 d d2) w w2 := ((cd.out.mono (S' := DS w b0 d d2) (fun _ _ e => e.elim)).trans ar (fun k _ e => .inr (.inl e))).trans bJ (fun k _ e => .inl e)
 have bI := zlM gR; have cH := zlM lm; have bC := zlM hR3; have bH := zlM iM; have hdd : d2 ≠ d := by
  obtain ⟨_, _, fW, _⟩ := bh; exact zmT hb2 fW (by decide)
 have oC : g ≠ d := by
  obtain ⟨_, _, fW, _⟩ := bh; exact zmT eo fW (by decide)
 clear gR lm hR3 iM hb2 eo bh km ar bJ hU jJ cd cY aI; refine zlM ?_; go_wp2_with fail
 go_loopw [6] (fun vi wr => ∃ k : Nat, k <= n /\ vi = .int .i64 k /\ Hid (Bld wr b0 d (zba bO k).1 ⟨#[]⟩) /\ Hid (Dec te pe wr d2 g cur (zba bO k).2) /\ Hid (Fr (DS w b0 d d2) w wr) /\ Hid (Blk wr w.heap.size 99 #[.string ⟨#[]⟩])) (fun vi _ => n - (intOf vi).toNat)
 case atStart => exact ⟨0, zlX _, rfl, bI, cH, bH, bC⟩
 case round =>
  obtain ⟨k, hk, rfl, JB, JD, JF, JR⟩ := hrel; by_cases hlt : k < n
  ·obtain ⟨ov, kH⟩ := HU.out k hlt
   have hlk := HL.out k; obtain ⟨lk, nd⟩ := exE ((zba bO k).1); obtain ⟨sk, mW⟩ := exE ((zba bO k).2); have lX : zba bO (k + 1) = (lk ++ [((zcn sk).1, (zcn (zcn sk).2).1)], (zcn (zcn sk).2).2) := by
    show ((zba bO k).1 ++ [(gLab (zba bO k).2).1], (gLab (zba bO k).2).2) = _; rw [nd, mW]; rfl
   rw [nd] at JB hlk; rw [mW] at JD ov kH; have q1 := zid te pe d2 g cur sk wr JD.out ov; have jg := zlM lX; clear lX nd mW; have hszw := JF.out.size
   go_wp2_with (first
    | (go_at_call 203
       refine (dh).mono ?_; rintro r w2 ⟨g2', o2, c2, rfl, hne2, ak, km, ar⟩; have bh := zhG av nx ar
       have na := zhK b0 d lk ⟨#[]⟩ ((zcn sk).1, (zcn (zcn sk).2).1) g1' o1 c1 g2' o2 c2 w2 bh (by have := ag.size; have := ar.size; omega) (by omega) (fun j b hj => by
        have h1 := jG j b hj
        rw [ar.cell (p := ⟨g1', o1 + j, none⟩) (zlT _ _ h1) hne1]; exact h1) ak)
    | (go_at_call 203
       refine q1.mono ?_; rintro r w1 ⟨g1', o1, c1, rfl, hne1, jG, cz, ag⟩; have dh := zid te pe d2 g cur (zcn sk).2 w1 cz kH; obtain ⟨cs1, lg, _, _⟩ := zcd JD.out; obtain ⟨cs1', nx, _, _⟩ := zcd cz
       have av := zhG JB.out lg ag)
    | (go_at_call 204; refine na.mono ?_; rintro r w3 ⟨rfl, gR, bJ⟩; refine Hid.out ?_))
   obtain ⟨cs3, qc, pO, _⟩ := zcd km; have F2 : Fr (DS w b0 d d2) w w2 := (JF.out.trans ag (fun k _ e => .inl e)).trans ar (fun k _ e => .inl e); have hR2 : Blk w2 w.heap.size 99 #[.string ⟨#[]⟩] := (JR.out.fr ag (fun e => zmT JR.out lg (by decide) e)).fr ar (fun e => zmT (JR.out.fr ag (fun e => zmT JR.out lg (by decide) e)) nx (by decide) e)
   have NB : Hid (Bld w3 b0 d (zba bO (k + 1)).1 ⟨#[]⟩) := zlM (by rw [jg.out]; exact gR)
   have ND : Hid (Dec te pe w3 d2 g cur (zba bO (k + 1)).2) := zlM (by
    rw [jg.out]
    exact ziZ km bJ (zig qc hdd (by decide)) (zig pO oC (by decide)) (fun e => by rcases e with e | ⟨e, _⟩ <;> omega))
   have NF : Hid (Fr (DS w b0 d d2) w w3) := zlM (Fr.trans F2 bJ (fun k hk e => DS.back F2 k hk (.inr e))); have NR : Hid (Blk w3 w.heap.size 99 #[.string ⟨#[]⟩]) := zlM (hR2.fr bJ (zig hR2 (by omega) (by decide))); clear gR bJ km ar bh na ak dh cz jG ag av lg nx qc pO F2 hR2 q1; refine zlM ?_; go_wp2_with fail
   go_roundw
   case rel => exact ⟨k + 1, by omega, by go_num, NB, ND, NF, NR⟩
   case measure => simp [intOf]; omega
  ·obtain rfl : k = n := by omega
   have hL := zfk b0 d (zba bO k).1 wr JB.out (by rw [HL.out]; omega) HS.out; obtain ⟨cs, fW, kh, _⟩ := zcd JD.out; have HBQ := zlM fW; have HGQ := zlM kh; clear fW kh
   go_wp2_with (go_at_call 132
                refine hL.mono ?_; rintro r w4 ⟨rfl, lq, dA⟩; have oE := JR.out.fr dA (show ¬ w.heap.size = d by omega); have k4 := oE.cell 0; have z4 := oE.frozen 0
                simp at k4)
   have li : Blk (w4.setCell ⟨w.heap.size, 0, none⟩ (.string (zat (zba bO k).1))) w.heap.size 99 #[.string (zat (zba bO k).1)] := by simpa using oE.set_ 0 (.string (zat (zba bO k).1))
   have hF5 : Fr (DS w b0 d d2) w (w4.setCell ⟨w.heap.size, 0, none⟩ (.string (zat (zba bO k).1))) := (JF.out.trans dA (fun k _ e => .inr (.inl e))).setCell (p := ⟨w.heap.size, 0, none⟩) (.inr (zlY _)) _; have iG : d2 ≠ w.heap.size := zmT HBQ.out JR.out (by decide); have hcg : g ≠ w.heap.size := zmT HGQ.out JR.out (by decide)
   have jL : Dec te pe (w4.setCell ⟨w.heap.size, 0, none⟩ (.string (zat (zba bO k).1))) d2 g cur (zba bO k).2 :=
    ziZ (ziZ JD.out dA hdd oC (by omega)) (Fr.at_ w4 w.heap.size 0 _) iG hcg (by omega)
   have oG : Bld (w4.setCell ⟨w.heap.size, 0, none⟩ (.string (zat (zba bO k).1))) b0 d (zba bO k).1 (zat (zba bO k).1) := lq.fr (Fr.at_ w4 w.heap.size 0 _) (by omega) (fun g' _ hg e => by
    obtain ⟨cs, hg⟩ := hg
    exact zmT hg oE (by decide) e)
   generalize w4.setCell ⟨w.heap.size, 0, none⟩ (.string (zat (zba bO k).1)) = w7 at li hF5 jL oG ⊢; refine bodyPost_ret (results_cell_row (P := prog) rfl _ _ w.heap.size 99 #[.string (zat (zba bO k).1)] (0, 0) _ rfl li underlying99 rfl (by kernel_rfl)) rfl ?_; exact ⟨rfl, jL, hF5, oG⟩
end Go.Proofs.YtbkookiigkckdaaGreatDoor
