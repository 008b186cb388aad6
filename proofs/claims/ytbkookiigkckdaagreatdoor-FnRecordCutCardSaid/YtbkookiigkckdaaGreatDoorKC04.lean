/- Texts of this seat, merged and shortened. -/
import Derived.Test.YtbkookiigkckdaaGreatDoorKC03
import Derived.Lib.LazyBuf
import Derived.Lib.BufferWrite
import Derived.OrdersHeld
import Derived.StillTail
import Derived.RowKit
import Derived.Laws.IdiomStrings
import Derived.Shelf.SlSortCmp.SmallK
import Derived.Shelf.SlSortCmp.NoneTotal
import Derived.Ground.SlsfProg
import Derived.Deep.OwnRows
set_option linter.unusedVariables false
set_option linter.unusedSimpArgs false
set_option maxRecDepth 100000
set_option maxHeartbeats 8000000
namespace Go.Proofs.YtbkookiigkckdaaGreatDoor
open Go.RowKit Go.Proofs.Tryz
abbrev Lab := ByteArray × ByteArray
def zaJ (p : Lab) : List Value := [.string p.1, .string p.2]
theorem info40 : (prog.info? 40).map (fun i => (i.zero, i.size, i.bytes)) = some (some (.agg #[.string ⟨#[]⟩, .string ⟨#[]⟩]), 2, 32) := by kernel_rfl
def zew (t : TypeId) (w : World) (l : List Lab) (r : Ending) (w' : World) : Prop :=
 ∃ v, r = .returned v /\ w'.ownsRow w.heap.size t 2 v l.length (l.flatMap zaJ) /\ Fr (fun _ => False) w w'
theorem pairs_any (P : Nat -> Prop) (v : Value) (l : List Lab) (w : World) (h : Sl P w v 2 l.length (l.flatMap zaJ)) (hl : l.length <= 1099511627776) :
 Calls prog 149 #[v] w (zew 108 w l) := by
 obtain ⟨A, c, rfl, ak, aQ, hr⟩ := h; obtain ⟨n, hn⟩ := exE l.length; rw [hn] at hr aQ hl ⊢; have HN := zmk hn; have HR := zmk hr; obtain ⟨i0, aD, aA, az, aC⟩ := info_parts zik; clear hn hr ak; go_enter func149, ntmps149; go_wp2
 go_loopw [3, 8] (fun v i wr => ∃ k : Nat, k <= n /\ i = .int .i64 k /\ wr.ownsRow w.heap.size 108 2 v k ((l.take k).flatMap zaJ) /\ Fr (fun _ => False) w wr) (fun _ i _ => n - (intOf i).toNat)
 case atStart => exact ⟨0, zmv _, rfl, zmy _ _ _ _, znq _ _⟩
 case round =>
  obtain ⟨k, hk, rfl, ab, hf⟩ := hrel; by_cases hlt : k < n
  ·obtain ⟨g, off, rfl, _, aa⟩ := HR.out (by omega)
   obtain ⟨x, hx⟩ : ∃ x, l[k]? = some x := ⟨_, zmm (by rw [HN.out]; exact hlt)⟩; have cc : ∀ j, j < 2 -> ∀ u, (zaJ x)[j]? = some u -> wr.cell? ⟨g, off + (k * 2 + j), none⟩ = some u := fun j hj u hu => by
    have := aa (k * 2 + j) u (by rw [zbE zaJ (fun _ => rfl) l k x hx j hj]; exact hu); rw [hf.cell (p := ⟨g, off + (k * 2 + j), none⟩) (zmr w _ this) (fun e => e)]; exact this
   have c0 : wr.cell? ⟨g, off + k * 2, none⟩ = some (.string x.1) := cc 0 (by omega) _ rfl; have c1 : wr.cell? ⟨g, off + k * 2 + 1, none⟩ = some (.string x.2) := cc 1 (by omega) _ rfl; have HC := zmk aa; have HO := zmk ab; have HX := zmk hx; obtain ⟨a', n', k', rfl⟩ := zac ab; clear aa cc ab hx; go_wp2_with (at_builtin; refine Hid.out ?_)
   refine zmk ?_; refine zaf _ rfl _ _ 115 115 rfl w.heap.size 108 i0 _ 2 32 underlying115 aD aA az aC rfl (by decide) _ k ((l.take k).flatMap zaJ) rfl ((HO.out.alloc _).alloc _) _ 1 (zaJ x) rfl (zaH underlying115 (zaK wr _ 108 (zaJ x).toArray) rfl (by simp [zaJ, Value.oneCell'])) (by unfold maxLen; omega) (by omega) (by have := hf.size; simp; omega) ?_
   intro v' w2 ac ad ax
   have af : w2.ownsRow w.heap.size 108 2 v' (k + 1) ((l.take (k + 1)).flatMap zaJ) := by rw [zan zaJ l k x HX.out]; exact ac
   have ar : Fr (fun _ => False) w w2 := ((hf.alloc _).alloc _).grown ad (fun g hg => .inr (((HO.out.lt g hg)).1)); have cH := zmk af; have bg := zmk ar; clear ac ad af ar hf c0 c1 ax
   go_wp2; go_roundw
   case rel => exact ⟨k + 1, by omega, by go_num, cH.out, bg.out⟩
   case measure => simp [intOf]; omega
  ·go_wp2
   go_ret; obtain rfl : k = n := by omega
   refine ⟨_, rfl, ?_, hf⟩; rw [<- HN.out] at ab ⊢; rw [zmL] at ab; exact ab
def zaB (n : Nat) : Nat := if n < 255 then 1 else 4
def zbe (p : Lab) : Nat := (p.1.size + zaB p.1.size) + (p.2.size + zaB p.2.size)
def zaE (l : List Lab) : Nat := (l.map zbe).sum
theorem zfB (n : Nat) (hn : n <= 16777216) (w : World) : Calls prog 271 #[.int .u64 n] w fun r w' => r = .returned (.int .i64 (zaB n)) /\ w = w' := by
 by_cases h : n < 255
 ·have e : zaB n = 1 := if_pos h
  have h1 : (n : Int) < 255 := by omega
  rw [e]; go_enter func271, ntmps271; go_wp2; go_ret; exact ⟨rfl, rfl⟩
 ·have e : zaB n = 4 := znh h
  have h1 : ¬ (n : Int) < 255 := by omega
  have h2 : (n : Int) <= 16777216 := by omega
  rw [e]; go_enter func271, ntmps271; go_wp2; go_ret; exact ⟨rfl, rfl⟩
theorem zih (g off : Nat) (p : Lab) (h1 : p.1.size <= 1048576) (h2 : p.2.size <= 1048576) (w : World) (c0 : w.cell? ⟨g, off, none⟩ = some (.string p.1)) (c1 : w.cell? ⟨g, off + 1, none⟩ = some (.string p.2)) :
 Calls prog 248 #[.pointer (some ⟨g, off, none⟩)] w fun r w' => r = .returned (.int .i64 (zbe p)) /\ w = w' := by
 have e1 : zbe p = (p.1.size + zaB p.1.size) + (p.2.size + zaB p.2.size) := rfl; have bA : zaB p.1.size <= 4 := by unfold zaB; split <;> omega
 have ge : zaB p.2.size <= 4 := by unfold zaB; split <;> omega
 have q1 := zfB p.1.size (by omega) w; have q2 := zfB p.2.size (by omega) w; generalize zbe p = s at e1 ⊢; obtain ⟨a, b⟩ := p; simp only [] at c0 c1 h1 h2 bA ge q1 q2 e1; generalize zaB a.size = x at bA q1 e1; generalize zaB b.size = y at ge q2 e1; have hs : (s : Int) = (a.size : Int) + x + ((b.size : Int) + y) := by omega
 clear e1; go_enter func248, ntmps248; go_wp2_with (go_at_call 271; first | (refine q1.mono ?_; rintro r w1 ⟨rfl, rfl⟩) | (refine q2.mono ?_; rintro r w1 ⟨rfl, rfl⟩))
 go_ret; exact ⟨by rw [hs]; rfl, rfl⟩
theorem zfn (p : Lab) (h1 : p.1.size <= 1048576) (h2 : p.2.size <= 1048576) : zbe p <= 2097160 := by
 have bA : zaB p.1.size <= 4 := by unfold zaB; split <;> omega
 have ge : zaB p.2.size <= 4 := by unfold zaB; split <;> omega
 unfold zbe; omega
theorem zie (l : List Lab) (k : Nat) (x : Lab) (h : l[k]? = some x) : zaE (l.take (k + 1)) = zaE (l.take k) + zbe x := by
 unfold zaE; rw [zmV, h]; simp
theorem zdM : ∀ (l : List Lab), (∀ p ∈ l, p.1.size <= 1048576 /\ p.2.size <= 1048576) -> zaE l <= l.length * 2097160
 | [], _ => by simp [zaE]
 | p :: l, h => by
   have h1 := zdM l (fun q hq => h q (by simp [hq])); have h2 := zfn p (h p (by simp)).1 (h p (by simp)).2; have e : zaE (p :: l) = zbe p + zaE l := rfl; rw [e, zmC, Nat.add_mul]; omega
theorem sum_small (s k : Nat) (h : s <= k * 2097160) (hk : k <= 4096) : s <= 8589967360 := by omega
theorem zeI (P : Nat -> Prop) (v : Value) (l : List Lab) (w : World) (h : Sl P w v 2 l.length (l.flatMap zaJ)) (hl : l.length <= 4096) (hs : ∀ p ∈ l, p.1.size <= 1048576 /\ p.2.size <= 1048576) :
 Calls prog 208 #[v] w fun r w' => r = .returned (.int .i64 (zaE l)) /\ Fr (fun _ => False) w w' := by
 obtain ⟨A, c, rfl, ak, aQ, hr⟩ := h; obtain ⟨n, hn⟩ := exE l.length; rw [hn] at hr aQ hl ⊢; have HN := zmk hn; have HR := zmk hr; have HS := zmk hs; clear hn hr ak hs; go_enter func208, ntmps208; go_wp2
 go_loopw [2, 7] (fun v i wr => ∃ k s : Nat, k <= n /\ i = .int .i64 k /\ v = .int .i64 s /\ Hid (zaE (l.take k) = s) /\ s <= k * 2097160 /\ Hid (Fr (fun _ => False) w wr)) (fun _ i _ => n - (intOf i).toNat)
 case atStart => exact ⟨0, 0, zmv _, rfl, rfl, zmk rfl, zmv _, zmk (znq _ _)⟩
 case round =>
  obtain ⟨k, s, hk, rfl, rfl, HM, hsb, HF⟩ := hrel; by_cases hlt : k < n
  ·obtain ⟨g, off, rfl, _, aa⟩ := HR.out (by omega)
   obtain ⟨x, hx⟩ : ∃ x, l[k]? = some x := ⟨_, zmm (by rw [HN.out]; exact hlt)⟩; have cc : ∀ j, j < 2 -> ∀ u, (zaJ x)[j]? = some u -> wr.cell? ⟨g, off + (k * 2 + j), none⟩ = some u := fun j hj u hu => by
    have := aa (k * 2 + j) u (by rw [zbE zaJ (fun _ => rfl) l k x hx j hj]; exact hu); rw [HF.out.cell (p := ⟨g, off + (k * 2 + j), none⟩) (zmr w _ this) (fun e => e)]; exact this
   have c0 : wr.cell? ⟨g, off + k * 2, none⟩ = some (.string x.1) := cc 0 (by omega) _ rfl; have c1 : wr.cell? ⟨g, off + k * 2 + 1, none⟩ = some (.string x.2) := cc 1 (by omega) _ rfl; have ej := HS.out x (zms hx); have bN := zfn x ej.1 ej.2; have hB := znr wr 108 #[.string x.1, .string x.2]
   have hC := zih wr.heap.size 0 x ej.1 ej.2 (wr.alloc (.cells #[.string x.1, .string x.2] 108)) (hB.cell 0) (hB.cell 1); have HT := zmk (zie l k x hx); have ge : s + 2097160 <= (k + 1) * 2097160 := by rw [Nat.add_mul]; omega
   have hk4 : s <= 8589967360 := sum_small s k hsb (by omega); generalize zbe x = z at bN hC HT; clear cc hx hB ej aa; go_wp2_with (go_at_call 248; refine hC.mono ?_; rintro r w1 ⟨rfl, rfl⟩)
   go_roundw
   case rel => exact ⟨k + 1, s + z, by omega, by go_num, by first | rfl | go_num | (congr 1; omega), zmk (by rw [HT.out, HM.out]), by omega, zmk (HF.out.alloc _)⟩
   case measure => simp [intOf]; omega
  ·go_wp2
   go_ret; obtain rfl : k = n := by omega
   refine ⟨?_, HF.out⟩; have e1 : l.take k = l := zmt (by rw [HN.out]; exact zmw _); have h := HM.out; rw [e1] at h; rw [h]; rfl
def zaP (s : ByteArray) : List UInt8 := Lib.uvarint s.size ++ s.data.toList
def zbN (p : Lab) : List UInt8 := zaP p.1 ++ zaP p.2
def zbr (l : List Lab) : List UInt8 := Lib.uvarint l.length ++ l.flatMap zbN
def zb3 (st : St) : ByteArray × St := match (gUv st).2 with
 | none => (⟨#[]⟩, none)
 | some r => if r.length < (gUv st).1 then (⟨#[]⟩, none) else (⟨(r.take (gUv st).1).toArray⟩, some (r.drop (gUv st).1))
theorem zdP (s : ByteArray) (r : List UInt8) (h : s.size < 18446744073709551616) : zb3 (some (zaP s ++ r)) = (s, some r) := by
 have e : s.data.toList.length = s.size := by rw [<- znf]
 have e2 : some (zaP s ++ r) = some (Lib.uvarint s.size ++ (s.data.toList ++ r)) := by rw [zaP, zmn]
 unfold zb3; rw [e2, zeJ _ h]; simp only []; rw [znh (by rw [zml]; omega), List.take_left' e, List.drop_left' e]
theorem zi9 (l : List UInt8) (s : ByteArray) (st : St) (h : zb3 (some l) = (s, st)) : s.size <= l.length /\ ∀ r, st = some r -> r.length <= l.length := by
 unfold zb3 at h; have bN : ∀ r, (gUv (some l)).2 = some r -> r.length <= l.length := fun r hr => by
  unfold gUv at hr; simp only [] at hr; split at hr
  ·injection hr with hr
   rw [<- hr, List.length_drop]; omega
  ·cases hr
 split at h
 ·injection h with h1 h2
  subst h1 h2; exact ⟨zmv _, fun r hr => by cases hr⟩
 ·rename_i r hr
  have := bN r hr; split at h
  ·injection h with h1 h2
   subst h1 h2; exact ⟨zmv _, fun r hr => by cases hr⟩
  ·injection h with h1 h2
   subst h1 h2; refine ⟨?_, fun r' hr' => ?_⟩
   ·show (r.take _).toArray.size <= _
    simp; omega
   ·injection hr' with hr'
    rw [<- hr', List.length_drop]; omega
def gLab (st : St) : Lab × St := (((zb3 st).1, (zb3 (zb3 st).2).1), (zb3 (zb3 st).2).2)
theorem gLab_enc (p : Lab) (r : List UInt8) (h1 : p.1.size < 18446744073709551616) (h2 : p.2.size < 18446744073709551616) : gLab (some (zbN p ++ r)) = (p, some r) := by
 unfold gLab zbN; rw [zmn, zdP _ _ h1]; simp only []; rw [zdP _ _ h2]
def za6 (st : St) : Nat -> List Lab × St
 | 0 => ([], st)
 | k + 1 => ((za6 st k).1 ++ [(gLab (za6 st k).2).1], (gLab (za6 st k).2).2)
theorem zgO (l : List Lab) (r : List UInt8) (hs : ∀ p ∈ l, p.1.size < 18446744073709551616 /\ p.2.size < 18446744073709551616) :
 ∀ k, k <= l.length -> za6 (some (l.flatMap zbN ++ r)) k = (l.take k, some ((l.drop k).flatMap zbN ++ r))
 | 0, _ => by simp [za6]
 | k + 1, hk => by
   have ih := zgO l r hs k (by omega); have hx : l[k]? = some l[k] := zmm (by omega); have hm := hs _ (zms hx); rw [za6, ih]; simp only []; rw [List.drop_eq_getElem_cons (by omega : k < l.length), zmz, zmn, gLab_enc _ _ hm.1 hm.2]; simp only []; rw [List.take_succ_eq_append_getElem (by omega)]
def Buf (w : World) (g n i : Nat) (t : List UInt8) : Prop := i <= n /\ ∃ cs : Array Value, Blk w g 5 cs /\ cs.size = n /\ cs.toList.drop i = bc t
theorem Buf.put {w : World} {g n i : Nat} {t : List UInt8} (h : Buf w g n i t) (o : Nat) (vs : List UInt8) (hi : o + vs.length = i) : Buf (w.setCells g o (bc vs)) g n o (vs ++ t) := by
 obtain ⟨cl, cs, hb, hs, hd⟩ := h; refine ⟨by omega, _, zdi (bc vs) o w cs hb, by rw [zdG]; exact hs, ?_⟩; have hl : (bc vs).length = vs.length := zdE vs; rw [zck _ _ _ (by rw [hl]; omega), hl, hi, hd, zmn, List.drop_left' (by simp; omega), zjA]
def zbA (n : Nat) : List UInt8 := if n < 255 then [UInt8.ofNat n] else [255, UInt8.ofNat n, UInt8.ofNat (n / 256), UInt8.ofNat (n / 65536)]
theorem zlF (w : World) (g o v : Nat) : w.setCells g o (bc [255, UInt8.ofNat v, UInt8.ofNat (v / 256), UInt8.ofNat (v / 65536)]) =
 ((((w.setCell ⟨g, o, none⟩ (.int .u8 255)).setCell ⟨g, o + 1, none⟩ (.int .u8 ((v : Int) % 256))).setCell ⟨g, o + 2, none⟩ (.int .u8 ((v : Int) / 256 % 256))).setCell ⟨g, o + 3, none⟩ (.int .u8 ((v : Int) / 65536 % 256))) := by
 have e (x : Nat) : ((UInt8.ofNat x).toNat : Int) = (x : Int) % 256 := by simp
 have e1 := e v; have e2 : ((UInt8.ofNat (v / 256)).toNat : Int) = (v : Int) / 256 % 256 := by rw [e]; simp
 have e3 : ((UInt8.ofNat (v / 65536)).toNat : Int) = (v : Int) / 65536 % 256 := by rw [e]; simp
 rw [<- e1, <- e2, <- e3]; rfl
theorem zbX (n : Nat) : (zbA n).length = zaB n := by
 unfold zbA zaB; split <;> rfl
def zcY (p : Lab) : List UInt8 := zbA p.1.size ++ (p.1.data.toList ++ (zbA p.2.size ++ p.2.data.toList))
theorem zi5 (p : Lab) : (zcY p).length = zbe p := by
 have h1 : p.1.data.toList.length = p.1.size := by rw [<- znf]
 have h2 : p.2.data.toList.length = p.2.size := by rw [<- znf]
 simp only [zcY, zml, zbX, zbe, h1, h2]; omega
def zaw (l : List Lab) : List UInt8 := l.flatMap zcY
def SizeEnds (g n o : Nat) (t : List UInt8) (w : World) (r : Ending) (w' : World) : Prop :=
 r = .returned (.int .i64 o) /\ Buf w' g n o t /\ Fr (fun k => k = g) w w'
theorem zeK (g n i m c v o : Nat) (t : List UInt8) (w : World) (h : Buf w g n i t) (him : i <= m) (hmn : m <= n) (hm : m <= 1099511627776) (hv : v <= 16777216) (ho : o + zaB v = i) :
 Calls prog 272 #[.slice (some ⟨g, 0, none⟩) m c, .int .i64 i, .int .i64 v] w (SizeEnds g n o (zbA v ++ t) w) := by
 obtain ⟨cl, cs, hb, hs, hd⟩ := h; have B0 : Buf w g n i t := ⟨cl, cs, hb, hs, hd⟩; by_cases hlt : v < 255
 ·have e1 : zaB v = 1 := if_pos hlt
  rw [e1] at ho; subst ho; have e2 : zbA v = [UInt8.ofNat v] := if_pos hlt; rw [e2]; have h1 : (v : Int) < 255 := by omega
  have hwr : (v : Int) % 256 = v := by omega
  have hc : (w.cell? ⟨g, o, none⟩).isSome = true := by rw [hb.cell]; simp; omega
  obtain ⟨cv, iA⟩ := Option.isSome_iff_exists.mp hc; have hf := hb.frozen o; have HB := B0.put o [UInt8.ofNat v] rfl; have hF : Fr (fun k => k = g) w (w.setCell ⟨g, o, none⟩ (.int .u8 (UInt8.ofNat v).toNat)) := Fr.at_ w g o _; have e3 : ((UInt8.ofNat v).toNat : Int) = v := by simp; omega
  have cM : Buf (w.setCell ⟨g, o, none⟩ (.int .u8 (UInt8.ofNat v).toNat)) g n o ([UInt8.ofNat v] ++ t) := HB; rw [e3] at cM hF; clear HB B0 hd hs; go_enter func272, ntmps272; go_wp2; go_ret; exact ⟨rfl, cM, hF⟩
 ·have e1 : zaB v = 4 := znh hlt
  rw [e1] at ho; subst ho; have e2 : zbA v = [255, UInt8.ofNat v, UInt8.ofNat (v / 256), UInt8.ofNat (v / 65536)] := znh hlt; rw [e2]; have h1 : ¬ (v : Int) < 255 := by omega
  have aa : ∀ j, j < 4 -> (w.cell? ⟨g, o + j, none⟩).isSome = true := fun j hj => by rw [hb.cell]; simp; omega
  obtain ⟨c0, fa⟩ := Option.isSome_iff_exists.mp (show (w.cell? ⟨g, o, none⟩).isSome = true from aa 0 (by omega)); obtain ⟨c1, bQ⟩ := Option.isSome_iff_exists.mp (aa 1 (by omega)); obtain ⟨c2, iB⟩ := Option.isSome_iff_exists.mp (aa 2 (by omega)); obtain ⟨c3, hc3⟩ := Option.isSome_iff_exists.mp (aa 3 (by omega)); have fj := hb.frozen o; have ai := hb.frozen (o + 1)
  have ar := hb.frozen (o + 2); have bJ := hb.frozen (o + 3); have HB := zmk (B0.put o [255, UInt8.ofNat v, UInt8.ofNat (v / 256), UInt8.ofNat (v / 65536)] rfl); have HF := zmk ((znq (fun k => k = g) w).setCells (b := g) (.inl rfl) o (bc [255, UInt8.ofNat v, UInt8.ofNat (v / 256), UInt8.ofNat (v / 65536)])); clear B0 hd hs aa; go_enter func272, ntmps272; go_wp2; go_ret
  rw [<- zlF]; exact ⟨rfl, HB.out, HF.out⟩
theorem ziB {w : World} {g n o : Nat} {t : List UInt8} (s : ByteArray) (h : Buf w g n (o + s.size) t) :
 Buf (w.setCells g o (s.data.toList.map fun x => Value.int .u8 (x.toNat : Int))) g n o (s.data.toList ++ t) /\ Fr (fun k => k = g) w (w.setCells g o (s.data.toList.map fun x => Value.int .u8 (x.toNat : Int))) :=
 ⟨h.put o s.data.toList (by rw [<- znf]), (znq (fun k => k = g) w).setCells (b := g) (.inl rfl) o _⟩
theorem zk8 {w : World} {g n i : Nat} {t : List UInt8} (h : Buf w g n i t) (j : Nat) (hj : j < i) : (w.cell? ⟨g, j, none⟩).isSome = true /\ w.frozen? ⟨g, j, none⟩ = false := by
 obtain ⟨cl, cs, hb, hs, hd⟩ := h; exact ⟨by rw [hb.cell]; simp; omega, hb.frozen j⟩
theorem ziT (w : World) (g o off' dl cc : Nat) (s : ByteArray) (bN : s.size <= dl) (hs : off' = o ∨ s.size = 0)
 (hc : ∀ j, j < o + s.size -> (w.cell? ⟨g, j, none⟩).isSome = true /\ w.frozen? ⟨g, j, none⟩ = false) :
 (Builtin.copy_ #[44, 9] 3 #[.slice (some ⟨g, off', none⟩) dl cc, .string s]).run prog w = .ok (goInt s.size) (w.setCells g o (s.data.toList.map fun x => Value.int .u8 (x.toNat : Int))) := by
 by_cases h0 : s.size = 0
 ·have h := Lib.run_copy_empty_string (P := prog) w 44 9 3 5 (some ⟨g, off', none⟩) dl cc s underlying44 (by kernel_rfl) h0
  rw [h]; have e : s.data.toList = [] := zmM (by rw [<- znf]; exact h0); rw [e, h0]; rfl
 ·obtain rfl : off' = o := by omega
  exact run_copy_string w 44 9 3 5 g off' dl cc s underlying44 size5 bN (fun j hj => (hc (off' + j) (by omega)).1) (fun j hj => (hc (off' + j) (by omega)).2)
theorem zeX {ops : Array Oper} {o : Oper} {a : Act} {w : World} {K : Act -> World -> Prop} {Q : Exit -> Act -> World -> Prop} {E : Prop}
 (hg : o.guard = none) (d x : Operand) (mL : o.type = 3) (hop : o.op = Op.call { callee := Callee.builtin Builtin.copy, args := #[d, x], argTypes := #[44, 9] })
 (g off' p dl cc : Nat) (s : ByteArray) (hd : a.eval d = .slice (some ⟨g, off', none⟩) dl cc) (bN : s.size <= dl) (hx : a.eval x = .string s) (hs : off' = p ∨ s.size = 0)
 (hc : ∀ j, j < p + s.size -> (w.cell? ⟨g, j, none⟩).isSome = true /\ w.frozen? ⟨g, j, none⟩ = false)
 (hK : K (a.put o.dst (goInt s.size)) (w.setCells g p (s.data.toList.map fun x => Value.int .u8 (x.toNat : Int)))) :
 if Region.wanted o (yielded ops a.tmps) = true then Oper.wp prog o a w K Q else E := by
 have hw : Region.wanted o (yielded ops a.tmps) = true := by simp [Region.wanted, hg]
 rw [if_pos hw]; have jr := ziT w g p off' dl cc s bN hs hc; unfold Oper.wp; simp [execOp, hop, resolve, invoke, builtin, hd, hx, mL, jr, Result.andThen]; exact hK
theorem zfU (b off : Nat) (p : Lab) (g n i c o : Nat) (t : List UInt8) (w : World) (c0 : w.cell? ⟨b, off, none⟩ = some (.string p.1)) (c1 : w.cell? ⟨b, off + 1, none⟩ = some (.string p.2)) (ml : b ≠ g) (kk : b < w.heap.size)
 (h : Buf w g n i t) (hn : n <= 1099511627776) (hic : i <= c) (h1 : p.1.size <= 1048576) (h2 : p.2.size <= 1048576) (ho : o + zbe p = i) :
 Calls prog 249 #[.pointer (some ⟨b, off, none⟩), .slice (some ⟨g, 0, none⟩) i c] w fun r w' => r = .returned (.int .i64 (zbe p)) /\ Buf w' g n o (zcY p ++ t) /\ Fr (fun k => k = g) w w' := by
 obtain ⟨x, y⟩ := p; simp only [zbe] at *
 have cl := h.1; have lx : zaB x.size <= 4 := by unfold zaB; split <;> omega
 have ly : zaB y.size <= 4 := by unfold zaB; split <;> omega
 have hy := zk8 h; obtain ⟨p1, hp1⟩ : ∃ p1, p1 + y.size = i := ⟨i - y.size, by omega⟩; subst hp1; obtain ⟨oP, dK, lY⟩ := zmb g 0 (p1 + y.size) c p1 .i64 p1 rfl (by omega); rw [Nat.add_sub_cancel_left] at lY; have ho1' : oP = p1 ∨ y.size = 0 := by omega
 have HB := zmk h; clear h; go_enter func249, ntmps249; go_wp2; go_region_law (refine zeX rfl (.tmp 17) (.tmp 21) rfl rfl g oP p1 y.size (c - p1) y (by simp [Act.eval, Act.put]) (zmw _) (by simp [Act.eval, Act.put]) ho1' (fun j hj => hy j hj) ?_)
 have cD : Buf w g n (p1 + y.size) t := HB.out; obtain ⟨HC1, cd⟩ := ziB y cD; have o9 : Buf (w.drew.setCells g p1 (y.data.toList.map fun x => Value.int .u8 (x.toNat : Int))) g n p1 (y.data.toList ++ t) := (ziB y (w := w.drew) cD).1
 have jW : Fr (fun k => k = g) w (w.drew.setCells g p1 (y.data.toList.map fun x => Value.int .u8 (x.toNat : Int))) := (Fr.drew (znq (fun k => k = g) w)).setCells (b := g) (.inl rfl) _ _; generalize w.drew.setCells g p1 (y.data.toList.map fun x => Value.int .u8 (x.toNat : Int)) = w1 at o9 jW ⊢; clear HC1 cd cD
 obtain ⟨p3, aE⟩ : ∃ p3, (p3 + x.size) + zaB y.size = p1 := ⟨p1 - zaB y.size - x.size, by omega⟩; obtain ⟨ap, fg, pr⟩ := zmb g 0 (p1 + y.size) c p3 .i64 p3 rfl (by omega); have eG := zeK g n p1 (p1 + y.size) c y.size (p3 + x.size) (y.data.toList ++ t) w1 o9 (by omega) (by omega) (by omega) (by omega) aE
 have c01 : w1.cell? ⟨b, off, none⟩ = some (.string x) := (jW.cell (p := ⟨b, off, none⟩) kk ml).trans c0; have c11 : w1.cell? ⟨b, off + 1, none⟩ = some (.string y) := (jW.cell (p := ⟨b, off + 1, none⟩) kk ml).trans c1; have HFh := zmk jW; clear o9 jW c0 c1 hy lY; have nq : b < w1.heap.size := zmJ kk HFh.out.size
 go_wp2_with (go_at_call 272; refine eG.mono ?_; rintro r w2 ⟨rfl, bi, fW⟩; have c02 : w2.cell? ⟨b, off, none⟩ = some (.string x) := (fW.cell (p := ⟨b, off, none⟩) nq ml).trans c01)
 have aC := zk8 bi; have ho2' : ap = p3 ∨ x.size = 0 := by omega
 have kQ : x.size <= p1 + y.size - p3 := by omega
 have cM := zmk bi; have bg := zmk fW; clear eG fg dK c01 c11 bi fW; go_region_law (refine zeX rfl (.tmp 40) (.tmp 44) rfl rfl g ap p3 (p1 + y.size - p3) (c - p3) x (by simp [Act.eval, Act.put]) kQ (by simp [Act.eval, Act.put]) ho2' (fun j hj => aC j hj) ?_)
 have rx : Buf (w2.drew.setCells g p3 (x.data.toList.map fun x => Value.int .u8 (x.toNat : Int))) g n p3 (x.data.toList ++ (zbA y.size ++ (y.data.toList ++ t))) := (ziB x (w := w2.drew) cM.out).1; have bx : Fr (fun k => k = g) w2 (w2.drew.setCells g p3 (x.data.toList.map fun x => Value.int .u8 (x.toNat : Int))) := (Fr.drew (znq (fun k => k = g) w2)).setCells (b := g) (.inl rfl) _ _
 generalize w2.drew.setCells g p3 (x.data.toList.map fun x => Value.int .u8 (x.toNat : Int)) = w3 at rx bx ⊢; have hoo : o + zaB x.size = p3 := by omega
 have hE3 := zeK g n p3 (p1 + y.size) c x.size o _ w3 rx (by omega) (by omega) (by omega) (by omega) hoo; have hbw3 : b < w3.heap.size := zmJ (zmJ nq bg.out.size) bx.size; have c03 : w3.cell? ⟨b, off, none⟩ = some (.string x) := (bx.cell (p := ⟨b, off, none⟩) (zmJ nq bg.out.size) ml).trans c02; have HF3h := zmk bx
 have HO := zmk ho; clear rx bx c02 aC pr; go_wp2_with (go_at_call 272; refine hE3.mono ?_; rintro r w4 ⟨rfl, lq, hF4⟩)
 go_ret; refine ⟨?_, ?_, ((HFh.out.same bg.out).same HF3h.out).same hF4⟩
 ·have h := HO.out
  show Ending.returned (Value.int .i64 ((p1 : Int) + y.size - o)) = _; congr 2; omega
 ·simp only [zcY, zmn]
  exact lq
theorem zif (l : List Lab) (k : Nat) (x : Lab) (h : l[k]? = some x) : zaE (l.drop k) = zbe x + zaE (l.drop (k + 1)) := by
 obtain ⟨hk, rfl⟩ := List.getElem?_eq_some_iff.mp h; rw [List.drop_eq_getElem_cons hk]; rfl
theorem zdr (l : List Lab) (k : Nat) (x : Lab) (h : l[k]? = some x) : zaw (l.drop k) = zcY x ++ zaw (l.drop (k + 1)) := by
 obtain ⟨hk, rfl⟩ := List.getElem?_eq_some_iff.mp h; rw [List.drop_eq_getElem_cons hk]; rfl
theorem zig (l : List Lab) : (zaw l).length = zaE l := by
 induction l with
 | nil => rfl
 | cons x l ih =>
   show (zcY x ++ zaw l).length = zbe x + zaE l; rw [zml, zi5, ih]
theorem zdy (P : Nat -> Prop) (v : Value) (l : List Lab) (g n c : Nat) (w : World) (h : Sl P w v 2 l.length (l.flatMap zaJ)) (hg : ¬ P g) (hl : l.length <= 4096) (hs : ∀ p ∈ l, p.1.size <= 1048576 /\ p.2.size <= 1048576)
 (hB : Buf w g n n []) (hn : n = zaE l) (aQ : n <= c) (hcm : c <= 1099511627776) :
 Calls prog 209 #[v, .slice (some ⟨g, 0, none⟩) n c] w fun r w' => r = .returned (.int .i64 n) /\ Buf w' g n 0 (zaw l) /\ Fr (fun k => k = g) w w' := by
 obtain ⟨A, cc, rfl, ak, hnc', hr⟩ := h; obtain ⟨m, hm⟩ := exE l.length; rw [hm] at hr hnc' hl ⊢; have HN := zmk hm; have HR := zmk hr; have HS := zmk hs; have HT := zmk hn; have oc := zmk hB; clear hm hr ak hs hn hB; go_enter func209, ntmps209; go_wp2
 go_loopw [5, 6] (fun vi vk wr => ∃ (i k : Nat), k <= m /\ vk = .int .i64 ((k : Int) - 1) /\ vi = .int .i64 i /\ Hid (zaE (l.drop k) + i = n) /\ i <= n /\ Hid (Buf wr g n i (zaw (l.drop k))) /\ Hid (Fr (fun k => k = g) w wr)) (fun _ vk _ => (intOf vk + 1).toNat)
 case atStart =>
  refine ⟨n, m, zmw _, rfl, rfl, ?_, zmw _, ?_, zmk (znq _ _)⟩
  ·have e : l.drop m = [] := List.drop_of_length_le (by rw [HN.out]; exact zmw _)
   rw [e]; exact zmk (zmP _)
  ·have e : l.drop m = [] := List.drop_of_length_le (by rw [HN.out]; exact zmw _)
   rw [e]; exact oc
 case round =>
  obtain ⟨i, k, hk, rfl, rfl, HM, cl, HB, HF⟩ := hrel; rcases k with _ | k
  ·go_wp2
   go_ret; have h0 : i = 0 /\ zaw (l.drop 0) = zaw l := by
    have h := HM.out; have h2 := HT.out; have e : l.drop 0 = l := rfl; rw [e] at h; exact ⟨by omega, by rw [e]⟩
   obtain ⟨rfl, e⟩ := h0; have hB := HB.out; rw [e] at hB; exact ⟨by simp, hB, HF.out⟩
  ·obtain ⟨x, hx⟩ : ∃ x, l[k]? = some x := ⟨_, zmm (by rw [HN.out]; omega)⟩
   obtain ⟨b, off, rfl, dU, aa⟩ := HR.out (by omega); have e1 : ((k + 1 : Nat) : Int) - 1 = k := by omega
   rw [e1]; have cc0 : ∀ j, j < 2 -> ∀ u, (zaJ x)[j]? = some u -> wr.cell? ⟨b, off + (k * 2 + j), none⟩ = some u /\ b < w.heap.size := fun j hj u hu => by
    have := aa (k * 2 + j) u (by rw [zbE zaJ (fun _ => rfl) l k x hx j hj]; exact hu); have hlt := zmr w _ this; rw [HF.out.cell (p := ⟨b, off + (k * 2 + j), none⟩) hlt (fun e => hg (by have : b = g := e; rw [<- this]; exact dU))]; exact ⟨this, hlt⟩
   have c0 : wr.cell? ⟨b, off + k * 2, none⟩ = some (.string x.1) := (cc0 0 (by omega) _ rfl).1; have c1 : wr.cell? ⟨b, off + k * 2 + 1, none⟩ = some (.string x.2) := (cc0 1 (by omega) _ rfl).1; have kk : b < wr.heap.size := zmJ (cc0 0 (by omega) _ rfl).2 HF.out.size; have ml : b ≠ g := fun e => hg (by rw [<- e]; exact dU); have ej := HS.out x (zms hx)
   have hd1 := zif l k x hx; have hd2 := zdr l k x hx; have hM := HM.out; obtain ⟨o, ho⟩ : ∃ o, o + zbe x = i := by
    have h1 : zaE (l.drop k) <= zaE l := by
     have : ∀ (l : List Lab) (k : Nat), zaE (l.drop k) <= zaE l := by
      intro l; induction l with
      | nil => intro k; simp
      | cons a l ih =>
        intro k; cases k with
        | zero => exact zmw _
        | succ k => exact zm3 (ih k) (by show zaE l <= zbe a + zaE l; omega)
     exact this l k
    have h2 := HT.out; exact ⟨i - zbe x, by omega⟩
   have hC := zfU b (off + k * 2) x g n i c o (zaw (l.drop (k + 1))) wr.drew c0 c1 ml kk HB.out (by omega) (by omega) ej.1 ej.2 ho; rw [<- hd2] at hC; have HO := zmk (show zaE (l.drop k) + o = n by omega); have HK := zmk ho; have hz : zbe x <= i := by omega
   have hzm := zfn x ej.1 ej.2; generalize zbe x = z at hC ho hz hzm; have fg : (i : Int) - z = o := by omega
   clear c0 c1 cc0 aa hx hd1 hd2 hM ej HM ho HK; go_wp2; go_region_with (go_at_call 249; refine hC.mono ?_; rintro r w1 ⟨rfl, aw, dE⟩)
   all_goals go_wp2
   all_goals go_roundw
   all_goals first
    | exact ⟨o, k, by omega, rfl, by first | rfl | go_num | (congr 1; omega), HO, by omega, zmk aw, zmk (HF.out.same ((Fr.drew (znq _ _)).same dE))⟩
    | (show ((k : Int) - 1 + 1).toNat < ((k : Int) + 1).toNat; omega)
end Go.Proofs.YtbkookiigkckdaaGreatDoor
namespace Go.Proofs.YtbkookiigkckdaaGreatDoor
open Go Go.RowKit Go.Proofs.Tryz
section
variable {P : Program} {ops : Array Oper} {Q : Exit -> Act -> World -> Prop} {md : Region.Mode} {S : World -> Prop} {c : Nat}
def zcV (P : Program) (md : Region.Mode) (ops : Array Oper) (Q : Exit -> Act -> World -> Prop) (S : World -> Prop) (c : Nat) : Nat -> Array Bool -> Act -> World -> Prop
 | 0, ah, a, w => Region.ready md ops ah = [] /\ Q .normal a w
 | fuel + 1, ah, a, w =>
   (Region.ready md ops ah = [] -> Q .normal a w) /\
   ∀ i ∈ Region.ready md ops ah, wpOp P ops Q i (fun a' w' => ((ah.setIfInBounds i true).getD c false = false -> S w') /\ zcV P md ops Q S c fuel (ah.setIfInBounds i true) a' w') a w
theorem zfz : ∀ (fuel : Nat) (ah : Array Bool) (a : Act) (w : World), zcV P md ops Q S c fuel ah a w -> wpAny P md ops Q fuel ah a w
 | 0, _, _, _, h => h
 | fuel + 1, _, _, _, h => ⟨h.1, fun i hi => wpOp_mono (fun a' w' h' => zfz fuel _ a' w' h'.2) (h.2 i hi)⟩
def zk9 (md : Region.Mode) (ops : Array Oper) (i : Nat) (C : List Nat) : Bool :=
 C.all fun j => Region.waitsFor md ops j i || C.any fun k => Region.waitsFor md ops j k
theorem zfT {C : List Nat} {i j : Nat} {ah : Array Bool} (hb : zk9 md ops i C = true) (hi : ah.getD i false = false) (hC : ∀ k ∈ C, ah.getD k false = false) (hj : j ∈ Region.ready md ops ah) : j ∉ C := by
 intro hjC; obtain ⟨_, oj, jt, bw⟩ := mem_ready.1 hj; have h1 := List.all_eq_true.1 hb j hjC; rw [Bool.or_eq_true] at h1; have ay : ∀ k, ah.getD k false = false -> Region.waitsFor md ops j k = true -> False := fun k hk hw => by
  obtain ⟨oj', hoj', e, he, lf, hon⟩ := Region.waitsFor_spec hw; have : oj' = oj := zna (hoj'.symm.trans jt); subst this; have h2 := bw e he lf; rw [hon, hk] at h2; cases h2
 rcases h1 with h1 | h1
 ·exact ay i hi h1
 ·obtain ⟨k, hk, hw⟩ := List.any_eq_true.1 h1
  exact ay k (hC k hk) hw
theorem zjM {C : List Nat} {i : Nat} {oi : Oper} {v : Value} (hi : ops[i]? = some oi) (jp : ∀ (j : Nat) (o : Oper) cs b, ops[j]? = some o -> o.op ≠ .select cs b)
 (hQ : ∀ c a w, Q (.panic c) (a.put oi.dst v) w -> Q (.panic c) a w) (hb : zk9 md ops i C = true) (hc : c ∈ C) (hic : i ≠ c) :
 ∀ (fuel : Nat) (ah : Array Bool) (a : Act) (w : World),
  (∀ j oj, ops[j]? = some oj -> j ≠ i -> ah.getD j true = false -> (∀ e ∈ oj.after, Region.binds md e = true -> e.on ≠ i) -> oi.apart ops oj = true) ->
  (∀ k ∈ C, ah.getD k false = false) -> i ∈ Region.ready md ops ah -> YieldsIf P ops S oi v a -> S w ->
  zcV P md ops Q S c fuel (ah.setIfInBounds i true) (a.put oi.dst v) w -> zcV P md ops Q S c (fuel + 1) ah a w := by
 intro fuel; induction fuel with
 | zero =>
   intro ah a w _ _ hr hy hS H; refine ⟨fun h => (by rw [h] at hr; cases hr), fun j hj => ?_⟩; by_cases hji : j = i
   ·subst hji; exact hy.wpOp hi hS ⟨fun _ => hS, H⟩
   ·have := ready_mono hj hji
    rw [H.1] at this; cases this
 | succ fuel ih =>
   intro ah a w fR hC hr hy hS H; refine ⟨fun h => (by rw [h] at hr; cases hr), fun j hj => ?_⟩; by_cases hji : j = i
   ·subst hji; exact hy.wpOp hi hS ⟨fun _ => hS, H⟩
   ·have h1 := H.2 j (ready_mono hj hji)
    obtain ⟨jC, oj, jt, bw⟩ := mem_ready.1 hj; have kT := getD_both (mem_ready.1 hr).1; have hjC : j ∉ C := zfT hb kT hC hj; have hjc : j ≠ c := by rintro rfl; exact hjC hc
    have kO : ∀ e ∈ oj.after, Region.binds md e = true -> e.on ≠ i := fun e he hb heq => by
     have h1 := bw e he hb; rw [heq, kT] at h1; cases h1
    have h2 := wpOp_putIf jt (fR j oj jt hji jC kO) (fun cs b => jp i oi cs b hi) (fun cs b => jp j oj cs b jt) hQ hy h1; have gD : ∀ k ok, ops[k]? = some ok -> k ≠ i -> (ah.setIfInBounds j true).getD k true = false ->
     (∀ e ∈ ok.after, Region.binds md e = true -> e.on ≠ i) -> oi.apart ops ok = true := fun k ok hk hki pc mZ => by
     refine fR k ok hk hki ?_ mZ; by_cases hjk : j = k
     ·subst hjk; exact jC
     ·rw [getD_set_ne true hjk] at pc; exact pc
    have hC' : ∀ k ∈ C, (ah.setIfInBounds j true).getD k false = false := fun k hk => by
     have hkj : j ≠ k := by rintro rfl; exact hjC hk
     rw [getD_set_ne false hkj]; exact hC k hk
    have eN : ((ah.setIfInBounds i true).setIfInBounds j true).getD c false = false := by
     rw [getD_set_ne false hjc, getD_set_ne false hic]; exact hC c hc
    refine wpOp_mono (fun a' w' h3 => ⟨fun _ => h3.2.1 eN, ih (ah.setIfInBounds j true) a' w' gD hC' (ready_mono hr (Ne.symm hji)) h3.1 (h3.2.1 eN) ?_⟩) h2; rw [Array.setIfInBounds_comm _ _ hji]; exact h3.2.2
theorem zgf {i : Nat} {oi : Oper} {v : Value} (hi : ops[i]? = some oi) (jp : ∀ (j : Nat) (o : Oper) cs b, ops[j]? = some o -> o.op ≠ .select cs b)
 (hQ : ∀ c a w, Q (.panic c) (a.put oi.dst v) w -> Q (.panic c) a w) (hic : i ≠ c) :
 ∀ (fuel : Nat) (ah : Array Bool) (a : Act) (w : World),
  (∀ j oj, ops[j]? = some oj -> j ≠ i -> ah.getD j true = false -> (∀ e ∈ oj.after, Region.binds md e = true -> e.on ≠ i) -> oi.apart ops oj = true) ->
  (ah.getD c false = false -> S w) -> i ∈ Region.ready md ops ah -> Yields P ops oi v a ->
  zcV P md ops Q S c fuel (ah.setIfInBounds i true) (a.put oi.dst v) w -> zcV P md ops Q S c (fuel + 1) ah a w := by
 have mV : ∀ (l : Array Bool), (l.setIfInBounds i true).getD c false = l.getD c false := fun l => getD_set_ne false hic; intro fuel; induction fuel with
 | zero =>
   intro ah a w _ hI hr hy H; refine ⟨fun h => (by rw [h] at hr; cases hr), fun j hj => ?_⟩; by_cases hji : j = i
   ·subst hji; exact hy.wpOp hi ⟨fun h => hI (by rw [mV] at h; exact h), H⟩
   ·have := ready_mono hj hji
    rw [H.1] at this; cases this
 | succ fuel ih =>
   intro ah a w fR hI hr hy H; refine ⟨fun h => (by rw [h] at hr; cases hr), fun j hj => ?_⟩; by_cases hji : j = i
   ·subst hji; exact hy.wpOp hi ⟨fun h => hI (by rw [mV] at h; exact h), H⟩
   ·have h1 := H.2 j (ready_mono hj hji)
    obtain ⟨jC, oj, jt, bw⟩ := mem_ready.1 hj; have kT := getD_both (mem_ready.1 hr).1; have kO : ∀ e ∈ oj.after, Region.binds md e = true -> e.on ≠ i := fun e he hb heq => by
     have h1 := bw e he hb; rw [heq, kT] at h1; cases h1
    have h2 := wpOp_put jt (fR j oj jt hji jC kO) (fun cs b => jp i oi cs b hi) (fun cs b => jp j oj cs b jt) hQ hy h1; have gD : ∀ k ok, ops[k]? = some ok -> k ≠ i -> (ah.setIfInBounds j true).getD k true = false ->
     (∀ e ∈ ok.after, Region.binds md e = true -> e.on ≠ i) -> oi.apart ops ok = true := fun k ok hk hki pc mZ => by
     refine fR k ok hk hki ?_ mZ; by_cases hjk : j = k
     ·subst hjk; exact jC
     ·rw [getD_set_ne true hjk] at pc; exact pc
    have og : ((ah.setIfInBounds i true).setIfInBounds j true).getD c false = (ah.setIfInBounds j true).getD c false := by
     rw [Array.setIfInBounds_comm _ _ (Ne.symm hji), mV]
    refine wpOp_mono (fun a' w' h3 => ⟨fun h => h3.2.1 (by rw [og]; exact h), ih (ah.setIfInBounds j true) a' w' gD (fun h => h3.2.1 (by rw [og]; exact h)) (ready_mono hr (Ne.symm hji)) h3.1 ?_⟩) h2; rw [Array.setIfInBounds_comm _ _ hji]; exact h3.2.2
theorem zlf (i : Nat) (C : List Nat) {oi : Oper} (v : Value) {fuel : Nat} {ah : Array Bool} {a : Act} {w : World} (hi : ops[i]? = some oi)
 (hs : Region.noSelect ops = true) (hf : Region.free md ops ah i = true) (hr : (Region.ready md ops ah).contains i = true) (hb : zk9 md ops i C = true) (hC : (C.all fun k => !ah.getD k false) = true) (hc : C.contains c = true) (hic : (i == c) = false)
 (hQ : ∀ c a w, Q (.panic c) (a.put oi.dst v) w -> Q (.panic c) a w) (hw : Region.wanted oi (yielded ops a.tmps) = true) (hy : ∀ w, S w -> (execOp a.eval oi).run P w = .ok (.value v) w) (hS : S w)
 (h : zcV P md ops Q S c fuel (ah.setIfInBounds i true) (a.put oi.dst v) w) : zcV P md ops Q S c (fuel + 1) ah a w :=
 zjM hi (Region.noSelect_spec hs) hQ hb (by simpa using hc) (by simpa using hic) fuel ah a w (Region.free_spec hi hf) (fun k hk => by simpa using List.all_eq_true.1 hC k hk) (by simpa using hr) (.inl ⟨hw, hy⟩) hS h
theorem zle (i : Nat) {oi : Oper} (v : Value) {fuel : Nat} {ah : Array Bool} {a : Act} {w : World} (hi : ops[i]? = some oi)
 (hs : Region.noSelect ops = true) (hf : Region.free md ops ah i = true) (hr : (Region.ready md ops ah).contains i = true) (hic : (i == c) = false)
 (hQ : ∀ c a w, Q (.panic c) (a.put oi.dst v) w -> Q (.panic c) a w) (hw : Region.wanted oi (yielded ops a.tmps) = true) (hy : ∀ w, (execOp a.eval oi).run P w = .ok (.value v) w) (hS : S w)
 (h : zcV P md ops Q S c fuel (ah.setIfInBounds i true) (a.put oi.dst v) w) : zcV P md ops Q S c (fuel + 1) ah a w :=
 zgf hi (Region.noSelect_spec hs) hQ (by simpa using hic) fuel ah a w (Region.free_spec hi hf) (fun _ => hS) (by simpa using hr) (.inl ⟨hw, hy⟩) h
theorem zaq (i : Nat) {fuel : Nat} {ah : Array Bool} {a : Act} {w : World} {o : Oper} (hr : Region.ready md ops ah = [i]) (ho : ops[i]? = some o)
 (hw : Region.wanted o (yielded ops a.tmps) = true)
 (h : ∀ K' : Act -> World -> Prop, Shut (∀ a w, S w -> zcV P md ops Q S c fuel (ah.setIfInBounds i true) a w -> K' a w) -> Oper.wp P o a w K' Q) : zcV P md ops Q S c (fuel + 1) ah a w := by
 refine ⟨fun h0 => (by rw [hr] at h0; cases h0), fun j hj => ?_⟩; rw [hr, zm1] at hj; subst hj; unfold wpOp; simp only [ho, hw, if_true]; exact .inl (h _ (fun a w hS hW => ⟨fun _ => hS, hW⟩))
theorem zay (i : Nat) {fuel : Nat} {ah : Array Bool} {a : Act} {w : World} {o : Oper} (hr : Region.ready md ops ah = [i]) (ho : ops[i]? = some o) (hc : (ah.setIfInBounds i true).getD c false = true)
 (hw : Region.wanted o (yielded ops a.tmps) = true)
 (h : ∀ K' : Act -> World -> Prop, Shut (∀ a w, zcV P md ops Q S c fuel (ah.setIfInBounds i true) a w -> K' a w) -> Oper.wp P o a w K' Q) : zcV P md ops Q S c (fuel + 1) ah a w := by
 refine ⟨fun h0 => (by rw [hr] at h0; cases h0), fun j hj => ?_⟩; rw [hr, zm1] at hj; subst hj; unfold wpOp; simp only [ho, hw, if_true]; exact .inl (h _ (fun a w hW => ⟨fun hn => (by rw [hc] at hn; cases hn), hW⟩))
theorem zbC {ah : Array Bool} {a : Act} {w : World} (hr : Region.ready md ops ah = []) (h : Q .normal a w) :
 ∀ fuel, zcV P md ops Q S c fuel ah a w
 | 0 => ⟨hr, h⟩
 | _ + 1 => ⟨fun _ => h, by rw [hr]; simp⟩
theorem zaT (S : World -> Prop) (c : Nat) {id : Nat} {a : Act} {w : World} (hm : P.follows .mixedOrders = true) (hS : S w.drew)
 (h : S w.drew -> zcV P .any ops Q S c ops.size (Array.replicate ops.size false) a w.drew) : (Code.region id ops true).wp P Q a w :=
 wp_region_any hm (zfz _ _ _ _ (h hS))
end
theorem wpT {P : Program} {ops : Array Oper} {Q : Exit -> Act -> World -> Prop} {md : Region.Mode} {S : World -> Prop} {c : Nat} (i : Nat) {oi : Oper} (v : Value) {fuel : Nat} {ah : Array Bool} {a : Act} {w : World} (hi : ops[i]? = some oi)
 (hy : ∀ w, (execOp a.eval oi).run P w = .ok (.value v) w) (hS : S w) (h : zcV P md ops Q S c fuel (ah.setIfInBounds i true) (a.put oi.dst v) w)
 (hs : Region.noSelect ops = true := by kernel_rfl) (hf : Region.free md ops ah i = true := by kernel_rfl) (hr : (Region.ready md ops ah).contains i = true := by kernel_rfl) (hic : (i == c) = false := by kernel_rfl)
 (hQ : ∀ c a w, Q (.panic c) (a.put oi.dst v) w -> Q (.panic c) a w := by exact fun _ _ _ h => h) (hw : Region.wanted oi (yielded ops a.tmps) = true := by kernel_rfl) : zcV P md ops Q S c (fuel + 1) ah a w :=
 zle i v hi hs hf hr hic hQ hw hy hS h
theorem wpL {P : Program} {ops : Array Oper} {Q : Exit -> Act -> World -> Prop} {md : Region.Mode} {S : World -> Prop} {c : Nat} (i : Nat) (C : List Nat) {oi : Oper} (v : Value) {fuel : Nat} {ah : Array Bool} {a : Act} {w : World} (hi : ops[i]? = some oi)
 (hy : ∀ w, S w -> (execOp a.eval oi).run P w = .ok (.value v) w) (hS : S w) (h : zcV P md ops Q S c fuel (ah.setIfInBounds i true) (a.put oi.dst v) w)
 (hs : Region.noSelect ops = true := by kernel_rfl) (hf : Region.free md ops ah i = true := by kernel_rfl) (hr : (Region.ready md ops ah).contains i = true := by kernel_rfl) (hb : zk9 md ops i C = true := by kernel_rfl) (hC : (C.all fun k => !ah.getD k false) = true := by kernel_rfl) (hc : C.contains c = true := by kernel_rfl) (hic : (i == c) = false := by kernel_rfl)
 (hQ : ∀ c a w, Q (.panic c) (a.put oi.dst v) w -> Q (.panic c) a w := by exact fun _ _ _ h => h) (hw : Region.wanted oi (yielded ops a.tmps) = true := by kernel_rfl) : zcV P md ops Q S c (fuel + 1) ah a w :=
 zlf i C v hi hs hf hr hb hC hc hic hQ hw hy hS h
end Go.Proofs.YtbkookiigkckdaaGreatDoor
namespace Go.Proofs.YtbkookiigkckdaaGreatDoor
open Go.RowKit Go.Proofs.Tryz
theorem cutTo {t e : TypeId} {sz : Nat} (he : prog.elem t = e) (ht : prog.underlying t = some (.slice e)) (hs : ∀ W, (sizeOf e).run prog W = .ok sz W) (A : Option Addr) (n c k : Nat) (kd : IntKind) (x : Int) (hx : x = k) (hk : k <= c) (W : World) :
 (Instr.slice t (.slice A n c) none (some (.int kd x)) none).run prog W = .ok (.slice A k c) W := by
 subst hx; subst he; rw [run_slice_h (P := prog) W t A n c ht kd k (by omega) (by omega), hs]; have e0 : ∀ a : Addr, a.add 0 = a := fun a => by unfold Addr.add; split <;> simp_all
 cases A <;> simp [Result.andThen, sliced, e0]
theorem yolo_at (g off c : Nat) (bs : List UInt8) (w : World) (h : ∀ j b, bs[j]? = some b -> w.cell? ⟨g, off + j, none⟩ = some (.int .u8 b.toNat)) : Calls prog 210 #[.slice (some ⟨g, off, none⟩) bs.length c] w fun r w' => r = .returned (.string ⟨bs.toArray⟩) /\ w = w' := by
 have hc := run_convert_bytes_back (P := prog) w 44 9 5 ⟨g, off, none⟩ c bs underlying44 underlying5 underlying9 (fun j hj => by
  have e1 : (⟨g, off, none⟩ : Addr).add j = ⟨g, off + j, none⟩ := by unfold Addr.add; split <;> simp_all
  rw [e1, h j _ (zmm hj)])
 generalize bs.length = n at hc ⊢; clear h; go_enter func210, ntmps210; go_wp2; go_ret; exact ⟨rfl, rfl⟩
def zjD (te : TypeId) (pe : Value) (w : World) (d g : Nat) (cur : Array Value) (s : ByteArray) (st : St) (r : Ending) (w' : World) : Prop :=
 ∃ g' off c : Nat, r = .returned (.slice (some ⟨g', off, none⟩) s.data.toList.length c) /\ g' ≠ d /\ (∀ j b, s.data.toList[j]? = some b -> w'.cell? ⟨g', off + j, none⟩ = some (.int .u8 b.toNat)) /\ Dec te pe w' d g cur st /\ Fr (fun k => k = d) w w'
theorem gStr_none {st : St} (h : (gUv st).2 = none) : zb3 st = (⟨#[]⟩, none) := by unfold zb3; rw [h]
theorem zlC {st : St} {r : List UInt8} (h : (gUv st).2 = some r) (hn : r.length < (gUv st).1) : zb3 st = (⟨#[]⟩, none) := by unfold zb3; rw [h]; simp only []; rw [if_pos hn]
theorem gStr_long {st : St} {r : List UInt8} (h : (gUv st).2 = some r) (hn : ¬ r.length < (gUv st).1) : zb3 st = (⟨(r.take (gUv st).1).toArray⟩, some (r.drop (gUv st).1)) := by unfold zb3; rw [h]; simp only []; rw [znh hn]
theorem ziy (te : TypeId) (pe : Value) (d g : Nat) (cur : Array Value) (st : St) (w : World) (h : Dec te pe w d g cur st) (hn : (gUv st).1 < 9223372036854775808) :
 Calls prog 203 #[.pointer (some ⟨d, 0, none⟩)] w (zjD te pe w d g cur (zb3 st).1 (zb3 st).2) := by
 have hU := zl3 te pe d g cur st w h; clear h; rcases ba : (gUv st).2 with _ | r
 ·rw [gStr_none ba]
  rw [ba] at hU; generalize (gUv st).1 = n at hn hU; clear ba; go_enter func203, ntmps203; go_wp2_with (go_at_call 171; refine hU.mono ?_; rintro e w1 ⟨rfl, ⟨rest, HD⟩, hf⟩; have H := zmk HD; obtain ⟨off, c, hb, hg, hl, hm, hr, hE⟩ := HD; have bQ := hb.cell 1; simp at bQ; have HB := zmk hb; have HF := zmk hf; clear hb hg hr hf)
  go_ret; refine ⟨w1.heap.size, 0, _, rfl, fun e => ?_, fun j b hj => by simp at hj, ⟨rest, ?_⟩, HF.out.alloc _⟩
  ·have := HB.out.lt; omega
  ·obtain ⟨off, c, hb, hg, hl, hm, hr, hE⟩ := H.out
   exact ⟨off, c, hb.alloc _, hg.alloc _, hl, hm, hr, by rw [((znq (fun _ => False) w1).alloc _).cell (p := ⟨2, 0, none⟩) (zmr w1 _ hE) (fun e => e)]; exact hE⟩
 ·by_cases hlt : r.length < (gUv st).1
  ·rw [zlC ba hlt]
   rw [ba] at hU; generalize (gUv st).1 = n at hn hlt hU; clear ba; obtain ⟨m, hm0⟩ := exE r.length; rw [hm0] at hlt; have hlt' : (m : Int) < n := by omega
   have hwr : wrap64 (n : Int) = n := by unfold wrap64; omega
   go_enter func203, ntmps203
   go_wp2_with (go_at_call 171; refine hU.mono ?_; rintro e w1 ⟨rfl, HD, hf⟩; have HD : DecOk (.iface te pe) w1 d g cur r .nilIface := HD; have H := zmk HD; obtain ⟨off, c, hb, hg, hl, hm, hr, hE⟩ := HD; rw [hm0] at hb hl hm; have fa := hb.cell 0; have bQ := hb.cell 1; simp at fa bQ; have az := hb.frozen 1; have HB := zmk hb; have HF := zmk hf; have HR := zmk hr; clear hb hg hr hf)
   go_ret; refine ⟨w1.heap.size, 0, 0, by simp [World.setCell], fun e => ?_, fun j b hj => by simp at hj, ⟨r, ?_⟩, (HF.out.setCell (p := ⟨d, 1, none⟩) (.inl rfl) _).alloc _⟩
   ·have := HB.out.lt; omega
   ·have hm2 := H.out.move (Fr.at_ w1 d 1 (.iface te pe)) (E' := .iface te pe) (rest' := r) (off' := off) (c' := c) (by rw [hm0]; simpa using HB.out.set_ 1 (Value.iface te pe)) (by rw [hm0]; exact hl) (by rw [hm0]; exact hm) HR.out
    obtain ⟨off, c, hb, hg, hl, hm, hr, hE⟩ := hm2; exact ⟨off, c, hb.alloc _, hg.alloc _, hl, hm, hr, by rw [((znq (fun _ => False) _).alloc _).cell (p := ⟨2, 0, none⟩) (zmr _ _ hE) (fun e => e)]; exact hE⟩
  ·rw [gStr_long ba hlt]
   rw [ba] at hU; generalize (gUv st).1 = n at hn hlt hU ⊢; clear ba; obtain ⟨m, hm0⟩ := exE r.length; rw [hm0] at hlt; have bN : n <= m := Nat.le_of_not_lt hlt; have hlt' : ¬ (m : Int) < n := by omega
   have hwr : wrap64 (n : Int) = n := by unfold wrap64; omega
   go_enter func203, ntmps203
   go_wp2_with (go_at_call 171; refine hU.mono ?_; rintro e w1 ⟨rfl, HD, hf⟩; have HD : DecOk (.iface te pe) w1 d g cur r .nilIface := HD; have H := zmk HD; obtain ⟨off, c, hb, hg, hl, hm, hr, hE⟩ := HD; rw [hm0] at hb hl hm; have fa := hb.cell 0; have bQ := hb.cell 1; simp at fa bQ; have aA := hb.frozen 0; have HB := zmk hb; have HF := zmk hf; have HR := zmk hr; have hdg := zns hg hb (by decide); have HG := zmk hg; obtain ⟨off', ho, mY⟩ := zmb g off m c n .u64 n rfl bN; have HO := zmk ho; have mM := cutTo zkC underlying44 size5 (some ⟨g, off, none⟩) m c n .u64 n rfl (zm3 bN hl); clear hb hg hr hf ho)
   go_ret; have hcut := DecOk.cut H.out (znq _ _) HB.out HR.out hm0 hl hm bN HO.out; refine ⟨g, off, c, ?_, hdg, fun j b hj => ?_, hcut, HF.out.setCell (p := ⟨d, 0, none⟩) (.inl rfl) _⟩
   ·have e1 : (⟨(r.take n).toArray⟩ : ByteArray).data.toList.length = n := by simp; omega
    rw [e1]; rfl
   ·have e1 : (⟨(r.take n).toArray⟩ : ByteArray).data.toList = r.take n := by simp
    rw [e1, List.getElem?_take] at hj; split at hj
    ·have h2 := HR.out j (.int .u8 b.toNat) (by rw [zec, hj]; rfl)
     rw [((HG.out).far (p := ⟨d, 0, none⟩) hdg _).cell, h2]
    ·cases hj
def Bld (w : World) (b0 d : Nat) (l : List Lab) (o : ByteArray) : Prop := ∃ v x, Blk w d 119 #[v, .string o, x] /\ w.ownsRow b0 108 2 v l.length (l.flatMap zaJ)
theorem Bld.fr {w w' : World} {b0 d : Nat} {l : List Lab} {o : ByteArray} {S : Nat -> Prop} (h : Bld w b0 d l o) (hf : Fr S w w') (hd : ¬ S d) (hs : ∀ g, w.heap[g]?.isSome -> (∃ cs, Blk w g 108 cs) -> ¬ S g) : Bld w' b0 d l o := by
 obtain ⟨v, x, hb, ho⟩ := h; refine ⟨v, x, hb.fr hf hd, zaj ho hf (fun g hg e => ?_)⟩; rcases ho.2 with ⟨rfl, _⟩ | ⟨g', c, cur, rfl, _, hh, _⟩
 ·simp [Value.ownBlock] at hg
 ·obtain rfl : g' = g := by simpa [Value.ownBlock] using hg
  exact hs g' (by rw [hh]; rfl) ⟨cur, hh⟩ e
theorem own_none {w : World} {base : Nat} {e : TypeId} {size n c : Nat} {A : Option Addr} {xs : List Value} (h : w.ownsRow base e size (.slice A n c) n xs) : w.ownsRow base e size (.slice A 0 c) 0 [] := by
 rcases h.2 with ⟨hv, _⟩ | ⟨g, aO, cur, hv, hb, hh, hn, hm, nk, ht⟩
 ·injection hv with h1 h2 h3
  subst h1 h3; exact zmy _ _ _ _
 ·injection hv with h1 h2 h3
  subst h1 h3; exact ⟨by simp, .inr ⟨g, c, cur, rfl, hb, hh, zmv _, hm, nk, by simp⟩⟩
theorem elem115' : prog.elem 115 = 108 := by kernel_rfl
theorem size108 (w : World) : (sizeOf 108).run prog w = .ok 2 w := by kernel_rfl
theorem zg1 (w : World) : Calls prog 134 #[] w fun r w' => r = .returned (.agg #[.string ⟨#[]⟩]) /\ Fr (fun _ => False) w w' := by
 have hB := znr w 99 #[.string ⟨#[]⟩]; have c0 := hB.cell 0; have f0 := hB.frozen 0; have gJ := hB; go_enter func134, ntmps134; go_wp2; refine bodyPost_ret (results_cell_row (P := prog) rfl _ _ w.heap.size 99 #[.string ⟨#[]⟩] (0, 0) _ rfl gJ underlying99 rfl (by kernel_rfl)) rfl ?_; exact ⟨rfl, (znq _ w).alloc _⟩
theorem reset_any (b0 d : Nat) (l : List Lab) (o : ByteArray) (w : World) (h : Bld w b0 d l o) :
 Calls prog 202 #[.pointer (some ⟨d, 0, none⟩)] w fun r w' => r = .returned (.tuple #[]) /\ Bld w' b0 d [] ⟨#[]⟩ /\ Fr (fun k => k = d) w w' := by
 obtain ⟨v, x, hb, ho⟩ := h; obtain ⟨A, c, rfl⟩ := zaa ho; have mM := fun n : Nat => cutTo elem115' underlying115 size108 A l.length c 0 .i64 0 rfl (zmv _); have hcut := own_none ho; have c0 := hb.cell 0; have f0 := hb.frozen 0; simp at c0
 have hb1 : Blk (w.setCell ⟨d, 0, none⟩ (.slice A 0 c)) d 119 #[.slice A 0 c, .string o, x] := by simpa using hb.set_ 0 (.slice A 0 c)
 have dK : (w.setCell ⟨d, 0, none⟩ (.slice A 0 c)).ownsRow b0 108 2 (.slice A 0 c) 0 [] := zaj (S := fun k => k = d) hcut (Fr.at_ w d 0 _) (fun g hg e => zak hcut hb (by decide) (by rw [hg]; exact znb some e)); have hE := zg1 (w.setCell ⟨d, 0, none⟩ (.slice A 0 c)); have HB := zmk hb1; have HO := zmk dK; have hto0 := mM 0; generalize l.length = n at c0 hto0
 clear hb ho hcut hb1 dK mM; go_enter func202, ntmps202; go_wp2_with (go_at_call 134; refine hE.mono ?_; rintro r w1 ⟨rfl, hf⟩; have hb2 := HB.out.fr hf (fun e => e); have f1 := hb2.frozen 1; have c1 := hb2.cell 1; simp at c1)
 go_end0; refine ⟨rfl, ⟨_, _, by simpa using hb2.set_ 1 (.string ⟨#[]⟩), ?_⟩, ?_⟩
 ·have fg := zaj HO.out hf (fun _ _ e => e)
  exact zaj (S := fun k => k = d) fg (Fr.at_ w1 d 1 _) (fun g hg e => zak fg hb2 (by decide) (by rw [hg]; exact znb some e))
 ·exact ((Fr.at_ w d 0 _).trans hf (fun _ _ e => e.elim)).setCell (p := ⟨d, 1, none⟩) (.inl rfl) _
def zdv (w : World) (b0 d k : Nat) : Prop := k = d ∨ (b0 <= k /\ ∃ cs, Blk w k 108 cs)
theorem zmc (s : ByteArray) : (⟨s.data.toList.toArray⟩ : ByteArray) = s := by cases s; simp
theorem bld_push {w w1 w2 : World} {b0 d : Nat} {l : List Lab} {o : ByteArray} {v v' z : Value} {x : Lab} (hb : Blk w d 119 #[v, .string o, z]) (ho : w.ownsRow b0 108 2 v l.length (l.flatMap zaJ)) (hf : Fr (fun _ => False) w w1) (fB : b0 <= w.heap.size)
 (ab : w2.ownsRow b0 108 2 v' (l.length + 1) (l.flatMap zaJ ++ zaJ x)) (ad : w1.grownBy w2 v.ownBlock) :
 Blk w2 d 119 #[v, .string o, z] /\ Bld (w2.setCell ⟨d, 0, none⟩ v') b0 d (l ++ [x]) o /\ Fr (zdv w b0 d) w (w2.setCell ⟨d, 0, none⟩ v') := by
 have bB := zak ho hb (by decide); have hb2 : Blk w2 d 119 #[v, .string o, z] := (hb.fr hf (fun e => e)).grown ad (fun e => bB e.symm); have e1 : (l ++ [x]).length = l.length + 1 := by simp
 have e2 : (l ++ [x]).flatMap zaJ = l.flatMap zaJ ++ zaJ x := by simp
 refine ⟨hb2, ⟨v', z, by simpa using hb2.set_ 0 v', ?_⟩, ?_⟩
 ·rw [e1, e2]
  exact zaj (S := fun k => k = d) ab (Fr.at_ w2 d 0 _) (fun g hg e => zak ab hb2 (by decide) (by rw [hg]; exact znb some e))
 ·refine ((hf.mono (S' := zdv w b0 d) (fun _ _ e => e.elim)).grown ad (fun k hk => .inl (.inr ?_))).setCell (p := ⟨d, 0, none⟩) (.inl (.inl rfl)) _
  rcases ho.2 with ⟨rfl, _⟩ | ⟨g', c, cur, rfl, bK, hh, _⟩
  ·simp [Value.ownBlock] at hk
  ·obtain rfl : g' = k := by simpa [Value.ownBlock] using hk
   exact ⟨bK, cur, hh⟩
theorem zh2 (b0 d : Nat) (l : List Lab) (o : ByteArray) (x : Lab) (g1 o1 c1 g2 o2 c2 : Nat) (w : World) (h : Bld w b0 d l o) (fB : b0 <= w.heap.size) (hl : l.length <= 1099511627776)
 (h1 : ∀ j b, x.1.data.toList[j]? = some b -> w.cell? ⟨g1, o1 + j, none⟩ = some (.int .u8 b.toNat)) (h2 : ∀ j b, x.2.data.toList[j]? = some b -> w.cell? ⟨g2, o2 + j, none⟩ = some (.int .u8 b.toNat)) :
 Calls prog 204 #[.pointer (some ⟨d, 0, none⟩), .slice (some ⟨g1, o1, none⟩) x.1.data.toList.length c1, .slice (some ⟨g2, o2, none⟩) x.2.data.toList.length c2] w fun r w' => r = .returned (.tuple #[]) /\ Bld w' b0 d (l ++ [x]) o /\ Fr (zdv w b0 d) w w' := by
 obtain ⟨v, z, hb, ho⟩ := h; obtain ⟨A, c, rfl⟩ := zaa ho; obtain ⟨i0, aD, aA, az, aC⟩ := info_parts zik; have q1 := yolo_at g1 o1 c1 x.1.data.toList w.drew h1; have q2 := yolo_at g2 o2 c2 x.2.data.toList w.drew h2; rw [zmc] at q1 q2; obtain ⟨a, b⟩ := x; simp only [] at q1 q2
 have k0 : w.drew.cell? ⟨d, 0, none⟩ = some (.slice A l.length c) := by have := hb.drew.cell 0; simpa using this
 have HB := zmk hb; have HO := zmk ho; clear hb ho h1 h2; generalize a.data.toList.length = n1 at q1 ⊢; generalize b.data.toList.length = n2 at q2 ⊢; go_enter func204, ntmps204; go_wp2_with fail
 refine zaT (fun w' => w'.cell? ⟨d, 0, none⟩ = some (.slice A l.length c)) 11 (by kernel_rfl) k0 ?_; intro hS; refine wpT 0 (.pointer (some ⟨d, 0, none⟩)) rfl (by intro w; go_simp) hS ?_; try simp only [Act.put, zmo, zmp, zmq]
 refine wpT 1 (.pointer (some ⟨d, 0, none⟩)) rfl (by intro w; go_simp) hS ?_; try simp only [Act.put, zmo, zmp, zmq]
 refine wpT 2 (.pointer (some ⟨d, 0, none⟩)) rfl (by intro w; go_simp) hS ?_; try simp only [Act.put, zmo, zmp, zmq]
 refine wpT 3 (.pointer (some ⟨d, 0, none⟩)) rfl (by intro w; go_simp) hS ?_; try simp only [Act.put, zmo, zmp, zmq]
 refine wpL 4 [11, 14] (.slice A l.length c) rfl (by rintro w h1; go_simp) hS ?_; try simp only [Act.put, zmo, zmp, zmq]
 refine wpT 5 (.slice (some ⟨g1, o1, none⟩) n1 c1) rfl (by intro w; go_simp) hS ?_; try simp only [Act.put, zmo, zmp, zmq]
 refine wpT 7 (.slice (some ⟨g2, o2, none⟩) n2 c2) rfl (by intro w; go_simp) hS ?_; try simp only [Act.put, zmo, zmp, zmq]
 refine zaq 6 (by kernel_rfl) rfl (by rfl) (fun K hK => ?_); go_simp; go_at_call 210
 refine q1.mono ?_; rintro r w' ⟨rfl, rfl⟩; refine hK.out _ _ hS ?_; clear hK K; try simp only [Act.put, zmo, zmp, zmq]
 refine zaq 8 (by kernel_rfl) rfl (by rfl) (fun K hK => ?_); go_simp; go_at_call 210
 refine q2.mono ?_; rintro r w' ⟨rfl, rfl⟩; refine hK.out _ _ hS ?_; clear hK K; try simp only [Act.put, zmo, zmp, zmq]
 refine wpT 9 (.agg #[.string a, .string b]) rfl (by intro w; go_simp) hS ?_; try simp only [Act.put, zmo, zmp, zmq]
 refine zaq 10 (by kernel_rfl) rfl (by rfl) (fun K hK => ?_); go_simp; refine hK.out _ _ ((HB.out.drew.alloc _).cell 0) ?_; clear hK K; try simp only [Act.put, zmo, zmp, zmq]
 refine zay 11 (by kernel_rfl) rfl (by kernel_rfl) (by rfl) (fun K hK => ?_)
 refine zaA _ _ _ 115 115 (by rfl) b0 108 i0 _ 2 32 underlying115 aD aA az aC rfl (by decide) (.slice A l.length c) l.length (l.flatMap zaJ) (by rfl) (World.ownsRow.alloc (w := w.drew) HO.out (.cells (zaJ (a, b)).toArray 108)) _ 1 (zaJ (a, b)) (by rfl) (zaH underlying115 (znr w.drew 108 (zaJ (a, b)).toArray) rfl (by simp [zaJ, Value.oneCell'])) (by unfold maxLen; omega) (by omega) (by simp; omega) ?_
 intro v' w2 ac ad ax
 obtain ⟨KB, KD, KF⟩ := bld_push (x := (a, b)) HB.out HO.out ((znq (fun _ => False) w).drew.alloc (.cells (zaJ (a, b)).toArray 108)) fB ac ad; obtain ⟨a5, n5, k5, rfl⟩ := zac ac; have q0 := KB.cell 0; simp at q0; have z0 := KB.frozen 0; have HD := zmk (znc KD KF); clear KB KD KF ac ad ax
 refine hK.out _ _ ?_; clear hK K hS; try simp only [Act.put, zmo, zmp, zmq]
 refine zay 12 (by kernel_rfl) rfl (by kernel_rfl) (by rfl) (fun K hK => ?_); go_simp; refine hK.out _ _ ?_; clear hK K; refine zay 13 (by kernel_rfl) rfl (by kernel_rfl) (by rfl) (fun K hK => ?_); go_simp; refine hK.out _ _ ?_; clear hK K; refine zay 14 (by kernel_rfl) rfl (by kernel_rfl) (by rfl) (fun K hK => ?_); go_simp; refine hK.out _ _ ?_; clear hK K
 refine zbC (by kernel_rfl) ?_ _; go_end0; exact ⟨rfl, HD.out.1, HD.out.2⟩
end Go.Proofs.YtbkookiigkckdaaGreatDoor
namespace Go.Proofs
open Go.Shelf
def Tryz.sortLab_ren : Go.Shelf.Ren := ⟨fun | 6 => 205 | 15 => 157 | 14 => 246 | 28 => 228 | 29 => 229 | 20 => 262 | 21 => 263 | 22 => 264 | 23 => 265 | 24 => 266 | 25 => 267 | 26 => 268 | 27 => 269 | 46 => 289 | 47 => 258 | 48 => 259 | 49 => 290 | 50 => 291 | 57 => 299 | n => n, fun | 22 => 115 | 24 => 108 | 25 => 326 | 3 => 3 | 39 => 268 | 0 => 0 | 53 => 317 | 55 => 111 | 4 => 4 | 46 => 347 | 45 => 346 | 50 => 86 | 5 => 5 | 9 => 9 | 66 => 383 | 70 => 386 | 76 => 401 | 77 => 261 | n => n, fun | n => n⟩
theorem Tryz.sortLab : Go.Proofs.SlLaysF0.n6 Tryz.prog Tryz.sortLab_ren := {
 mixed := by kernel_rfl
 f6 := ⟨Tryz.f205.name, by decide, Tryz.func205.trans (znb some (by kernel_rfl))⟩
 f14 := ⟨Tryz.f246.name, by decide, Tryz.func246.trans (znb some (by kernel_rfl))⟩
 f15 := Tryz.func157.trans (znb some (by kernel_rfl))
 f20 := ⟨Tryz.f262.name, by decide, Tryz.func262.trans (znb some (by kernel_rfl))⟩
 f21 := ⟨Tryz.f263.name, by decide, Tryz.func263.trans (znb some (by kernel_rfl))⟩
 f22 := ⟨Tryz.f264.name, by decide, Tryz.func264.trans (znb some (by kernel_rfl))⟩
 f23 := ⟨Tryz.f265.name, by decide, Tryz.func265.trans (znb some (by kernel_rfl))⟩
 f24 := ⟨Tryz.f266.name, by decide, Tryz.func266.trans (znb some (by kernel_rfl))⟩
 f25 := ⟨Tryz.f267.name, by decide, Tryz.func267.trans (znb some (by kernel_rfl))⟩
 f26 := ⟨Tryz.f268.name, by decide, Tryz.func268.trans (znb some (by kernel_rfl))⟩
 f27 := ⟨Tryz.f269.name, by decide, Tryz.func269.trans (znb some (by kernel_rfl))⟩
 f28 := Tryz.func228.trans (znb some (by kernel_rfl))
 f29 := Tryz.func229.trans (znb some (by kernel_rfl))
 f46 := ⟨Tryz.f289.name, by decide, Tryz.func289.trans (znb some (by kernel_rfl))⟩
 f47 := Tryz.func258.trans (znb some (by kernel_rfl))
 f48 := Tryz.func259.trans (znb some (by kernel_rfl))
 f49 := ⟨Tryz.f290.name, by decide, Tryz.func290.trans (znb some (by kernel_rfl))⟩
 f50 := ⟨Tryz.f291.name, by decide, Tryz.func291.trans (znb some (by kernel_rfl))⟩
 f57 := ⟨Tryz.f299.name, by decide, Tryz.func299.trans (znb some (by kernel_rfl))⟩
 t0 := Tryz.underlying0
 a0 := Tryz.isAgg0
 z0 := Tryz.sizeOf0
 v0 := Tryz.zeroValue0
 t3 := Tryz.underlying3
 a3 := Tryz.isAgg3
 z3 := Tryz.sizeOf3
 v3 := Tryz.zeroValue3
 t4 := Tryz.underlying4
 a4 := Tryz.isAgg4
 z4 := Tryz.sizeOf4
 v4 := Tryz.zeroValue4
 t5 := Tryz.underlying5
 a5 := Tryz.isAgg5
 z5 := Tryz.sizeOf5
 v5 := Tryz.zeroValue5
 t9 := Tryz.underlying9
 a9 := Tryz.isAgg9
 z9 := Tryz.sizeOf9
 v9 := Tryz.zeroValue9
 t22 := Tryz.underlying115
 a22 := Tryz.isAgg115
 z22 := Tryz.sizeOf115
 v22 := Tryz.zeroValue115
 t25 := Tryz.underlying326
 a25 := Tryz.isAgg326
 z25 := Tryz.sizeOf326
 v25 := Tryz.zeroValue326
 t39 := Tryz.underlying268
 a39 := Tryz.isAgg268
 z39 := Tryz.sizeOf268
 v39 := Tryz.zeroValue268
 t45 := Tryz.underlying346
 a45 := Tryz.isAgg346
 z45 := Tryz.sizeOf346
 v45 := Tryz.zeroValue346
 t46 := Tryz.underlying347
 a46 := Tryz.isAgg347
 z46 := Tryz.sizeOf347
 v46 := Tryz.zeroValue347
 t50 := Tryz.underlying86
 a50 := Tryz.isAgg86
 z50 := Tryz.sizeOf86
 v50 := Tryz.zeroValue86
 t53 := Tryz.underlying317
 a53 := Tryz.isAgg317
 z53 := Tryz.sizeOf317
 v53 := Tryz.zeroValue317
 t55 := Tryz.underlying111
 a55 := Tryz.isAgg111
 z55 := Tryz.sizeOf111
 v55 := Tryz.zeroValue111
 t66 := Tryz.underlying383
 a66 := Tryz.isAgg383
 z66 := Tryz.sizeOf383
 v66 := Tryz.zeroValue383
 t70 := Tryz.underlying386
 a70 := Tryz.isAgg386
 z70 := Tryz.sizeOf386
 v70 := Tryz.zeroValue386
 t76 := Tryz.underlying401
 a76 := Tryz.isAgg401
 z76 := Tryz.sizeOf401
 v76 := Tryz.zeroValue401
 t77 := Tryz.underlying261
 a77 := Tryz.isAgg261
 z77 := Tryz.sizeOf261
 v77 := Tryz.zeroValue261 }
end Go.Proofs
namespace Go.Proofs.YtbkookiigkckdaaGreatDoor
open Go.RowKit Go.Sort Go.Proofs.Tryz
theorem cmp_lt : ∀ (a b : List UInt8), Lib.compareBytes a b < 0 ↔ a < b
 | [], [] => by simp [Lib.compareBytes]
 | [], _ :: _ => by simp [Lib.compareBytes]
 | _ :: _, [] => by simp [Lib.compareBytes]
 | a :: xs, b :: ys => by
   simp only [Lib.compareBytes, List.cons_lt_cons_iff]; by_cases h1 : a < b
   ·simp [h1]
   ·by_cases h2 : b < a
    ·simp only [znh h1, if_pos h2]
     constructor
     ·intro h; exact absurd h (by decide)
     ·rintro (h | ⟨rfl, _⟩)
      ·exact absurd h h1
      ·exact absurd h2 h1
    ·rw [znh h1, znh h2, cmp_lt xs ys]
     have e : a = b := UInt8.le_antisymm (UInt8.not_lt.mp h2) (UInt8.not_lt.mp h1); simp [e]
def nlt (a b : ByteArray) : Bool := decide (a.data.toList < b.data.toList)
def zhD (x y : Lab) : Int := Lib.compareBytes x.1.data.toList y.1.data.toList
theorem zkY (x y : Lab) : ltOf zhD x y = nlt x.1 y.1 := by
 unfold ltOf zhD nlt; exact decide_eq_decide.mpr (cmp_lt _ _)
theorem swoLab : SWO (ltOf zhD) where
 irrefl x := by rw [zkY]; simp [nlt, List.lt_irrefl]
 trans x y z h1 h2 := by simp only [zkY, nlt, decide_eq_true_eq] at *; exact List.lt_trans h1 h2
 ntrans x y z h1 h2 := by
  simp only [zkY, nlt, decide_eq_false_iff_not, List.not_lt] at *
  exact List.le_trans h2 h1
theorem zeq (l : List Lab) : (l.flatMap zaJ).length = l.length * 2 := by
 induction l with
 | nil => rfl
 | cons x l ih => rw [zmz, zml, ih, zmC, Nat.add_mul]; show 2 + _ = _; omega
theorem zhL (l : List Lab) : flatK zaJ 2 l.toArray = (l.flatMap zaJ).toArray := by
 have hl : (l.flatMap zaJ).length = l.length * 2 := zeq l; refine ext_get! (by simp [hl]) fun t ht => ?_; have ht' : t < l.length * 2 := by simpa using ht
 rw [get_flatK _ _ _ t (by simpa using ht')]; have hk : t / 2 < l.length := by omega
 have h2 := zbE zaJ (fun _ => rfl) l (t / 2) l[t / 2] (zmm hk) (t % 2) (by omega); rw [show t / 2 * 2 + t % 2 = t by omega] at h2; rw [getElem!_pos l.toArray (t / 2) (by simpa using hk)]; have ht2 : t < (l.flatMap zaJ).length := by omega
 rw [getElem!_pos (l.flatMap zaJ).toArray t (by simpa using ht2)]; rw [zmm ht2] at h2; have h3 : t % 2 < (zaJ l[t / 2]).length := by show t % 2 < 2; omega
 rw [zmm h3] at h2; injection h2 with h2; rw [show l.toArray[t / 2] = l[t / 2] from by simp, getElem!_pos (zaJ l[t / 2]) (t % 2) h3]; simpa using h2.symm
theorem new1_any (x y : Lab) (W : World) : Calls prog 219 #[.agg #[.string x.1, .string x.2], .agg #[.string y.1, .string y.2]] W fun e w' => e = .returned (.int .i64 (zhD x y)) /\ ∃ q os', w' = grow (W.drewN q) os' := by
 have fS := fun W' => strings_Compare x.1 y.1 W'; unfold zhD; generalize Lib.compareBytes x.1.data.toList y.1.data.toList = r at fS ⊢; go_enter func219, ntmps219; go_wp2_with (go_at_call 207; refine (fS _).mono ?_; rintro e w' ⟨rfl, rfl⟩)
 go_ret; exact ⟨rfl, 0, _, by rw [alloc_eq_grow, alloc_eq_grow, grow_grow]; rfl⟩
theorem len157 (n : Nat) (W : World) (h : n <= 12) : Calls prog 157 #[.int .u64 n] W fun e w' => (∃ l : Int, e = .returned (.int .i64 l)) /\ w' = W :=
 (bits_Len n W (by omega) (by omega)).mono fun _ _ ⟨he, hw⟩ => ⟨⟨_, he⟩, hw⟩
theorem Fr.sortWorldK {w : World} (n blk off : Nat) (d : Array Lab) (os : Array Obj) (hb : blk < w.heap.size) : Fr (fun k => k = blk) w (sortWorldK zaJ 2 w blk off n d os) := by
 unfold Go.Proofs.sortWorldK; refine ⟨rfl, rfl, rfl, ?_, ?_⟩
 ·rw [size_grow, size_putRowK]
  exact Nat.le_add_right _ _
 ·intro k hk hn
  rw [heap_grow_old _ _ (by rw [size_putRowK]; exact hk)]; unfold putRowK putRow mapBlock; show (Array.modify w.heap blk _)[k]? = _; rw [Array.getElem?_modify, znh (fun e => hn e.symm)]
def SortEnds (v : Value) (l : List Lab) (w : World) (r : Ending) (w' : World) : Prop :=
 r = .returned (.tuple #[]) /\ ∃ l' : List Lab, l'.Perm l /\ l'.Pairwise (fun a b => nlt b.1 a.1 = false) /\ Sl (fun g => v.ownBlock = some g) w' v 2 l'.length (l'.flatMap zaJ) /\ Fr (fun g => v.ownBlock = some g) w w'
theorem sort_any (base : Nat) (v : Value) (l : List Lab) (w : World) (h : w.ownsRow base 108 2 v l.length (l.flatMap zaJ)) (hl : l.length <= 12) :
 Calls prog 205 #[v, .func (.func 219) #[] #[]] w (SortEnds v l w) := by
 rcases h with ⟨ak, ⟨rfl, hn⟩ | ⟨g, c, cur, rfl, hb, hh, hc, hm, nk, ht⟩⟩
 ·have e : l = [] := zmM hn
  subst e; have fS := AnyF.slices_SortFunc_none sortLab none 0 (.func (.func 219) #[] #[]) w; refine fS.mono ?_; rintro r w' ⟨rfl, rfl⟩; refine ⟨rfl, [], List.Perm.refl _, List.Pairwise.nil, ?_, znq _ _⟩; exact znt (zmy (base := base) (e := 108) (size := 2) (w := w'))
 ·have eg : ∀ args w, (callFunc 219 args).run prog w = .ok (.enter 219 args) w := enters_of func219 (by kernel_rfl) rfl
  have nt : g < w.heap.size := Blk.lt (t := 108) hh; have hH : HoldsK zaJ 2 w g 0 l.toArray := by
   unfold HoldsK; rw [zhL]; intro j hj; have pG : j < (l.flatMap zaJ).length := by simpa using hj
   rw [zmP, Blk.cell (t := 108) hh, getElem!_pos _ j hj]; refine ⟨?_, Blk.frozen (t := 108) hh j⟩; have e : (l.flatMap zaJ)[j]? = cur[j]? := by
    rw [<- ht, List.getElem?_take, if_pos (by omega)]; simp
   rw [<- e, zmm pG]; simp
  have fS := AnyQ.slices_SortFunc_small_sorted sortLab 2 isAgg108 sizeOf108 zaJ (fun _ => rfl) (fun x v hv => by simp [zaJ] at hv; rcases hv with rfl | rfl <;> rfl) zhD 219 #[] swoLab g 0 c l.toArray w eg (fun _ _ _ _ x y => new1_any x y _) hH nt (by simpa using hl) len157; change Calls prog 205 #[.slice (some ⟨g, 0, none⟩) l.toArray.size c, _] _ _ at fS
  rw [List.size_toArray] at fS; refine fS.mono ?_; rintro r w' ⟨rfl, d', n, os, hp, hs, rfl⟩; obtain ⟨bG, _, eu⟩ := hp; have mQ : d'.size = l.length := by simpa using bG
  have ed : d'.toList.toArray = d' := by simp
  refine ⟨rfl, d'.toList, ?_, ?_, ?_, (Fr.sortWorldK n g 0 d' os nt).mono fun k _ e => by subst e; rfl⟩
  ·have e1 : d'.extract 0 l.length = d' := by rw [<- mQ]; simp
   have e2 : l.toArray.extract 0 l.length = l.toArray := by simp
   rw [e1, e2] at eu; exact eu
  ·rw [List.pairwise_iff_getElem]
   intro i j hi hj hij; have hi' : i < d'.size := by simpa using hi
   have hj' : j < d'.size := by simpa using hj
   have := hs i j (zmv _) hij (by omega); rw [getElem!_pos d' j hj', getElem!_pos d' i hi', zkY] at this; simpa using this
  ·have hH2 : HoldsK zaJ 2 (sortWorldK zaJ 2 w g 0 n d' os) g 0 d' := holdsK_sortWorldK_c zaJ 2 w g 0 l.toArray d' n os hH nt (by simpa using mQ)
   have e9 : d'.toList.length = l.length := by simpa using mQ
   show Sl (fun k => (Value.slice (some ⟨g, 0, none⟩) l.length c).ownBlock = some k) _ (.slice (some ⟨g, 0, none⟩) l.length c) 2 _ _; rw [e9]; refine ⟨some ⟨g, 0, none⟩, c, rfl, ?_, hc, fun _ => ⟨g, 0, rfl, rfl, ?_⟩⟩
   ·rw [zeq, e9]
   ·intro j u hu
    have hj : j < (d'.toList.flatMap zaJ).length := by
     rcases zmN j (d'.toList.flatMap zaJ).length with h | h
     ·exact h
     ·rw [zmO h] at hu; cases hu
    unfold HoldsK at hH2; rw [<- ed, zhL, ed] at hH2; have := (hH2 j (by simpa using hj)).1; rw [this, getElem!_pos _ j (by simpa using hj)]; rw [zmm hj] at hu; simpa using hu
end Go.Proofs.YtbkookiigkckdaaGreatDoor
namespace Go.Proofs.YtbkookiigkckdaaGreatDoor
open Go.RowKit Go.Proofs.Tryz
theorem zkR (g n c : Nat) (bs : List UInt8) (w : World) (h : Buf w g n 0 bs) : Calls prog 210 #[.slice (some ⟨g, 0, none⟩) n c] w fun r w' => r = .returned (.string ⟨bs.toArray⟩) /\ w = w' := by
 obtain ⟨_, cs, hb, hs, hd⟩ := h; rw [List.drop_zero] at hd; have hn : bs.length = n := by rw [<- hs, <- zdE bs, <- hd]; simp
 subst hn
 have hc := run_convert_bytes_back (P := prog) w 44 9 5 ⟨g, 0, none⟩ c bs underlying44 underlying5 underlying9 (fun j hj => by
  have e1 : (⟨g, 0, none⟩ : Addr).add j = ⟨g, 0 + j, none⟩ := by unfold Addr.add; split <;> simp_all
  rw [e1, zmP, hb.cell]; have e2 : cs[j]? = (bc bs)[j]? := by rw [<- hd]; simp
  rw [e2, zec, zmm hj]
  rfl)
 go_enter func210, ntmps210; go_wp2; go_ret; exact ⟨rfl, rfl⟩
def zau (l : List Lab) : ByteArray := ⟨(zaw l).toArray⟩
def LabMade (l : List Lab) (S : Nat -> Prop) (w : World) (r : Ending) (w' : World) : Prop :=
 ∃ l' : List Lab, l'.Perm l /\ l'.Pairwise (fun a b => nlt b.1 a.1 = false) /\ r = .returned (.agg #[.string (zau l')]) /\ Fr S w w'
theorem buf_new (w : World) (n : Nat) : Buf (w.alloc (.cells (madeCells #[.int .u8 0] n) 5)) w.heap.size n n [] := by
 refine ⟨zmw _, _, znr w 5 _, size_madeCells _ _, ?_⟩; rw [List.drop_of_length_le (by rw [Array.length_toList, size_madeCells]; exact zmw _)]; rfl
theorem zlp {l l' : List Lab} (h : l'.Perm l) (hs : ∀ p ∈ l, p.1.size <= 1048576 /\ p.2.size <= 1048576) : ∀ p ∈ l', p.1.size <= 1048576 /\ p.2.size <= 1048576 := fun p hp => hs p (h.mem_iff.mp hp)
theorem new_any (base : Nat) (v : Value) (l : List Lab) (w : World) (h : w.ownsRow base 108 2 v l.length (l.flatMap zaJ)) (hl : l.length <= 12) (hs : ∀ p ∈ l, p.1.size <= 1048576 /\ p.2.size <= 1048576) :
 Calls prog 148 #[v] w (LabMade l (fun k => v.ownBlock = some k) w) := by
 have hA : w.alloc (.cells #[.string ⟨#[]⟩] 99) = w.alloc (.cells #[.string ⟨#[]⟩] 99) := rfl; have ab : (w.alloc (.cells #[.string ⟨#[]⟩] 99)).ownsRow base 108 2 v l.length (l.flatMap zaJ) := h.alloc _; have mo := sort_any base v l _ ab hl; have HO := zmk h; have HS := zmk hs; have hlt : ∀ k, v.ownBlock = some k -> k < w.heap.size := fun k hk => zas h hk; clear h hs ab hA
 go_enter func148, ntmps148; go_wp2_with (go_at_call 205; refine mo.mono ?_; rintro r w1 ⟨rfl, l', eu, lT, au, hf⟩)
 have fB : Blk w1 w.heap.size 99 #[.string ⟨#[]⟩] := (znr w 99 _).fr hf (fun e => zm4 _ (hlt _ e)); have lU := zlp eu HS.out; have fP : l'.length <= 12 := by rw [eu.length_eq]; exact hl
 have dE : Fr (fun k => v.ownBlock = some k) w w1 := ((znq _ w).alloc _).same hf; refine (zeI _ v l' w1 au (by omega) lU).mono ?_; rintro r w2 ⟨rfl, ar⟩; have cZ := au.fr ar (fun _ _ e => e); have hb2 := fB.fr ar (fun e => e); have bN := zdM l' lU; obtain ⟨n, hn⟩ := exE (zaE l'); rw [hn] at bN ⊢; have hnb : n <= 25165920 := by
  have : l'.length * 2097160 <= 12 * 2097160 := zmx _ fP; exact zm3 bN this
 have gy : ∀ W : World, (Instr.makeSlice 44 (.int .i64 (n : Int)) (.int .i64 (n : Int))).run prog W = .ok (.slice (some ⟨W.heap.size, 0, none⟩) n n) (W.alloc (.cells (madeCells #[.int .u8 0] n) 5)) := fun W =>
  run_make_row' (P := prog) 44 5 (.int .u8 0) 1 underlying44 zfp rfl .i64 .i64 n (by omega) (by omega) W
 have fW : Fr (fun k => v.ownBlock = some k) w w2 := dE.trans ar (fun _ _ e => e.elim); have hM := zdy _ v l' w2.heap.size n n (w2.alloc (.cells (madeCells #[.int .u8 0] n) 5)) (cZ.fr ((znq (fun _ => False) w2).alloc _) (fun _ _ e => e))
  (fun e => zm4 _ (zmJ (hlt _ e) fW.size)) (by omega) lU (buf_new w2 n) hn.symm (zmw _) (by omega)
 have hbne : w.heap.size ≠ w2.heap.size := Nat.ne_of_lt hb2.lt; have iH : Fr (fun k => v.ownBlock = some k) w (w2.alloc (.cells (madeCells #[.int .u8 0] n) 5)) := fW.alloc _; have hb3 := hb2.alloc (.cells (madeCells #[.int .u8 0] n) 5); have H := zmk (znc eu (znc lT (znc iH (znc hb3 (znc hlt fW.size)))))
 clear HO HS au cZ dE fW fB hb2 hf ar lU bN hn hlt eu lT iH hb3 mo fP; go_wp2_with (first | (go_at_call 209; refine hM.mono ?_; rintro r w3 ⟨rfl, gP, bJ⟩; have hY := zkR w2.heap.size n n (zaw l') w3 gP) | (go_at_call 210; refine hY.mono ?_; rintro r w4 ⟨rfl, rfl⟩; have pW := H.out.2.2.2.1.fr bJ hbne; have c4 := pW.cell 0; have f4 := pW.frozen 0))
 have cg := pW.set_ 0 (.string ⟨(zaw l').toArray⟩); obtain ⟨h1, h2, h3, _, hlt, bG⟩ := H.out; have hF4 : Fr (fun k => v.ownBlock = some k) w w3 := h3.trans (S' := fun k => k = w2.heap.size) bJ (fun k hk e => by subst e; omega)
 have hF5 : Fr (fun k => v.ownBlock = some k) w (w3.setCell ⟨w.heap.size, 0, none⟩ (.string ⟨(zaw l').toArray⟩)) := hF4.setCell (p := ⟨w.heap.size, 0, none⟩) (.inr (zmw _)) _; have gJ : Blk (w3.setCell ⟨w.heap.size, 0, none⟩ (.string ⟨(zaw l').toArray⟩)) w.heap.size 99 #[.string (zau l')] := cg; clear cg
 generalize w3.setCell ⟨w.heap.size, 0, none⟩ (.string ⟨(zaw l').toArray⟩) = w5 at gJ hF5 ⊢; refine bodyPost_ret (results_cell_row (P := prog) rfl _ _ w.heap.size 99 #[.string (zau l')] (0, 0) _ rfl gJ underlying99 rfl (by kernel_rfl)) rfl ?_; exact ⟨l', h1, h2, rfl, hF5⟩
theorem made_any (P : Nat -> Prop) (v : Value) (l : List Lab) (w : World) (h : Sl P w v 2 l.length (l.flatMap zaJ)) (hl : l.length <= 12) (hs : ∀ p ∈ l, p.1.size <= 1048576 /\ p.2.size <= 1048576) :
 Calls prog 54 #[v] w (LabMade l (fun _ => False) w) := by
 have hw : ∀ o, Sl P (w.alloc o) v 2 l.length (l.flatMap zaJ) := fun o => h.fr ((znq (fun _ => False) w).alloc o) (fun _ _ e => e); have hP := pairs_any P v l _ (hw (.cells #[.string ⟨#[]⟩] 99)) (by omega); clear h hw; go_enter func54, ntmps54; go_wp2_with (go_at_call 149; refine hP.mono ?_; rintro r w1 ⟨v1, rfl, ab, hf⟩)
 refine (new_any _ v1 l w1 ab hl hs).mono ?_; rintro r w2 ⟨l', h1, h2, rfl, ar⟩; have fB : Blk w1 w.heap.size 99 #[.string ⟨#[]⟩] := (znr w 99 _).fr hf (fun e => e); have hlo : ∀ k, v1.ownBlock = some k -> w.heap.size < k := fun k hk => by
  have := (ab.lt k hk).1; rw [World.size_alloc] at this; exact this
 have hb1 : Blk w2 w.heap.size 99 #[.string ⟨#[]⟩] := fB.fr ar (fun e => zm4 _ (hlo _ e)); have c1 := hb1.cell 0; have f1 := hb1.frozen 0; have hF : Fr (fun _ => False) w w2 := ((znq _ w).alloc _).same hf |>.trans ar (fun k hk e => Nat.lt_asymm hk (hlo k e)); go_wp2; have cg := hb1.set_ 0 (.string (zau l'))
 have hF5 : Fr (fun _ => False) w (w2.setCell ⟨w.heap.size, 0, none⟩ (.string (zau l'))) := hF.setCell (p := ⟨w.heap.size, 0, none⟩) (.inr (zmw _)) _; have gJ : Blk (w2.setCell ⟨w.heap.size, 0, none⟩ (.string (zau l'))) w.heap.size 99 #[.string (zau l')] := cg; clear cg; generalize w2.setCell ⟨w.heap.size, 0, none⟩ (.string (zau l')) = w5 at gJ hF5 ⊢
 refine bodyPost_ret (results_cell_row (P := prog) rfl _ _ w.heap.size 99 #[.string (zau l')] (0, 0) _ rfl gJ underlying99 rfl (by kernel_rfl)) rfl ?_; exact ⟨l', h1, h2, rfl, hF5⟩
theorem zkh (s : ByteArray) (w : World) : Calls prog 56 #[.agg #[.string s]] w fun r w' => r = .returned (.bool (decide (s.size = 0))) /\ Fr (fun _ => False) w w' := by
 by_cases h : s.size = 0
 ·have h' : (s.size : Int) = 0 := by omega
  rw [decide_eq_true h]; go_enter func56, ntmps56; go_wp2; go_ret; exact ⟨rfl, (znq _ w).alloc _⟩
 ·have h' : ((s.size : Int) == 0) = false := by rw [beq_eq_false_iff_ne]; omega
  rw [decide_eq_false h]; go_enter func56, ntmps56; go_wp2; go_ret; exact ⟨rfl, (znq _ w).alloc _⟩
theorem zfy (b0 d : Nat) (l : List Lab) (w : World) (h : Bld w b0 d l ⟨#[]⟩) (hl : l.length <= 4096) (hs : ∀ p ∈ l, p.1.size <= 1048576 /\ p.2.size <= 1048576) :
 Calls prog 132 #[.pointer (some ⟨d, 0, none⟩)] w fun r w' => r = .returned (.agg #[.string (zau l)]) /\ Bld w' b0 d l (zau l) /\ Fr (fun k => k = d) w w' := by
 obtain ⟨v, z, hb, ho⟩ := h; obtain ⟨A, c, rfl⟩ := zaa ho; have hdw := hb.lt; have iQ := zmk (zak ho hb (by decide)); have F1 : Fr (fun _ => False) w (w.alloc (.cells #[.string ⟨#[]⟩] 99)) := (znq _ w).alloc _; have aw : Blk (w.alloc (.cells #[.string ⟨#[]⟩] 99)) w.heap.size 99 #[.string ⟨#[]⟩] := znr w 99 _; have hQ := zkh ⟨#[]⟩ (w.alloc (.cells #[.string ⟨#[]⟩] 99))
 have cr := hb.fr F1 (fun e => e); have k1 := cr.cell 1; simp at k1; have HO := zmk ho; have aT := zmk cr; have cD := zmk aw; have cd := zmk F1; have HS := zmk hs; have bN : zaE l <= 1099511627776 := by
  have := zdM l hs; have h : l.length * 2097160 <= 4096 * 2097160 := zmx _ hl; omega
 obtain ⟨n, hn⟩ := exE (zaE l); rw [hn] at bN; obtain ⟨m, hm⟩ := exE l.length; have HM := zmk hm; have HN := zmk hn; rw [hm] at hl; rw [decide_eq_true (show (⟨#[]⟩ : ByteArray).size = 0 from rfl)] at hQ
 have gy : ∀ W : World, (Instr.makeSlice 44 (.int .i64 (n : Int)) (.int .i64 (n : Int))).run prog W = .ok (.slice (some ⟨W.heap.size, 0, none⟩) n n) (W.alloc (.cells (madeCells #[.int .u8 0] n) 5)) := fun W =>
  run_make_row' (P := prog) 44 5 (.int .u8 0) 1 underlying44 zfp rfl .i64 .i64 n (by omega) (by omega) W
 clear hb ho hs hm hn aw F1 cr; go_enter func132, ntmps132
 go_wp2_with (first
  | (go_at_call 56; refine hQ.mono ?_; rintro r w1 ⟨rfl, ai⟩
     have kn := zmk (aT.out.fr ai (fun e => e)); have k2 := kn.out.cell 0; simp at k2; rw [HM.out] at k2; have qf := zmk (cd.out.same ai); have cZ := zmk ((znt HO.out).fr qf.out (fun _ _ e => e)); have bi := zmk (cD.out.fr ai (fun e => e)); have hZ := zeI _ _ l w1 cZ.out (by rw [HM.out]; omega) HS.out
     rw [HM.out, HN.out] at hZ)
  | (go_at_call 208; refine hZ.mono ?_; rintro r w2 ⟨rfl, ar⟩; refine Hid.out ?_))
 have gP := bi.out.fr ar (fun e => e); have lm := kn.out.fr ar (fun e => e); have jo := cZ.out.fr ar (fun _ _ e => e); have iH := qf.out.same ar; have hDr := lm.alloc (.cells (madeCells #[.int .u8 0] n) 5); have hBr := gP.alloc (.cells (madeCells #[.int .u8 0] n) 5); have hnd : d ≠ w2.heap.size := Nat.ne_of_lt lm.lt; have hnb : w.heap.size ≠ w2.heap.size := Nat.ne_of_lt gP.lt
 have kd0 := hDr.cell 0; have kb0 := (World.ownsRow.lt HO.out); have hM := zdy _ _ l w2.heap.size n n (w2.alloc (.cells (madeCells #[.int .u8 0] n) 5)) (jo.fr ((znq (fun _ => False) w2).alloc _) (fun _ _ e => e))
  (fun e => zm4 _ (zmJ ((World.ownsRow.lt HO.out) _ e).2 iH.size)) (by rw [HM.out]; omega) HS.out (buf_new w2 n) HN.out.symm (zmw _) (by omega)
 rw [HM.out] at hM kd0; simp at kd0; have H3 := zmk (znc hBr (znc hDr (znc (iH.alloc (.cells (madeCells #[.int .u8 0] n) 5)) iH.size))); have H5 := zmk (znc hnd hnb); clear gP lm jo iH hDr hBr hnd hnb kb0 hQ k1 k2 hZ; refine zmk ?_
 go_wp2_with (first
  | (go_at_call 209
     refine hM.mono ?_; rintro r w4 ⟨rfl, lq, dw⟩; have hY := zkR w2.heap.size n n (zaw l) w4 lq; have mr := zmk (H3.out.2.1.fr dw H5.out.1); have ou := zmk (H3.out.1.fr dw H5.out.2); have k4 := mr.out.cell 1; have z4 := mr.out.frozen 1; simp at k4
     have hF4 : Hid (Fr (fun _ => False) w w4) := zmk (H3.out.2.2.1.trans (S' := fun k => k = w2.heap.size) dw (fun k hk e => by have := H3.out.2.2.2; omega)))
  | (go_at_call 210; refine hY.mono ?_; rintro r w5 ⟨rfl, rfl⟩; refine Hid.out ?_))
 have hdb : w.heap.size ≠ d := by omega
 have jM : Blk (w4.setCell ⟨d, 1, none⟩ (.string ⟨(zaw l).toArray⟩)) d 119 #[.slice A l.length c, .string ⟨(zaw l).toArray⟩, z] := by simpa using mr.out.set_ 1 (.string ⟨(zaw l).toArray⟩)
 have li := ou.out.far (p := ⟨d, 1, none⟩) hdb (.string ⟨(zaw l).toArray⟩); have hF5 : Fr (fun k => k = d) w (w4.setCell ⟨d, 1, none⟩ (.string ⟨(zaw l).toArray⟩)) := (hF4.out.mono (S' := fun k => k = d) (fun _ _ e => e.elim)).setCell (p := ⟨d, 1, none⟩) (.inl rfl) _; have k5 := jM.cell 1; have k6 := li.cell 0; have z6 := li.frozen 0; simp at k5 k6
 have H6 := zmk (znc jM (znc li hF5)); clear jM li hF5 hM hY; refine zmk ?_; generalize hS : (⟨(zaw l).toArray⟩ : ByteArray) = s at *
 go_wp2_with fail
 obtain ⟨jM, li, hF5⟩ := H6.out; have hD7 := jM.far (p := ⟨w.heap.size, 0, none⟩) hdb.symm (.string s); have hR7 : Blk ((w4.setCell ⟨d, 1, none⟩ (.string s)).setCell ⟨w.heap.size, 0, none⟩ (.string s)) w.heap.size 99 #[.string s] := by simpa using li.set_ 0 (.string s)
 have hF7 : Fr (fun k => k = d) w ((w4.setCell ⟨d, 1, none⟩ (.string s)).setCell ⟨w.heap.size, 0, none⟩ (.string s)) := hF5.setCell (p := ⟨w.heap.size, 0, none⟩) (.inr (zmw _)) _; have hO7 := zaj HO.out hF7 (fun g hg e => iQ.out (by rw [hg]; exact znb some e)); generalize (w4.setCell ⟨d, 1, none⟩ (.string s)).setCell ⟨w.heap.size, 0, none⟩ (.string s) = w7 at hD7 hR7 hF7 hO7 ⊢
 refine bodyPost_ret (results_cell_row (P := prog) rfl _ _ w.heap.size 99 #[.string s] (0, 0) _ rfl hR7 underlying99 rfl (by kernel_rfl)) rfl ?_; have hSS : zau l = s := hS; rw [hSS]; exact ⟨rfl, ⟨_, _, hD7, hO7⟩, hF7⟩
theorem zjo {te : TypeId} {pe : Value} {w w' : World} {d g : Nat} {cur : Array Value} {st : St} {S : Nat -> Prop} (h : Dec te pe w d g cur st) (hf : Fr S w w') (h1 : ¬ S d) (h2 : ¬ S g) (h3 : ¬ S 2) : Dec te pe w' d g cur st := by
 have ay : ∀ rest E, DecOk (.iface te pe) w d g cur rest E -> DecOk (.iface te pe) w' d g cur rest E := by
  rintro rest E ⟨off, c, hb, hg, hl, hm, hr, hE⟩; exact ⟨off, c, hb.fr hf h1, hg.fr hf h2, hl, hm, hr, by rw [hf.cell (p := ⟨2, 0, none⟩) (zmr w _ hE) h3]; exact hE⟩
 rcases st with _ | l
 ·obtain ⟨rest, h⟩ := h
  exact ⟨rest, ay _ _ h⟩
 ·exact ay _ _ h
theorem zb8 {te : TypeId} {pe : Value} {w : World} {d g : Nat} {cur : Array Value} {st : St} (h : Dec te pe w d g cur st) : ∃ cs, Blk w d 229 cs /\ Blk w g 5 cur /\ 2 < w.heap.size := by
 rcases st with _ | l
 ·obtain ⟨rest, off, c, hb, hg, hl, hm, hr, hE⟩ := h
  exact ⟨_, hb, hg, zmr w _ hE⟩
 ·obtain ⟨off, c, hb, hg, hl, hm, hr, hE⟩ := h
  exact ⟨_, hb, hg, zmr w _ hE⟩
def DS (w : World) (b0 d d2 k : Nat) : Prop := k = d2 ∨ zdv w b0 d k
theorem DS.back {w w' : World} {b0 d d2 : Nat} (h : Fr (DS w b0 d d2) w w') (k : Nat) (hk : k < w.heap.size) (hs : DS w' b0 d d2 k) : DS w b0 d d2 k := by
 rcases Classical.em (DS w b0 d d2 k) with hy | hn
 ·exact hy
 ·rcases hs with rfl | rfl | ⟨hb, cs, hc⟩
  ·exact .inl rfl
  ·exact .inr (.inl rfl)
  ·exact .inr (.inr ⟨hb, cs, (h.block k hk hn).symm.trans hc⟩)
theorem ziC {w : World} {b0 d k : Nat} {t : TypeId} {cs : Array Value} (h : Blk w k t cs) (h1 : k ≠ d) (h2 : t ≠ 108) : ¬ zdv w b0 d k := by
 rintro (e | ⟨_, jN, hc⟩)
 ·exact h1 e
 ·exact h2 (h.tag hc).1
theorem zhY {w w' : World} {b0 d d2 : Nat} {l : List Lab} {o : ByteArray} {cs : Array Value} (h : Bld w b0 d l o) (hd : Blk w d2 229 cs) (hf : Fr (fun k => k = d2) w w') : Bld w' b0 d l o := by
 obtain ⟨v, x, hb, ho⟩ := h; exact ⟨v, x, hb.fr hf (zns hb hd (by decide)), zaj ho hf (fun g hg e => zak ho hd (by decide) (by rw [hg]; exact znb some e))⟩
theorem zdB (te : TypeId) (pe : Value) (b0 d d2 g : Nat) (cur : Array Value) (l0 : List Lab) (o0 : ByteArray) (st : St) (w : World) (hB : Bld w b0 d l0 o0) (hD : Dec te pe w d2 g cur st) (fB : b0 <= w.heap.size) (h2 : 2 < b0) (lf : b0 <= d)
 (n : Nat) (bO : St) (hgu : gUv st = (n, bO)) (hn : n <= 4096) (hu : ∀ k, k < n -> (gUv (za6 bO k).2).1 < 9223372036854775808 /\ (gUv (zb3 (za6 bO k).2).2).1 < 9223372036854775808)
 (hs : ∀ p ∈ (za6 bO n).1, p.1.size <= 1048576 /\ p.2.size <= 1048576) (ak : ∀ k, (za6 bO k).1.length = k) :
 Calls prog 117 #[.pointer (some ⟨d, 0, none⟩), .pointer (some ⟨d2, 0, none⟩)] w fun r w' => r = .returned (.agg #[.string (zau (za6 bO n).1)]) /\ Dec te pe w' d2 g cur (za6 bO n).2 /\ Fr (DS w b0 d d2) w w' /\ Bld w' b0 d (za6 bO n).1 (zau (za6 bO n).1) := by
 have hi : i64 n = n := by unfold i64 wrap64; omega
 have F1 : Fr (fun _ => False) w (w.alloc (.cells #[.string ⟨#[]⟩] 99)) := (znq _ w).alloc _; have eE : Blk (w.alloc (.cells #[.string ⟨#[]⟩] 99)) w.heap.size 99 #[.string ⟨#[]⟩] := znr w 99 _; have hdl : d < w.heap.size := let ⟨_, _, h, _⟩ := hB; h.lt
 have aw : Bld (w.alloc (.cells #[.string ⟨#[]⟩] 99)) b0 d l0 o0 := hB.fr F1 (fun e => e) (fun _ _ _ e => e); have cr := zjo hD F1 (fun e => e) (fun e => e) (fun e => e); have jK := reset_any b0 d l0 o0 _ aw; have cd := zmk F1; have cU := zmk eE; have aT := zmk cr; have oc := zmk aw; have HU := zmk hu; have HS := zmk hs; have HL := zmk ak
 have HG := zmk hgu; clear F1 eE aw cr hu hs ak hB hD hgu; go_enter func117, ntmps117
 go_wp2_with (first
  | (go_at_call 202
     refine jK.mono ?_; rintro r w1 ⟨rfl, bi, ar⟩; have kn : Dec te pe w1 d2 g cur st := by
      obtain ⟨cs, hb2, el, hlt2⟩ := zb8 aT.out; obtain ⟨_, _, fU, _⟩ := oc.out; exact zjo aT.out ar (fun e => zns hb2 fU (by decide) e) (fun e => zns el fU (by decide) e) (by omega)
     have hU := zcE te pe d2 g cur st w1 kn; rw [HG.out] at hU; dsimp only at hU
     rw [hi] at hU)
  | (go_at_call 172; refine hU.mono ?_; rintro r w2 ⟨rfl, lm, bJ⟩; refine Hid.out ?_))
 obtain ⟨cs2, hb2, el, hlt2⟩ := zb8 kn; have gP := zhY bi hb2 bJ; have hR3 : Blk w2 w.heap.size 99 #[.string ⟨#[]⟩] := (cU.out.fr ar (by omega)).fr bJ (fun e => zns (cU.out.fr ar (by omega)) hb2 (by decide) e); have iH : Fr (DS w b0 d d2) w w2 := ((cd.out.mono (S' := DS w b0 d d2) (fun _ _ e => e.elim)).trans ar (fun k _ e => .inr (.inl e))).trans bJ (fun k _ e => .inl e)
 have bE := zmk gP; have eh := zmk lm; have aS := zmk hR3; have bx := zmk iH; have hdd : d2 ≠ d := by
  obtain ⟨_, _, fU, _⟩ := bi; exact zns hb2 fU (by decide)
 have oq : g ≠ d := by
  obtain ⟨_, _, fU, _⟩ := bi; exact zns el fU (by decide)
 clear gP lm hR3 iH hb2 el bi kn ar bJ hU jK cd cU aT; refine zmk ?_; go_wp2_with fail
 go_loopw [6] (fun vi wr => ∃ k : Nat, k <= n /\ vi = .int .i64 k /\ Hid (Bld wr b0 d (za6 bO k).1 ⟨#[]⟩) /\ Hid (Dec te pe wr d2 g cur (za6 bO k).2) /\ Hid (Fr (DS w b0 d d2) w wr) /\ Hid (Blk wr w.heap.size 99 #[.string ⟨#[]⟩])) (fun vi _ => n - (intOf vi).toNat)
 case atStart => exact ⟨0, zmv _, rfl, bE, eh, bx, aS⟩
 case round =>
  obtain ⟨k, hk, rfl, JB, JD, JF, JR⟩ := hrel; by_cases hlt : k < n
  ·obtain ⟨oe, kJ⟩ := HU.out k hlt
   have hlk := HL.out k; obtain ⟨lk, na⟩ := exE ((za6 bO k).1); obtain ⟨sk, mU⟩ := exE ((za6 bO k).2); have lZ : za6 bO (k + 1) = (lk ++ [((zb3 sk).1, (zb3 (zb3 sk).2).1)], (zb3 (zb3 sk).2).2) := by
    show ((za6 bO k).1 ++ [(gLab (za6 bO k).2).1], (gLab (za6 bO k).2).2) = _; rw [na, mU]; rfl
   rw [na] at JB hlk; rw [mU] at JD oe kJ; have q1 := ziy te pe d2 g cur sk wr JD.out oe; have jf := zmk lZ; clear lZ na mU; have hszw := JF.out.size
   go_wp2_with (first
    | (go_at_call 203
       refine (de).mono ?_; rintro r w2 ⟨g2', o2, c2, rfl, hne2, al, kn, ar⟩; have bi := zhY aw nu ar
       have mX := zh2 b0 d lk ⟨#[]⟩ ((zb3 sk).1, (zb3 (zb3 sk).2).1) g1' o1 c1 g2' o2 c2 w2 bi (by have := ai.size; have := ar.size; omega) (by omega) (fun j b hj => by
        have h1 := jH j b hj
        rw [ar.cell (p := ⟨g1', o1 + j, none⟩) (zmr _ _ h1) hne1]; exact h1) al)
    | (go_at_call 203
       refine q1.mono ?_; rintro r w1 ⟨g1', o1, c1, rfl, hne1, jH, cr, ai⟩; have de := ziy te pe d2 g cur (zb3 sk).2 w1 cr kJ; obtain ⟨cs1, lg, _, _⟩ := zb8 JD.out; obtain ⟨cs1', nu, _, _⟩ := zb8 cr
       have aw := zhY JB.out lg ai)
    | (go_at_call 204; refine mX.mono ?_; rintro r w3 ⟨rfl, gP, bJ⟩; refine Hid.out ?_))
   obtain ⟨cs3, pV, pI, _⟩ := zb8 kn; have F2 : Fr (DS w b0 d d2) w w2 := (JF.out.trans ai (fun k _ e => .inl e)).trans ar (fun k _ e => .inl e); have hR2 : Blk w2 w.heap.size 99 #[.string ⟨#[]⟩] := (JR.out.fr ai (fun e => zns JR.out lg (by decide) e)).fr ar (fun e => zns (JR.out.fr ai (fun e => zns JR.out lg (by decide) e)) nu (by decide) e)
   have NB : Hid (Bld w3 b0 d (za6 bO (k + 1)).1 ⟨#[]⟩) := zmk (by rw [jf.out]; exact gP)
   have ND : Hid (Dec te pe w3 d2 g cur (za6 bO (k + 1)).2) := zmk (by
    rw [jf.out]
    exact zjo kn bJ (ziC pV hdd (by decide)) (ziC pI oq (by decide)) (fun e => by rcases e with e | ⟨e, _⟩ <;> omega))
   have NF : Hid (Fr (DS w b0 d d2) w w3) := zmk (Fr.trans F2 bJ (fun k hk e => DS.back F2 k hk (.inr e))); have NR : Hid (Blk w3 w.heap.size 99 #[.string ⟨#[]⟩]) := zmk (hR2.fr bJ (ziC hR2 (by omega) (by decide))); clear gP bJ kn ar bi mX al de cr jH ai aw lg nu pV pI F2 hR2 q1; refine zmk ?_; go_wp2_with fail
   go_roundw
   case rel => exact ⟨k + 1, by omega, by go_num, NB, ND, NF, NR⟩
   case measure => simp [intOf]; omega
  ·obtain rfl : k = n := by omega
   have hL := zfy b0 d (za6 bO k).1 wr JB.out (by rw [HL.out]; omega) HS.out; obtain ⟨cs, fU, ki, _⟩ := zb8 JD.out; have HBQ := zmk fU; have HGQ := zmk ki; clear fU ki
   go_wp2_with (go_at_call 132
                refine hL.mono ?_; rintro r w4 ⟨rfl, lq, dw⟩; have ou := JR.out.fr dw (show ¬ w.heap.size = d by omega); have k4 := ou.cell 0; have z4 := ou.frozen 0
                simp at k4)
   have li : Blk (w4.setCell ⟨w.heap.size, 0, none⟩ (.string (zau (za6 bO k).1))) w.heap.size 99 #[.string (zau (za6 bO k).1)] := by simpa using ou.set_ 0 (.string (zau (za6 bO k).1))
   have hF5 : Fr (DS w b0 d d2) w (w4.setCell ⟨w.heap.size, 0, none⟩ (.string (zau (za6 bO k).1))) := (JF.out.trans dw (fun k _ e => .inr (.inl e))).setCell (p := ⟨w.heap.size, 0, none⟩) (.inr (zmw _)) _; have iB : d2 ≠ w.heap.size := zns HBQ.out JR.out (by decide); have hcg : g ≠ w.heap.size := zns HGQ.out JR.out (by decide)
   have jM : Dec te pe (w4.setCell ⟨w.heap.size, 0, none⟩ (.string (zau (za6 bO k).1))) d2 g cur (za6 bO k).2 :=
    zjo (zjo JD.out dw hdd oq (by omega)) (Fr.at_ w4 w.heap.size 0 _) iB hcg (by omega)
   have ow : Bld (w4.setCell ⟨w.heap.size, 0, none⟩ (.string (zau (za6 bO k).1))) b0 d (za6 bO k).1 (zau (za6 bO k).1) := lq.fr (Fr.at_ w4 w.heap.size 0 _) (by omega) (fun g' _ hg e => by
    obtain ⟨cs, hg⟩ := hg
    exact zns hg ou (by decide) e)
   generalize w4.setCell ⟨w.heap.size, 0, none⟩ (.string (zau (za6 bO k).1)) = w7 at li hF5 jM ow ⊢; refine bodyPost_ret (results_cell_row (P := prog) rfl _ _ w.heap.size 99 #[.string (zau (za6 bO k).1)] (0, 0) _ rfl li underlying99 rfl (by kernel_rfl)) rfl ?_; exact ⟨rfl, jM, hF5, ow⟩
end Go.Proofs.YtbkookiigkckdaaGreatDoor
