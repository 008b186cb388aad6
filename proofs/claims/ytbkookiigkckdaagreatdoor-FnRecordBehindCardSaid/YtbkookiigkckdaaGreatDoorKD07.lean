/- Merged. -/
import Derived.Test.YtbkookiigkckdaaGreatDoorKD03
import Derived.Test.YtbkookiigkckdaaGreatDoorKD04
import Derived.Test.YtbkookiigkckdaaGreatDoorKD05
import Derived.Test.YtbkookiigkckdaaGreatDoorKD06
import Derived.Lib.EndianMore
import Derived.Lib.LazyBuf
import Derived.Lib.BufferWrite
import Derived.Test.YtbkookiigkckdaaGreatDoorRows
import Derived.Test.YtbkookiigkckdaaGreatDoorTie
import Derived.Test.YtbkookiigkckdaaGreatDoorCards
import Derived.ChangeSame
import Derived.ChangeVars
import Derived.JoinedOf
import Derived.ProofKit
import Derived.LaidMore
import Derived.OpenShut
import Derived.Stop.Joined
import Derived.Stop.LaidErr
import Derived.LaidLaws
import Derived.SevenTiedAt
set_option linter.unusedVariables false
set_option linter.unusedSimpArgs false
set_option maxRecDepth 100000
set_option maxHeartbeats 8000000
namespace Go.Proofs.YtbkookiigkckdaaGreatDoor
open Go.RowKit Go.Proofs.Tryz
theorem uvFrom_uv : ∀ (i x acc : Nat) (r : List UInt8), i <= 9 -> x * 2 ^ (7 * i) < 18446744073709551616 ->
 Lib.uvarintFrom i acc (Lib.uvarint x ++ r) = (acc + x * 2 ^ (7 * i), (i : Int) + (Lib.uvarint x).length) := by
 intro i x; induction x using Nat.strongRecOn generalizing i with
 | _ x ih =>
   intro acc r hi hx; rcases zmK x 128 with h | h
   ·rw [Lib.uvarint_small h]
    show Lib.uvarintFrom i acc (x.toUInt8 :: r) = _; have hn : (x.toUInt8).toNat = x := by simp; omega
    rw [Lib.uvarintFrom, znd (by omega), if_pos (by omega), hn]; rw [znd]
    ·simp
    ·rintro ⟨rfl, h2⟩
     simp at hx; omega
   ·rw [Lib.uvarint_big h]
    show Lib.uvarintFrom i acc ((x % 128 + 128).toUInt8 :: (Lib.uvarint (x / 128) ++ r)) = _; have hn : ((x % 128 + 128).toUInt8).toNat = x % 128 + 128 := by simp; omega
    have hi9 : i < 9 := by
     rcases zmK i 9 with h' | h'
     ·exact h'
     ·obtain rfl : i = 9 := by omega
      simp at hx; omega
    have hp : 2 ^ (7 * (i + 1)) = 128 * 2 ^ (7 * i) := by rw [Nat.mul_add, Nat.pow_add]; simp [Nat.mul_comm]
    have dS : (x / 128) * 2 ^ (7 * (i + 1)) <= x * 2 ^ (7 * i) := by
     rw [hp, <- Nat.mul_assoc]; exact zmu _ (Nat.div_mul_le_self x 128)
    rw [Lib.uvarintFrom, znd (by omega), znd (by omega), hn, ih (x / 128) (by omega) (i + 1) _ r (by omega) (by omega)]; have he : x * 2 ^ (7 * i) = x % 128 * 2 ^ (7 * i) + x / 128 * 2 ^ (7 * (i + 1)) := by
     rw [hp, <- Nat.mul_assoc, <- Nat.add_mul]; congr 1; omega
    have e1 : (x % 128 + 128) % 128 = x % 128 := by omega
    rw [e1, he]; simp only [zmz]; refine Prod.ext (by simp only []; omega) (by simp only []; omega)
theorem zez (x : Nat) (hx : x < 18446744073709551616) (r : List UInt8) : gUv (some (Lib.uvarint x ++ r)) = (x, some r) := by
 have h : Lib.uvarintDec (Lib.uvarint x ++ r) = (x, ((Lib.uvarint x).length : Int)) := by
  rw [Lib.uvarintDec, uvFrom_uv 0 x 0 r (by omega) (by simpa using hx)]; simp
 have hp := Lib.uvarint_pos x; unfold gUv; simp only [h]; rw [if_pos (by omega)]; simp
theorem unzz (x : Int) : Lib.unzigzag (Lib.zigzag x) = x := by
 unfold Lib.unzigzag Lib.zigzag; split <;> split <;> omega
theorem zcd (x : Int) (h0 : -9223372036854775808 <= x) (h1 : x <= 9223372036854775807) (r : List UInt8) : zaJ (some (Lib.uvarint (Lib.zigzag x) ++ r)) = (x, some r) := by
 unfold zaJ; rw [zez _ (by unfold Lib.zigzag; split <;> omega), unzz]
theorem zaT (v : Nat) (hv : v < 18446744073709551616) (r : List UInt8) : zac (some (Lib.beBytes 8 v ++ r)) = (v, some r) := by
 have h := Lib.beNat_beBytes 8 v (by simpa using hv); have hl := zmr 8 v; generalize Lib.beBytes 8 v = l at h hl ⊢
 match l, hl with
 | [b0, b1, b2, b3, b4, b5, b6, b7], _ => rw [<- h]; rfl
theorem zkb (t : Int) (h0 : -9223372036854775808 <= t) (h1 : t <= 9223372036854775807) : i64 (u64 t) = t := by
 unfold i64 u64 wrap64; omega
theorem ref_back (a b : Nat) (ha : a < 18446744073709551616) : u64 (wrap64 (wrap64 b + wrap64 (wrap64 a - wrap64 b))) = a := by
 have h : wrap64 (wrap64 b + wrap64 (wrap64 a - wrap64 b)) % 18446744073709551616 = (a : Int) := by unfold wrap64; omega
 rw [u64, h]; rfl
theorem zkG (a b : Int) (h0 : -9223372036854775808 <= a) (h1 : a <= 9223372036854775807) : wrap64 (b + wrap64 (a - b)) = a := by unfold wrap64; omega
theorem zlc {br : Nat} {bt x y : Int} {v : Nat} {s0 s1 s2 s3 : St} (h1 : zaJ s0 = (x, s1)) (h2 : zaJ s1 = (y, s2)) (h3 : zac s2 = (v, s3)) : zbG br bt s0 = (⟨u64 (wrap64 (i64 br + x)), wrap64 (bt + y), v⟩, s3) := by
 unfold zbG; rw [h1]; show (Smp.mk _ (wrap64 (bt + (zaJ s1).1)) (zac (zaJ s1).2).1, (zac (zaJ s1).2).2) = _; rw [h2]; show (Smp.mk _ _ (zac s2).1, (zac s2).2) = _; rw [h3]
theorem zjK (f s : Smp) (hf : f.wf) (hs : s.wf) (r : List UInt8) : zbG f.ref f.t (some (zbq f s ++ r)) = (s, some r) := by
 have e0 : zbq f s ++ r = Lib.uvarint (Lib.zigzag (zmd f s)) ++ (Lib.uvarint (Lib.zigzag (dT f s)) ++ (Lib.beBytes 8 s.v ++ r)) := by simp only [zbq, zmk]
 rw [e0, zlc (zcd (zmd f s) (zae _).1 (zae _).2 _) (zcd (dT f s) (zae _).1 (zae _).2 _) (zaT _ hs.2.2.2 _)]; show (Smp.mk (u64 (wrap64 (wrap64 f.ref + wrap64 (wrap64 s.ref - wrap64 f.ref)))) (wrap64 (f.t + wrap64 (s.t - f.t))) s.v, some r) = _; rw [ref_back _ _ hs.1, zkG _ _ hs.2.1 hs.2.2.1]
theorem zhB (f s : Smp) : ∃ c r, zbq f s = c :: r := by
 have := Lib.uvarint_pos (Lib.zigzag (zmd f s)); rcases h : zbq f s with _ | ⟨c, r⟩
 ·have : (zbq f s).length = 0 := by rw [h]; rfl
  unfold zbq at this; simp only [zmi] at this; omega
 ·exact ⟨c, r, rfl⟩
theorem zf9 (f : Smp) (hf : f.wf) : ∀ (l : List Smp) (k : Nat) (acc : List Smp), (∀ s ∈ l, s.wf) -> l.length <= k -> zbh f.ref f.t k (some (l.flatMap (zbq f))) acc = (acc ++ l, some [])
 | [], k, acc, _, _ => by cases k <;> simp [zbh]
 | s :: l, 0, acc, _, h => by simp at h
 | s :: l, k + 1, acc, hw, h => by
   obtain ⟨c, r, e⟩ := zhB f s; have bg := zjK f s hf (hw s (by simp)) (l.flatMap (zbq f)); rw [zmw]; rw [e] at bg ⊢; show zbh f.ref f.t (k + 1) (some (c :: (r ++ l.flatMap (zbq f)))) acc = _; have js : zbG f.ref f.t (some (c :: (r ++ l.flatMap (zbq f)))) = (s, some (l.flatMap (zbq f))) := bg; rw [zbh, js]; simp only []
   rw [zf9 f hf l k (acc ++ [s]) (fun x hx => hw x (by simp [hx])) (by simpa using h)]; simp
theorem zid (f : Smp) (l : List Smp) : l.length <= (l.flatMap (zbq f)).length := by
 induction l with
 | nil => simp
 | cons s l ih =>
   obtain ⟨c, r, e⟩ := zhB f s; rw [zmw, zmi, e]; simp only [zmz]; omega
theorem dec_enc (l : List Smp) (hl : ∀ s ∈ l, s.wf) : zan (zaE l) = some l := by
 rcases l with _ | ⟨f, r⟩
 ·rfl
 ·have hf := hl f (by simp)
  have hn := zid f (f :: r); obtain ⟨X, hX⟩ := exE ((f :: r).flatMap (zbq f)); have h1 := zaT f.ref hf.1 (Lib.beBytes 8 (u64 f.t) ++ X); have h2 := zaT (u64 f.t) (zkF _) X; have hL := zf9 f hf (f :: r) (Lib.beBytes 8 f.ref ++ (Lib.beBytes 8 (u64 f.t) ++ X)).length [] hl (by simp only [zmi]; rw [<- hX]; omega); rw [hX] at hL
  have e0 : zaE (f :: r) = 2 :: (Lib.beBytes 8 f.ref ++ (Lib.beBytes 8 (u64 f.t) ++ X)) := by
   rw [<- hX]; simp only [zaE, zd3, zmk]; rfl
  rw [e0, zan, if_pos rfl, znd (by
   intro h; have := zm7 List.length h
   simp [zmr] at this)]
  have e3 : zav (zac (some (Lib.beBytes 8 f.ref ++ (Lib.beBytes 8 (u64 f.t) ++ X)))).2 = (f.t, some X) := by
   rw [h1]; show (i64 (zac (some (Lib.beBytes 8 (u64 f.t) ++ X))).1, (zac (some (Lib.beBytes 8 (u64 f.t) ++ X))).2) = _; rw [h2]; show (i64 (u64 f.t), some X) = _; rw [zkb _ hf.2.1 hf.2.2.1]
  rw [e3, h1]; show (match zbh f.ref f.t _ (some X) [] with | (l, some _) => some l | (_, none) => none) = _; rw [hL]; rfl
def zaj {α : Type} (step : St -> α × St) : Nat -> St -> List α -> List α × St
 | k + 1, some (c :: r), acc => zaj step k (step (some (c :: r))).2 (acc ++ [(step (some (c :: r))).1])
 | _, st, acc => (acc, st)
theorem zgn {α : Type} (step : St -> α × St) (enc : α -> List UInt8) (Q : α -> Prop) (hs : ∀ x r, Q x -> step (some (enc x ++ r)) = (x, some r)) (hp : ∀ x, ∃ c r, enc x = c :: r) :
 ∀ (l : List α) (k : Nat) (acc : List α), (∀ x ∈ l, Q x) -> l.length <= k -> zaj step k (some (l.flatMap enc)) acc = (acc ++ l, some [])
 | [], k, acc, _, _ => by cases k <;> simp [zaj]
 | x :: l, 0, acc, _, h => by simp at h
 | x :: l, k + 1, acc, hw, h => by
   obtain ⟨c, r, e⟩ := hp x; have bg := hs x (l.flatMap enc) (hw x (by simp)); rw [zmw]; rw [e] at bg ⊢; show zaj step (k + 1) (some (c :: (r ++ l.flatMap enc))) acc = _; have js : step (some (c :: (r ++ l.flatMap enc))) = (x, some (l.flatMap enc)) := bg; rw [zaj, js]; simp only []
   rw [zgn step enc Q hs hp l k (acc ++ [x]) (fun y hy => hw y (by simp [hy])) (by simpa using h)]; simp
def zbn {α : Type} (t : UInt8) (step : St -> α × St) (xs : List UInt8) : Option (List α) :=
 match xs with
 | [] => none
 | b :: rest => if b = t then (match zaj step rest.length (some rest) [] with
    | (l, some _) => some l
    | (_, none) => none) else none
theorem flat_pos {α : Type} (enc : α -> List UInt8) (hp : ∀ x, ∃ c r, enc x = c :: r) (l : List α) : l.length <= (l.flatMap enc).length := by
 induction l with
 | nil => simp
 | cons s l ih =>
   obtain ⟨c, r, e⟩ := hp s; rw [zmw, zmi, e]; simp only [zmz]; omega
theorem zej {α : Type} (t : UInt8) (step : St -> α × St) (enc : α -> List UInt8) (Q : α -> Prop) (hs : ∀ x r, Q x -> step (some (enc x ++ r)) = (x, some r)) (hp : ∀ x, ∃ c r, enc x = c :: r) (l : List α) (hl : ∀ x ∈ l, Q x) :
 zbn t step (t :: l.flatMap enc) = some l := by
 rw [zbn, if_pos rfl, zgn step enc Q hs hp l _ [] hl (flat_pos enc hp l)]; rfl
structure Mrk where
 ref : Nat
 mm : Nat
def Mrk.wf (s : Mrk) : Prop := s.ref < 18446744073709551616 /\ s.mm < 18446744073709551616
def zbQ (st : St) : Mrk × St := (⟨(zac st).1, (zac (zac st).2).1⟩, (zac (zac st).2).2)
def zct (s : Mrk) : List UInt8 := Lib.beBytes 8 s.ref ++ Lib.beBytes 8 s.mm
theorem zlR (s : Mrk) : ∃ c r, zct s = c :: r := by
 rcases h : zct s with _ | ⟨c, r⟩
 ·have := zm7 List.length h
  simp [zct, zmr] at this
 ·exact ⟨c, r, rfl⟩
theorem zlm {a b : Nat} {s0 s1 s2 : St} (h1 : zac s0 = (a, s1)) (h2 : zac s1 = (b, s2)) : zbQ s0 = (⟨a, b⟩, s2) := by
 unfold zbQ; rw [h1]; show (Mrk.mk a (zac s1).1, (zac s1).2) = _; rw [h2]
theorem zj0 (s : Mrk) (r : List UInt8) (hs : s.wf) : zbQ (some (zct s ++ r)) = (s, some r) := by
 have e0 : zct s ++ r = Lib.beBytes 8 s.ref ++ (Lib.beBytes 8 s.mm ++ r) := by simp only [zct, zmk]
 rw [e0, zlm (zaT _ hs.1 _) (zaT _ hs.2 _)]
def zba (l : List Mrk) : List UInt8 := 5 :: l.flatMap zct
def zaG (xs : List UInt8) : Option (List Mrk) := zbn 5 zbQ xs
theorem zhf (l : List Mrk) (hl : ∀ s ∈ l, s.wf) : zaG (zba l) = some l := zej 5 zbQ zct Mrk.wf zj0 zlR l hl
structure Stn where
 ref : Nat
 lo : Int
 hi : Int
def Stn.wf (s : Stn) : Prop := s.ref < 18446744073709551616 /\ (-9223372036854775808 <= s.lo /\ s.lo <= 9223372036854775807) /\ (-9223372036854775808 <= s.hi /\ s.hi <= 9223372036854775807)
def zbw (st : St) : Stn × St := (⟨(zac st).1, (zaJ (zac st).2).1, (zaJ (zaJ (zac st).2).2).1⟩, (zaJ (zaJ (zac st).2).2).2)
def zb8 (s : Stn) : List UInt8 := Lib.beBytes 8 s.ref ++ (Lib.uvarint (Lib.zigzag s.lo) ++ Lib.uvarint (Lib.zigzag s.hi))
theorem zlP (s : Stn) : ∃ c r, zb8 s = c :: r := by
 rcases h : zb8 s with _ | ⟨c, r⟩
 ·have := zm7 List.length h
  simp [zb8, zmr] at this
 ·exact ⟨c, r, rfl⟩
theorem zlb {a : Nat} {b c : Int} {s0 s1 s2 s3 : St} (h1 : zac s0 = (a, s1)) (h2 : zaJ s1 = (b, s2)) (h3 : zaJ s2 = (c, s3)) : zbw s0 = (⟨a, b, c⟩, s3) := by
 unfold zbw; rw [h1]; show (Stn.mk a (zaJ s1).1 (zaJ (zaJ s1).2).1, (zaJ (zaJ s1).2).2) = _; rw [h2]; show (Stn.mk a b (zaJ s2).1, (zaJ s2).2) = _; rw [h3]
theorem zjI (s : Stn) (r : List UInt8) (hs : s.wf) : zbw (some (zb8 s ++ r)) = (s, some r) := by
 have e0 : zb8 s ++ r = Lib.beBytes 8 s.ref ++ (Lib.uvarint (Lib.zigzag s.lo) ++ (Lib.uvarint (Lib.zigzag s.hi) ++ r)) := by simp only [zb8, zmk]
 rw [e0, zlb (zaT _ hs.1 _) (zcd _ hs.2.1.1 hs.2.1.2 _) (zcd _ hs.2.2.1 hs.2.2.2 _)]
def zkk (l : List Stn) : List UInt8 := 3 :: l.flatMap zb8
def zaL (xs : List UInt8) : Option (List Stn) := zbn 3 zbw xs
theorem zif (l : List Stn) (hl : ∀ s ∈ l, s.wf) : zaL (zkk l) = some l := zej 3 zbw zb8 Stn.wf zjI zlP l hl
def Mrk.c (s : Mrk) : List Value := [.int .u64 s.ref, .int .u64 s.mm]
theorem info166 : (prog.info? 166).map (fun i => (i.zero, i.size, i.bytes)) = some (some (.agg #[.int .u64 0, .int .u64 0]), 2, 16) := by kernel_rfl
theorem info168 : (prog.info? 168).map (fun i => (i.zero, i.size, i.bytes)) = some (some (.agg #[.int .u64 0, .int .u64 0]), 2, 16) := by kernel_rfl
theorem zby {α : Type} (f : α -> List Value) (h3 : ∀ x, (f x).length = 2) : ∀ (l : List α) (k : Nat) (x : α), l[k]? = some x -> ∀ j, j < 2 -> (l.flatMap f)[k * 2 + j]? = (f x)[j]?
 | [], k, x, h, j, hj => by simp at h
 | y :: l, 0, x, h, j, hj => by
   simp at h; subst h; rw [zmw, zm4 (by rw [h3]; omega)]; simp
 | y :: l, k + 1, x, h, j, hj => by
   rw [zmw, zm5 (by rw [h3]; omega), h3, show (k + 1) * 2 + j - 2 = k * 2 + j by omega]; exact zby f h3 l k x (by simpa using h) j hj
def zhj (w : World) (l : List Mrk) (r : Ending) (w' : World) : Prop :=
 ∃ v, r = .returned v /\ w'.ownsRow w.heap.size 166 2 v l.length (l.flatMap Mrk.c) /\ z_F w w'
theorem zew (P : Nat -> Prop) (v : Value) (l : List Mrk) (w : World) (h : Sl P w v 2 l.length (l.flatMap Mrk.c)) (hl : l.length <= 1099511627776) :
 Calls prog 80 #[v] w (zhj w l) := by
 obtain ⟨A, c, rfl, ai, aQ, hr⟩ := h; obtain ⟨n, hn⟩ := exE l.length; rw [hn] at hr aQ hl ⊢; have HN := zmh hn; have HR := zmh hr; obtain ⟨i0, aC, az, ay, aB⟩ := info_parts info166; clear hn hr ai; go_enter func80, ntmps80; go_wp2
 go_loopw [2, 7] (fun v i wr => ∃ k : Nat, k <= n /\ i = .int .i64 k /\ wr.ownsRow w.heap.size 166 2 v k ((l.take k).flatMap Mrk.c) /\ z_F w wr) (fun _ i _ => n - (intOf i).toNat)
 case atStart => exact ⟨0, zms _, rfl, zmv _ _ _ _, znl _ _⟩
 case round =>
  obtain ⟨k, hk, rfl, ab, hf⟩ := hrel; by_cases hlt : k < n
  ·obtain ⟨g, off, rfl, _, aa⟩ := HR.out (by omega)
   obtain ⟨x, hx⟩ : ∃ x, l[k]? = some x := ⟨_, zmj (by rw [HN.out]; exact hlt)⟩; have cc : ∀ j, j < 2 -> ∀ u, (Mrk.c x)[j]? = some u -> wr.cell? ⟨g, off + (k * 2 + j), none⟩ = some u := fun j hj u hu => by
    have := aa (k * 2 + j) u (by rw [zby Mrk.c (fun _ => rfl) l k x hx j hj]; exact hu); rw [hf.cell (p := ⟨g, off + (k * 2 + j), none⟩) (zmo w _ this) id]; exact this
   have c0 : wr.cell? ⟨g, off + k * 2, none⟩ = some (.int .u64 x.ref) := cc 0 (by omega) _ rfl; have c1 : wr.cell? ⟨g, off + k * 2 + 1, none⟩ = some (.int .u64 x.mm) := cc 1 (by omega) _ rfl; have HC := zmh aa; have HO := zmh ab; have HX := zmh hx; obtain ⟨a', n', k', rfl⟩ := zab ab; clear aa cc ab hx; go_wp2_with (at_builtin; refine Hid.out ?_)
   refine zmh ?_
   refine zaf _ rfl _ _ 160 160 rfl w.heap.size 166 i0 _ 2 16 underlying160 aC az ay aB rfl (by decide) _ k ((l.take k).flatMap Mrk.c) rfl ((HO.out.alloc _).alloc _) _ 1 (Mrk.c x) rfl (zaF underlying160 (zaH wr _ 166 (Mrk.c x).toArray) rfl (by simp [Mrk.c, Value.oneCell'])) (by unfold maxLen; omega) (by omega) (by first | omega | (simp; omega) | (have := hf.size; simp; omega)) ?_
   intro v' w2 ac ad av
   have af : w2.ownsRow w.heap.size 166 2 v' (k + 1) ((l.take (k + 1)).flatMap Mrk.c) := by rw [zam Mrk.c l k x HX.out]; exact ac
   have aq : z_F w w2 := ((hf.alloc _).alloc _).grown ad (fun g hg => .inr (((HO.out.lt g hg)).1)); have cD := zmh af; have bu := zmh aq; clear ac ad af aq hf c0 c1 av
   go_wp2; go_roundw
   case rel => exact ⟨k + 1, by omega, by go_num, cD.out, bu.out⟩
   case measure => simp [intOf]; omega
  ·go_wp2
   go_ret; obtain rfl : k = n := by omega
   refine ⟨_, rfl, ?_, hf⟩; rw [<- HN.out] at ab ⊢; rw [zmI] at ab; exact ab
theorem zhH (s : Mrk) : (zct s).length = 16 := by simp [zct, zmr]
theorem zha (ep : Value) (sv : Value) (P : Nat -> Prop) (v : Value) (xs : List UInt8) (l : List Mrk) (w : World) (h : Sl P w sv 2 l.length (l.flatMap Mrk.c)) (ab : w.ownsRow 0 5 1 v xs.length (bc xs)) (hl : xs.length <= 1073741824)
 (au : l.length <= 1073741824) (aD : ∀ s ∈ l, s.wf) (hP : ∀ g, P g -> g < w.heap.size /\ some g ≠ v.ownBlock) :
 Calls prog 95 #[ep, sv, v] w (zbP w v.ownBlock (xs ++ zba l)) := by
 obtain ⟨A, c, rfl, ai, aQ, hr⟩ := h; obtain ⟨a', n', k', rfl⟩ := zab ab; obtain ⟨n, hn⟩ := exE l.length; rw [hn] at aQ hr au ⊢; have hE := Enc.made (z := .int .u8 0) ab _ rfl; have hQ := zck w.heap.size _ xs 5 _ hE (by omega); have e2 : ((5 : UInt8).toNat : Int) = 5 := rfl; rw [e2] at hQ; have HN := zmh hn; have HR := zmh hr; have HP := zmh hP; have HE := zmh hE
 clear hE hr e2 hn ai hP; go_enter func95, ntmps95; go_wp2_with (go_at_call 180; refine hQ.mono ?_; rintro r1 w1 ⟨rfl, R⟩; refine Hid.out ?_)
 have cR := zmh R; clear R hQ; refine zmh ?_; go_wp2_with fail
 have cL : Fr (fun k => some k = (Value.slice a' n' k').ownBlock) w (w.alloc (.cells #[.slice a' n' k', .int .u8 0, .int .u8 0, .int .u8 0, .int .u8 0, .int .u8 0, .int .u8 0, .int .u8 0, .int .u8 0, .int .u8 0, .int .u8 0] 224)) := (znl _ w).alloc _; generalize dZ : w.alloc _ = WB at HE cR cL; have hB : w.heap.size < WB.heap.size := by rw [<- dZ]; simp
 clear dZ; have cS := zmh cL; clear cL; go_loopw [15] (fun i wr => ∃ k : Nat, k <= n /\ i = .int .i64 k /\ Put WB w.heap.size (Value.slice a' n' k').ownBlock xs ([5] ++ (l.take k).flatMap zct) wr) (fun i _ => n - (intOf i).toNat)
 case atStart => exact ⟨0, zms _, rfl, by simpa using cR.out⟩
 case round =>
  obtain ⟨k, hk, rfl, R⟩ := hrel; by_cases hlt : k < n
  ·obtain ⟨g, off, rfl, ga, aa⟩ := HR.out (by omega)
   have hg := HP.out g ga; obtain ⟨x, hx⟩ : ∃ x, l[k]? = some x := ⟨_, zmj (by rw [HN.out]; exact hlt)⟩; have eW := aD x (zmp hx)
   have dM : Fr (fun k => some k = (Value.slice a' n' k').ownBlock) w wr := cS.out.trans R.fr (fun k hk e => by
    rcases e with e | e
    ·omega
    ·exact e)
   have cc : ∀ j, j < 2 -> ∀ u, (Mrk.c x)[j]? = some u -> wr.cell? ⟨g, off + (k * 2 + j), none⟩ = some u := fun j hj u hu => by
    have := aa (k * 2 + j) u (by rw [zby Mrk.c (fun _ => rfl) l k x hx j hj]; exact hu); rw [dM.cell (p := ⟨g, off + (k * 2 + j), none⟩) hg.1 hg.2]; exact this
   have d0 : wr.cell? ⟨g, off + k * 2, none⟩ = some (.int .u64 x.ref) := cc 0 (by omega) _ rfl; have d1 : wr.cell? ⟨g, off + k * 2 + 1, none⟩ = some (.int .u64 x.mm) := cc 1 (by omega) _ rfl; have bI : ([(5 : UInt8)] ++ (l.take k).flatMap zct).length <= 1 + k * 16 := by
    have h1 := zdN zct 16 (fun s => Nat.le_of_eq (zhH s)) (l.take k); have h2 : (l.take k).length <= k := znh _ _; have h3 : (l.take k).length * 16 <= k * 16 := zmu _ h2; rw [zmi, zmy]; omega
   have RA := R.alloc (.cells #[.int .u64 x.ref, .int .u64 x.mm] 166); have ee := zag RA (f := 181) (args := #[.pointer (some ⟨w.heap.size, 0, none⟩), .int .u64 x.ref]) (zs := Lib.beBytes 8 x.ref) (fun o2 he => zcl _ o2 _ _ eW.1 _ he (by rw [zmi]; omega)); have dd := znm wr 166 #[.int .u64 x.ref, .int .u64 x.mm]; have x0 := dd.cell 0; simp at x0; have HX := zmh hx
   have cT := zmh dd; have HL := zmh bI; clear hx dM cc dd bI aa; go_wp2_with (go_at_call 181; refine ee.mono ?_; rintro rA wA ⟨rfl, RB, KB⟩; refine Hid.out ?_)
   have dd := KB.out _ _ _ (by decide) (by decide) cT.out; have x1 := dd.cell 1; simp at x1; have dc := zag RB (f := 181) (args := #[.pointer (some ⟨w.heap.size, 0, none⟩), .int .u64 x.mm]) (zs := Lib.beBytes 8 x.mm) (fun o2 he => zcl _ o2 _ _ eW.2 _ he (by have := HL.out; rw [zmi, zmi, zmr]; omega)); clear ee d0 d1 x0 dd; refine zmh ?_
   go_wp2_with (go_at_call 181; refine dc.mono ?_; rintro rD wD ⟨rfl, RD, KD⟩)
   have RE : Put WB w.heap.size (Value.slice a' n' k').ownBlock xs ([5] ++ (l.take (k + 1)).flatMap zct) wD := by
    rw [zal zct l k x HX.out]; simpa [zct, zmk] using RD
   have cM := zmh RE; clear RE RD RB dc x1 KB KD R RA; go_wp2; go_roundw
   case rel => exact ⟨k + 1, by omega, by go_num, cM.out⟩
   case measure => simp [intOf]; omega
  ·obtain rfl : k = n := by omega
   obtain ⟨oZ, dx, dX, fS⟩ := R; have hG := zd4 _ _ _ _ dx; have HEZ := zmh dx; have HZ := zmh dX; clear dx dX; go_wp2_with (go_at_call 116; refine hG.mono ?_; rintro rr w2 ⟨v2, rfl, rfl, af, bd⟩)
   go_ret; refine ⟨v2, rfl, ?_, cS.out.trans HZ.out (fun k hk e => ?_), ?_⟩
   ·have e1 : l.take k = l := zmq (by rw [HN.out]; exact zmt _)
    rw [e1] at af; simpa [zba] using af
   ·rcases e with e | e
    ·omega
    ·exact e
   ·rw [bd]
    rcases fS with h | ⟨k2, h, cI⟩
    ·exact .inl h
    ·exact .inr ⟨k2, h, by omega⟩
def ivc (p : Int × Int) : List Value := [.int .i64 p.1, .int .i64 p.2]
theorem info279 : (prog.info? 279).map (fun i => (i.zero, i.size, i.bytes)) = some (some (.agg #[.int .i64 0, .int .i64 0]), 2, 16) := by kernel_rfl
theorem info281 : (prog.info? 281).map (fun i => (i.zero, i.size, i.bytes)) = some (some (.agg #[.int .i64 0, .int .i64 0]), 2, 16) := by kernel_rfl
def IvEnds (t : TypeId) (w : World) (l : List (Int × Int)) (r : Ending) (w' : World) : Prop :=
 ∃ v, r = .returned v /\ w'.ownsRow w.heap.size t 2 v l.length (l.flatMap ivc) /\ z_F w w'
theorem zh5 (P : Nat -> Prop) (v : Value) (l : List (Int × Int)) (w : World) (h : Sl P w v 2 l.length (l.flatMap ivc)) (hl : l.length <= 1099511627776) :
 Calls prog 169 #[v] w (IvEnds 279 w l) := by
 obtain ⟨A, c, rfl, ai, aQ, hr⟩ := h; obtain ⟨n, hn⟩ := exE l.length; rw [hn] at hr aQ hl ⊢; have HN := zmh hn; have HR := zmh hr; obtain ⟨i0, aC, az, ay, aB⟩ := info_parts info279; clear hn hr ai; go_enter func169, ntmps169; go_wp2
 go_loopw [3, 8] (fun v i wr => ∃ k : Nat, k <= n /\ i = .int .i64 k /\ wr.ownsRow w.heap.size 279 2 v k ((l.take k).flatMap ivc) /\ z_F w wr) (fun _ i _ => n - (intOf i).toNat)
 case atStart => exact ⟨0, zms _, rfl, zmv _ _ _ _, znl _ _⟩
 case round =>
  obtain ⟨k, hk, rfl, ab, hf⟩ := hrel; by_cases hlt : k < n
  ·obtain ⟨g, off, rfl, _, aa⟩ := HR.out (by omega)
   obtain ⟨x, hx⟩ : ∃ x, l[k]? = some x := ⟨_, zmj (by rw [HN.out]; exact hlt)⟩; have cc : ∀ j, j < 2 -> ∀ u, (ivc x)[j]? = some u -> wr.cell? ⟨g, off + (k * 2 + j), none⟩ = some u := fun j hj u hu => by
    have := aa (k * 2 + j) u (by rw [zby ivc (fun _ => rfl) l k x hx j hj]; exact hu); rw [hf.cell (p := ⟨g, off + (k * 2 + j), none⟩) (zmo w _ this) id]; exact this
   have c0 : wr.cell? ⟨g, off + k * 2, none⟩ = some (.int .i64 x.1) := cc 0 (by omega) _ rfl; have c1 : wr.cell? ⟨g, off + k * 2 + 1, none⟩ = some (.int .i64 x.2) := cc 1 (by omega) _ rfl; have HC := zmh aa; have HO := zmh ab; have HX := zmh hx; obtain ⟨a', n', k', rfl⟩ := zab ab; clear aa cc ab hx; go_wp2_with (at_builtin; refine Hid.out ?_)
   refine zmh ?_; refine zaf _ rfl _ _ 145 145 rfl w.heap.size 279 i0 _ 2 16 underlying145 aC az ay aB rfl (by decide) _ k ((l.take k).flatMap ivc) rfl ((HO.out.alloc _).alloc _) _ 1 (ivc x) rfl (zaF underlying145 (zaH wr _ 279 (ivc x).toArray) rfl (by simp [ivc, Value.oneCell'])) (by unfold maxLen; omega) (by omega) (by have := hf.size; simp; omega) ?_
   intro v' w2 ac ad av
   have af : w2.ownsRow w.heap.size 279 2 v' (k + 1) ((l.take (k + 1)).flatMap ivc) := by rw [zam ivc l k x HX.out]; exact ac
   have aq : z_F w w2 := ((hf.alloc _).alloc _).grown ad (fun g hg => .inr (((HO.out.lt g hg)).1)); have cD := zmh af; have bu := zmh aq; clear ac ad af aq hf c0 c1 av
   go_wp2; go_roundw
   case rel => exact ⟨k + 1, by omega, by go_num, cD.out, bu.out⟩
   case measure => simp [intOf]; omega
  ·go_wp2
   go_ret; obtain rfl : k = n := by omega
   refine ⟨_, rfl, ?_, hf⟩; rw [<- HN.out] at ab ⊢; rw [zmI] at ab; exact ab
theorem zf2 (P : Nat -> Prop) (v : Value) (l : List (Int × Int)) (w : World) (h : Sl P w v 2 l.length (l.flatMap ivc)) (hl : l.length <= 1099511627776) :
 Calls prog 76 #[v] w (IvEnds 281 w l) := by
 obtain ⟨A, c, rfl, ai, aQ, hr⟩ := h; obtain ⟨n, hn⟩ := exE l.length; rw [hn] at hr aQ hl ⊢; have HN := zmh hn; have HR := zmh hr; obtain ⟨i0, aC, az, ay, aB⟩ := info_parts info281; clear hn hr ai; go_enter func76, ntmps76; go_wp2
 go_loopw [3, 8] (fun v i wr => ∃ k : Nat, k <= n /\ i = .int .i64 k /\ wr.ownsRow w.heap.size 281 2 v k ((l.take k).flatMap ivc) /\ z_F w wr) (fun _ i _ => n - (intOf i).toNat)
 case atStart => exact ⟨0, zms _, rfl, zmv _ _ _ _, znl _ _⟩
 case round =>
  obtain ⟨k, hk, rfl, ab, hf⟩ := hrel; by_cases hlt : k < n
  ·obtain ⟨g, off, rfl, _, aa⟩ := HR.out (by omega)
   obtain ⟨x, hx⟩ : ∃ x, l[k]? = some x := ⟨_, zmj (by rw [HN.out]; exact hlt)⟩; have cc : ∀ j, j < 2 -> ∀ u, (ivc x)[j]? = some u -> wr.cell? ⟨g, off + (k * 2 + j), none⟩ = some u := fun j hj u hu => by
    have := aa (k * 2 + j) u (by rw [zby ivc (fun _ => rfl) l k x hx j hj]; exact hu); rw [hf.cell (p := ⟨g, off + (k * 2 + j), none⟩) (zmo w _ this) id]; exact this
   have c0 : wr.cell? ⟨g, off + k * 2, none⟩ = some (.int .i64 x.1) := cc 0 (by omega) _ rfl; have c1 : wr.cell? ⟨g, off + k * 2 + 1, none⟩ = some (.int .i64 x.2) := cc 1 (by omega) _ rfl; have HC := zmh aa; have HO := zmh ab; have HX := zmh hx; obtain ⟨a', n', k', rfl⟩ := zab ab; clear aa cc ab hx; go_wp2_with (at_builtin; refine Hid.out ?_)
   refine zmh ?_; refine zaf _ rfl _ _ 148 148 rfl w.heap.size 281 i0 _ 2 16 underlying148 aC az ay aB rfl (by decide) _ k ((l.take k).flatMap ivc) rfl ((HO.out.alloc _).alloc _) _ 1 (ivc x) rfl (zaF underlying148 (zaH wr _ 281 (ivc x).toArray) rfl (by simp [ivc, Value.oneCell'])) (by unfold maxLen; omega) (by omega) (by have := hf.size; simp; omega) ?_
   intro v' w2 ac ad av
   have af : w2.ownsRow w.heap.size 281 2 v' (k + 1) ((l.take (k + 1)).flatMap ivc) := by rw [zam ivc l k x HX.out]; exact ac
   have aq : z_F w w2 := ((hf.alloc _).alloc _).grown ad (fun g hg => .inr (((HO.out.lt g hg)).1)); have cD := zmh af; have bu := zmh aq; clear ac ad af aq hf c0 c1 av
   go_wp2; go_roundw
   case rel => exact ⟨k + 1, by omega, by go_num, cD.out, bu.out⟩
   case measure => simp [intOf]; omega
  ·go_wp2
   go_ret; obtain rfl : k = n := by omega
   refine ⟨_, rfl, ?_, hf⟩; rw [<- HN.out] at ab ⊢; rw [zmI] at ab; exact ab
theorem zdB (b : Nat) (w : World) : Calls prog 73 #[.float .f64 b] w fun r w' => r = .returned (.int .u64 b) /\ w = w' := by
 have h := ziD; go_enter func73, ntmps73; go_wp2_with fail
 go_ret; exact ⟨rfl, rfl⟩
theorem info113 : (prog.info? 113).map (fun i => (i.zero, i.size, i.bytes)) = some (some (.agg #[.int .u64 0, .int .i64 0, .int .u64 0]), 3, 24) := by kernel_rfl
def ReadEnds (w : World) (bb bp bo : Nat) (xs : List UInt8) (r : Ending) (w' : World) : Prop :=
 r = .returned (.tuple #[]) /\ Fr (fun k => k = bb ∨ k = bp ∨ k = bo) w w' /\ Blk w' bo 4 #[.bool (zan xs).isSome] /\
  ∃ lv, Blk w' bp 54 #[.slice none 0 0, lv, .slice none 0 0, .slice none 0 0, .slice none 0 0, .slice none 0 0, .slice none 0 0] /\ w'.ownsRow w.heap.size 113 3 lv ((zan xs).getD []).length (((zan xs).getD []).flatMap Smp.a)
theorem zf8 (br : Nat) (bt : Int) : ∀ (k : Nat) (st : St) (acc : List Smp), (zbh br bt k st acc).1.length <= acc.length + k
 | 0, st, acc => by simp [zbh]
 | k + 1, none, acc => by simp [zbh]
 | k + 1, some [], acc => by simp [zbh]
 | k + 1, some (c :: r), acc => by
   have h := zf8 br bt k (zbG br bt (some (c :: r))).2 (acc ++ [(zbG br bt (some (c :: r))).1]); rw [zmi, zmy] at h; show (zbh br bt k (zbG br bt (some (c :: r))).2 (acc ++ [(zbG br bt (some (c :: r))).1])).1.length <= _; omega
theorem zhd (xs : List UInt8) : ((zan xs).getD []).length <= xs.length := by
 rcases xs with _ | ⟨b, rest⟩
 ·simp [zan]
 ·unfold zan
  simp only []; split
  ·split
   ·simp
   ·have h := zf8 (zac (some rest)).1 (zav (zac (some rest)).2).1 rest.length (zav (zac (some rest)).2).2 []
    split
    ·rename_i l' _ e
     rw [e] at h; simp at h ⊢; omega
    ·simp
  ·simp
theorem Rec.fr {te : TypeId} {pe : Value} {w w' : World} {g : Nat} {cur : Array Value} {xs : List UInt8} {v : Value} {S : Nat -> Prop} (h : Rec te pe w g cur xs v) (hf : Fr S w w') (hg : ¬ S g) (h2 : ¬ S 2) : Rec te pe w' g cur xs v := by
 obtain ⟨off, c, rfl, qe, hl, hm, hr, hE⟩ := h; refine ⟨off, c, rfl, qe.fr hf hg, hl, hm, hr, ?_⟩; rw [hf.cell (p := ⟨2, 0, none⟩) (zmo w _ hE) h2]; exact hE
theorem zhX {W w5 w6 : World} {b t : Nat} {cs : Array Value} {v5 : Value} {n : Nat} {xs : List Value} (h : Blk W b t cs) (ap : z_F W.drew w5) (ho : w5.ownsRow W.drew.heap.size 137 3 v5 n xs) (aR : Fr (fun k => some k = v5.ownBlock) w5 w6) : Blk w6 b t cs :=
 (h.drew.fr ap id).fr aR (fun e => by have h1 := (ho.lt b e.symm).1; have h2 : b < W.heap.size := h.lt; exact zm1 _ (zmG h2 h1))
theorem zkg {W w2 wr : World} {b t : Nat} {cs : Array Value} {v : Value} {n : Nat} {xs : List Value} {base : Nat} {o : Obj} (h : Blk W b t cs) (hg : ((W.alloc o).drew).grownBy w2 v.ownBlock) (aN : v.ownBlock ≠ some b) : Blk w2 b t cs :=
 ((h.alloc o).drew).grown hg (fun e => aN e.symm)
theorem zb4 {w : World} {base base' : Nat} {e e' : TypeId} {size pi n n' : Nat} {v v' : Value} {xs xs' : List Value} (h : w.ownsRow base e size v n xs) (h' : w.ownsRow base' e' pi v' n' xs') (aN : e ≠ e') : ∀ g, v.ownBlock = some g -> v'.ownBlock ≠ some g := by
 intro g hg; rcases h.2 with ⟨rfl, _⟩ | ⟨g', aK, cur, rfl, _, hh, _⟩
 ·simp [Value.ownBlock] at hg
 ·have : g' = g := by simpa [Value.ownBlock] using hg
  subst this; exact zak (t := e) h' hh (Ne.symm aN)
theorem zgc {w w' : World} {base : Nat} {o : Option Nat} {xs : List UInt8} {r : Ending} (h : zbf w base o xs r w') :
 ∃ v' e, r = .returned (.tuple #[v', e]) /\ w'.ownsRow base 137 3 v' ((zan xs).getD []).length (((zan xs).getD []).flatMap Smp.b) /\ Fr (fun k => some k = o) w w' /\ ((e = .nilIface /\ (zan xs).isSome = true) ∨ (∃ t a, e = .iface t a /\ (zan xs).isSome = false)) := by
 unfold zbf at h; rcases hd : zan xs with _ | l
 ·rw [hd] at h
  obtain ⟨hf, t, a, rfl⟩ := h; exact ⟨_, _, rfl, zmv _ _ _ _, hf, .inr ⟨_, _, rfl, rfl⟩⟩
 ·rw [hd] at h
  obtain ⟨hf, v', rfl, ho⟩ := h; exact ⟨_, _, rfl, ho, hf, .inl ⟨rfl, rfl⟩⟩
theorem zhV (te : TypeId) (pe : Value) (bb bk bq bp bo : Nat) (P : Nat -> Prop) (q0 q1 q2 q3 q4 q5 q6 v : Value) (xs : List UInt8) (w : World) (hb : Blk w bb 44 #[v]) (hv : Sl P w v 1 xs.length (bc xs)) (hk : Blk w bk 3 #[.int .i64 2]) (hq : Blk w bq 54 #[q0, q1, q2, q3, q4, q5, q6]) (hs : Sl P w q1 3 0 [])
 (hp : Blk w bp 54 #[.slice none 0 0, .slice none 0 0, .slice none 0 0, .slice none 0 0, .slice none 0 0, .slice none 0 0, .slice none 0 0]) (ho : Blk w bo 4 #[.bool false]) (hE : w.cell? ⟨2, 0, none⟩ = some (.iface te pe)) (bm : xs.length <= 1073741824)
 (dV : ∀ g, P g -> g ≠ bb) (dr : bp ≠ bq) (h2 : bb ≠ 2 /\ bp ≠ 2 /\ bo ≠ 2) :
 Calls prog 66 #[.pointer (some ⟨bb, 0, none⟩), .pointer (some ⟨bk, 0, none⟩), .pointer (some ⟨bq, 0, none⟩), .pointer (some ⟨bp, 0, none⟩), .pointer (some ⟨bo, 0, none⟩)] w (ReadEnds w bb bp bo xs) := by
 obtain ⟨i0, aC, az, ay, aB⟩ := info_parts zff; have HB := zmh hb; have HV := zmh hv; have HK := zmh hk; have HQ := zmh hq; have HS := zmh hs; have HP := zmh hp; have HO := zmh ho; have HE := zmh hE; have kA := zmh dV; have cA : ∃ A m c, v = .slice A m c := let ⟨A, c, h, _⟩ := hv; ⟨A, _, c, h⟩
 obtain ⟨A, m, c, rfl⟩ := cA; clear hb hv hk hq hs hp ho hE dV; go_enter func66, ntmps66; go_wp2_with (first | (go_at_call 67; refine (zdw _ _).mono ?_; rintro r w1 ⟨v1, rfl, ⟨a, rfl⟩, ah⟩; refine Hid.out ?_))
 have ax := ((HB.out.fr ah id).alloc (.cells #[.slice (some a) 0 0, .string ⟨#[]⟩, .slice none 0 0] 119)).alloc (.cells #[] 5); have b1 := ax.cell 0; simp at b1; clear ax; refine zmh ?_; go_wp2_with (at_builtin; refine Hid.out ?_)
 have eo := znk (base := w.heap.size) (e := 5) (size := 1) (w1.alloc (.cells #[.slice (some a) 0 0, .string ⟨#[]⟩, .slice none 0 0] 119)) #[] 0 (by have := ah.size; simp; omega) (zms _) rfl; have dw : z_F w ((w1.alloc (.cells #[.slice (some a) 0 0, .string ⟨#[]⟩, .slice none 0 0] 119)).alloc (.cells #[] 5)) := (ah.alloc _).alloc _; have bh := ah.size
 refine zmh ?_; have li : (w1.alloc (.cells #[.slice (some a) 0 0, .string ⟨#[]⟩, .slice none 0 0] 119)).heap.size = w1.heap.size + 1 := by simp
 rw [li] at eo; clear b1; generalize World.alloc _ (Obj.cells #[] 5) = WA at eo dw ⊢; have hsA := dw.size; have cd := zbp underlying44 (HV.out.fr dw z_i) (zfC xs)
 refine zaf _ rfl _ _ 44 44 rfl w.heap.size 5 i0 (.int .u8 0) 1 1 underlying44 aC az ay aB rfl (by decide) (.slice (some ⟨w1.heap.size + 1, 0, none⟩) 0 0) 0 [] rfl eo (.slice A m c) xs.length (bc xs) rfl cd (by unfold maxLen; omega) (by omega) (by omega) ?_; intro v' w2 ac ad av
 rw [zmM, zmT] at ac; obtain ⟨a2, k2, rfl⟩ := zaa ac; have eJ : ∀ k, (Value.slice (some ⟨w1.heap.size + 1, 0, none⟩) 0 0).ownBlock = some k -> w.heap.size <= k := fun k hk => by
  have hk : w1.heap.size + 1 = k := zm6 hk; omega
 have F2 : z_F w w2 := dw.grown ad (fun k hk => .inr (eJ k hk)); have dq : ∃ g2 aI, a2 = some ⟨g2, 0, none⟩ /\ w.heap.size <= g2 /\ Blk w2 g2 5 aI /\ xs.length <= k2 /\ k2 <= maxLen /\ aI.toList.take xs.length = bc xs := by
  rcases ac.2 with ⟨h, _⟩ | ⟨g2, aK, aI, h, h1, h3, h4, h5, _, h6⟩
  ·rw [h] at av
   rcases av with av | av <;> exact absurd av (by simp [Value.ownBlock])
  ·injection h with e1 e2 e3
   subst e3; exact ⟨g2, aI, e1, h1, h3, h4, h5, by simpa using h6⟩
 have cn : ∀ k, (Value.slice a2 xs.length k2).ownBlock = some k -> w.heap.size <= k := fun k hk => (ac.lt k hk).1; have lB := HB.out.lt; have gB := HB.out.fr F2 id; have y0 := gB.cell 0; have y1 := gB.frozen 0; simp at y0
 have F3 : Fr (fun k => k = bb) w (w2.setCell ⟨bb, 0, none⟩ (.slice a2 xs.length k2)) := (F2.mono (S' := fun k => k = bb) (fun _ _ e => e.elim)).setCell (p := ⟨bb, 0, none⟩) (.inl rfl) _; have O3 : (w2.setCell ⟨bb, 0, none⟩ (.slice a2 xs.length k2)).ownsRow w.heap.size 5 1 (.slice a2 xs.length k2) xs.length (bc xs) := zai ac (Fr.put_ w2 bb 0 _) (fun k hk e => by have := cn k hk; omega)
 have B3 : Blk (w2.setCell ⟨bb, 0, none⟩ (.slice a2 xs.length k2)) bb 44 #[.slice a2 xs.length k2] := by simpa using gB.set_ 0 (.slice a2 xs.length k2)
 have K3 := (HK.out.fr F3 (fun e => znn HK.out HB.out (by decide) e)).cell 0; have Q3 := HQ.out.fr F3 (fun e => znn HQ.out HB.out (by decide) e); have P3 := HP.out.fr F3 (fun e => znn HP.out HB.out (by decide) e); have O4 := HO.out.fr F3 (fun e => znn HO.out HB.out (by decide) e)
 have E3 : (w2.setCell ⟨bb, 0, none⟩ (.slice a2 xs.length k2)).cell? ⟨2, 0, none⟩ = some (.iface te pe) := by
  rw [F3.cell (p := ⟨2, 0, none⟩) (zmo w _ HE.out) (fun e => h2.1 e.symm)]; exact HE.out
 simp at K3; have bB := zmh F3; have eq := zmh O3; have bH := zmh B3; have c8 := zmh Q3; have eK := zmh P3; have dj := zmh O4; have dF := zmh E3; have ou := zmh cn; obtain ⟨g2, aI, rfl, dU, co, cI, dt, dp⟩ := dq
 have R3 : Rec te pe (w2.setCell ⟨bb, 0, none⟩ (.slice (some ⟨g2, 0, none⟩) xs.length k2)) g2 aI xs (.slice (some ⟨g2, 0, none⟩) xs.length k2) := by
  refine ⟨0, k2, rfl, co.far (p := ⟨bb, 0, none⟩) (by show g2 ≠ bb; omega) _, cI, ⟨by simp [maxLen] at dt; omega, by omega⟩, fun j u hu => ?_, E3⟩; rw [zmM, <- Array.getElem?_toList]; have hj : j < xs.length := by
   rcases zmK j xs.length with h | h
   ·exact h
   ·rw [zmL (by rw [zda]; exact h)] at hu; cases hu
  rw [<- dp, List.getElem?_take_of_lt hj] at hu; exact hu
 have bG := zmh R3; have lh := co.lt; clear R3 dt dp co; clear F2 F3 O3 B3 Q3 P3 O4 E3 gB eJ cn ac ad av cd eo dw ah; go_wp2_with fail
 generalize w2.setCell ⟨bb, 0, none⟩ (.slice (some ⟨g2, 0, none⟩) xs.length k2) = W3 at bB eq bH c8 eK dj dF bG ⊢; have fb := bG.out; have gq : g2 < W3.heap.size := let ⟨_, _, _, h, _⟩ := fb; h.lt
 have jj : 2 < W3.heap.size := zmo W3 _ dF.out; clear fb; have hS3 : Sl P W3.drew q1 3 ([] : List Smp).length (([] : List Smp).flatMap Smp.a) := by
  obtain ⟨A, c, rfl, h1, h2, _⟩ := HS.out; exact ⟨A, c, rfl, rfl, h2, fun h => absurd h (by simp)⟩
 have eD := zev P q1 [] W3.drew hS3 (by simp); have eZ : ∃ A m c, q1 = .slice A m c := let ⟨A, c, h, _⟩ := HS.out; ⟨A, _, c, h⟩
 obtain ⟨Aq, mq, cq, rfl⟩ := eZ; have x0 := bH.out.cell 0; have x1 := c8.out.cell 1; have kI : W3.drew.cell? ⟨bb, 0, none⟩ = some (.slice (some ⟨g2, 0, none⟩) xs.length k2) := x0; have jn : W3.drew.cell? ⟨bq, 1, none⟩ = some (.slice Aq mq cq) := x1; simp at x0 x1; clear y0 y1 K3
 go_region_held3 (fun w' => w'.cell? ⟨bb, 0, none⟩ = some (.slice (some ⟨g2, 0, none⟩) xs.length k2) /\ w'.cell? ⟨bq, 1, none⟩ = some (.slice Aq mq cq))
  ((first | (go_split_ands; refine ⟨?_, ?_⟩ <;> first | exact (bH.out.drew.fr ap id).cell 0 | exact (c8.out.drew.fr ap id).cell 1) | (go_split_ands; refine ⟨?_, ?_⟩ <;> first | exact KB.out.cell 0 | exact KQ.out.cell 1) | go_keep))
  ((first
    | (go_at_call 72; refine eD.mono ?_; rintro r5 w5 ⟨v5, rfl, al, ap⟩)
    | (go_at_call 71; refine (zhe te pe _ g2 W3.drew.heap.size aI xs _ v5 w5 (bG.out.fr (w := W3) (((znl (fun _ => False) W3).drew).same ap) id id) al ⟨gq, jj, ap.size⟩).mono ?_; rintro r6 w6 eE; obtain ⟨v6, e6, rfl, aJ, aR, cl⟩ := zgc eE; clear eE; have KB := zmh (zhX bH.out ap al aR); have KQ := zmh (zhX c8.out ap al aR))))
 have T6 : Fr (fun k => k = bb) w w6 := ((bB.out.trans (((znl (fun _ => False) W3).drew).same ap) (fun _ _ e => e.elim)).trans aR (fun k hk e => by
  have h1 := (al.lt k e.symm).1; have h2 := bB.out.size
  simp at h1; omega))
 have P6 := zhX eK.out ap al aR; have O6 := zhX dj.out ap al aR; have kM : w.heap.size <= W3.drew.heap.size := bB.out.size; have V6 := zah aJ kM; have kw := zmh T6; have jl := zmh P6; have fz := zmh O6; have fy := zmh V6; have kB := zmh cl; have kT := ap.size; have kS := aR.size
 have gR : ∀ k, v6.ownBlock = some k -> k < w6.heap.size := fun k hk => zaq aJ hk; clear x0 x1 kI jn eD T6 P6 O6 V6 cl al ap aJ aR KB KQ eq bH c8 eK dj dF bG bB; obtain ⟨l, hl⟩ := exE ((zan xs).getD []); rw [hl] at fy; have mP := zmh hl; clear hl; obtain ⟨a6, k6, rfl⟩ := zaa fy.out; go_wp2_with fail
 obtain ⟨n, hn⟩ := exE l.length; have HN := zmh hn; rw [hn] at fy gR ⊢; clear hn; obtain ⟨i1, gp, ei, dC, fi⟩ := info_parts info113
 go_loopw [81] (fun i wr => ∃ (k : Nat) (lv : Value), k <= n /\ i = .int .i64 k /\ Hid (Fr (fun j => j = bb ∨ j = bp) w wr) /\ Hid (wr.ownsRow w.heap.size 137 3 (.slice a6 n k6) n (l.flatMap Smp.b)) /\ Hid (Blk wr bo 4 #[.bool false]) /\
  Hid (Blk wr bp 54 #[.slice none 0 0, lv, .slice none 0 0, .slice none 0 0, .slice none 0 0, .slice none 0 0, .slice none 0 0]) /\ Hid (wr.ownsRow w.heap.size 113 3 lv k ((l.take k).flatMap Smp.a))) (fun i _ => n - (intOf i).toNat)
 case atStart => exact ⟨0, _, zms _, rfl, zmh (Fr.mono kw.out (fun _ _ e => Or.inl e)), fy, fz, jl, zmh (zmv _ _ _ _)⟩
 case round =>
  obtain ⟨k, lv, hk, rfl, RF, RV, RO, RP, RL⟩ := hrel; by_cases hlt : k < n
  ·obtain ⟨A7, c7, e7, _, _, jA⟩ := zno RV.out
   injection e7 with e7 _ nR; subst e7 nR; obtain ⟨g7, bw, rfl, _, bK⟩ := jA (by omega); obtain ⟨x, hx⟩ : ∃ x, l[k]? = some x := ⟨_, zmj (by rw [HN.out]; exact hlt)⟩; have cc : ∀ j, j < 3 -> ∀ u, (Smp.b x)[j]? = some u -> wr.cell? ⟨g7, bw + (k * 3 + j), none⟩ = some u := fun j hj u hu =>
    bK (k * 3 + j) u (by rw [ze2 Smp.b (fun _ => rfl) l k x hx j hj]; exact hu)
   have c0 : wr.cell? ⟨g7, bw + k * 3, none⟩ = some (.int .u64 x.ref) := cc 0 (by omega) _ rfl; have c1 : wr.cell? ⟨g7, bw + k * 3 + 1, none⟩ = some (.int .i64 x.t) := cc 1 (by omega) _ rfl; have c2 : wr.cell? ⟨g7, bw + k * 3 + 2, none⟩ = some (.float .f64 x.v) := cc 2 (by omega) _ rfl; have hsf := zbU
   have HX := zmh hx; obtain ⟨aL, kL, rfl⟩ := zaa RL.out; clear bK jA cc hx; go_wp2_with fail
   have ch := znm wr 137 #[.int .u64 x.ref, .int .i64 x.t, .float .f64 x.v]; have s0 := ch.cell 0; have s1 := ch.cell 1; have s2 := ch.cell 2; have ff := RP.out.alloc (.cells #[.int .u64 x.ref, .int .i64 x.t, .float .f64 x.v] 137); have s3 := ff.cell 1; simp only [zmC, zmA, zmB] at s0 s1 s2 s3; have lP := RP.out.lt
   have bD := RF.out.size; have lf : k < 1099511627776 := by have h1 := zhd xs; rw [mP.out, HN.out] at h1; omega
   have cO := zmh ch; have mO := zmh ff; have hbpl := RP.out.lt; have s4 : ∀ o : Obj, ((wr.alloc (.cells #[.int .u64 x.ref, .int .i64 x.t, .float .f64 x.v] 137)).drew.alloc o).cell? ⟨bp, 1, none⟩ = some (.slice aL k kL) := fun o => by
    have h := (ff.drew.alloc o).cell 1; simp only [zmC, zmA, zmB] at h; exact h
   clear ch ff; refine zaQ (fun w' => w'.cell? ⟨bp, 1, none⟩ = some (.slice aL k kL) /\ w'.cell? ⟨wr.heap.size, 0, none⟩ = some (.int .u64 x.ref) /\ w'.cell? ⟨wr.heap.size, 1, none⟩ = some (.int .i64 x.t) /\ w'.cell? ⟨wr.heap.size, 2, none⟩ = some (.float .f64 x.v)) 11 (by kernel_rfl) ⟨s3, s0, s1, s2⟩ ?_; intro hS; refine wpT 0 (.pointer (some ⟨bp, 1, none⟩)) rfl (by intro w; go_simp) hS ?_
   try simp only [Act.put, zml, zmm, zmn]
   refine wpL 1 [11, 13] (.slice aL k kL) rfl (by rintro w ⟨h1, h2, h3, h4⟩; go_simp) hS ?_; try simp only [Act.put, zml, zmm, zmn]
   refine wpT 2 (.pointer (some ⟨wr.heap.size, 0, none⟩)) rfl (by intro w; go_simp) hS ?_; try simp only [Act.put, zml, zmm, zmn]
   refine wpL 3 [9, 10, 11, 13] (.int .u64 x.ref) rfl (by rintro w ⟨h1, h2, h3, h4⟩; go_simp) hS ?_; try simp only [Act.put, zml, zmm, zmn]
   refine wpT 4 (.pointer (some ⟨wr.heap.size, 1, none⟩)) rfl (by intro w; go_simp) hS ?_; try simp only [Act.put, zml, zmm, zmn]
   refine wpL 5 [9, 10, 11, 13] (.int .i64 x.t) rfl (by rintro w ⟨h1, h2, h3, h4⟩; go_simp) hS ?_; try simp only [Act.put, zml, zmm, zmn]
   refine wpT 6 (.pointer (some ⟨wr.heap.size, 2, none⟩)) rfl (by intro w; go_simp) hS ?_; try simp only [Act.put, zml, zmm, zmn]
   refine wpL 7 [8, 9, 10, 11, 13] (.float .f64 x.v) rfl (by rintro w ⟨h1, h2, h3, h4⟩; go_simp) hS ?_; try simp only [Act.put, zml, zmm, zmn]
   refine zao 8 (by kernel_rfl) rfl (by rfl) (fun K hK => ?_); go_simp; go_at_call 73
   refine (zdB _ _).mono ?_; rintro r w' ⟨rfl, rfl⟩; refine hK.out _ _ hS ?_; clear hK K; try simp only [Act.put, zml, zmm, zmn]
   refine wpT 9 (.agg #[.int .u64 x.ref, .int .i64 x.t, .int .u64 x.v]) rfl (by intro w; go_simp) hS ?_; try simp only [Act.put, zml, zmm, zmn]
   refine zao 10 (by kernel_rfl) rfl (by rfl) (fun K hK => ?_); go_simp; refine hK.out _ _ ⟨(mO.out.alloc _).drew.cell 1, (cO.out.alloc _).drew.cell 0, (cO.out.alloc _).drew.cell 1, (cO.out.alloc _).drew.cell 2⟩ ?_; clear hK K; try simp only [Act.put, zml, zmm, zmn]
   refine zaA 11 (by kernel_rfl) rfl (by kernel_rfl) (by rfl) (fun K hK => ?_)
   refine zaw _ _ _ 47 47 (by rfl) w.heap.size 113 i1 _ 3 24 underlying47 gp ei dC fi rfl (by decide) (.slice aL k kL) k ((l.take k).flatMap Smp.a) (by rfl) ((RL.out.alloc _).alloc _).drew _ 1 (Smp.a x) (by rfl) (zaF underlying47 (zaH wr _ 113 (Smp.a x).toArray).drew rfl (by simp [Smp.a, Value.oneCell'])) (by unfold maxLen; omega) (by omega) (by simp; omega) ?_
   intro v' w2 ac ad av
   obtain ⟨a9, k9, rfl⟩ := zaa ac; have dN := zmh (zkg (wr := wr) (n := k) (xs := []) (base := 0) mO.out ad (zak RL.out RP.out (by decide))); have p9 := dN.out.cell 1; have z9 := dN.out.frozen 1; simp at p9; refine hK.out _ _ ?_; clear hK K hS; try simp only [Act.put, zml, zmm, zmn]
   refine zaA 12 (by kernel_rfl) rfl (by kernel_rfl) (by rfl) (fun K hK => ?_); go_simp; refine hK.out _ _ ?_; clear hK K; refine zaA 13 (by kernel_rfl) rfl (by kernel_rfl) (by rfl) (fun K hK => ?_); go_simp; refine hK.out _ _ ?_; clear hK K; refine zbv (by kernel_rfl) ?_ _; all_goals
    have cV : Blk (w2.setCell ⟨bp, 1, none⟩ (.slice a9 (k + 1) k9)) bp 54 #[.slice none 0 0, .slice a9 (k + 1) k9, .slice none 0 0, .slice none 0 0, .slice none 0 0, .slice none 0 0, .slice none 0 0] := by simpa using dN.out.set_ 1 (.slice a9 (k + 1) k9)
    have aU : Blk (w2.setCell ⟨bp, 1, none⟩ (.slice a9 (k + 1) k9)) bo 4 #[.bool false] := (((RO.out.alloc (.cells #[.int .u64 x.ref, .int .i64 x.t, .float .f64 x.v] 137)).alloc _).drew.grown ad (Ne.symm (zak RL.out RO.out (by decide)))).far (p := ⟨bp, 1, none⟩) (znn RO.out RP.out (by decide)) _
    have cz : (w2.setCell ⟨bp, 1, none⟩ (.slice a9 (k + 1) k9)).ownsRow w.heap.size 113 3 (.slice a9 (k + 1) k9) (k + 1) ((l.take (k + 1)).flatMap Smp.a) := by
     rw [zam Smp.a l k x HX.out]; exact zai ac (Fr.put_ w2 bp 1 _) (fun g hg e => zak ac dN.out (by decide) (by rw [hg, e]))
    have fG : Fr (fun j => some j = (Value.slice aL k kL).ownBlock ∨ j = bp) wr (w2.setCell ⟨bp, 1, none⟩ (.slice a9 (k + 1) k9)) :=
     (((((znl (fun j => some j = (Value.slice aL k kL).ownBlock ∨ j = bp) wr).alloc (.cells #[.int .u64 x.ref, .int .i64 x.t, .float .f64 x.v] 137)).alloc _).drew).grown ad (fun g hg => .inl (.inl hg.symm))).setCell (p := ⟨bp, 1, none⟩) (.inl (.inr rfl)) _
    have dn := zai RV.out fG (fun g hg e => by
     rcases e with e | e
     ·exact zb4 RV.out RL.out (by decide) g hg e.symm
     ·exact zak RV.out RP.out (by decide) (by rw [hg, e]))
    have bN : Fr (fun j => j = bb ∨ j = bp) w (w2.setCell ⟨bp, 1, none⟩ (.slice a9 (k + 1) k9)) := RF.out.trans fG (fun j hj e => by
     rcases e with e | e
     ·have := (RL.out.lt j e.symm).1; omega
     ·exact .inr e)
    have NP := zmh cV; have NO := zmh aU; have NL := zmh cz; have NV := zmh dn; have NF := zmh bN; clear cV aU cz dn bN fG ac ad av p9 z9 c0 c1 c2 s0 s1 s2 s3 s4; go_wp2; go_roundw
    case rel => exact ⟨k + 1, _, by omega, by go_num, NF, NV, NO, NP, NL⟩
    case measure => simp [intOf]; omega
  ·obtain rfl : k = n := by omega
   have o0 := RO.out.cell 0; have o1 := RO.out.frozen 0; simp at o0; have W1 : Blk (wr.setCell ⟨bo, 0, none⟩ (.bool (zan xs).isSome)) bo 4 #[.bool (zan xs).isSome] := by simpa using RO.out.set_ 0 (.bool (zan xs).isSome)
   have W2 := RP.out.far (p := ⟨bo, 0, none⟩) (znn RP.out RO.out (by decide)) (.bool (zan xs).isSome); have gg := zai RL.out (Fr.put_ wr bo 0 (.bool (zan xs).isSome)) (fun g hg e => zak RL.out RO.out (by decide) (by rw [hg, e]))
   have W4 : Fr (fun k => k = bb ∨ k = bp ∨ k = bo) w (wr.setCell ⟨bo, 0, none⟩ (.bool (zan xs).isSome)) := (Fr.mono (S' := fun k => k = bb ∨ k = bp ∨ k = bo) RF.out (fun _ _ e => e.elim (fun h => Or.inl h) (fun h => Or.inr (Or.inl h)))).setCell (p := ⟨bo, 0, none⟩) (.inl (.inr (.inr rfl))) _; rcases kB.out with ⟨rfl, aA⟩ | ⟨t, ae, rfl, aA⟩; all_goals
    rw [aA] at W1 W2 gg W4; have io := zmh W1; have jO := zmh W2; have eQ := zmh gg; have hW4 := zmh W4; clear W1 W2 gg W4; go_wp2_with fail
    go_end0; refine ⟨rfl, hW4.out, by rw [aA]; exact io.out, lv, jO.out, ?_⟩; have e1 : l.take k = l := zmq (by rw [HN.out]; exact zmt _); have h3 := eQ.out; rw [e1] at h3; rw [mP.out, HN.out]; exact h3
structure Ston where
 ref : Nat
 ivs : List (Int × Int)
def stc (p : Ston × Value) : List Value := [.int .u64 p.1.ref, p.2]
def SlS (P : Nat -> Prop) (w : World) (v : Value) (lv : List (Ston × Value)) : Prop :=
 Sl P w v 2 lv.length (lv.flatMap stc) /\ ∀ p ∈ lv, Sl P w p.2 2 p.1.ivs.length (p.1.ivs.flatMap ivc)
def OwnS (base te ti : Nat) (w : World) (v : Value) (lv : List (Ston × Value)) : Prop :=
 w.ownsRow base te 2 v lv.length (lv.flatMap stc) /\ ∀ p ∈ lv, w.ownsRow base ti 2 p.2 p.1.ivs.length (p.1.ivs.flatMap ivc)
theorem info147 : (prog.info? 147).map (fun i => (i.zero, i.size, i.bytes)) = some (some (.agg #[.int .u64 0, .slice none 0 0]), 2, 32) := by kernel_rfl
theorem zj8 : (prog.info? 151).map (fun i => (i.zero, i.size, i.bytes)) = some (some (.agg #[.int .u64 0, .slice none 0 0]), 2, 32) := by kernel_rfl
theorem SlS.fr {P S : Nat -> Prop} {w w' : World} {v : Value} {lv : List (Ston × Value)} (h : SlS P w v lv) (hf : Fr S w w') (hs : ∀ g, P g -> ¬ S g) : SlS P w' v lv :=
 ⟨h.1.fr hf hs, fun p hp => (h.2 p hp).fr hf hs⟩
theorem OwnS.fr {S : Nat -> Prop} {base te ti : Nat} {w w' : World} {v : Value} {lv : List (Ston × Value)} (h : OwnS base te ti w v lv) (hf : Fr S w w') (hs : ∀ k, base <= k -> k < w.heap.size -> ¬ S k) : OwnS base te ti w' v lv :=
 ⟨zai h.1 hf (fun g hg => hs g (h.1.lt g hg).1 (zaq h.1 hg)), fun p hp => zai (h.2 p hp) hf (fun g hg => hs g ((h.2 p hp).lt g hg).1 (zaq (h.2 p hp) hg))⟩
theorem OwnS.mono {base base' te ti : Nat} {w : World} {v : Value} {lv : List (Ston × Value)} (h : OwnS base te ti w v lv) (hb : base' <= base) : OwnS base' te ti w v lv :=
 ⟨zah h.1 hb, fun p hp => zah (h.2 p hp) hb⟩
theorem OwnS.nil (base te ti : Nat) (w : World) : OwnS base te ti w (.slice none 0 0) [] := ⟨zmv _ _ _ _, fun p hp => by cases hp⟩
theorem OwnS.sl {base te ti : Nat} {w : World} {v : Value} {lv : List (Ston × Value)} (h : OwnS base te ti w v lv) : SlS (fun g => base <= g /\ g < w.heap.size) w v lv :=
 ⟨(zno h.1).mono (fun g hg => ⟨(h.1.lt g hg).1, zaq h.1 hg⟩), fun p hp => (zno (h.2 p hp)).mono (fun g hg => ⟨((h.2 p hp).lt g hg).1, zaq (h.2 p hp) hg⟩)⟩
theorem OwnS.push {base te ti : Nat} {w w2 : World} {v v' : Value} {lv : List (Ston × Value)} {p : Ston × Value} (h : OwnS base te ti w v lv) (hp : w.ownsRow base ti 2 p.2 p.1.ivs.length (p.1.ivs.flatMap ivc)) (hg : w.grownBy w2 v.ownBlock)
 (ho : w2.ownsRow base te 2 v' (lv.length + 1) (lv.flatMap stc ++ stc p)) (aN : ti ≠ te) : OwnS base te ti w2 v' (lv ++ [p]) := by
 have hf : Fr (fun k => some k = v.ownBlock) w w2 := (znl (fun k => some k = v.ownBlock) w).grown hg (fun k hk => .inl hk.symm); refine ⟨by simpa using ho, fun q hq => ?_⟩; rcases zmX.1 hq with hq | hq
 ·exact zai (h.2 q hq) hf (fun g jJ e => zb4 (h.2 q hq) h.1 aN g jJ e.symm)
 ·rw [zmY] at hq
  subst hq; exact zai hp hf (fun g jJ e => zb4 hp h.1 aN g jJ e.symm)
def zir (w : World) (l : List Ston) (r : Ending) (w' : World) : Prop :=
 ∃ v lv, r = .returned v /\ lv.map Prod.fst = l /\ OwnS w.heap.size 147 279 w' v lv /\ z_F w w'
theorem zeQ (P : Nat -> Prop) (v : Value) (lv : List (Ston × Value)) (w : World) (h : SlS P w v lv) (hl : lv.length <= 1099511627776) (aP : ∀ p ∈ lv, p.1.ivs.length <= 1099511627776) :
 Calls prog 75 #[v] w (zir w (lv.map Prod.fst)) := by
 obtain ⟨⟨A, c, rfl, ai, aQ, hr⟩, hin⟩ := h; obtain ⟨n, hn⟩ := exE lv.length; rw [hn] at hr aQ hl ⊢; have HN := zmh hn; have HR := zmh hr; have HI := zmh hin
 have gz := zmh aP; obtain ⟨i0, aC, az, ay, aB⟩ := info_parts info147; clear hn hr ai hin aP; go_enter func75, ntmps75; go_wp2
 go_loopw [2, 7] (fun v i wr => ∃ (k : Nat) (lo : List (Ston × Value)), k <= n /\ i = .int .i64 k /\ Hid (lo.map Prod.fst = (lv.take k).map Prod.fst) /\ Hid (lo.length = k) /\ Hid (OwnS w.heap.size 147 279 wr v lo) /\ Hid (z_F w wr)) (fun _ i _ => n - (intOf i).toNat)
 case atStart => exact ⟨0, [], zms _, rfl, zmh rfl, zmh rfl, zmh (OwnS.nil _ _ _ _), zmh (znl _ _)⟩
 case round =>
  obtain ⟨k, lo, hk, rfl, HM, it, HO, HF⟩ := hrel; by_cases hlt : k < n
  ·obtain ⟨g, off, rfl, _, aa⟩ := HR.out (by omega)
   obtain ⟨x, hx⟩ : ∃ x, lv[k]? = some x := ⟨_, zmj (by rw [HN.out]; exact hlt)⟩; have cc : ∀ j, j < 2 -> ∀ u, (stc x)[j]? = some u -> wr.cell? ⟨g, off + (k * 2 + j), none⟩ = some u := fun j hj u hu => by
    have := aa (k * 2 + j) u (by rw [zby stc (fun _ => rfl) lv k x hx j hj]; exact hu); rw [HF.out.cell (p := ⟨g, off + (k * 2 + j), none⟩) (zmo w _ this) id]; exact this
   have c0 : wr.cell? ⟨g, off + k * 2, none⟩ = some (.int .u64 x.1.ref) := cc 0 (by omega) _ rfl; have c1 : wr.cell? ⟨g, off + k * 2 + 1, none⟩ = some x.2 := cc 1 (by omega) _ rfl; have aF := zmp hx; have aY := HI.out x aF; have bF := gz.out x aF; obtain ⟨⟨ref, ivs⟩, iv⟩ := x; simp only [] at c0 c1 aY bF
   have jI : ∃ A m c, iv = .slice A m c := let ⟨A, c, h, _⟩ := aY; ⟨A, _, c, h⟩
   obtain ⟨Ai, mi, ci, rfl⟩ := jI; have HX := zmh hx; obtain ⟨a', n', k', rfl⟩ := zab HO.out.1; clear aa cc hx aF; go_wp2_with fail
   have ch := znm wr 151 #[.int .u64 ref, .slice Ai mi ci]; have s0 := ch.cell 0; have s1 := ch.cell 1; simp only [zmC, zmA, zmB] at s0 s1; have bD := HF.out.size; have cO := zmh ch
   have hC := zh5 P (.slice Ai mi ci) ivs (wr.alloc (.cells #[.int .u64 ref, .slice Ai mi ci] 151)).drew (aY.fr (HF.out.alloc _).drew z_i) bF; have rP := it.out; clear ch aY; have mY : (wr.alloc (.cells #[.int .u64 ref, .slice Ai mi ci] 151)).drew.heap.size = wr.heap.size + 1 := by simp
   have jE : lo.length <= 1099511627776 := by omega
   go_region_held3 (fun w' => w'.cell? ⟨wr.heap.size, 0, none⟩ = some (.int .u64 ref) /\ w'.cell? ⟨wr.heap.size, 1, none⟩ = some (.slice Ai mi ci))
    ((first | (go_split_ands; refine ⟨?_, ?_⟩ <;> first | exact ef.out.cell 0 | exact ef.out.cell 1) | (go_split_ands; refine ⟨?_, ?_⟩ <;> first | exact (cC.out.alloc _).cell 0 | exact (cC.out.alloc _).cell 1) | (go_split_ands; refine ⟨?_, ?_⟩ <;> first | exact cC.out.cell 0 | exact cC.out.cell 1) | go_keep))
    ((first
      | (go_at_call 169; refine hC.mono ?_; rintro r5 w5 ⟨v5, rfl, al, ap⟩; obtain ⟨a5, k5, rfl⟩ := zaa al; have cC := zmh (cO.out.drew.fr ap id); have F5 := zmh (((znl (fun _ => False) wr).alloc (.cells #[.int .u64 ref, .slice Ai mi ci] 151)).drew.same ap); have O5 := zmh (HO.out.fr F5.out (fun _ _ _ e => e)); have j3 := zmh (zah al (base' := w.heap.size) (by rw [mY]; omega)); have lZ := F5.out.size)
      | (refine zat _ (by rfl) _ _ 139 139 (by rfl) w.heap.size 147 i0 _ 2 32 underlying139 aC az ay aB rfl (by decide) (.slice a' n' k') lo.length (lo.flatMap stc) (by rfl) (O5.out.1.alloc _) _ 1 (stc (⟨ref, ivs⟩, .slice a5 ivs.length k5)) (by rfl) (zaF underlying139 (znm w5 147 (stc (⟨ref, ivs⟩, .slice a5 ivs.length k5)).toArray) rfl (by simp [stc, Value.oneCell'])) (by unfold maxLen; omega) (by omega) (by simp; omega) ?_; intro v' w2 ac ad av; have ef := zmh ((cC.out.alloc (.cells (stc (⟨ref, ivs⟩, .slice a5 ivs.length k5)).toArray 147)).grown ad (fun e => zm1 _ (zaq HO.out.1 e.symm))))))
   have aU : OwnS w.heap.size 147 279 w2 v' (lo ++ [(⟨ref, ivs⟩, .slice a5 ivs.length k5)]) :=
    OwnS.push (p := (⟨ref, ivs⟩, .slice a5 ivs.length k5)) (O5.out.fr ((znl (fun _ => False) w5).alloc (.cells (stc (⟨ref, ivs⟩, .slice a5 ivs.length k5)).toArray 147)) (fun _ _ _ e => e)) (j3.out.alloc _) ad ac (by decide)
   have bN : z_F w w2 := ((HF.out.same F5.out).alloc _).grown ad (fun g hg => .inr ((HO.out.1.lt g hg).1)); have c9 : (lo ++ [((⟨ref, ivs⟩ : Ston), Value.slice a5 ivs.length k5)]).map Prod.fst = (lv.take (k + 1)).map Prod.fst := by
    rw [zmS, HX.out, zmH, zmH, HM.out]; rfl
   have cG : (lo ++ [((⟨ref, ivs⟩ : Ston), Value.slice a5 ivs.length k5)]).length = k + 1 := by rw [zmi, it.out]; rfl
   have NO := zmh aU; have NF := zmh bN; have NM := zmh c9; have NN := zmh cG; clear aU bN c9 cG ac ad av c0 c1 s0 s1 hC al ap ef O5 j3; go_wp2; go_roundw
   case rel => exact ⟨k + 1, _, by omega, by go_num, NM, NN, NO, NF⟩
   case measure => simp [intOf]; omega
  ·go_wp2
   go_ret; obtain rfl : k = n := by omega
   refine ⟨_, lo, rfl, ?_, HO.out, HF.out⟩; rw [HM.out, <- HN.out, zmI]
def zeH (s : Ston) : List Stn := s.ivs.map fun p => ⟨s.ref, p.1, p.2⟩
def zb7 (l : List Ston) : List Stn := l.flatMap zeH
def Ston.wf (s : Ston) : Prop := s.ref < 18446744073709551616 /\ ∀ p ∈ s.ivs, (-9223372036854775808 <= p.1 /\ p.1 <= 9223372036854775807) /\ (-9223372036854775808 <= p.2 /\ p.2 <= 9223372036854775807)
def zbz (l : List Ston) : List UInt8 := zkk (zb7 l)
def zfK (r : Nat) (p : Int × Int) : List UInt8 := zb8 ⟨r, p.1, p.2⟩
theorem zi5 (r : Nat) (p : Int × Int) (h : (-9223372036854775808 <= p.1 /\ p.1 <= 9223372036854775807) /\ (-9223372036854775808 <= p.2 /\ p.2 <= 9223372036854775807)) : (zfK r p).length <= 28 := by
 have h1 := zdV p.1 h.1.1 h.1.2; have h2 := zdV p.2 h.2.1 h.2.2; simp only [zfK, zb8, zmi, zmr]; omega
theorem zgG (s : Ston) : (zeH s).flatMap zb8 = s.ivs.flatMap (zfK s.ref) := by
 unfold zeH; rw [List.flatMap_map]; rfl
theorem zdm {α : Type} (f : α -> List UInt8) (m : Nat) : ∀ l : List α, (∀ x ∈ l, (f x).length <= m) -> (l.flatMap f).length <= l.length * m
 | [], _ => by simp
 | x :: l, hf => by
   have h1 := zdm f m l (fun y hy => hf y (by simp [hy])); have h2 := hf x (by simp); rw [zmw, zmi, zmz, Nat.add_mul]; omega
theorem ziZ (l : List Ston) (hw : ∀ s ∈ l, s.wf) (hi : ∀ s ∈ l, s.ivs.length <= 4096) : ((zb7 l).flatMap zb8).length <= l.length * 114688 := by
 have e : (zb7 l).flatMap zb8 = l.flatMap (fun s => s.ivs.flatMap (zfK s.ref)) := by
  unfold zb7; rw [List.flatMap_assoc]; congr 1
  funext s
  exact zgG s
 rw [e]; refine zdm _ _ _ (fun s hs => ?_); have h1 := zdm (zfK s.ref) 28 s.ivs (fun p hp => zi5 _ _ ((hw s hs).2 p hp)); have h2 := hi s hs; have h3 : s.ivs.length * 28 <= 4096 * 28 := zmu _ h2; omega
theorem zlA (l : List Ston) (k : Nat) (x : Ston) (h : l[k]? = some x) : (zb7 (l.take (k + 1))).flatMap zb8 = (zb7 (l.take k)).flatMap zb8 ++ x.ivs.flatMap (zfK x.ref) := by
 rw [zmS, h]; unfold zb7; rw [zmQ, zmQ, <- zgG]; simp
theorem zic (ep : Value) (sv : Value) (P : Nat -> Prop) (v : Value) (xs : List UInt8) (lv : List (Ston × Value)) (w : World) (h : SlS P w sv lv) (ab : w.ownsRow 0 5 1 v xs.length (bc xs)) (hl : xs.length <= 1073741824)
 (au : lv.length <= 4096) (aP : ∀ p ∈ lv, p.1.ivs.length <= 4096) (aD : ∀ s ∈ lv.map Prod.fst, s.wf) (hP : ∀ g, P g -> g < w.heap.size /\ some g ≠ v.ownBlock) :
 Calls prog 93 #[ep, sv, v] w (zbP w v.ownBlock (xs ++ zbz (lv.map Prod.fst))) := by
 obtain ⟨⟨A, c, rfl, ai, aQ, hr⟩, hin⟩ := h; obtain ⟨a', n', k', rfl⟩ := zab ab; obtain ⟨n, hn⟩ := exE lv.length; rw [hn] at aQ hr au ⊢; have hE := Enc.made (z := .int .u8 0) ab _ rfl; have hQ := zck w.heap.size _ xs 3 _ hE (by omega); have e2 : ((3 : UInt8).toNat : Int) = 3 := rfl; rw [e2] at hQ; have HN := zmh hn; have HR := zmh hr; have HP := zmh hP
 have HE := zmh hE; have se := zmh hin
 have gz := zmh aP; have kv := zmh aD; clear hE hr e2 hn ai hP hin aP aD; go_enter func93, ntmps93; go_wp2_with (go_at_call 180; refine hQ.mono ?_; rintro r1 w1 ⟨rfl, R⟩; refine Hid.out ?_)
 have cR := zmh R; clear R hQ; refine zmh ?_; go_wp2_with fail
 have cL : Fr (fun k => some k = (Value.slice a' n' k').ownBlock) w (w.alloc (.cells #[.slice a' n' k', .int .u8 0, .int .u8 0, .int .u8 0, .int .u8 0, .int .u8 0, .int .u8 0, .int .u8 0, .int .u8 0, .int .u8 0, .int .u8 0] 224)) := (znl _ w).alloc _; generalize dZ : w.alloc _ = WB at HE cR cL; have hB : w.heap.size < WB.heap.size := by rw [<- dZ]; simp
 clear dZ; have cS := zmh cL; clear cL; go_loopw [17] (fun i wr => ∃ k : Nat, k <= n /\ i = .int .i64 k /\ Put WB w.heap.size (Value.slice a' n' k').ownBlock xs ([3] ++ (zb7 ((lv.map Prod.fst).take k)).flatMap zb8) wr) (fun i _ => n - (intOf i).toNat)
 case atStart => exact ⟨0, zms _, rfl, by simpa [zb7] using cR.out⟩
 case round =>
  obtain ⟨k, hk, rfl, R⟩ := hrel; by_cases hlt : k < n
  ·obtain ⟨g, off, rfl, ga, aa⟩ := HR.out (by omega)
   have hg := HP.out g ga; obtain ⟨x, hx⟩ : ∃ x, lv[k]? = some x := ⟨_, zmj (by rw [HN.out]; exact hlt)⟩; have aF := zmp hx; have aY := se.out x aF; have bF := gz.out x aF; have eW : x.1.wf := kv.out _ (zmN.2 ⟨x, aF, rfl⟩); have fL : (lv.map Prod.fst)[k]? = some x.1 := by rw [zmR, hx]; rfl
   have dM : Fr (fun k => some k = (Value.slice a' n' k').ownBlock) w wr := cS.out.trans R.fr (fun k hk e => by
    rcases e with e | e
    ·omega
    ·exact e)
   have cc : ∀ j, j < 2 -> ∀ u, (stc x)[j]? = some u -> wr.cell? ⟨g, off + (k * 2 + j), none⟩ = some u := fun j hj u hu => by
    have := aa (k * 2 + j) u (by rw [zby stc (fun _ => rfl) lv k x hx j hj]; exact hu); rw [dM.cell (p := ⟨g, off + (k * 2 + j), none⟩) hg.1 hg.2]; exact this
   have d0 : wr.cell? ⟨g, off + k * 2, none⟩ = some (.int .u64 x.1.ref) := cc 0 (by omega) _ rfl; have d1 : wr.cell? ⟨g, off + k * 2 + 1, none⟩ = some x.2 := cc 1 (by omega) _ rfl; obtain ⟨⟨ref, ivs⟩, iv⟩ := x; simp only [] at d0 d1 aY bF fL; obtain ⟨Ai, ci, rfl, _, ql, fN⟩ := aY; obtain ⟨m, hm⟩ := exE ivs.length; rw [hm] at d1 ql fN bF
   have bI : ([(3 : UInt8)] ++ (zb7 ((lv.map Prod.fst).take k)).flatMap zb8).length <= 1 + 4096 * 114688 := by
    have h1 := ziZ ((lv.map Prod.fst).take k) (fun s hs => kv.out s (zne hs)) (fun s hs => by
     obtain ⟨p, hp, rfl⟩ := zmN.1 (zne hs)
     exact gz.out p hp)
    have h2 : ((lv.map Prod.fst).take k).length <= 4096 := by
     have := znh k (lv.map Prod.fst); omega
    have h3 : ((lv.map Prod.fst).take k).length * 114688 <= 4096 * 114688 := zmu _ h2; rw [zmi, zmy]; omega
   have RA := R.alloc (.cells #[.int .u64 ref, .slice Ai m ci] 147); have dd := znm wr 147 #[.int .u64 ref, .slice Ai m ci]; have x1 := dd.cell 1; simp at x1; have HX1 := zmh fL; have cT := zmh dd; have HL := zmh bI; have oa := zmh fN; have HM := zmh hm; have bV := zmh RA; have mY := dM.size; clear hx dM cc dd bI aa fN hm RA fL aF; go_wp2_with fail
   generalize hys : [(3 : UInt8)] ++ (zb7 ((lv.map Prod.fst).take k)).flatMap zb8 = ys at bV HL; clear R x1 d0 d1 mY; generalize wr.alloc (.cells #[.int .u64 ref, .slice Ai m ci] 147) = W9 at bV cT ⊢; generalize wr.heap.size = b9 at cT ⊢
   go_loopw [24] (fun i w' => ∃ j : Nat, j <= m /\ i = .int .i64 j /\ Hid (Put WB w.heap.size (Value.slice a' n' k').ownBlock xs (ys ++ (ivs.take j).flatMap (zfK ref)) w') /\ Hid (Blk w' b9 147 #[.int .u64 ref, .slice Ai m ci])) (fun i _ => m - (intOf i).toNat)
   case atStart => exact ⟨0, zms _, rfl, zmh (by simpa using bV.out), cT⟩
   case round =>
    obtain ⟨j, hj, rfl, RJ, BJ⟩ := hrel; clear bV cT; by_cases hlt2 : j < m
    ·obtain ⟨g2, an, rfl, hPg2, aj⟩ := oa.out (by omega)
     have dU := HP.out g2 hPg2; obtain ⟨y, hy⟩ : ∃ y, ivs[j]? = some y := ⟨_, zmj (by rw [HM.out]; exact hlt2)⟩; have oD := eW.2 y (zmp hy)
     have hFj : Fr (fun k => some k = (Value.slice a' n' k').ownBlock) w wr := cS.out.trans RJ.out.fr (fun k hk e => by
      rcases e with e | e
      ·omega
      ·exact e)
     have cc : ∀ i, i < 2 -> ∀ u, (ivc y)[i]? = some u -> wr.cell? ⟨g2, an + (j * 2 + i), none⟩ = some u := fun i hi u hu => by
      have := aj (j * 2 + i) u (by rw [zby ivc (fun _ => rfl) ivs j y hy i hi]; exact hu); rw [hFj.cell (p := ⟨g2, an + (j * 2 + i), none⟩) dU.1 dU.2]; exact this
     have d0 : wr.cell? ⟨g2, an + j * 2, none⟩ = some (.int .i64 y.1) := cc 0 (by omega) _ rfl; have d1 : wr.cell? ⟨g2, an + j * 2 + 1, none⟩ = some (.int .i64 y.2) := cc 1 (by omega) _ rfl; have hzl : (ys ++ (ivs.take j).flatMap (zfK ref)).length <= 1 + 4096 * 114688 + 114688 := by
      have h1 := zdm (zfK ref) 28 (ivs.take j) (fun p hp => zi5 _ _ (eW.2 p (zne hp))); have h2 : (ivs.take j).length <= 4096 := by
       have := znh j ivs; omega
      have h3 : (ivs.take j).length * 28 <= 4096 * 28 := zmu _ h2; have h4 := HL.out; rw [zmi]; omega
     have RA := RJ.out.alloc (.cells #[.int .i64 y.1, .int .i64 y.2] 279); have B9 := BJ.out.alloc (.cells #[.int .i64 y.1, .int .i64 y.2] 279); have lF := znm wr 279 #[.int .i64 y.1, .int .i64 y.2]; have z0 := B9.cell 0; simp at z0
     have ee := zag RA (f := 181) (args := #[.pointer (some ⟨w.heap.size, 0, none⟩), .int .u64 ref]) (zs := Lib.beBytes 8 ref) (fun o2 he => zcl _ o2 _ _ eW.1 _ he (by rw [zmi]; omega)); have HY := zmh hy; have HB9 := zmh B9; have pf := zmh lF; have HZL := zmh hzl; have iG := zdV y.1 oD.1.1 oD.1.2; clear hy hFj cc lF aj B9 hzl
     go_wp2_with (go_at_call 181; refine ee.mono ?_; rintro rA wA ⟨rfl, RB, KB⟩; refine Hid.out ?_)
     have HBA := zmh (KB.out _ _ _ (by decide) (by decide) HB9.out); have lF := KB.out _ _ _ (by decide) (by decide) pf.out; have y0 := lF.cell 0; simp at y0; have HBY2 := zmh lF
     have dc := zag RB (f := 183) (args := #[.pointer (some ⟨w.heap.size, 0, none⟩), .int .i64 y.1]) (zs := Lib.uvarint (Lib.zigzag y.1)) (fun o2 he => zaz _ o2 _ _ oD.1.1 oD.1.2 _ he (by have := HZL.out; rw [zmi, zmi, zmr]; omega)); clear ee d0 d1 z0 lF; refine zmh ?_
     go_wp2_with (go_at_call 183; refine dc.mono ?_; rintro rB wB ⟨rfl, RC, KC⟩; refine Hid.out ?_)
     have kG := zmh (KC.out _ _ _ (by decide) (by decide) HBA.out); have lF := KC.out _ _ _ (by decide) (by decide) HBY2.out; have y1 := lF.cell 1; simp at y1
     have jh := zag RC (f := 183) (args := #[.pointer (some ⟨w.heap.size, 0, none⟩), .int .i64 y.2]) (zs := Lib.uvarint (Lib.zigzag y.2)) (fun o2 he => zaz _ o2 _ _ oD.2.1 oD.2.2 _ he (by have := HZL.out; rw [zmi, zmi, zmi, zmr]; omega)); clear dc y0 lF; refine zmh ?_
     go_wp2_with (go_at_call 183; refine jh.mono ?_; rintro rD wD ⟨rfl, RD, KD⟩)
     have kF := zmh (KD.out _ _ _ (by decide) (by decide) kG.out); have RE : Put WB w.heap.size (Value.slice a' n' k').ownBlock xs (ys ++ (ivs.take (j + 1)).flatMap (zfK ref)) wD := by
      rw [zal (zfK ref) ivs j y HY.out]; simpa [zfK, zb8, zmk] using RD
     have cM := zmh RE; clear RE RD RC RB jh y1 KB KC KD RA RJ BJ; go_wp2; go_roundw
     case rel => exact ⟨j + 1, by omega, by go_num, cM, kF⟩
     case measure => simp [intOf]; omega
    ·obtain rfl : j = m := by omega
     have RE : Put WB w.heap.size (Value.slice a' n' k').ownBlock xs ([3] ++ (zb7 ((lv.map Prod.fst).take (k + 1))).flatMap zb8) wr := by
      rw [zlA _ _ _ HX1.out, <- zmk, hys]; have h := RJ.out; have e1 : ivs.take j = ivs := zmq (by rw [HM.out]; exact zmt _); rw [e1] at h; exact h
     have cM := zmh RE; clear RE RJ; go_wp2; go_roundw
     case rel => exact ⟨k + 1, by omega, by go_num, cM.out⟩
     case measure => simp [intOf]; omega
  ·obtain rfl : k = n := by omega
   obtain ⟨oZ, dx, dX, fS⟩ := R; have hG := zd4 _ _ _ _ dx; have HEZ := zmh dx; have HZ := zmh dX; clear dx dX; go_wp2_with (go_at_call 116; refine hG.mono ?_; rintro rr w2 ⟨v2, rfl, rfl, af, bd⟩)
   go_ret; refine ⟨v2, rfl, ?_, cS.out.trans HZ.out (fun k hk e => ?_), ?_⟩
   ·have e1 : (lv.map Prod.fst).take k = lv.map Prod.fst := zmq (by rw [zmF, HN.out]; exact zmt _)
    rw [e1] at af; simpa [zbz, zkk] using af
   ·rcases e with e | e
    ·omega
    ·exact e
   ·rw [bd]
    rcases fS with h | ⟨k2, h, cI⟩
    ·exact .inl h
    ·exact .inr ⟨k2, h, by omega⟩
def zbg (w : World) (base : Nat) (o : Option Nat) (pre : List Mrk) (xs : List UInt8) (r : Ending) (w' : World) : Prop :=
 Fr (fun k => some k = o) w w' /\ match zaG xs with
  | some l => ∃ v', r = .returned (.tuple #[v', .nilIface]) /\ w'.ownsRow base 166 2 v' (pre ++ l).length ((pre ++ l).flatMap Mrk.c)
  | none => ∃ t a, r = .returned (.tuple #[.slice none 0 0, .iface t a])
theorem zd0 {w w' : World} {base : Nat} {o : Option Nat} {pre : List Mrk} {xs : List UInt8} {t : TypeId} {a : Value} (hd : zaG xs = none) (hf : Fr (fun k => some k = o) w w') : zbg w base o pre xs (.returned (.tuple #[.slice none 0 0, .iface t a])) w' := by
 unfold zbg; rw [hd]; exact ⟨hf, _, _, rfl⟩
theorem zdZ {w w' : World} {base : Nat} {o : Option Nat} {pre : List Mrk} {xs : List UInt8} {l : List Mrk} {v : Value} (hd : zaG xs = some l) (hf : Fr (fun k => some k = o) w w') (ho : w'.ownsRow base 166 2 v (pre ++ l).length ((pre ++ l).flatMap Mrk.c)) : zbg w base o pre xs (.returned (.tuple #[v, .nilIface])) w' := by
 unfold zbg; rw [hd]; exact ⟨hf, _, rfl, ho⟩
theorem zjZ {l0 l : List UInt8} (h : (zbQ (some l0)).2 = some l) : l.length < l0.length := by
 obtain ⟨l1, h1, qV⟩ := zbH (st := (zac (some l0)).2) h; obtain ⟨l2, h2, qU⟩ := zbH (st := some l0) h1; injection h2 with h2; subst h2; omega
theorem zgQ (te : TypeId) (pe : Value) (dv : Value) (g base : Nat) (cur : Array Value) (pre : List Mrk) (xs : List UInt8) (v sv : Value) (w : World) (h : Rec te pe w g cur xs v) (hx : (zaD (some xs)).1 ≠ 5) :
 Calls prog 79 #[dv, v, sv] w (zbg w base sv.ownBlock pre xs) := by
 have hd : zaG xs = none := by
  rcases xs with _ | ⟨b, r⟩
  ·rfl
  ·have : ¬ b = 5 := by rintro rfl; exact hx rfl
   simp [zaG, zbn, this]
 unfold zbg; rw [hd]; clear hd; have hD := h.dec; obtain ⟨off, c, rfl, _⟩ := h; have hQ := zbC te pe w.heap.size g cur _ _ hD; have dS : ¬ ((zaD (some xs)).1 : Int) = 5 := by omega
 clear hD hx; generalize (zaD (some xs)).1 = x at hQ dS; generalize (zaD (some xs)).2 = st at hQ; go_enter func79, ntmps79; go_wp2_with (first | (go_at_call 160; refine hQ.mono ?_; rintro r w1 ⟨rfl, cr, ah⟩) | (go_at_call 161; refine (zbN _ _).mono ?_; rintro r w2 ⟨t, a, rfl, aq⟩))
 go_ret2; refine ⟨?_, _, _, rfl⟩; have f1 := (((znl (fun k => some k = sv.ownBlock) w).alloc (.cells #[.slice (some ⟨g, off, none⟩) xs.length c, .nilIface] 229)).trans ah (fun k hk e => by omega)); exact f1.trans aq (fun _ _ e => e.elim)
theorem zfM (te : TypeId) (pe : Value) (dv : Value) (g base : Nat) (cur : Array Value) (pre : List Mrk) (v sv : Value) (w : World) (h : Rec te pe w g cur [5] v) (ho : w.ownsRow base 166 2 sv pre.length (pre.flatMap Mrk.c)) (hb : g < base /\ 2 < base) :
 Calls prog 79 #[dv, v, sv] w (zbg w base sv.ownBlock pre [5]) := by
 have hD := h.dec; obtain ⟨off, c, rfl, _⟩ := h; have hQ := zbC te pe w.heap.size g cur _ _ hD; have e1 : zaD (some [(5 : UInt8)]) = (5, some []) := rfl; rw [e1] at hQ; have HO := zmh ho; obtain ⟨a', n', k', rfl⟩ := zab ho; clear hD e1 ho; go_enter func79, ntmps79
 go_wp2_with (first | (go_at_call 160; refine hQ.mono ?_; rintro r w1 ⟨rfl, cr, ah⟩; have hL := ze5 te pe _ _ _ _ _ cr) | (go_at_call 118; refine hL.mono ?_; rintro r w2 ⟨n, rfl, hn, _, rfl⟩; have fT := hn _ rfl; subst fT))
 go_ret2; refine zdZ (l := []) rfl (((znl _ w).alloc _).trans ah (fun k hk e => by omega)) ?_; rw [zmD]; exact zai (HO.out.alloc _) ah (fun k hk => by have := zaq HO.out hk; omega)
theorem zcV {α : Type} {t : UInt8} {step : St -> α × St} {rest s : List UInt8} {l : List α} (h : zaj step rest.length (some rest) [] = (l, some s)) : zbn t step (t :: rest) = some l := by rw [zbn, if_pos rfl, h]
theorem zcW {α : Type} {t : UInt8} {step : St -> α × St} {rest : List UInt8} {l : List α} (h : zaj step rest.length (some rest) [] = (l, none)) : zbn t step (t :: rest) = none := by rw [zbn, if_pos rfl, h]
theorem zgR (te : TypeId) (pe : Value) (dv : Value) (g base : Nat) (cur : Array Value) (pre : List Mrk) (rest : List UInt8) (aN : rest ≠ []) (v sv : Value) (w : World) (h : Rec te pe w g cur (5 :: rest) v) (ho : w.ownsRow base 166 2 sv pre.length (pre.flatMap Mrk.c)) (hb : g < base /\ 2 < base /\ base <= w.heap.size) (bx : pre.length <= 1073741824) :
 Calls prog 79 #[dv, v, sv] w (zbg w base sv.ownBlock pre (5 :: rest)) := by
 obtain ⟨i0, aC, az, ay, aB⟩ := info_parts info166; have hD := h.dec; obtain ⟨off, c, rfl, _⟩ := h; have hQ := zbC te pe w.heap.size g cur _ _ hD; have e1 : zaD (some (5 :: rest)) = (5, some rest) := rfl; rw [e1] at hQ; have HO := zmh ho; obtain ⟨a', k', rfl⟩ := zaa ho; have oH : rest.length <= 1099511627776 := by
  obtain ⟨n, off', c', _, _, hn, aQ, _⟩ := hD.open_; have := hn _ rfl; simp at this; omega
 have pI : 0 < rest.length := List.length_pos_iff.2 aN; have hr1 : ((rest.length : Int) == 0) = false := by simp; omega
 obtain ⟨np, fk⟩ := exE pre.length; have lM := zmh fk; rw [fk] at HO bx ⊢; clear hD e1 ho aN fk; go_enter func79, ntmps79
 go_wp2_with (first
  | (go_at_call 160; refine hQ.mono ?_; rintro r w1 ⟨rfl, cr, ah⟩; have hL := ze5 te pe _ _ _ _ _ cr)
  | (go_at_call 118; refine hL.mono ?_; rintro r w2 ⟨n, rfl, hn, _, rfl⟩; have fT : n = rest.length := hn _ rfl; subst fT; clear hL; refine Hid.out ?_))
 have F1 : Fr (fun k => some k = (Value.slice a' np k').ownBlock) w w1 := ((znl (fun k => some k = (Value.slice a' np k').ownBlock) w).alloc _).trans ah (fun k hk e => by omega); have O1 : w1.ownsRow base 166 2 (.slice a' np k') np (pre.flatMap Mrk.c) := zai (HO.out.alloc _) ah (fun k hk => by have := zaq HO.out hk; omega); have bh := F1.size
 have eM : ∀ k, (Value.slice a' np k').ownBlock = some k -> k < w.heap.size := fun k hk => zaq HO.out hk; have bX := zmh F1; have de := zmh O1; have aT := zmh cr; have ir := zmh eM; clear cr ah hQ F1 O1 eM; refine zmh ?_; go_wp2_with fail
 go_loopw [2] (fun sv wr => ∃ (st : St) (acc : List Mrk) (j : Nat), Hid (Dec te pe wr w.heap.size g cur st) /\ Hid (wr.ownsRow base 166 2 sv (np + acc.length) ((pre ++ acc).flatMap Mrk.c)) /\ Hid (Fr (fun k => some k = (Value.slice a' np k').ownBlock) w wr) /\ Hid (∀ k, sv.ownBlock = some k -> (some k = (Value.slice a' np k').ownBlock ∨ w.heap.size < k)) /\
  Hid (zaj zbQ j st acc = zaj zbQ rest.length (some rest) []) /\ Hid (∀ l, st = some l -> l.length <= j /\ acc.length + l.length <= rest.length) /\ acc.length <= rest.length + 1) (fun _ wr => zij w.heap.size wr)
 case atStart => exact ⟨some rest, [], rest.length, aT, zmh (by simpa using de.out), bX, zmh (fun k hk => .inl hk.symm), zmh rfl, zmh (fun l hl => by cases hl; simp), by simp⟩
 case round =>
  obtain ⟨st, acc, j, HD, HO, HF, HB, HE, HL, mC⟩ := hrel; obtain ⟨n6, iA, c6, p0, p1, cK, aQ, hd, hg, h2⟩ := HD.out.open_; have hE := zgS te pe _ _ _ _ _ HD.out; obtain ⟨a6, k6, rfl⟩ := zaa HO.out; rcases st with _ | l
  ·clear cK p1
   have aG : zaj zbQ rest.length (some rest) [] = (acc, none) := by rw [<- HE.out]; unfold zaj; rcases j with _ | j <;> rfl
   have HR := zmh (show zaG (5 :: rest) = none from zcW aG); clear aG; simp only [zju] at hE; rcases zmE n6 with rfl | oJ
   ·go_wp2_with (first | (go_at_call 119; refine hE.mono ?_; rintro r w7 ⟨rfl, rfl⟩) | (go_at_call 161; refine (zbN _ _).mono ?_; rintro r w8 ⟨t, ae, rfl, cB⟩))
    go_ret2; exact zd0 HR.out (HF.out.trans cB (fun _ _ e => e.elim))
   ·have bY : (0 : Int) < (n6 : Int) := by omega
    go_wp2_with (first | (go_at_call 119; refine hE.mono ?_; rintro r w7 ⟨rfl, rfl⟩) | (go_at_call 161; refine (zbN _ _).mono ?_; rintro r w8 ⟨t, ae, rfl, cB⟩))
    go_ret2; exact zd0 HR.out (HF.out.trans cB (fun _ _ e => e.elim))
  ·obtain rfl : n6 = l.length := cK l rfl
   simp only [zju] at hE; rcases l with _ | ⟨x, r⟩
   ·have aG : zaj zbQ rest.length (some rest) [] = (acc, some []) := by rw [<- HE.out]; unfold zaj; rcases j with _ | j <;> rfl
    have HR := zmh (show zaG (5 :: rest) = some acc from zcV aG); clear aG cK p1; simp only [zm9] at p0; go_wp2_with (go_at_call 119; refine hE.mono ?_; rintro r w7 ⟨rfl, rfl⟩)
    go_ret2; refine zdZ HR.out HF.out ?_; have h := HO.out; rw [zmi, lM.out]; exact h
   ·obtain ⟨n7, bY⟩ := exE ((x :: r).length)
    have mr : (0 : Int) < (n7 : Int) := by rw [<- bY]; simp
    have gm := HL.out _ rfl; have hM := zbo HD.out; rw [bY] at p0 gm hM; have cP := zcA te pe _ _ _ _ _ HD.out; have eV := zmh bY; clear cK p1 bY
    go_wp2_with (first
     | (go_at_call 119; refine hE.mono ?_; rintro r w7 ⟨rfl, rfl⟩)
     | (go_at_call 162; refine cP.mono ?_; rintro r w8 ⟨rfl, fF, cB⟩; refine Hid.out ?_))
    have s8 := cB.size; have D8 := zmh fF; have ip := zcA te pe _ _ _ _ _ fF; have F8 := zmh cB; clear fF cB cP p0; refine zmh ?_; go_wp2_with (go_at_call 162; refine ip.mono ?_; rintro r w9 ⟨rfl, fh, dY⟩; refine Hid.out ?_)
    have FA : Fr (fun k => k = w.heap.size) wr w9 := F8.out.same dY; have sA := FA.size; have DA := zmh fh; have dP := zmh FA
    have OA : w9.ownsRow base 166 2 (.slice a6 (np + acc.length) k6) (np + acc.length) ((pre ++ acc).flatMap Mrk.c) := zai HO.out FA (fun k hk e => by
     rcases HB.out k hk with h | h
     ·have := ir.out k h.symm; omega
     ·omega)
    have cN := zmh OA; clear fh dY ip FA OA D8 F8; refine zmh ?_
    go_wp2_with (first
     | (at_builtin; refine Hid.out ?_))
    have cY : (#[Value.int IntKind.u64 (zac (some (x :: r))).1, Value.int IntKind.u64 (zac (zac (some (x :: r))).2).1] : Array Value) = (Mrk.c (zbQ (some (x :: r))).1).toArray := rfl; rw [cY]; have bZ : ∀ l, (zbQ (some (x :: r))).2 = some l -> l.length < n7 := fun l hl => eV.out ▸ zjZ hl; have iq : Dec te pe w9 w.heap.size g cur (zbQ (some (x :: r))).2 := DA.out
    have dk : Hid (∀ j', j = j' + 1 -> zaj zbQ j' (zbQ (some (x :: r))).2 (acc ++ [(zbQ (some (x :: r))).1]) = zaj zbQ rest.length (some rest) []) := zmh (by rintro j' rfl; exact HE.out); clear cY DA hE HE; generalize zbQ (some (x :: r)) = S at iq bZ dk ⊢; obtain ⟨s1, jo⟩ := S; simp only [] at iq bZ dk ⊢; have gV := zmh iq
    have bi := zmh bZ; clear iq bZ; refine zmh ?_
    refine zaf _ rfl _ _ 160 160 rfl base 166 i0 _ 2 16 underlying160 aC az ay aB rfl (by decide) (.slice a6 (np + acc.length) k6) (np + acc.length) ((pre ++ acc).flatMap Mrk.c) rfl (cN.out.alloc _) _ 1 (Mrk.c s1) rfl (zaF underlying160 (znm w9 166 (Mrk.c s1).toArray) rfl (by simp [Mrk.c, Value.oneCell'])) (by unfold maxLen; omega) (by omega) (by simp; omega) ?_
    intro v' w2 ac ad av
    obtain ⟨a9, k9, rfl⟩ := zaa ac
    have aO : ∀ k, (Value.slice a6 (np + acc.length) k6).ownBlock = some k -> base <= k /\ k ≠ w.heap.size := fun k hk => ⟨(cN.out.lt k hk).1, by
     rcases HB.out k hk with h | h
     ·have := ir.out k h.symm; omega
     ·omega⟩
    have iB := ad.size; simp at iB; have fG : Fr (fun k => some k = (Value.slice a6 (np + acc.length) k6).ownBlock) w9 w2 := ((znl (fun k => some k = (Value.slice a6 (np + acc.length) k6).ownBlock) w9).alloc _).grown ad (fun k hk => .inl hk.symm)
    have rD : Dec te pe w2 w.heap.size g cur jo := gV.out.fr fG (fun e => (aO _ e.symm).2 rfl) (fun e => by have := (aO _ e.symm).1; omega) (fun e => by have := (aO _ e.symm).1; omega); have rO : w2.ownsRow base 166 2 (.slice a9 (np + acc.length + 1) k9) (np + (acc ++ [s1]).length) ((pre ++ (acc ++ [s1])).flatMap Mrk.c) := by
     rw [<- zmk, zmQ, zmi, zmy]; simpa [Nat.add_assoc] using ac
    have rF : Fr (fun k => some k = (Value.slice a' np k').ownBlock) w w2 := (HF.out.trans dP.out (fun k hk e => by omega)).trans fG (fun k hk e => by
     rcases HB.out k e.symm with h | h
     ·exact h
     ·omega)
    have rB : ∀ k, (Value.slice a9 (np + acc.length + 1) k9).ownBlock = some k -> (some k = (Value.slice a' np k').ownBlock ∨ w.heap.size < k) := fun k hk => by
     rcases av with h | h
     ·exact HB.out k (h ▸ hk)
     ·rw [h] at hk; injection hk with hk; simp at hk; exact .inr (by omega)
    have rM : zij w.heap.size w2 < n7 + 1 := by
     rcases jo with _ | l9
     ·rw [zc7 rD]; omega
     ·rw [zbo rD]; have := bi.out l9 rfl; omega
    have RD := zmh rD; have RO := zmh rO; have RF := zmh rF; have RB := zmh rB; clear rD rO rF rB ac ad av aO fG; go_wp2; go_roundw
    case rel =>
     obtain ⟨j', rfl⟩ : ∃ j', j = j' + 1 := ⟨j - 1, by have := eV.out; simp at this; omega⟩; refine ⟨jo, acc ++ [s1], j', RD, RO, RF, RB, zmh (dk.out j' rfl), zmh (fun l hl => ?_), by simp; omega⟩; have := bi.out l hl; rw [zmi, zmy]; omega
    case measure => rw [hM]; exact rM
theorem zhg (te : TypeId) (pe : Value) (dv : Value) (g base : Nat) (cur : Array Value) (pre : List Mrk) (xs : List UInt8) (v sv : Value) (w : World) (h : Rec te pe w g cur xs v) (ho : w.ownsRow base 166 2 sv pre.length (pre.flatMap Mrk.c)) (hb : g < base /\ 2 < base /\ base <= w.heap.size) (bx : pre.length <= 1073741824) :
 Calls prog 79 #[dv, v, sv] w (zbg w base sv.ownBlock pre xs) := by
 by_cases hx : (zaD (some xs)).1 = 5
 ·rcases xs with _ | ⟨b, rest⟩
  ·exact absurd hx (by decide)
  ·have hb2 : b = 5 := by
    have : b.toNat = (5 : UInt8).toNat := hx; exact UInt8.toNat_inj.1 this
   subst hb2; by_cases hr : rest = []
   ·subst hr; exact zfM te pe dv g base cur pre v sv w h ho ⟨hb.1, hb.2.1⟩
   ·exact zgR te pe dv g base cur pre rest hr v sv w h ho hb bx
 ·exact zgQ te pe dv g base cur pre xs v sv w h hx
theorem zad {w : World} {b : Nat} {a0 a1 a2 a3 a4 a5 a6 : Value} (h : Blk w b 54 #[a0, a1, a2, a3, a4, a5, a6]) :
 w.cell? ⟨b, 0, none⟩ = some a0 /\ w.cell? ⟨b, 1, none⟩ = some a1 /\ w.cell? ⟨b, 2, none⟩ = some a2 /\ w.cell? ⟨b, 3, none⟩ = some a3 /\ w.cell? ⟨b, 4, none⟩ = some a4 /\ w.cell? ⟨b, 5, none⟩ = some a5 /\ w.cell? ⟨b, 6, none⟩ = some a6 :=
 ⟨h.cell 0, h.cell 1, h.cell 2, h.cell 3, h.cell 4, h.cell 5, h.cell 6⟩
def zkC (n : Int) (w : World) (r : Ending) (w' : World) : Prop := r = .returned (.int .i64 n) /\ z_F w w'
def spc (p : Int × Nat) : List Value := [.int .i32 p.1, .int .u32 p.2]
def i1 (x : Int) : List Value := [.int .i64 x]
def u1 (x : Nat) : List Value := [.int .u64 x]
def f1 (x : Nat) : List Value := [.float .f64 x]
theorem zj4 : (prog.info? 361).map (fun i => (i.zero, i.size, i.bytes)) = some (some (.agg #[.int .i32 0, .int .u32 0]), 2, 8) := by kernel_rfl
theorem info319 : (prog.info? 319).map (fun i => (i.zero, i.size, i.bytes)) = some (some (.agg #[.int .i32 0, .int .u32 0]), 2, 8) := by kernel_rfl
theorem zh6 : (prog.info? 135).map (fun i => (i.zero, i.size, i.bytes)) = some (some (.float .f64 0), 1, 8) := by kernel_rfl
theorem info111 : (prog.info? 111).map (fun i => (i.zero, i.size, i.bytes)) = some (some (.int .u64 0), 1, 8) := by kernel_rfl
theorem info2 : (prog.info? 2).map (fun i => (i.zero, i.size, i.bytes)) = some (some (.int .i64 0), 1, 8) := by kernel_rfl
theorem zi0 {α : Type} (f : α -> List Value) (h1 : ∀ x, (f x).length = 1) : ∀ (l : List α) (k : Nat) (x : α), l[k]? = some x -> (l.flatMap f)[k]? = (f x)[0]?
 | [], k, x, h => by simp at h
 | y :: l, 0, x, h => by
   simp at h; subst h; rw [zmw, zm4 (by rw [h1]; omega)]
 | y :: l, k + 1, x, h => by
   rw [zmw, zm5 (by rw [h1]; omega), h1, Nat.add_sub_cancel]; exact zi0 f h1 l k x (by simpa using h)
def ziq (t : TypeId) (size : Nat) (w : World) (n : Nat) (cs : List Value) (r : Ending) (w' : World) : Prop :=
 ∃ v, r = .returned v /\ w'.ownsRow w.heap.size t size v n cs /\ z_F w w'
theorem ziy (P : Nat -> Prop) (v : Value) (l : List (Int × Nat)) (w : World) (h : Sl P w v 2 l.length (l.flatMap spc)) (hl : l.length <= 1099511627776) :
 Calls prog 235 #[v] w (ziq 361 2 w l.length (l.flatMap spc)) := by
 obtain ⟨A, c, rfl, ai, aQ, hr⟩ := h; obtain ⟨n, hn⟩ := exE l.length; rw [hn] at hr aQ hl ⊢; have HN := zmh hn; have HR := zmh hr; obtain ⟨i0, aC, az, ay, aB⟩ := info_parts zj4; clear hn hr ai; go_enter func235, ntmps235; go_wp2
 go_loopw [3, 8] (fun v i wr => ∃ k : Nat, k <= n /\ i = .int .i64 k /\ wr.ownsRow w.heap.size 361 2 v k ((l.take k).flatMap spc) /\ z_F w wr) (fun _ i _ => n - (intOf i).toNat)
 case atStart => exact ⟨0, zms _, rfl, zmv _ _ _ _, znl _ _⟩
 case round =>
  obtain ⟨k, hk, rfl, ab, hf⟩ := hrel; by_cases hlt : k < n
  ·obtain ⟨g, off, rfl, _, aa⟩ := HR.out (by omega)
   obtain ⟨x, hx⟩ : ∃ x, l[k]? = some x := ⟨_, zmj (by rw [HN.out]; exact hlt)⟩; have cc : ∀ j, j < 2 -> ∀ u, (spc x)[j]? = some u -> wr.cell? ⟨g, off + (k * 2 + j), none⟩ = some u := fun j hj u hu => by
    have := aa (k * 2 + j) u (by rw [zby spc (fun _ => rfl) l k x hx j hj]; exact hu); rw [hf.cell (p := ⟨g, off + (k * 2 + j), none⟩) (zmo w _ this) id]; exact this
   have c0 : wr.cell? ⟨g, off + k * 2, none⟩ = some (.int .i32 x.1) := cc 0 (by omega) _ rfl; have c1 : wr.cell? ⟨g, off + k * 2 + 1, none⟩ = some (.int .u32 x.2) := cc 1 (by omega) _ rfl; have HC := zmh aa; have HO := zmh ab; have HX := zmh hx; obtain ⟨a', n', k', rfl⟩ := zab ab; clear aa cc ab hx; go_wp2_with (at_builtin; refine Hid.out ?_)
   refine zmh ?_; refine zaf _ rfl _ _ 285 285 rfl w.heap.size 361 i0 _ 2 8 underlying285 aC az ay aB rfl (by decide) _ k ((l.take k).flatMap spc) rfl ((HO.out.alloc _).alloc _) _ 1 (spc x) rfl (zaF underlying285 (zaH wr _ 361 (spc x).toArray) rfl (by simp [spc, Value.oneCell'])) (by unfold maxLen; omega) (by omega) (by have := hf.size; simp; omega) ?_
   intro v' w2 ac ad av
   have af : w2.ownsRow w.heap.size 361 2 v' (k + 1) ((l.take (k + 1)).flatMap spc) := by rw [zam spc l k x HX.out]; exact ac
   have aq : z_F w w2 := ((hf.alloc _).alloc _).grown ad (fun g hg => .inr (((HO.out.lt g hg)).1)); have cD := zmh af; have bu := zmh aq; clear ac ad af aq hf c0 c1 av
   go_wp2; go_roundw
   case rel => exact ⟨k + 1, by omega, by go_num, cD.out, bu.out⟩
   case measure => simp [intOf]; omega
  ·go_wp2
   go_ret; obtain rfl : k = n := by omega
   refine ⟨_, rfl, ?_, hf⟩; rw [<- HN.out] at ab ⊢; rw [zmI] at ab; exact ab
theorem zf1 (P : Nat -> Prop) (v : Value) (l : List (Int × Nat)) (w : World) (h : Sl P w v 2 l.length (l.flatMap spc)) (hl : l.length <= 1099511627776) :
 Calls prog 237 #[v] w (ziq 319 2 w l.length (l.flatMap spc)) := by
 obtain ⟨A, c, rfl, ai, aQ, hr⟩ := h; obtain ⟨n, hn⟩ := exE l.length; rw [hn] at hr aQ hl ⊢; have HN := zmh hn; have HR := zmh hr; obtain ⟨i0, aC, az, ay, aB⟩ := info_parts info319; clear hn hr ai; go_enter func237, ntmps237; go_wp2
 go_loopw [3, 8] (fun v i wr => ∃ k : Nat, k <= n /\ i = .int .i64 k /\ wr.ownsRow w.heap.size 319 2 v k ((l.take k).flatMap spc) /\ z_F w wr) (fun _ i _ => n - (intOf i).toNat)
 case atStart => exact ⟨0, zms _, rfl, zmv _ _ _ _, znl _ _⟩
 case round =>
  obtain ⟨k, hk, rfl, ab, hf⟩ := hrel; by_cases hlt : k < n
  ·obtain ⟨g, off, rfl, _, aa⟩ := HR.out (by omega)
   obtain ⟨x, hx⟩ : ∃ x, l[k]? = some x := ⟨_, zmj (by rw [HN.out]; exact hlt)⟩; have cc : ∀ j, j < 2 -> ∀ u, (spc x)[j]? = some u -> wr.cell? ⟨g, off + (k * 2 + j), none⟩ = some u := fun j hj u hu => by
    have := aa (k * 2 + j) u (by rw [zby spc (fun _ => rfl) l k x hx j hj]; exact hu); rw [hf.cell (p := ⟨g, off + (k * 2 + j), none⟩) (zmo w _ this) id]; exact this
   have c0 : wr.cell? ⟨g, off + k * 2, none⟩ = some (.int .i32 x.1) := cc 0 (by omega) _ rfl; have c1 : wr.cell? ⟨g, off + k * 2 + 1, none⟩ = some (.int .u32 x.2) := cc 1 (by omega) _ rfl; have HC := zmh aa; have HO := zmh ab; have HX := zmh hx; obtain ⟨a', n', k', rfl⟩ := zab ab; clear aa cc ab hx; go_wp2_with (at_builtin; refine Hid.out ?_)
   refine zmh ?_; refine zaf _ rfl _ _ 188 188 rfl w.heap.size 319 i0 _ 2 8 underlying188 aC az ay aB rfl (by decide) _ k ((l.take k).flatMap spc) rfl ((HO.out.alloc _).alloc _) _ 1 (spc x) rfl (zaF underlying188 (zaH wr _ 319 (spc x).toArray) rfl (by simp [spc, Value.oneCell'])) (by unfold maxLen; omega) (by omega) (by have := hf.size; simp; omega) ?_
   intro v' w2 ac ad av
   have af : w2.ownsRow w.heap.size 319 2 v' (k + 1) ((l.take (k + 1)).flatMap spc) := by rw [zam spc l k x HX.out]; exact ac
   have aq : z_F w w2 := ((hf.alloc _).alloc _).grown ad (fun g hg => .inr (((HO.out.lt g hg)).1)); have cD := zmh af; have bu := zmh aq; clear ac ad af aq hf c0 c1 av
   go_wp2; go_roundw
   case rel => exact ⟨k + 1, by omega, by go_num, cD.out, bu.out⟩
   case measure => simp [intOf]; omega
  ·go_wp2
   go_ret; obtain rfl : k = n := by omega
   refine ⟨_, rfl, ?_, hf⟩; rw [<- HN.out] at ab ⊢; rw [zmI] at ab; exact ab
theorem zfi (P : Nat -> Prop) (v : Value) (l : List Nat) (w : World) (h : Sl P w v 1 l.length (l.flatMap u1)) (hl : l.length <= 1099511627776) :
 Calls prog 236 #[v] w (ziq 135 1 w l.length (l.flatMap f1)) := by
 obtain ⟨A, c, rfl, ai, aQ, hr⟩ := h; obtain ⟨n, hn⟩ := exE l.length; rw [hn] at hr aQ hl ⊢; have HN := zmh hn; have HR := zmh hr; obtain ⟨i0, aC, az, ay, aB⟩ := info_parts zh6; clear hn hr ai; go_enter func236, ntmps236; go_wp2
 go_loopw [3, 8] (fun v i wr => ∃ k : Nat, k <= n /\ i = .int .i64 k /\ wr.ownsRow w.heap.size 135 1 v k ((l.take k).flatMap f1) /\ z_F w wr) (fun _ i _ => n - (intOf i).toNat)
 case atStart => exact ⟨0, zms _, rfl, zmv _ _ _ _, znl _ _⟩
 case round =>
  obtain ⟨k, hk, rfl, ab, hf⟩ := hrel; by_cases hlt : k < n
  ·obtain ⟨g, off, rfl, _, aa⟩ := HR.out (by omega)
   obtain ⟨x, hx⟩ : ∃ x, l[k]? = some x := ⟨_, zmj (by rw [HN.out]; exact hlt)⟩; have c0 : wr.cell? ⟨g, off + k, none⟩ = some (.int .u64 x) := by
    have := aa k (.int .u64 x) (by rw [zi0 u1 (fun _ => rfl) l k x hx]; rfl); rw [hf.cell (p := ⟨g, off + k, none⟩) (zmo w _ this) id]; exact this
   have HC := zmh aa; have HO := zmh ab; have HX := zmh hx; obtain ⟨a', n', k', rfl⟩ := zab ab; clear aa ab hx
   go_wp2_with (first
    | (go_at_call 167; refine (ze1 _ _).mono ?_; rintro r w' ⟨rfl, rfl⟩)
    | (at_builtin; refine Hid.out ?_))
   refine zmh ?_; refine zaf _ rfl _ _ 286 286 rfl w.heap.size 135 i0 _ 1 8 underlying286 aC az ay aB rfl (by decide) _ k ((l.take k).flatMap f1) rfl (HO.out.alloc _) _ 1 (f1 x) rfl (zaF underlying286 (znm wr 135 (f1 x).toArray) rfl (by simp [f1, Value.oneCell'])) (by unfold maxLen; omega) (by omega) (by have := hf.size; simp; omega) ?_
   intro v' w2 ac ad av
   have af : w2.ownsRow w.heap.size 135 1 v' (k + 1) ((l.take (k + 1)).flatMap f1) := by rw [zam f1 l k x HX.out]; exact ac
   have aq : z_F w w2 := (hf.alloc _).grown ad (fun g hg => .inr (((HO.out.lt g hg)).1)); have cD := zmh af; have bu := zmh aq; clear ac ad af aq hf c0 av
   go_wp2; go_roundw
   case rel => exact ⟨k + 1, by omega, by go_num, cD.out, bu.out⟩
   case measure => simp [intOf]; omega
  ·go_wp2
   go_ret; obtain rfl : k = n := by omega
   refine ⟨_, rfl, ?_, hf⟩; rw [<- HN.out] at ab ⊢; rw [zmI] at ab; exact ab
theorem zdR (P : Nat -> Prop) (v : Value) (l : List Nat) (w : World) (h : Sl P w v 1 l.length (l.flatMap f1)) (hl : l.length <= 1099511627776) :
 Calls prog 238 #[v] w (ziq 111 1 w l.length (l.flatMap u1)) := by
 obtain ⟨A, c, rfl, ai, aQ, hr⟩ := h; obtain ⟨n, hn⟩ := exE l.length; rw [hn] at hr aQ hl ⊢; have HN := zmh hn; have HR := zmh hr; obtain ⟨i0, aC, az, ay, aB⟩ := info_parts info111; clear hn hr ai; go_enter func238, ntmps238; go_wp2
 go_loopw [3, 8] (fun v i wr => ∃ k : Nat, k <= n /\ i = .int .i64 k /\ wr.ownsRow w.heap.size 111 1 v k ((l.take k).flatMap u1) /\ z_F w wr) (fun _ i _ => n - (intOf i).toNat)
 case atStart => exact ⟨0, zms _, rfl, zmv _ _ _ _, znl _ _⟩
 case round =>
  obtain ⟨k, hk, rfl, ab, hf⟩ := hrel; by_cases hlt : k < n
  ·obtain ⟨g, off, rfl, _, aa⟩ := HR.out (by omega)
   obtain ⟨x, hx⟩ : ∃ x, l[k]? = some x := ⟨_, zmj (by rw [HN.out]; exact hlt)⟩; have c0 : wr.cell? ⟨g, off + k, none⟩ = some (.float .f64 x) := by
    have := aa k (.float .f64 x) (by rw [zi0 f1 (fun _ => rfl) l k x hx]; rfl); rw [hf.cell (p := ⟨g, off + k, none⟩) (zmo w _ this) id]; exact this
   have HC := zmh aa; have HO := zmh ab; have HX := zmh hx; obtain ⟨a', n', k', rfl⟩ := zab ab; clear aa ab hx
   go_wp2_with (first
    | (go_at_call 73; refine (zdB _ _).mono ?_; rintro r w' ⟨rfl, rfl⟩)
    | (at_builtin; refine Hid.out ?_))
   refine zmh ?_; refine zaf _ rfl _ _ 190 190 rfl w.heap.size 111 i0 _ 1 8 underlying190 aC az ay aB rfl (by decide) _ k ((l.take k).flatMap u1) rfl (HO.out.alloc _) _ 1 (u1 x) rfl (zaF underlying190 (znm wr 111 (u1 x).toArray) rfl (by simp [u1, Value.oneCell'])) (by unfold maxLen; omega) (by omega) (by have := hf.size; simp; omega) ?_
   intro v' w2 ac ad av
   have af : w2.ownsRow w.heap.size 111 1 v' (k + 1) ((l.take (k + 1)).flatMap u1) := by rw [zam u1 l k x HX.out]; exact ac
   have aq : z_F w w2 := (hf.alloc _).grown ad (fun g hg => .inr (((HO.out.lt g hg)).1)); have cD := zmh af; have bu := zmh aq; clear ac ad af aq hf c0 av
   go_wp2; go_roundw
   case rel => exact ⟨k + 1, by omega, by go_num, cD.out, bu.out⟩
   case measure => simp [intOf]; omega
  ·go_wp2
   go_ret; obtain rfl : k = n := by omega
   refine ⟨_, rfl, ?_, hf⟩; rw [<- HN.out] at ab ⊢; rw [zmI] at ab; exact ab
abbrev Lab := ByteArray × ByteArray
def zaK (p : Lab) : List Value := [.string p.1, .string p.2]
theorem info40 : (prog.info? 40).map (fun i => (i.zero, i.size, i.bytes)) = some (some (.agg #[.string ⟨#[]⟩, .string ⟨#[]⟩]), 2, 32) := by kernel_rfl
def zem (t : TypeId) (w : World) (l : List Lab) (r : Ending) (w' : World) : Prop :=
 ∃ v, r = .returned v /\ w'.ownsRow w.heap.size t 2 v l.length (l.flatMap zaK) /\ z_F w w'
theorem pairs_any (P : Nat -> Prop) (v : Value) (l : List Lab) (w : World) (h : Sl P w v 2 l.length (l.flatMap zaK)) (hl : l.length <= 1099511627776) :
 Calls prog 149 #[v] w (zem 108 w l) := by
 obtain ⟨A, c, rfl, ai, aQ, hr⟩ := h; obtain ⟨n, hn⟩ := exE l.length; rw [hn] at hr aQ hl ⊢; have HN := zmh hn; have HR := zmh hr; obtain ⟨i0, aC, az, ay, aB⟩ := info_parts zh7; clear hn hr ai; go_enter func149, ntmps149; go_wp2
 go_loopw [3, 8] (fun v i wr => ∃ k : Nat, k <= n /\ i = .int .i64 k /\ wr.ownsRow w.heap.size 108 2 v k ((l.take k).flatMap zaK) /\ z_F w wr) (fun _ i _ => n - (intOf i).toNat)
 case atStart => exact ⟨0, zms _, rfl, zmv _ _ _ _, znl _ _⟩
 case round =>
  obtain ⟨k, hk, rfl, ab, hf⟩ := hrel; by_cases hlt : k < n
  ·obtain ⟨g, off, rfl, _, aa⟩ := HR.out (by omega)
   obtain ⟨x, hx⟩ : ∃ x, l[k]? = some x := ⟨_, zmj (by rw [HN.out]; exact hlt)⟩; have cc : ∀ j, j < 2 -> ∀ u, (zaK x)[j]? = some u -> wr.cell? ⟨g, off + (k * 2 + j), none⟩ = some u := fun j hj u hu => by
    have := aa (k * 2 + j) u (by rw [zby zaK (fun _ => rfl) l k x hx j hj]; exact hu); rw [hf.cell (p := ⟨g, off + (k * 2 + j), none⟩) (zmo w _ this) id]; exact this
   have c0 : wr.cell? ⟨g, off + k * 2, none⟩ = some (.string x.1) := cc 0 (by omega) _ rfl; have c1 : wr.cell? ⟨g, off + k * 2 + 1, none⟩ = some (.string x.2) := cc 1 (by omega) _ rfl; have HC := zmh aa; have HO := zmh ab; have HX := zmh hx; obtain ⟨a', n', k', rfl⟩ := zab ab; clear aa cc ab hx; go_wp2_with (at_builtin; refine Hid.out ?_)
   refine zmh ?_; refine zaf _ rfl _ _ 115 115 rfl w.heap.size 108 i0 _ 2 32 underlying115 aC az ay aB rfl (by decide) _ k ((l.take k).flatMap zaK) rfl ((HO.out.alloc _).alloc _) _ 1 (zaK x) rfl (zaF underlying115 (zaH wr _ 108 (zaK x).toArray) rfl (by simp [zaK, Value.oneCell'])) (by unfold maxLen; omega) (by omega) (by have := hf.size; simp; omega) ?_
   intro v' w2 ac ad av
   have af : w2.ownsRow w.heap.size 108 2 v' (k + 1) ((l.take (k + 1)).flatMap zaK) := by rw [zam zaK l k x HX.out]; exact ac
   have aq : z_F w w2 := ((hf.alloc _).alloc _).grown ad (fun g hg => .inr (((HO.out.lt g hg)).1)); have cD := zmh af; have bu := zmh aq; clear ac ad af aq hf c0 c1 av
   go_wp2; go_roundw
   case rel => exact ⟨k + 1, by omega, by go_num, cD.out, bu.out⟩
   case measure => simp [intOf]; omega
  ·go_wp2
   go_ret; obtain rfl : k = n := by omega
   refine ⟨_, rfl, ?_, hf⟩; rw [<- HN.out] at ab ⊢; rw [zmI] at ab; exact ab
def zaB (n : Nat) : Nat := if n < 255 then 1 else 4
def za6 (p : Lab) : Nat := (p.1.size + zaB p.1.size) + (p.2.size + zaB p.2.size)
def zaC (l : List Lab) : Nat := (l.map za6).sum
theorem zfs (n : Nat) (hn : n <= 16777216) (w : World) : Calls prog 271 #[.int .u64 n] w fun r w' => r = .returned (.int .i64 (zaB n)) /\ w = w' := by
 by_cases h : n < 255
 ·have e : zaB n = 1 := if_pos h
  have h1 : (n : Int) < 255 := by omega
  rw [e]; go_enter func271, ntmps271; go_wp2; go_ret; exact ⟨rfl, rfl⟩
 ·have e : zaB n = 4 := znd h
  have h1 : ¬ (n : Int) < 255 := by omega
  have h2 : (n : Int) <= 16777216 := by omega
  rw [e]; go_enter func271, ntmps271; go_wp2; go_ret; exact ⟨rfl, rfl⟩
theorem zh4 (g off : Nat) (p : Lab) (h1 : p.1.size <= 1048576) (h2 : p.2.size <= 1048576) (w : World) (c0 : w.cell? ⟨g, off, none⟩ = some (.string p.1)) (c1 : w.cell? ⟨g, off + 1, none⟩ = some (.string p.2)) :
 Calls prog 248 #[.pointer (some ⟨g, off, none⟩)] w fun r w' => r = .returned (.int .i64 (za6 p)) /\ w = w' := by
 have e1 : za6 p = (p.1.size + zaB p.1.size) + (p.2.size + zaB p.2.size) := rfl; have bh : zaB p.1.size <= 4 := by unfold zaB; split <;> omega
 have ek : zaB p.2.size <= 4 := by unfold zaB; split <;> omega
 have q1 := zfs p.1.size (by omega) w; have q2 := zfs p.2.size (by omega) w; generalize za6 p = s at e1 ⊢; obtain ⟨a, b⟩ := p; simp only [] at c0 c1 h1 h2 bh ek q1 q2 e1; generalize zaB a.size = x at bh q1 e1; generalize zaB b.size = y at ek q2 e1; have hs : (s : Int) = (a.size : Int) + x + ((b.size : Int) + y) := by omega
 clear e1; go_enter func248, ntmps248; go_wp2_with (go_at_call 271; first | (refine q1.mono ?_; rintro r w1 ⟨rfl, rfl⟩) | (refine q2.mono ?_; rintro r w1 ⟨rfl, rfl⟩))
 go_ret; exact ⟨by rw [hs]; rfl, rfl⟩
theorem zfe (p : Lab) (h1 : p.1.size <= 1048576) (h2 : p.2.size <= 1048576) : za6 p <= 2097160 := by
 have bh : zaB p.1.size <= 4 := by unfold zaB; split <;> omega
 have ek : zaB p.2.size <= 4 := by unfold zaB; split <;> omega
 unfold za6; omega
theorem zh1 (l : List Lab) (k : Nat) (x : Lab) (h : l[k]? = some x) : zaC (l.take (k + 1)) = zaC (l.take k) + za6 x := by
 unfold zaC; rw [zmS, h]; simp
theorem zdI : ∀ (l : List Lab), (∀ p ∈ l, p.1.size <= 1048576 /\ p.2.size <= 1048576) -> zaC l <= l.length * 2097160
 | [], _ => by simp [zaC]
 | p :: l, h => by
   have h1 := zdI l (fun q hq => h q (by simp [hq])); have h2 := zfe p (h p (by simp)).1 (h p (by simp)).2; have e : zaC (p :: l) = za6 p + zaC l := rfl; rw [e, zmz, Nat.add_mul]; omega
theorem sum_small (s k : Nat) (h : s <= k * 2097160) (hk : k <= 4096) : s <= 8589967360 := by omega
theorem zey (P : Nat -> Prop) (v : Value) (l : List Lab) (w : World) (h : Sl P w v 2 l.length (l.flatMap zaK)) (hl : l.length <= 4096) (hs : ∀ p ∈ l, p.1.size <= 1048576 /\ p.2.size <= 1048576) :
 Calls prog 208 #[v] w fun r w' => r = .returned (.int .i64 (zaC l)) /\ z_F w w' := by
 obtain ⟨A, c, rfl, ai, aQ, hr⟩ := h; obtain ⟨n, hn⟩ := exE l.length; rw [hn] at hr aQ hl ⊢; have HN := zmh hn; have HR := zmh hr; have HS := zmh hs; clear hn hr ai hs; go_enter func208, ntmps208; go_wp2
 go_loopw [2, 7] (fun v i wr => ∃ k s : Nat, k <= n /\ i = .int .i64 k /\ v = .int .i64 s /\ Hid (zaC (l.take k) = s) /\ s <= k * 2097160 /\ Hid (z_F w wr)) (fun _ i _ => n - (intOf i).toNat)
 case atStart => exact ⟨0, 0, zms _, rfl, rfl, zmh rfl, zms _, zmh (znl _ _)⟩
 case round =>
  obtain ⟨k, s, hk, rfl, rfl, HM, hsb, HF⟩ := hrel; by_cases hlt : k < n
  ·obtain ⟨g, off, rfl, _, aa⟩ := HR.out (by omega)
   obtain ⟨x, hx⟩ : ∃ x, l[k]? = some x := ⟨_, zmj (by rw [HN.out]; exact hlt)⟩; have cc : ∀ j, j < 2 -> ∀ u, (zaK x)[j]? = some u -> wr.cell? ⟨g, off + (k * 2 + j), none⟩ = some u := fun j hj u hu => by
    have := aa (k * 2 + j) u (by rw [zby zaK (fun _ => rfl) l k x hx j hj]; exact hu); rw [HF.out.cell (p := ⟨g, off + (k * 2 + j), none⟩) (zmo w _ this) id]; exact this
   have c0 : wr.cell? ⟨g, off + k * 2, none⟩ = some (.string x.1) := cc 0 (by omega) _ rfl; have c1 : wr.cell? ⟨g, off + k * 2 + 1, none⟩ = some (.string x.2) := cc 1 (by omega) _ rfl; have ej := HS.out x (zmp hx); have bQ := zfe x ej.1 ej.2; have hB := znm wr 108 #[.string x.1, .string x.2]
   have hC := zh4 wr.heap.size 0 x ej.1 ej.2 (wr.alloc (.cells #[.string x.1, .string x.2] 108)) (hB.cell 0) (hB.cell 1); have HT := zmh (zh1 l k x hx); have ek : s + 2097160 <= (k + 1) * 2097160 := by rw [Nat.add_mul]; omega
   have hk4 : s <= 8589967360 := sum_small s k hsb (by omega); generalize za6 x = z at bQ hC HT; clear cc hx hB ej aa; go_wp2_with (go_at_call 248; refine hC.mono ?_; rintro r w1 ⟨rfl, rfl⟩)
   go_roundw
   case rel => exact ⟨k + 1, s + z, by omega, by go_num, by first | rfl | go_num | (congr 1; omega), zmh (by rw [HT.out, HM.out]), by omega, zmh (HF.out.alloc _)⟩
   case measure => simp [intOf]; omega
  ·go_wp2
   go_ret; obtain rfl : k = n := by omega
   refine ⟨?_, HF.out⟩; have e1 : l.take k = l := zmq (by rw [HN.out]; exact zmt _); have h := HM.out; rw [e1] at h; rw [h]; rfl
def zaN (s : ByteArray) : List UInt8 := Lib.uvarint s.size ++ s.data.toList
def zbL (p : Lab) : List UInt8 := zaN p.1 ++ zaN p.2
def zbj (l : List Lab) : List UInt8 := Lib.uvarint l.length ++ l.flatMap zbL
def zce (st : St) : ByteArray × St := match (gUv st).2 with
 | none => (⟨#[]⟩, none)
 | some r => if r.length < (gUv st).1 then (⟨#[]⟩, none) else (⟨(r.take (gUv st).1).toArray⟩, some (r.drop (gUv st).1))
theorem zdL (s : ByteArray) (r : List UInt8) (h : s.size < 18446744073709551616) : zce (some (zaN s ++ r)) = (s, some r) := by
 have e : s.data.toList.length = s.size := by rw [<- znb]
 have e2 : some (zaN s ++ r) = some (Lib.uvarint s.size ++ (s.data.toList ++ r)) := by rw [zaN, zmk]
 unfold zce; rw [e2, zez _ h]; simp only []; rw [znd (by rw [zmi]; omega), List.take_left' e, List.drop_left' e]
theorem ziW (l : List UInt8) (s : ByteArray) (st : St) (h : zce (some l) = (s, st)) : s.size <= l.length /\ ∀ r, st = some r -> r.length <= l.length := by
 unfold zce at h; have bQ : ∀ r, (gUv (some l)).2 = some r -> r.length <= l.length := fun r hr => by
  unfold gUv at hr; simp only [] at hr; split at hr
  ·injection hr with hr
   rw [<- hr, List.length_drop]; omega
  ·cases hr
 split at h
 ·injection h with h1 h2
  subst h1 h2; exact ⟨zms _, fun r hr => by cases hr⟩
 ·rename_i r hr
  have := bQ r hr; split at h
  ·injection h with h1 h2
   subst h1 h2; exact ⟨zms _, fun r hr => by cases hr⟩
  ·injection h with h1 h2
   subst h1 h2; refine ⟨?_, fun r' hr' => ?_⟩
   ·show (r.take _).toArray.size <= _
    simp; omega
   ·injection hr' with hr'
    rw [<- hr', List.length_drop]; omega
def gLab (st : St) : Lab × St := (((zce st).1, (zce (zce st).2).1), (zce (zce st).2).2)
theorem gLab_enc (p : Lab) (r : List UInt8) (h1 : p.1.size < 18446744073709551616) (h2 : p.2.size < 18446744073709551616) : gLab (some (zbL p ++ r)) = (p, some r) := by
 unfold gLab zbL; rw [zmk, zdL _ _ h1]; simp only []; rw [zdL _ _ h2]
def za9 (st : St) : Nat -> List Lab × St
 | 0 => ([], st)
 | k + 1 => ((za9 st k).1 ++ [(gLab (za9 st k).2).1], (gLab (za9 st k).2).2)
theorem zgz (l : List Lab) (r : List UInt8) (hs : ∀ p ∈ l, p.1.size < 18446744073709551616 /\ p.2.size < 18446744073709551616) :
 ∀ k, k <= l.length -> za9 (some (l.flatMap zbL ++ r)) k = (l.take k, some ((l.drop k).flatMap zbL ++ r))
 | 0, _ => by simp [za9]
 | k + 1, hk => by
   have ih := zgz l r hs k (by omega); have hx : l[k]? = some l[k] := zmj (by omega); have hm := hs _ (zmp hx); rw [za9, ih]; simp only []; rw [List.drop_eq_getElem_cons (by omega : k < l.length), zmw, zmk, gLab_enc _ _ hm.1 hm.2]; simp only []; rw [List.take_succ_eq_append_getElem (by omega)]
structure Mta where
 ref : Nat
 ty : UInt8
 unit : ByteArray
 help : ByteArray
def Mta.wf (s : Mta) : Prop := s.ref < 18446744073709551616 /\ s.unit.size <= 4096 /\ s.help.size <= 4096
def Mta.c (s : Mta) : List Value := [.int .u64 s.ref, .int .u8 s.ty.toNat, .string s.unit, .string s.help]
theorem info174 : (prog.info? 174).map (fun i => (i.zero, i.size, i.bytes)) = some (some (.agg #[.int .u64 0, .int .u8 0, .string ⟨#[]⟩, .string ⟨#[]⟩]), 4, 48) := by kernel_rfl
theorem zdy {α : Type} (f : α -> List Value) (h3 : ∀ x, (f x).length = 4) : ∀ (l : List α) (k : Nat) (x : α), l[k]? = some x -> ∀ j, j < 4 -> (l.flatMap f)[k * 4 + j]? = (f x)[j]?
 | [], k, x, h, j, hj => by simp at h
 | y :: l, 0, x, h, j, hj => by
   simp at h; subst h; rw [zmw, zm4 (by rw [h3]; omega)]; simp
 | y :: l, k + 1, x, h, j, hj => by
   rw [zmw, zm5 (by rw [h3]; omega), h3, show (k + 1) * 4 + j - 4 = k * 4 + j by omega]; exact zdy f h3 l k x (by simpa using h) j hj
def zgV (w : World) (l : List Mta) (r : Ending) (w' : World) : Prop :=
 ∃ v, r = .returned v /\ w'.ownsRow w.heap.size 174 4 v l.length (l.flatMap Mta.c) /\ z_F w w'
theorem zea (P : Nat -> Prop) (v : Value) (l : List Mta) (w : World) (h : Sl P w v 4 l.length (l.flatMap Mta.c)) (hl : l.length <= 1099511627776) :
 Calls prog 82 #[v] w (zgV w l) := by
 obtain ⟨A, c, rfl, ai, aQ, hr⟩ := h; obtain ⟨n, hn⟩ := exE l.length; rw [hn] at hr aQ hl ⊢; have HN := zmh hn; have HR := zmh hr; obtain ⟨i0, aC, az, ay, aB⟩ := info_parts info174; clear hn hr ai; go_enter func82, ntmps82; go_wp2
 go_loopw [2, 7] (fun v i wr => ∃ k : Nat, k <= n /\ i = .int .i64 k /\ wr.ownsRow w.heap.size 174 4 v k ((l.take k).flatMap Mta.c) /\ z_F w wr) (fun _ i _ => n - (intOf i).toNat)
 case atStart => exact ⟨0, zms _, rfl, zmv _ _ _ _, znl _ _⟩
 case round =>
  obtain ⟨k, hk, rfl, ab, hf⟩ := hrel; by_cases hlt : k < n
  ·obtain ⟨g, off, rfl, _, aa⟩ := HR.out (by omega)
   obtain ⟨x, hx⟩ : ∃ x, l[k]? = some x := ⟨_, zmj (by rw [HN.out]; exact hlt)⟩; have cc : ∀ j, j < 4 -> ∀ u, (Mta.c x)[j]? = some u -> wr.cell? ⟨g, off + (k * 4 + j), none⟩ = some u := fun j hj u hu => by
    have := aa (k * 4 + j) u (by rw [zdy Mta.c (fun _ => rfl) l k x hx j hj]; exact hu); rw [hf.cell (p := ⟨g, off + (k * 4 + j), none⟩) (zmo w _ this) id]; exact this
   have c0 : wr.cell? ⟨g, off + k * 4, none⟩ = some (.int .u64 x.ref) := cc 0 (by omega) _ rfl; have c1 : wr.cell? ⟨g, off + k * 4 + 1, none⟩ = some (.int .u8 x.ty.toNat) := cc 1 (by omega) _ rfl; have c2 : wr.cell? ⟨g, off + k * 4 + 2, none⟩ = some (.string x.unit) := cc 2 (by omega) _ rfl; have c3 : wr.cell? ⟨g, off + k * 4 + 3, none⟩ = some (.string x.help) := cc 3 (by omega) _ rfl
   have HC := zmh aa; have HO := zmh ab; have HX := zmh hx; obtain ⟨a', n', k', rfl⟩ := zab ab; clear aa cc ab hx; go_wp2_with (at_builtin; refine Hid.out ?_)
   refine zmh ?_
   refine zaf _ rfl _ _ 169 169 rfl w.heap.size 174 i0 _ 4 48 underlying169 aC az ay aB rfl (by decide) _ k ((l.take k).flatMap Mta.c) rfl ((HO.out.alloc _).alloc _) _ 1 (Mta.c x) rfl (zaF underlying169 (zaH wr _ 174 (Mta.c x).toArray) rfl (by simp [Mta.c, Value.oneCell'])) (by unfold maxLen; omega) (by omega) (by first | omega | (simp; omega) | (have := hf.size; simp; omega)) ?_
   intro v' w2 ac ad av
   have af : w2.ownsRow w.heap.size 174 4 v' (k + 1) ((l.take (k + 1)).flatMap Mta.c) := by rw [zam Mta.c l k x HX.out]; exact ac
   have aq : z_F w w2 := ((hf.alloc _).alloc _).grown ad (fun g hg => .inr (((HO.out.lt g hg)).1)); have cD := zmh af; have bu := zmh aq; clear ac ad af aq hf c0 c1 c2 c3 av
   go_wp2; go_roundw
   case rel => exact ⟨k + 1, by omega, by go_num, cD.out, bu.out⟩
   case measure => simp [intOf]; omega
  ·go_wp2
   go_ret; obtain rfl : k = n := by omega
   refine ⟨_, rfl, ?_, hf⟩; rw [<- HN.out] at ab ⊢; rw [zmI] at ab; exact ab
theorem zbE {α : Type} (f : α -> List UInt8) (m : Nat) : ∀ l : List α, (∀ x ∈ l, (f x).length <= m) -> (l.flatMap f).length <= l.length * m
 | [], _ => by simp
 | x :: l, hf => by
   have h1 := zbE f m l (fun y hy => hf y (zng _ hy)); have h2 := hf x (zna ..); rw [zmw, zmi, zmz, Nat.add_mul]; omega
def zb3 (s : Mta) : List UInt8 := Lib.uvarint s.ref ++ (s.ty :: (Lib.uvarint 2 ++ (zaN ⟨#[85, 78, 73, 84]⟩ ++ (zaN s.unit ++ (zaN ⟨#[72, 69, 76, 80]⟩ ++ zaN s.help)))))
def zbJ (l : List Mta) : List UInt8 := 6 :: l.flatMap zb3
theorem zcy (s : ByteArray) (h : s.size < 18446744073709551616) : (zaN s).length <= 10 + s.size := by
 have := zmx h; rw [zaN, zmi, <- znb]; omega
theorem zhG (s : Mta) (h : s.wf) : (zb3 s).length <= 8300 := by
 obtain ⟨h0, h1, h2⟩ := h; have a0 := zmx h0; have a1 := zmx (x := 2) (by omega); have a2 := zcy ⟨#[85, 78, 73, 84]⟩ (by decide); have a3 := zcy s.unit (by omega); have a4 := zcy ⟨#[72, 69, 76, 80]⟩ (by decide); have a5 := zcy s.help (by omega); have e1 : (⟨#[85, 78, 73, 84]⟩ : ByteArray).size = 4 := rfl
 have e2 : (⟨#[72, 69, 76, 80]⟩ : ByteArray).size = 4 := rfl; simp only [zb3, zmi, zmz]; omega
theorem zi4 (ep : Value) (sv : Value) (P : Nat -> Prop) (v : Value) (xs : List UInt8) (l : List Mta) (w : World) (h : Sl P w sv 4 l.length (l.flatMap Mta.c)) (ab : w.ownsRow 0 5 1 v xs.length (bc xs)) (hl : xs.length <= 1073741824)
 (au : l.length <= 1048576) (aD : ∀ s ∈ l, s.wf) (hP : ∀ g, P g -> g < w.heap.size /\ some g ≠ v.ownBlock) :
 Calls prog 96 #[ep, sv, v] w (zbP w v.ownBlock (xs ++ zbJ l)) := by
 obtain ⟨A, c, rfl, ai, aQ, hr⟩ := h; obtain ⟨a', n', k', rfl⟩ := zab ab; obtain ⟨n, hn⟩ := exE l.length; rw [hn] at aQ hr au ⊢; have hE := Enc.made (z := .int .u8 0) ab _ rfl; have hQ := zck w.heap.size _ xs 6 _ hE (by omega); have e2 : ((6 : UInt8).toNat : Int) = 6 := rfl; rw [e2] at hQ; have HN := zmh hn; have HR := zmh hr; have HP := zmh hP; have HE := zmh hE
 clear hE hr e2 hn ai hP; go_enter func96, ntmps96; go_wp2_with (go_at_call 180; refine hQ.mono ?_; rintro r1 w1 ⟨rfl, R⟩; refine Hid.out ?_)
 have cR := zmh R; clear R hQ; refine zmh ?_; go_wp2_with fail
 have cL : Fr (fun k => some k = (Value.slice a' n' k').ownBlock) w (w.alloc (.cells #[.slice a' n' k', .int .u8 0, .int .u8 0, .int .u8 0, .int .u8 0, .int .u8 0, .int .u8 0, .int .u8 0, .int .u8 0, .int .u8 0, .int .u8 0] 224)) := (znl _ w).alloc _; generalize dZ : w.alloc _ = WB at HE cR cL; have hB : w.heap.size < WB.heap.size := by rw [<- dZ]; simp
 clear dZ; have cS := zmh cL; clear cL; go_loopw [15] (fun i wr => ∃ k : Nat, k <= n /\ i = .int .i64 k /\ Put WB w.heap.size (Value.slice a' n' k').ownBlock xs ([6] ++ (l.take k).flatMap zb3) wr) (fun i _ => n - (intOf i).toNat)
 case atStart => exact ⟨0, zms _, rfl, by simpa using cR.out⟩
 case round =>
  obtain ⟨k, hk, rfl, R⟩ := hrel; by_cases hlt : k < n
  ·obtain ⟨g, off, rfl, ga, aa⟩ := HR.out (by omega)
   have hg := HP.out g ga; obtain ⟨x, hx⟩ : ∃ x, l[k]? = some x := ⟨_, zmj (by rw [HN.out]; exact hlt)⟩; have eW := aD x (zmp hx)
   have dM : Fr (fun k => some k = (Value.slice a' n' k').ownBlock) w wr := cS.out.trans R.fr (fun k hk e => by
    rcases e with e | e
    ·omega
    ·exact e)
   have cc : ∀ j, j < 4 -> ∀ u, (Mta.c x)[j]? = some u -> wr.cell? ⟨g, off + (k * 4 + j), none⟩ = some u := fun j hj u hu => by
    have := aa (k * 4 + j) u (by rw [zdy Mta.c (fun _ => rfl) l k x hx j hj]; exact hu); rw [dM.cell (p := ⟨g, off + (k * 4 + j), none⟩) hg.1 hg.2]; exact this
   have d0 : wr.cell? ⟨g, off + k * 4, none⟩ = some (.int .u64 x.ref) := cc 0 (by omega) _ rfl; have d1 : wr.cell? ⟨g, off + k * 4 + 1, none⟩ = some (.int .u8 x.ty.toNat) := cc 1 (by omega) _ rfl; have d2 : wr.cell? ⟨g, off + k * 4 + 2, none⟩ = some (.string x.unit) := cc 2 (by omega) _ rfl; have d3 : wr.cell? ⟨g, off + k * 4 + 3, none⟩ = some (.string x.help) := cc 3 (by omega) _ rfl
   have bI : ([(6 : UInt8)] ++ (l.take k).flatMap zb3).length <= 1 + k * 8300 := by
    have h1 := zbE zb3 8300 (l.take k) (fun s hs => zhG s (aD s (zne hs))); have h2 : (l.take k).length <= k := znh _ _; have h3 : (l.take k).length * 8300 <= k * 8300 := zmu _ h2; rw [zmi, zmy]; omega
   have ct : k * 8300 <= 1048576 * 8300 := zmu _ (by omega); obtain ⟨h0, h1, h2⟩ := eW; have u0 := zmx h0; have u1 := zmx (x := 2) (by omega); have u2 := zcy ⟨#[85, 78, 73, 84]⟩ (by decide); have u3 := zcy x.unit (by omega); have u4 := zcy ⟨#[72, 69, 76, 80]⟩ (by decide)
   have z1 : (⟨#[85, 78, 73, 84]⟩ : ByteArray).size = 4 := rfl; have z2 : (⟨#[72, 69, 76, 80]⟩ : ByteArray).size = 4 := rfl; obtain ⟨Y, hY⟩ := exE ([(6 : UInt8)] ++ (l.take k).flatMap zb3); rw [hY] at bI; rw [hY] at R; have HY := zmh hY; have HX := zmh hx; have dd := znm wr 174 #[.int .u64 x.ref, .int .u8 x.ty.toNat, .string x.unit, .string x.help]
   have RA := R.alloc (.cells #[.int .u64 x.ref, .int .u8 x.ty.toNat, .string x.unit, .string x.help] 174); have cT := zmh dd; have bV := zmh RA; have kN : Y.length <= 8703182849 := by omega
   have HU := zmh (zm8 u0 (zm8 u1 (zm8 u2 (zm8 u3 (zm8 u4 (zm8 z1 z2)))))); have HW := zmh (zm8 h0 (zm8 h1 h2)); clear hx dM cc dd aa hY R RA bI ct h0 h1 h2 u0 u1 u2 u3 u4 z1 z2 aD
   go_wp2_with (first
    | (go_at_call 185; refine (zag bV.out (f := 185) (args := #[.pointer (some ⟨w.heap.size, 0, none⟩), .int .u64 x.ref]) (zs := Lib.uvarint x.ref) (fun o2 he => zcK _ o2 _ _ HW.out.1 _ he (by rw [zmi]; omega))).mono ?_; rintro rA wA ⟨rfl, R1, K1⟩
       have ax := K1.out _ _ _ (by decide) (by decide) cT.out; have p1 := ax.cell 1; have cE := zmh ax; have bj := zmh R1; have bd : (Y ++ Lib.uvarint x.ref).length <= 8703182859 := by have := HU.out.1; rw [zmi]; omega
       clear R1 K1 ax)
    | (go_at_call 180; refine (zag bj.out (f := 180) (args := #[.pointer (some ⟨w.heap.size, 0, none⟩), .int .u8 x.ty.toNat]) (zs := [x.ty]) (fun o2 he => zck _ o2 _ _ _ he (by rw [zmi]; omega))).mono ?_; rintro rB wB ⟨rfl, R1, K1⟩
       have ax := K1.out _ _ _ (by decide) (by decide) cE.out; have dg := zmh ax; have bG := zmh R1; have eX : (Y ++ Lib.uvarint x.ref ++ [x.ty]).length <= 8703182860 := by rw [zmi]; simp only [zmy]; omega
       clear R1 K1 ax cE bj)
    | (go_at_call 186; refine (zag bG.out (f := 186) (args := #[.pointer (some ⟨w.heap.size, 0, none⟩), .int .i64 2]) (zs := Lib.uvarint 2) (fun o2 he => za8 _ o2 _ 2 (by omega) _ he (by rw [zmi]; omega))).mono ?_; rintro rC wC ⟨rfl, R1, K1⟩
       have ax := K1.out _ _ _ (by decide) (by decide) dg.out; have bH := zmh ax; have jZ := zmh R1; have pz : (Y ++ Lib.uvarint x.ref ++ [x.ty] ++ Lib.uvarint 2).length <= 8703182870 := by have := HU.out.2.1; rw [zmi]; omega
       clear R1 K1 ax dg bG)
    | (go_at_call 187; refine (zag jZ.out (f := 187) (args := #[.pointer (some ⟨w.heap.size, 0, none⟩), .string ⟨#[85, 78, 73, 84]⟩]) (zs := zaN ⟨#[85, 78, 73, 84]⟩) (fun o2 he => zb1 _ o2 _ _ _ he (by rw [zmi]; omega) (by have := HU.out.2.2.2.2.2.1; omega))).mono ?_; rintro rD wD ⟨rfl, R1, K1⟩
       have ax := K1.out _ _ _ (by decide) (by decide) bH.out; have p2 := ax.cell 2; have kH := zmh ax; have ky := zmh R1; have hv5 : (Y ++ Lib.uvarint x.ref ++ [x.ty] ++ Lib.uvarint 2 ++ zaN ⟨#[85, 78, 73, 84]⟩).length <= 8703182884 := by have := HU.out.2.2.1; have := HU.out.2.2.2.2.2.1; rw [zmi]; omega
       clear R1 K1 ax bH jZ)
    | (go_at_call 187; refine (zag ky.out (f := 187) (args := #[.pointer (some ⟨w.heap.size, 0, none⟩), .string x.unit]) (zs := zaN x.unit) (fun o2 he => zb1 _ o2 _ _ _ he (by rw [zmi]; omega) (by have := HW.out.2.1; omega))).mono ?_; rintro rE wE ⟨rfl, R1, K1⟩
       have ax := K1.out _ _ _ (by decide) (by decide) kH.out; have cj := zmh ax; have mN := zmh R1; have hv6 : (Y ++ Lib.uvarint x.ref ++ [x.ty] ++ Lib.uvarint 2 ++ zaN ⟨#[85, 78, 73, 84]⟩ ++ zaN x.unit).length <= 8703186990 := by have := HU.out.2.2.2.1; have := HW.out.2.1; rw [zmi]; omega
       clear R1 K1 ax kH ky)
    | (go_at_call 187; refine (zag mN.out (f := 187) (args := #[.pointer (some ⟨w.heap.size, 0, none⟩), .string ⟨#[72, 69, 76, 80]⟩]) (zs := zaN ⟨#[72, 69, 76, 80]⟩) (fun o2 he => zb1 _ o2 _ _ _ he (by rw [zmi]; omega) (by have := HU.out.2.2.2.2.2.2; omega))).mono ?_; rintro rF wF ⟨rfl, R1, K1⟩
       have ax := K1.out _ _ _ (by decide) (by decide) cj.out; have p3 := ax.cell 3; have oV := zmh R1; have hv7 : (Y ++ Lib.uvarint x.ref ++ [x.ty] ++ Lib.uvarint 2 ++ zaN ⟨#[85, 78, 73, 84]⟩ ++ zaN x.unit ++ zaN ⟨#[72, 69, 76, 80]⟩).length <= 8703187004 := by have := HU.out.2.2.2.2.1; have := HU.out.2.2.2.2.2.2; rw [zmi]; omega
       clear R1 K1 ax cj mN)
    | (go_at_call 187; refine (zag oV.out (f := 187) (args := #[.pointer (some ⟨w.heap.size, 0, none⟩), .string x.help]) (zs := zaN x.help) (fun o2 he => zb1 _ o2 _ _ _ he (by rw [zmi]; omega) (by have := HW.out.2.2; omega))).mono ?_; rintro rG wG ⟨rfl, R1, K1⟩
       have bT := zmh R1
       clear R1 K1 oV))
   have RE : Put WB w.heap.size (Value.slice a' n' k').ownBlock xs ([6] ++ (l.take (k + 1)).flatMap zb3) wG := by
    rw [zal zb3 l k x HX.out, <- zmk, HY.out]; simpa [zb3, zmk] using bT.out
   have cM := zmh RE; clear RE bT; go_wp2; go_roundw
   case rel => exact ⟨k + 1, by omega, by go_num, cM.out⟩
   case measure => simp [intOf]; omega
  ·obtain rfl : k = n := by omega
   obtain ⟨oZ, dx, dX, fS⟩ := R; have hG := zd4 _ _ _ _ dx; have HEZ := zmh dx; have HZ := zmh dX; clear dx dX; go_wp2_with (go_at_call 116; refine hG.mono ?_; rintro rr w2 ⟨v2, rfl, rfl, af, bd⟩)
   go_ret; refine ⟨v2, rfl, ?_, cS.out.trans HZ.out (fun k hk e => ?_), ?_⟩
   ·have e1 : l.take k = l := zmq (by rw [HN.out]; exact zmt _)
    rw [e1] at af; simpa [zbJ] using af
   ·rcases e with e | e
    ·omega
    ·exact e
   ·rw [bd]
    rcases fS with h | ⟨k2, h, cI⟩
    ·exact .inl h
    ·exact .inr ⟨k2, h, by omega⟩
def Buf (w : World) (g n i : Nat) (t : List UInt8) : Prop := i <= n /\ ∃ cs : Array Value, Blk w g 5 cs /\ cs.size = n /\ cs.toList.drop i = bc t
theorem Buf.put {w : World} {g n i : Nat} {t : List UInt8} (h : Buf w g n i t) (o : Nat) (vs : List UInt8) (hi : o + vs.length = i) : Buf (w.setCells g o (bc vs)) g n o (vs ++ t) := by
 obtain ⟨hin, cs, hb, hs, hd⟩ := h; refine ⟨by omega, _, zdf (bc vs) o w cs hb, by rw [zdC]; exact hs, ?_⟩; have hl : (bc vs).length = vs.length := zda vs; rw [zci _ _ _ (by rw [hl]; omega), hl, hi, hd, zmk, List.drop_left' (by simp; omega), zjm]
def zbt (n : Nat) : List UInt8 := if n < 255 then [UInt8.ofNat n] else [255, UInt8.ofNat n, UInt8.ofNat (n / 256), UInt8.ofNat (n / 65536)]
theorem zlz (w : World) (g o v : Nat) : w.setCells g o (bc [255, UInt8.ofNat v, UInt8.ofNat (v / 256), UInt8.ofNat (v / 65536)]) =
 ((((w.setCell ⟨g, o, none⟩ (.int .u8 255)).setCell ⟨g, o + 1, none⟩ (.int .u8 ((v : Int) % 256))).setCell ⟨g, o + 2, none⟩ (.int .u8 ((v : Int) / 256 % 256))).setCell ⟨g, o + 3, none⟩ (.int .u8 ((v : Int) / 65536 % 256))) := by
 have e (x : Nat) : ((UInt8.ofNat x).toNat : Int) = (x : Int) % 256 := by simp
 have e1 := e v; have e2 : ((UInt8.ofNat (v / 256)).toNat : Int) = (v : Int) / 256 % 256 := by rw [e]; simp
 have e3 : ((UInt8.ofNat (v / 65536)).toNat : Int) = (v : Int) / 65536 % 256 := by rw [e]; simp
 rw [<- e1, <- e2, <- e3]; rfl
theorem zbX (n : Nat) : (zbt n).length = zaB n := by
 unfold zbt zaB; split <;> rfl
def zcS (p : Lab) : List UInt8 := zbt p.1.size ++ (p.1.data.toList ++ (zbt p.2.size ++ p.2.data.toList))
theorem ziS (p : Lab) : (zcS p).length = za6 p := by
 have h1 : p.1.data.toList.length = p.1.size := by rw [<- znb]
 have h2 : p.2.data.toList.length = p.2.size := by rw [<- znb]
 simp only [zcS, zmi, zbX, za6, h1, h2]; omega
def zay (l : List Lab) : List UInt8 := l.flatMap zcS
def SizeEnds (g n o : Nat) (t : List UInt8) (w : World) (r : Ending) (w' : World) : Prop :=
 r = .returned (.int .i64 o) /\ Buf w' g n o t /\ Fr (fun k => k = g) w w'
theorem zeA (g n i m c v o : Nat) (t : List UInt8) (w : World) (h : Buf w g n i t) (him : i <= m) (hmn : m <= n) (hm : m <= 1099511627776) (hv : v <= 16777216) (ho : o + zaB v = i) :
 Calls prog 272 #[.slice (some ⟨g, 0, none⟩) m c, .int .i64 i, .int .i64 v] w (SizeEnds g n o (zbt v ++ t) w) := by
 obtain ⟨hin, cs, hb, hs, hd⟩ := h; have B0 : Buf w g n i t := ⟨hin, cs, hb, hs, hd⟩; by_cases hlt : v < 255
 ·have e1 : zaB v = 1 := if_pos hlt
  rw [e1] at ho; subst ho; have e2 : zbt v = [UInt8.ofNat v] := if_pos hlt; rw [e2]; have h1 : (v : Int) < 255 := by omega
  have hwr : (v : Int) % 256 = v := by omega
  have hc : (w.cell? ⟨g, o, none⟩).isSome = true := by rw [hb.cell]; simp; omega
  obtain ⟨cv, gr⟩ := Option.isSome_iff_exists.mp hc; have hf := hb.frozen o; have HB := B0.put o [UInt8.ofNat v] rfl; have hF : Fr (fun k => k = g) w (w.setCell ⟨g, o, none⟩ (.int .u8 (UInt8.ofNat v).toNat)) := Fr.at_ w g o _; have e3 : ((UInt8.ofNat v).toNat : Int) = v := by simp; omega
  have dg : Buf (w.setCell ⟨g, o, none⟩ (.int .u8 (UInt8.ofNat v).toNat)) g n o ([UInt8.ofNat v] ++ t) := HB; rw [e3] at dg hF; clear HB B0 hd hs; go_enter func272, ntmps272; go_wp2; go_ret; exact ⟨rfl, dg, hF⟩
 ·have e1 : zaB v = 4 := znd hlt
  rw [e1] at ho; subst ho; have e2 : zbt v = [255, UInt8.ofNat v, UInt8.ofNat (v / 256), UInt8.ofNat (v / 65536)] := znd hlt; rw [e2]; have h1 : ¬ (v : Int) < 255 := by omega
  have aa : ∀ j, j < 4 -> (w.cell? ⟨g, o + j, none⟩).isSome = true := fun j hj => by rw [hb.cell]; simp; omega
  obtain ⟨c0, fe⟩ := Option.isSome_iff_exists.mp (show (w.cell? ⟨g, o, none⟩).isSome = true from aa 0 (by omega)); obtain ⟨c1, bP⟩ := Option.isSome_iff_exists.mp (aa 1 (by omega)); obtain ⟨c2, iM⟩ := Option.isSome_iff_exists.mp (aa 2 (by omega)); obtain ⟨c3, hc3⟩ := Option.isSome_iff_exists.mp (aa 3 (by omega)); have fo := hb.frozen o; have ah := hb.frozen (o + 1)
  have aq := hb.frozen (o + 2); have bL := hb.frozen (o + 3); have HB := zmh (B0.put o [255, UInt8.ofNat v, UInt8.ofNat (v / 256), UInt8.ofNat (v / 65536)] rfl); have HF := zmh ((znl (fun k => k = g) w).setCells (b := g) (.inl rfl) o (bc [255, UInt8.ofNat v, UInt8.ofNat (v / 256), UInt8.ofNat (v / 65536)])); clear B0 hd hs aa; go_enter func272, ntmps272; go_wp2; go_ret
  rw [<- zlz]; exact ⟨rfl, HB.out, HF.out⟩
theorem zim {w : World} {g n o : Nat} {t : List UInt8} (s : ByteArray) (h : Buf w g n (o + s.size) t) :
 Buf (w.setCells g o (s.data.toList.map fun x => Value.int .u8 (x.toNat : Int))) g n o (s.data.toList ++ t) /\ Fr (fun k => k = g) w (w.setCells g o (s.data.toList.map fun x => Value.int .u8 (x.toNat : Int))) :=
 ⟨h.put o s.data.toList (by rw [<- znb]), (znl (fun k => k = g) w).setCells (b := g) (.inl rfl) o _⟩
theorem zk2 {w : World} {g n i : Nat} {t : List UInt8} (h : Buf w g n i t) (j : Nat) (hj : j < i) : (w.cell? ⟨g, j, none⟩).isSome = true /\ w.frozen? ⟨g, j, none⟩ = false := by
 obtain ⟨hin, cs, hb, hs, hd⟩ := h; exact ⟨by rw [hb.cell]; simp; omega, hb.frozen j⟩
theorem ziC (w : World) (g o off' dl cc : Nat) (s : ByteArray) (bQ : s.size <= dl) (hs : off' = o ∨ s.size = 0)
 (hc : ∀ j, j < o + s.size -> (w.cell? ⟨g, j, none⟩).isSome = true /\ w.frozen? ⟨g, j, none⟩ = false) :
 (Builtin.copy_ #[44, 9] 3 #[.slice (some ⟨g, off', none⟩) dl cc, .string s]).run prog w = .ok (goInt s.size) (w.setCells g o (s.data.toList.map fun x => Value.int .u8 (x.toNat : Int))) := by
 by_cases h0 : s.size = 0
 ·have h := Lib.run_copy_empty_string (P := prog) w 44 9 3 5 (some ⟨g, off', none⟩) dl cc s underlying44 (by kernel_rfl) h0
  rw [h]; have e : s.data.toList = [] := zmJ (by rw [<- znb]; exact h0); rw [e, h0]; rfl
 ·obtain rfl : off' = o := by omega
  exact run_copy_string w 44 9 3 5 g off' dl cc s underlying44 size5 bQ (fun j hj => (hc (off' + j) (by omega)).1) (fun j hj => (hc (off' + j) (by omega)).2)
theorem zeM {ops : Array Oper} {o : Oper} {a : Act} {w : World} {K : Act -> World -> Prop} {Q : Exit -> Act -> World -> Prop} {E : Prop}
 (hg : o.guard = none) (d x : Operand) (jg : o.type = 3) (fR : o.op = Op.call { callee := Callee.builtin Builtin.copy, args := #[d, x], argTypes := #[44, 9] })
 (g off' p dl cc : Nat) (s : ByteArray) (hd : a.eval d = .slice (some ⟨g, off', none⟩) dl cc) (bQ : s.size <= dl) (hx : a.eval x = .string s) (hs : off' = p ∨ s.size = 0)
 (hc : ∀ j, j < p + s.size -> (w.cell? ⟨g, j, none⟩).isSome = true /\ w.frozen? ⟨g, j, none⟩ = false)
 (hK : K (a.put o.dst (goInt s.size)) (w.setCells g p (s.data.toList.map fun x => Value.int .u8 (x.toNat : Int)))) :
 if Region.wanted o (yielded ops a.tmps) = true then Oper.wp prog o a w K Q else E := by
 have hw : Region.wanted o (yielded ops a.tmps) = true := by simp [Region.wanted, hg]
 rw [if_pos hw]; have gG := ziC w g p off' dl cc s bQ hs hc; unfold Oper.wp; simp [execOp, fR, resolve, invoke, builtin, hd, hx, jg, gG, Result.andThen]; exact hK
theorem zfJ (b off : Nat) (p : Lab) (g n i c o : Nat) (t : List UInt8) (w : World) (c0 : w.cell? ⟨b, off, none⟩ = some (.string p.1)) (c1 : w.cell? ⟨b, off + 1, none⟩ = some (.string p.2)) (mA : b ≠ g) (kp : b < w.heap.size)
 (h : Buf w g n i t) (hn : n <= 1099511627776) (hic : i <= c) (h1 : p.1.size <= 1048576) (h2 : p.2.size <= 1048576) (ho : o + za6 p = i) :
 Calls prog 249 #[.pointer (some ⟨b, off, none⟩), .slice (some ⟨g, 0, none⟩) i c] w fun r w' => r = .returned (.int .i64 (za6 p)) /\ Buf w' g n o (zcS p ++ t) /\ Fr (fun k => k = g) w w' := by
 obtain ⟨x, y⟩ := p; simp only [za6] at *
 have hin := h.1; have lx : zaB x.size <= 4 := by unfold zaB; split <;> omega
 have ly : zaB y.size <= 4 := by unfold zaB; split <;> omega
 have hy := zk2 h; obtain ⟨p1, hp1⟩ : ∃ p1, p1 + y.size = i := ⟨i - y.size, by omega⟩; subst hp1; obtain ⟨pq, dK, mn⟩ := zl3 g 0 (p1 + y.size) c p1 .i64 p1 rfl (by omega); rw [Nat.add_sub_cancel_left] at mn; have ho1' : pq = p1 ∨ y.size = 0 := by omega
 have HB := zmh h; clear h; go_enter func249, ntmps249; go_wp2; go_region_law (refine zeM rfl (.tmp 17) (.tmp 21) rfl rfl g pq p1 y.size (c - p1) y (by simp [Act.eval, Act.put]) (zmt _) (by simp [Act.eval, Act.put]) ho1' (fun j hj => hy j hj) ?_)
 have cE : Buf w g n (p1 + y.size) t := HB.out; obtain ⟨HC1, bX⟩ := zim y cE; have oA : Buf (w.drew.setCells g p1 (y.data.toList.map fun x => Value.int .u8 (x.toNat : Int))) g n p1 (y.data.toList ++ t) := (zim y (w := w.drew) cE).1
 have kc : Fr (fun k => k = g) w (w.drew.setCells g p1 (y.data.toList.map fun x => Value.int .u8 (x.toNat : Int))) := (Fr.drew (znl (fun k => k = g) w)).setCells (b := g) (.inl rfl) _ _; generalize w.drew.setCells g p1 (y.data.toList.map fun x => Value.int .u8 (x.toNat : Int)) = w1 at oA kc ⊢; clear HC1 bX cE
 obtain ⟨p3, aX⟩ : ∃ p3, (p3 + x.size) + zaB y.size = p1 := ⟨p1 - zaB y.size - x.size, by omega⟩; obtain ⟨an, dJ, pM⟩ := zl3 g 0 (p1 + y.size) c p3 .i64 p3 rfl (by omega); have eF := zeA g n p1 (p1 + y.size) c y.size (p3 + x.size) (y.data.toList ++ t) w1 oA (by omega) (by omega) (by omega) (by omega) aX
 have c01 : w1.cell? ⟨b, off, none⟩ = some (.string x) := (kc.cell (p := ⟨b, off, none⟩) kp mA).trans c0; have c11 : w1.cell? ⟨b, off + 1, none⟩ = some (.string y) := (kc.cell (p := ⟨b, off + 1, none⟩) kp mA).trans c1; have HFh := zmh kc; clear oA kc c0 c1 hy mn; have nF : b < w1.heap.size := zmG kp HFh.out.size
 go_wp2_with (go_at_call 272; refine eF.mono ?_; rintro r w2 ⟨rfl, bn, gc⟩; have c02 : w2.cell? ⟨b, off, none⟩ = some (.string x) := (gc.cell (p := ⟨b, off, none⟩) nF mA).trans c01)
 have aB := zk2 bn; have ho2' : an = p3 ∨ x.size = 0 := by omega
 have kZ : x.size <= p1 + y.size - p3 := by omega
 have dg := zmh bn; have bu := zmh gc; clear eF dJ dK c01 c11 bn gc; go_region_law (refine zeM rfl (.tmp 40) (.tmp 44) rfl rfl g an p3 (p1 + y.size - p3) (c - p3) x (by simp [Act.eval, Act.put]) kZ (by simp [Act.eval, Act.put]) ho2' (fun j hj => aB j hj) ?_)
 have sq : Buf (w2.drew.setCells g p3 (x.data.toList.map fun x => Value.int .u8 (x.toNat : Int))) g n p3 (x.data.toList ++ (zbt y.size ++ (y.data.toList ++ t))) := (zim x (w := w2.drew) dg.out).1; have bB : Fr (fun k => k = g) w2 (w2.drew.setCells g p3 (x.data.toList.map fun x => Value.int .u8 (x.toNat : Int))) := (Fr.drew (znl (fun k => k = g) w2)).setCells (b := g) (.inl rfl) _ _
 generalize w2.drew.setCells g p3 (x.data.toList.map fun x => Value.int .u8 (x.toNat : Int)) = w3 at sq bB ⊢; have hoo : o + zaB x.size = p3 := by omega
 have hE3 := zeA g n p3 (p1 + y.size) c x.size o _ w3 sq (by omega) (by omega) (by omega) (by omega) hoo; have hbw3 : b < w3.heap.size := zmG (zmG nF bu.out.size) bB.size; have c03 : w3.cell? ⟨b, off, none⟩ = some (.string x) := (bB.cell (p := ⟨b, off, none⟩) (zmG nF bu.out.size) mA).trans c02; have HF3h := zmh bB
 have HO := zmh ho; clear sq bB c02 aB pM; go_wp2_with (go_at_call 272; refine hE3.mono ?_; rintro r w4 ⟨rfl, lG, hF4⟩)
 go_ret; refine ⟨?_, ?_, ((HFh.out.same bu.out).same HF3h.out).same hF4⟩
 ·have h := HO.out
  show Ending.returned (Value.int .i64 ((p1 : Int) + y.size - o)) = _; congr 2; omega
 ·simp only [zcS, zmk]
  exact lG
theorem zh2 (l : List Lab) (k : Nat) (x : Lab) (h : l[k]? = some x) : zaC (l.drop k) = za6 x + zaC (l.drop (k + 1)) := by
 obtain ⟨hk, rfl⟩ := List.getElem?_eq_some_iff.mp h; rw [List.drop_eq_getElem_cons hk]; rfl
theorem zdp (l : List Lab) (k : Nat) (x : Lab) (h : l[k]? = some x) : zay (l.drop k) = zcS x ++ zay (l.drop (k + 1)) := by
 obtain ⟨hk, rfl⟩ := List.getElem?_eq_some_iff.mp h; rw [List.drop_eq_getElem_cons hk]; rfl
theorem zh3 (l : List Lab) : (zay l).length = zaC l := by
 induction l with
 | nil => rfl
 | cons x l ih =>
   show (zcS x ++ zay l).length = za6 x + zaC l; rw [zmi, ziS, ih]
theorem zdx (P : Nat -> Prop) (v : Value) (l : List Lab) (g n c : Nat) (w : World) (h : Sl P w v 2 l.length (l.flatMap zaK)) (hg : ¬ P g) (hl : l.length <= 4096) (hs : ∀ p ∈ l, p.1.size <= 1048576 /\ p.2.size <= 1048576)
 (hB : Buf w g n n []) (hn : n = zaC l) (aQ : n <= c) (hcm : c <= 1099511627776) :
 Calls prog 209 #[v, .slice (some ⟨g, 0, none⟩) n c] w fun r w' => r = .returned (.int .i64 n) /\ Buf w' g n 0 (zay l) /\ Fr (fun k => k = g) w w' := by
 obtain ⟨A, cc, rfl, ai, hnc', hr⟩ := h; obtain ⟨m, hm⟩ := exE l.length; rw [hm] at hr hnc' hl ⊢; have HN := zmh hm; have HR := zmh hr; have HS := zmh hs; have HT := zmh hn; have kG := zmh hB; clear hm hr ai hs hn hB; go_enter func209, ntmps209; go_wp2
 go_loopw [5, 6] (fun vi vk wr => ∃ (i k : Nat), k <= m /\ vk = .int .i64 ((k : Int) - 1) /\ vi = .int .i64 i /\ Hid (zaC (l.drop k) + i = n) /\ i <= n /\ Hid (Buf wr g n i (zay (l.drop k))) /\ Hid (Fr (fun k => k = g) w wr)) (fun _ vk _ => (intOf vk + 1).toNat)
 case atStart =>
  refine ⟨n, m, zmt _, rfl, rfl, ?_, zmt _, ?_, zmh (znl _ _)⟩
  ·have e : l.drop m = [] := List.drop_of_length_le (by rw [HN.out]; exact zmt _)
   rw [e]; exact zmh (zmM _)
  ·have e : l.drop m = [] := List.drop_of_length_le (by rw [HN.out]; exact zmt _)
   rw [e]; exact kG
 case round =>
  obtain ⟨i, k, hk, rfl, rfl, HM, hin, HB, HF⟩ := hrel; rcases k with _ | k
  ·go_wp2
   go_ret; have h0 : i = 0 /\ zay (l.drop 0) = zay l := by
    have h := HM.out; have h2 := HT.out; have e : l.drop 0 = l := rfl; rw [e] at h; exact ⟨by omega, by rw [e]⟩
   obtain ⟨rfl, e⟩ := h0; have hB := HB.out; rw [e] at hB; exact ⟨by simp, hB, HF.out⟩
  ·obtain ⟨x, hx⟩ : ∃ x, l[k]? = some x := ⟨_, zmj (by rw [HN.out]; omega)⟩
   obtain ⟨b, off, rfl, dV, aa⟩ := HR.out (by omega); have e1 : ((k + 1 : Nat) : Int) - 1 = k := by omega
   rw [e1]; have cc0 : ∀ j, j < 2 -> ∀ u, (zaK x)[j]? = some u -> wr.cell? ⟨b, off + (k * 2 + j), none⟩ = some u /\ b < w.heap.size := fun j hj u hu => by
    have := aa (k * 2 + j) u (by rw [zby zaK (fun _ => rfl) l k x hx j hj]; exact hu); have hlt := zmo w _ this; rw [HF.out.cell (p := ⟨b, off + (k * 2 + j), none⟩) hlt (fun e => hg (by have : b = g := e; rw [<- this]; exact dV))]; exact ⟨this, hlt⟩
   have c0 : wr.cell? ⟨b, off + k * 2, none⟩ = some (.string x.1) := (cc0 0 (by omega) _ rfl).1; have c1 : wr.cell? ⟨b, off + k * 2 + 1, none⟩ = some (.string x.2) := (cc0 1 (by omega) _ rfl).1; have kp : b < wr.heap.size := zmG (cc0 0 (by omega) _ rfl).2 HF.out.size; have mA : b ≠ g := fun e => hg (by rw [<- e]; exact dV); have ej := HS.out x (zmp hx)
   have hd1 := zh2 l k x hx; have qj := zdp l k x hx; have hM := HM.out; obtain ⟨o, ho⟩ : ∃ o, o + za6 x = i := by
    have h1 : zaC (l.drop k) <= zaC l := by
     have : ∀ (l : List Lab) (k : Nat), zaC (l.drop k) <= zaC l := by
      intro l; induction l with
      | nil => intro k; simp
      | cons a l ih =>
        intro k; cases k with
        | zero => exact zmt _
        | succ k => exact zm0 (ih k) (by show zaC l <= za6 a + zaC l; omega)
     exact this l k
    have h2 := HT.out; exact ⟨i - za6 x, by omega⟩
   have hC := zfJ b (off + k * 2) x g n i c o (zay (l.drop (k + 1))) wr.drew c0 c1 mA kp HB.out (by omega) (by omega) ej.1 ej.2 ho; rw [<- qj] at hC; have HO := zmh (show zaC (l.drop k) + o = n by omega); have HK := zmh ho; have hz : za6 x <= i := by omega
   have hzm := zfe x ej.1 ej.2; generalize za6 x = z at hC ho hz hzm; have dJ : (i : Int) - z = o := by omega
   clear c0 c1 cc0 aa hx hd1 qj hM ej HM ho HK; go_wp2; go_region_with (go_at_call 249; refine hC.mono ?_; rintro r w1 ⟨rfl, ax, dE⟩)
   all_goals go_wp2
   all_goals go_roundw
   all_goals first
    | exact ⟨o, k, by omega, rfl, by first | rfl | go_num | (congr 1; omega), HO, by omega, zmh ax, zmh (HF.out.same ((Fr.drew (znl _ _)).same dE))⟩
    | (show ((k : Int) - 1 + 1).toNat < ((k : Int) + 1).toNat; omega)
def zmc (pre : List Mrk) (xs : List UInt8) : List Mrk := match zaG xs with | some l => pre ++ l | none => []
def ReadEndsM (w : World) (bb bp bo : Nat) (pre : List Mrk) (xs : List UInt8) (r : Ending) (w' : World) : Prop :=
 r = .returned (.tuple #[]) /\ Fr (fun k => k = bb ∨ k = bp ∨ k = bo) w w' /\ Blk w' bo 4 #[.bool (zaG xs).isSome] /\
  ∃ lv, Blk w' bp 54 #[.slice none 0 0, .slice none 0 0, .slice none 0 0, .slice none 0 0, .slice none 0 0, lv, .slice none 0 0] /\ w'.ownsRow w.heap.size 168 2 lv (zmc pre xs).length ((zmc pre xs).flatMap Mrk.c)
theorem zgm {α : Type} (step : St -> α × St) : ∀ (k : Nat) (st : St) (acc : List α), (zaj step k st acc).1.length <= acc.length + k
 | 0, st, acc => by simp [zaj]
 | k + 1, none, acc => by simp [zaj]
 | k + 1, some [], acc => by simp [zaj]
 | k + 1, some (c :: r), acc => by
   have h := zgm step k (step (some (c :: r))).2 (acc ++ [(step (some (c :: r))).1]); rw [zmi, zmy] at h; show (zaj step k (step (some (c :: r))).2 (acc ++ [(step (some (c :: r))).1])).1.length <= _; omega
theorem zei {α : Type} {t : UInt8} {step : St -> α × St} {xs : List UInt8} {l : List α} (h : zbn t step xs = some l) : l.length <= xs.length := by
 rcases xs with _ | ⟨b, rest⟩
 ·cases h
 ·unfold zbn at h
  simp only [] at h; split at h
  ·have hl := zgm step rest.length (some rest) []
   split at h
   ·rename_i e
    injection h with h; rw [e] at hl; subst h; simp at hl ⊢; omega
   ·cases h
  ·cases h
theorem outM_len (pre : List Mrk) (xs : List UInt8) : (zmc pre xs).length <= pre.length + xs.length := by
 unfold zmc; split
 ·rename_i h
  have := zei h; rw [zmi]; omega
 ·simp
theorem zgs {w w' : World} {base : Nat} {o : Option Nat} {pre : List Mrk} {xs : List UInt8} {r : Ending} (h : zbg w base o pre xs r w') :
 ∃ v' e, r = .returned (.tuple #[v', e]) /\ w'.ownsRow base 166 2 v' (zmc pre xs).length ((zmc pre xs).flatMap Mrk.c) /\ Fr (fun k => some k = o) w w' /\ ((e = .nilIface /\ (zaG xs).isSome = true) ∨ (∃ t a, e = .iface t a /\ (zaG xs).isSome = false)) := by
 unfold zbg at h; unfold zmc; rcases hd : zaG xs with _ | l
 ·rw [hd] at h
  obtain ⟨hf, t, a, rfl⟩ := h; exact ⟨_, _, rfl, zmv _ _ _ _, hf, .inr ⟨_, _, rfl, rfl⟩⟩
 ·rw [hd] at h
  obtain ⟨hf, v', rfl, ho⟩ := h; exact ⟨_, _, rfl, ho, hf, .inl ⟨rfl, rfl⟩⟩
theorem zfU {W w5 w6 : World} {b t : Nat} {cs : Array Value} {v5 : Value} {n : Nat} {xs : List Value} (h : Blk W b t cs) (ap : z_F W.drew w5) (ho : w5.ownsRow W.drew.heap.size 166 2 v5 n xs) (aR : Fr (fun k => some k = v5.ownBlock) w5 w6) : Blk w6 b t cs :=
 (h.drew.fr ap id).fr aR (fun e => by have h1 := (ho.lt b e.symm).1; have h2 : b < W.heap.size := h.lt; exact zm1 _ (zmG h2 h1))
def SmpParts (base : Nat) (l : List Smp) (ps : Array Value) (w : World) : Prop :=
 ∃ lv, ps = #[.slice none 0 0, lv, .slice none 0 0, .slice none 0 0, .slice none 0 0, .slice none 0 0, .slice none 0 0] /\ w.ownsRow base 113 3 lv l.length (l.flatMap Smp.a)
theorem seven_of {lv : Value} (h : ∃ A m c, lv = .slice A m c) : zl9 #[.slice none 0 0, lv, .slice none 0 0, .slice none 0 0, .slice none 0 0, .slice none 0 0, .slice none 0 0] := by
 obtain ⟨A, m, c, rfl⟩ := h; exact ⟨_, _, _, _, _, _, _, _, _, _, _, _, _, _, _, _, _, _, _, _, _, rfl⟩
theorem zdg (te : TypeId) (pe : Value) (q0 q1 q2 q3 q4 q5 q6 bv : Value) (xs : List UInt8) (P : Nat -> Prop) (w : World) (hb : Sl P w bv 1 xs.length (bc xs)) (bm : xs.length <= 1073741824) (hP : ∀ g, P g -> g < w.heap.size)
 (au : ∀ s ∈ [q0, q1, q2, q3, q4, q5, q6], ∃ A m c, s = .slice A m c) (hs : Sl P w q1 3 0 []) (hE : w.cell? ⟨2, 0, none⟩ = some (.iface te pe)) :
 Calls prog 29 #[.int .i64 2, bv, .agg #[q0, q1, q2, q3, q4, q5, q6]] w (ReadDone (SmpParts w.heap.size ((zan xs).getD [])) (zan xs).isSome w) := by
 have h2 := zmo w _ hE; refine zbl 2 q0 q1 q2 q3 q4 q5 q6 bv xs P _ _ w hb au ?_ ?_
 ·rintro ps W W' ⟨lv, rfl, ho⟩ hv
  refine ⟨lv, rfl, zai ho hv ?_⟩; rintro g hg ⟨cs, h | h⟩
  ·exact zak ho h (by decide) hg
  ·exact zak ho h (by decide) hg
 ·intro bb bk bq bp bo W hk bJ hq hp ho g8 nG nH dr hF
  have gU : W.cell? ⟨2, 0, none⟩ = some (.iface te pe) := by rw [hF.cell (p := ⟨2, 0, none⟩) h2 id]; exact hE
  refine (zhV te pe bb bk bq bp bo P q0 q1 q2 q3 q4 q5 q6 bv xs W bJ (hb.fr hF z_i) hk hq (hs.fr hF z_i) hp ho gU bm (fun g hg e => by have := hP g hg; omega) dr (by simp only [] at h2; omega)).mono ?_; rintro r w' ⟨rfl, hf, db, lv, da, ab⟩; have hz := hF.size; obtain ⟨a, c, gJ⟩ := zaa ab
  exact ⟨rfl, hf, db, _, seven_of ⟨_, _, _, gJ⟩, da, lv, rfl, zah ab hz⟩
def aliveS : List Smp := [⟨1, 2, 3⟩]
theorem zjp : ∀ s ∈ aliveS, s.wf := by
 intro s hs; simp only [aliveS, zmY] at hs; subst hs; exact ⟨by decide, by decide, by decide, by decide⟩
theorem zl8 : zan (zaE aliveS) = some aliveS := dec_enc _ zjp
theorem zgl (te : TypeId) (pe : Value) (w : World) (hE : w.cell? ⟨2, 0, none⟩ = some (.iface te pe)) : Calls prog 28 #[] w (zap w) := by
 have HE := zmh hE; clear hE; go_enter func28, ntmps28; go_wp2_with fail
 have hX := (znm w 113 #[.int .u64 1, .int .i64 2, .int .u64 3]).alloc (.cells #[.slice none 0 0, .slice (some ⟨w.heap.size, 0, none⟩) 1 1, .slice none 0 0, .slice none 0 0, .slice none 0 0, .slice none 0 0, .slice none 0 0] 54)
 have hY := zaH w (.cells #[.int .u64 1, .int .i64 2, .int .u64 3] 113) 54 #[.slice none 0 0, .slice (some ⟨w.heap.size, 0, none⟩) 1 1, .slice none 0 0, .slice none 0 0, .slice none 0 0, .slice none 0 0, .slice none 0 0]
 have gv : z_F w ((w.alloc (.cells #[.int .u64 1, .int .i64 2, .int .u64 3] 113)).alloc (.cells #[.slice none 0 0, .slice (some ⟨w.heap.size, 0, none⟩) 1 1, .slice none 0 0, .slice none 0 0, .slice none 0 0, .slice none 0 0, .slice none 0 0] 54)) := ((znl _ w).alloc _).alloc _
 generalize World.alloc _ (Obj.cells #[.slice none 0 0, .slice (some ⟨w.heap.size, 0, none⟩) 1 1, .slice none 0 0, .slice none 0 0, .slice none 0 0, .slice none 0 0, .slice none 0 0] 54) = W at hX hY gv ⊢; have nq : Sl (fun g => g = w.heap.size) W (.slice (some ⟨w.heap.size, 0, none⟩) 1 1) 3 aliveS.length (aliveS.flatMap Smp.a) := by
  refine ⟨_, _, rfl, rfl, zmt _, fun _ => ⟨_, 0, rfl, rfl, fun j u hu => ?_⟩⟩; rw [zmM, hX.cell, <- hu, <- zmC]; rfl
 have jD : ∀ (P : Nat -> Prop) (W : World) (s : Nat), Sl P W (.slice none 0 0) s 0 [] := fun P W s => ⟨_, _, rfl, by simp, zmt _, fun h => absurd h (by omega)⟩
 have ji := zc0 (.slice none 0 0) (.slice (some ⟨w.heap.size, 0, none⟩) 1 1) (.slice none 0 0) (.slice none 0 0) (.slice none 0 0) (.slice none 0 0) (.slice none 0 0) (.slice none 0 0) [] aliveS (fun g => g = w.heap.size) W (jD _ _ _) (by simp) (by
  intro s hs; simp only [zmV, List.mem_nil_iff, or_false] at hs
  rcases hs with rfl | rfl | rfl | rfl | rfl | rfl | rfl <;> exact ⟨_, _, _, rfl⟩) nq (by decide) zjp
 rw [zmT] at ji; have rx := zmh nq; have HY := zmh hY; have mR := zmh gv; have rK := zmh jD; have hWl := gv.size; have hXl := hX.lt; clear nq hX hY gv jD; refine ji.mono ?_; rintro r w1 ⟨v1, lv1, rfl, rfl, am, ah⟩; clear ji; obtain ⟨b1, k1, rfl⟩ := zaa am; have eF : w1.cell? ⟨2, 0, none⟩ = some (.iface te pe) := by
  have h2 := zmo w _ HE.out; rw [(mR.out.same ah).cell (p := ⟨2, 0, none⟩) h2 id]; exact HE.out
 have ai : (zaE aliveS).length <= 200 := by
  have h1 := zdN (zbq ⟨1, 2, 3⟩) 28 (zfk _) aliveS; have h2 : (zaE aliveS).length = 1 + (16 + (aliveS.flatMap (zbq ⟨1, 2, 3⟩)).length) := by
   show ([2] ++ (zd3 ⟨1, 2, 3⟩ ++ aliveS.flatMap (zbq ⟨1, 2, 3⟩))).length = _; rw [zmi, zmi]; simp only [zd3, zmi, zmr, zmy]
  rw [h2]; have : aliveS.length = 1 := rfl; omega
 have hS1 := zno am
 have iT := zdg te pe (.slice none 0 0) (.slice none 0 0) (.slice none 0 0) (.slice none 0 0) (.slice none 0 0) (.slice none 0 0) (.slice none 0 0) _ (zaE aliveS) _ w1 hS1 (by omega) (fun g hg => zaq am hg) (by
  intro s hs; simp only [zmV, List.mem_nil_iff, or_false] at hs
  rcases hs with rfl | rfl | rfl | rfl | rfl | rfl | rfl <;> exact ⟨_, _, _, rfl⟩) (rK.out (fun g => (Value.slice b1 (zaE aliveS).length k1).ownBlock = some g) w1 3) eF
 rw [zl8] at iT; have HS1 := zmh hS1; have F1 := zmh ah; have de := zmh am; have jg : zcg (zaE aliveS) = 2 := rfl; have HTY := zmh jg; clear eF hS1 ah am jg; generalize zaE aliveS = xs at iT HS1 de ai HTY ⊢; have kP := F1.out.size; go_wp2_with (go_at_call 29; refine iT.mono ?_; rintro r w2 ⟨ps, rfl, pJ, hL, _, aq⟩; refine Hid.out ?_)
 obtain ⟨lv, rfl, af⟩ := hL rfl; clear hL pJ iT; obtain ⟨b2, k2, rfl⟩ := zaa af; have hw2 := aq.size; have F2 := zmh aq; have cD := zmh af; clear aq af; refine zmh ?_
 have hS2 : Sl (fun g => (Value.slice b1 xs.length k1).ownBlock = some g) (w2.alloc (.cells #[.slice none 0 0, .slice b2 aliveS.length k2, .slice none 0 0, .slice none 0 0, .slice none 0 0, .slice none 0 0, .slice none 0 0] 54)) (.slice b1 xs.length k1) 1 xs.length (bc xs) := HS1.out.fr (F2.out.alloc _) z_i; have hC3 := zg2 _ _ xs _ hS2; rw [HTY.out] at hC3; clear hS2
 go_wp2_with (go_at_call 42; refine hC3.mono ?_; rintro r w3 ⟨v3, rfl, rfl, bL⟩; refine Hid.out ?_)
 have F12 := mR.out.same (F1.out.same F2.out); have sF : z_F w2 w3 := ((znl _ w2).alloc _).same bL; have B3 : Blk w3 w2.heap.size 54 #[.slice none 0 0, .slice b2 aliveS.length k2, .slice none 0 0, .slice none 0 0, .slice none 0 0, .slice none 0 0, .slice none 0 0] := (znm w2 54 _).fr bL id; have A3 := HY.out.fr ((F1.out.same F2.out).same sF) id
 have F3 := F12.same sF; have x0 := A3.cell 0; have x1 := A3.cell 1; have x2 := A3.cell 2; have x3 := A3.cell 3; have x4 := A3.cell 4; have x5 := A3.cell 5; have x6 := A3.cell 6; have y0 := B3.cell 0; have y1 := B3.cell 1; have y2 := B3.cell 2; have y3 := B3.cell 3; have y4 := B3.cell 4; have y5 := B3.cell 5; have y6 := B3.cell 6
 simp only [zmC, zmA, zmB] at x0 x1 x2 x3 x4 x5 x6 y0 y1 y2 y3 y4 y5 y6
 have hC4 := ziB none none none none 0 0 0 0 (.slice (some ⟨w.heap.size, 0, none⟩) 1 1) (.slice none 0 0) (.slice none 0 0) (.slice none 0 0) (.slice none 0 0) (.slice b2 aliveS.length k2) (.slice none 0 0) (.slice none 0 0) (.slice none 0 0) (.slice none 0 0) w3 (by
  intro s hs; simp only [zmV, List.mem_nil_iff, or_false] at hs
  rcases hs with rfl | rfl | rfl | rfl | rfl | rfl | rfl | rfl | rfl | rfl <;> exact ⟨_, _, _, rfl⟩)
  (fun W' hW' => zgf _ _ _ _ aliveS W' (rx.out.fr (((F1.out.same F2.out).same sF).same hW') z_i) ((zno cD.out).fr (sF.same hW') z_i) (by decide))
  (fun W' _ => zjU _ _ _ _ W') (fun W' _ => zjS _ _ _ _ W') (fun W' _ => zjQ _ _ _ _ W') (fun W' _ => zlf _ _ _ _ W')
 have bH := zmh B3; have bB := zmh F3; have mC : aliveS.length = 1 := rfl; rw [mC] at y1 hC4 bH ⊢; clear B3 A3 F3 F12 sF bL hC3 HS1 cD rx HY mR F1 F2 de rK; refine zmh ?_
 go_wp2_with (go_at_call 32; refine hC4.mono ?_; rintro r w4 ⟨rfl, du⟩; have y1' := (bH.out.fr du id).cell 1; simp only [zmC, zmA, zmB] at y1')
 go_ret; exact ⟨rfl, bB.out.same du⟩
end Go.Proofs.YtbkookiigkckdaaGreatDoor
namespace Go.Proofs.YtbkookiigkckdaaGreatDoor
open Go Go.ChangeShapes Go.WideShapes Go.ChangeAt Go.RowKit Go.Proofs.Tryz
theorem ownKnobs : ownKnob prog.godebug = none := by kernel_rfl
theorem gErr : prog.globalNamed "pub-quillon/pub/prometheus/tsdb/encoding.ErrInvalidSize" = some 2 := by kernel_rfl
theorem gErrType : (prog.globals[2]?).map (·.type) = some 92 := by kernel_rfl
theorem cells356 : prog.cellsOf 356 = 1 := by kernel_rfl
theorem cells9 : prog.cellsOf 9 = 1 := by kernel_rfl
theorem starred : "*" ++ "errors.errorString" = "*errors.errorString" := by decide
theorem row354 (u : TypeId) (h : prog.typeName? 3 u = some "*errors.errorString") : u = 354 :=
 typeName_ptr_named (nm := "errors.errorString") (by rw [starred]; kernel_rfl) (by kernel_rfl) (by decide) u (by rw [starred]; exact h)
theorem errCell {W : World} (h : laidMetH prog [("pub-quillon/pub/prometheus/tsdb/encoding.ErrInvalidSize", Rows.laid_pub_quillon_pub_prometheus_tsdb_encoding_ErrInvalidSize)] W) : ∃ te pe, W.cell? ⟨2, 0, none⟩ = some (.iface te pe) := by
 rw [MakeChecks.laidMetH_plain _ _ _ (by kernel_rfl)] at h; obtain ⟨a0, s0, eY, _⟩ := laid_sentinel h gErr gErrType underlying92 row354 underlying354 underlying356 rfl rfl underlying9 cells356 cells9; exact ⟨_, _, by simpa using World.var?_cell gErr eY 0⟩
theorem door_met (os : Os) (args : Array Value) : laidMetH prog [("pub-quillon/pub/prometheus/tsdb/encoding.ErrInvalidSize", Rows.laid_pub_quillon_pub_prometheus_tsdb_encoding_ErrInvalidSize)] ((World.doorLaid prog 400 os).forCall (fun _ _ => 0) ⟨#[], args, []⟩).memory :=
 laidMetH_of_parts3 (fuel := 8) (laidMet_of_run' 8 (by kernel_rfl) (by kernel_rfl)) (by kernel_rfl) (by kernel_rfl)
end Go.Proofs.YtbkookiigkckdaaGreatDoor
