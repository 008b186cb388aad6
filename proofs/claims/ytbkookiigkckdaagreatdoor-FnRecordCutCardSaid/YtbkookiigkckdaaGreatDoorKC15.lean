/- Texts of this seat, merged and shortened. -/
import Derived.Test.YtbkookiigkckdaaGreatDoorKC14
set_option linter.unusedVariables false
set_option linter.unusedSimpArgs false
set_option maxRecDepth 100000
set_option maxHeartbeats 8000000
namespace Go.Proofs.YtbkookiigkckdaaGreatDoor
open Go.RowKit Go.Proofs.Tryz
def zbh (l : List Exm) : List UInt8 := 4 :: encXs l
theorem zkz (ep : Value) (sv : Value) (P : Nat -> Prop) (v : Value) (xs : List UInt8) (l : List Exm) (w : World) (h : Sl P w sv 4 l.length (l.flatMap exo)) (ab : w.ownsRow 0 5 1 v xs.length (bc xs)) (hl : xs.length <= 536870912)
 (au : l.length <= 12) (aG : ∀ s ∈ l, zfZ s) (hP : ∀ g, P g -> g < w.heap.size /\ some g ≠ v.ownBlock) :
 Calls prog 94 #[ep, sv, v] w (zbR w v.ownBlock (xs ++ zbh l)) := by
 have hsv : ∃ A m c, sv = .slice A m c := let ⟨A, c, h, _⟩ := h; ⟨A, _, c, h⟩
 have HS := zmk h; obtain ⟨A, c, rfl, ak, aQ, hr⟩ := h; obtain ⟨a', n', k', rfl⟩ := zac ab; have hE := Enc.made (z := .int .u8 0) ab _ rfl; have hQ := zcm w.heap.size _ xs 4 _ hE (by omega); have e2 : ((4 : UInt8).toNat : Int) = 4 := rfl; rw [e2] at hQ; have HE := zmk hE; clear hE e2 ak hr hsv
 have cP : Fr (fun k => some k = (Value.slice a' n' k').ownBlock) w (w.alloc (.cells #[.slice a' n' k', .int .u8 0, .int .u8 0, .int .u8 0, .int .u8 0, .int .u8 0, .int .u8 0, .int .u8 0, .int .u8 0, .int .u8 0, .int .u8 0] 224)) := (znq _ w).alloc _; have dF := zmk cP; clear cP; rcases l with _ | ⟨f, r⟩
 ·go_enter func94, ntmps94
  go_wp2_with (first | (go_at_call 180; refine hQ.mono ?_; rintro r1 w1 ⟨rfl, R⟩; obtain ⟨o1, eG, ai, dK⟩ := R; have hG := zd9 _ _ _ _ eG) | (go_at_call 116; refine hG.mono ?_; rintro r w2 ⟨v2, rfl, rfl, af, bI⟩))
  go_ret; refine ⟨v2, rfl, by simpa [zbh, encXs] using af, zdn (o1 := o1) ai, ?_⟩; rw [bI]; rcases dK with h | ⟨k, h, hk⟩
  ·exact .inl h
  ·exact .inr ⟨k, h, by simp at hk; omega⟩
 ·obtain ⟨n, hn⟩ := exE ((f :: r).length)
  have hn2 : n = r.length + 1 := by rw [<- hn]; rfl
  have HN := zmk hn2; rw [hn] at HS aQ au ⊢; have fO : ((n : Int) == 0) = false := by simp; omega
  have HP := zmk hP; have HW := zmk aG; clear hn hn2 hP aG; go_enter func94, ntmps94
  go_wp2_with (first
   | (go_at_call 180; refine hQ.mono ?_; rintro r1 w1 ⟨rfl, R⟩
      have hws : w.heap.size < w1.heap.size := by have := R.fr.size; simp at this; omega
      obtain ⟨o1, eG, ai, dK⟩ := R; have hB : ∀ g, P g -> g < w1.heap.size /\ ¬ (g = w.heap.size ∨ some g = o1) := fun g hg => by
       have h1 := HP.out g hg; refine ⟨by omega, ?_⟩; rintro (rfl | h)
       ·omega
       ·rcases dK with h2 | ⟨k, h2, hk⟩
        ·exact h1.2 (h.trans h2)
        ·rw [h2] at h; injection h with h; simp at hk; omega
      have dE := zdn (o1 := o1) ai; have nv := HS.out.fr dE (fun g hg => (HP.out g hg).2); rw [HN.out] at nv; have hX := zlW ep (.slice A n c) P w.heap.size o1 (xs ++ [4]) f r w1 (by rw [HN.out]; exact nv) eG (by rw [zml, zmB]; omega) (by have := HN.out; omega) HW.out hB; have cd := zmk dE; have dg := zmk dK
      clear nv hB dE dK ai eG)
   | (go_at_call 184; refine hX.mono ?_; rintro r2 w2 ⟨rfl, oZ, dy, dX, fN⟩; have hG := zd9 _ _ _ _ dy; have HZ := zmk dX; clear hX dX)
   | (go_at_call 116; refine hG.mono ?_; rintro r w3 ⟨v2, rfl, rfl, af, bI⟩))
  go_ret; refine ⟨v2, rfl, by simpa [zbh, zmn] using af, cd.out.trans HZ.out (fun k hk e => ?_), ?_⟩
  ·rcases e with e | e
   ·omega
   ·rcases dg.out with h2 | ⟨k2, h2, cO⟩
    ·rw [e, h2]
    ·rw [h2] at e; injection e with e; simp at cO; omega
  ·rw [bI]
   rcases fN with h | ⟨k2, h, cO⟩
   ·rw [h]
    rcases dg.out with h2 | ⟨k3, h2, hk3⟩
    ·exact .inl h2
    ·exact .inr ⟨k3, h2, by simp at hk3; omega⟩
   ·exact .inr ⟨k2, h, by omega⟩
theorem zk0 (l : List Lab) (hl : l.length <= 12) (hs : ∀ p ∈ l, p.1.size <= 600 /\ p.2.size <= 600) (r : List UInt8) : zev (some (zbr l ++ r)) /\ zfo (some (zbr l ++ r)) = (l, some r) := by
 have ge : ∀ p ∈ l, p.1.size < 18446744073709551616 /\ p.2.size < 18446744073709551616 := fun p hp => by have := hs p hp; omega
 have a : gUv (some (zbr l ++ r)) = (l.length, some (l.flatMap zbN ++ r)) := by unfold zbr; rw [zmn]; exact zeJ l.length (by omega) _
 have b : zfo (some (zbr l ++ r)) = (l, some r) := by
  unfold zfo; rw [a]; show za6 (some (l.flatMap zbN ++ r)) l.length = _; rw [zgO l r ge l.length (zmw _), zmL, List.drop_length]; rfl
 refine ⟨⟨by rw [a]; show l.length <= 4096; omega, fun k hk => ?_, fun p hp => ?_⟩, b⟩
 ·rw [a] at hk ⊢
  have cO : k < l.length := hk; show (gUv (za6 (some (l.flatMap zbN ++ r)) k).2).1 < _ /\ (gUv (zb3 (za6 (some (l.flatMap zbN ++ r)) k).2).2).1 < _; rw [zgO l r ge k (by omega), List.drop_eq_getElem_cons cO, zmz]; have hm := hs _ (List.getElem_mem cO); obtain ⟨p, hp⟩ := exE (l[k]); rw [hp] at hm ⊢
  have e : zbN p ++ (l.drop (k + 1)).flatMap zbN ++ r = zaP p.1 ++ (zaP p.2 ++ ((l.drop (k + 1)).flatMap zbN ++ r)) := by unfold zbN; simp only [zmn]
  rw [e]; show (gUv (some (zaP p.1 ++ _))).1 < _ /\ (gUv (zb3 (some (zaP p.1 ++ (zaP p.2 ++ ((l.drop (k + 1)).flatMap zbN ++ r))))).2).1 < _; rw [zfr _ _ (by omega), zdP _ _ (by omega)]; show p.1.size < _ /\ (gUv (some (zaP p.2 ++ _))).1 < _; rw [zfr _ _ (by omega)]; exact ⟨by omega, by omega⟩
 ·rw [b] at hp
  have := hs p hp; omega
theorem zf0 (l : List Lab) (hl : l.length <= 12) (hs : ∀ p ∈ l, p.1.size <= 600 /\ p.2.size <= 600) : (zaG l).length <= 12 /\ ∀ p ∈ zaG l, p.1.size <= 600 /\ p.2.size <= 600 :=
 have hp := (zbW ltL zc9 zcC zcB l).2
 ⟨by rw [za2]; exact hl, fun p hm => hs p (hp.mem_iff.mp hm)⟩
def tos (x : Ser) : SerD := ⟨x.ref, zaG x.labs⟩
theorem zgq (s : Ser) (hs : zhw s) (r : List UInt8) : zdd (some (zbT s ++ r)) /\ zbc (some (zbT s ++ r)) = (tos s, some r) := by
 obtain ⟨h1, h2, h3, _⟩ := hs; obtain ⟨q1, q2⟩ := zf0 s.labs h2 h3; obtain ⟨f, g⟩ := zk0 (zaG s.labs) q1 q2 r; have a : zab (some (zbT s ++ r)) = (s.ref, some (zbr (zaG s.labs) ++ r)) := by unfold zbT; rw [zmn]; exact zaY s.ref h1 _
 constructor
 ·unfold zdd
  rw [a]; exact f
 ·unfold zbc
  rw [a]; show (SerD.mk s.ref (zfo (some (zbr (zaG s.labs) ++ r))).1, (zfo (some (zbr (zaG s.labs) ++ r))).2) = _; rw [g]; rfl
theorem be8_pos (v : Nat) (r : List UInt8) : ∃ c t, Lib.beBytes 8 v ++ r = c :: t := by
 rcases h : Lib.beBytes 8 v ++ r with _ | ⟨c, t⟩
 ·have := znb List.length h
  simp [zmu] at this
 ·exact ⟨c, t, rfl⟩
theorem zhQ (s : Ser) : ∃ c r, zbT s = c :: r := by unfold zbT; exact be8_pos _ _
theorem zkD (l : List Ser) (hl : ∀ s ∈ l, zhw s) : za8 (zbF l) = some (l.map tos) := by
 have hL := zc6 zbc zbT tos zhw (fun x r hx => (zgq x hx r).2) zhQ l (l.flatMap zbT).length [] hl (zgR zbT zhQ l); unfold za8 zbF; rw [zbq, if_pos rfl, hL]; rfl
def GoodR (st : St) : Prop := st = none ∨ ∃ l : List Ser, (∀ s ∈ l, zhw s) /\ st = some (l.flatMap zbT)
theorem labG_none : zfo none = ([], none) := rfl
theorem zfG : zev none := by
 have e : gUv none = (0, none) := rfl; exact ⟨by rw [e]; exact zmv _, fun k hk => by rw [e] at hk; exact absurd hk (zm5 _), fun p hp => by rw [labG_none] at hp; cases hp⟩
theorem zlz (l : List UInt8) (h : GoodR (some l)) : zdd (some l) /\ GoodR (zbc (some l)).2 := by
 rcases h with h | ⟨l', fP, e⟩
 ·cases h
 ·injection e with e
  subst e; rcases l' with _ | ⟨s, l'⟩
  ·show zdd (some []) /\ GoodR (zbc (some [])).2
   exact ⟨zfG, .inl rfl⟩
  ·obtain ⟨h1, h2⟩ := zgq s (fP s (by simp)) (l'.flatMap zbT)
   rw [zmz]; exact ⟨h1, .inr ⟨l', fun x hx => fP x (by simp [hx]), by rw [h2]⟩⟩
theorem goodR_rec (l : List Ser) (hl : ∀ s ∈ l, zhw s) (r : List UInt8) (e : zbF l = 1 :: r) : GoodR (some r) := by
 have e2 : 1 :: l.flatMap zbT = 1 :: r := e; injection e2 with _ e2; exact .inr ⟨l, hl, by rw [e2]⟩
def toe (x : Exm) : ExD := ⟨x.ref, x.t, x.v, zaG x.labs⟩
theorem zgW (f s : Exm) (hs : zfZ s) (r : List UInt8) : zdF (some (zbt f s ++ r)) /\ zaR f.ref f.t (some (zbt f s ++ r)) = (toe s, some r) := by
 obtain ⟨w1, w2, w3, w4, h2, h3, _⟩ := hs; obtain ⟨q1, q2⟩ := zf0 s.labs h2 h3; obtain ⟨p1, p2⟩ := zk0 (zaG s.labs) q1 q2 r; have e0 : zbt f s ++ r = Lib.uvarint (Lib.zigzag (xRef f s)) ++ (Lib.uvarint (Lib.zigzag (xT f s)) ++ (Lib.beBytes 8 s.v ++ (zbr (zaG s.labs) ++ r))) := by
  unfold zbt; simp only [zmn]
 have a1 : zaI (some (zbt f s ++ r)) = (xRef f s, some (Lib.uvarint (Lib.zigzag (xT f s)) ++ (Lib.beBytes 8 s.v ++ (zbr (zaG s.labs) ++ r)))) := by rw [e0]; exact zce _ (zae _).1 (zae _).2 _
 have a2 : zaI (zaI (some (zbt f s ++ r))).2 = (xT f s, some (Lib.beBytes 8 s.v ++ (zbr (zaG s.labs) ++ r))) := by rw [a1]; exact zce _ (zae _).1 (zae _).2 _
 have a3 : zab (zaI (zaI (some (zbt f s ++ r))).2).2 = (s.v, some (zbr (zaG s.labs) ++ r)) := by rw [a2]; exact zaY s.v w4 _
 constructor
 ·unfold zdF
  rw [a3]; exact p1
 ·unfold zaR
  rw [a3, a2, a1]; show (ExD.mk (u64 ((f.ref : Int) + u64 (xRef f s))) (wrap64 (f.t + xT f s)) s.v (zfo (some (zbr (zaG s.labs) ++ r))).1, (zfo (some (zbr (zaG s.labs) ++ r))).2) = _; rw [p2]; unfold xRef xT toe; rw [zgv _ _ w1, zkU _ _ w2 w3]
theorem zhW (f s : Exm) : ∃ c r, zbt f s = c :: r := by unfold zbt; exact zjI _ _
theorem zi7 (f : Exm) (hf : zfZ f) (X : List UInt8) : (zab (some (zbL f ++ X))).1 = f.ref /\ zao (zab (some (zbL f ++ X))).2 = (f.t, some X) := by
 have h1 := zaY f.ref hf.1 (Lib.beBytes 8 (u64 f.t) ++ X); have h2 := zaY (u64 f.t) (zkT _) X; unfold zbL; rw [zmn, h1]; refine ⟨rfl, ?_⟩; show (i64 (zab (some (Lib.beBytes 8 (u64 f.t) ++ X))).1, (zab (some (Lib.beBytes 8 (u64 f.t) ++ X))).2) = _; rw [h2]; show (i64 (u64 f.t), some X) = _; rw [zkn _ hf.2.1 hf.2.2.1]
theorem hdrX_pos (f : Exm) (X : List UInt8) : zbL f ++ X ≠ [] := by
 intro h; have := znb List.length h; unfold zbL at this; simp [zmu] at this
theorem zjz (rest : List UInt8) : zbl (4 :: rest) = zbm rest := rfl
theorem zjm (f : Exm) (r : List Exm) : zbh (f :: r) = 4 :: (zbL f ++ (f :: r).flatMap (zbt f)) := rfl
theorem zkJ (l : List Exm) (hl : ∀ s ∈ l, zfZ s) : zbl (zbh l) = some (l.map toe) := by
 rcases l with _ | ⟨f, r⟩
 ·rfl
 ·have hf := hl f (by simp)
  rw [zjm, zjz]; obtain ⟨X, hX⟩ := exE ((f :: r).flatMap (zbt f)); have ak := zgR (zbt f) (zhW f) (f :: r); have hL := zc6 (zaR f.ref f.t) (zbt f) toe zfZ (fun x r hx => (zgW f x hx r).2) (zhW f) (f :: r) (zbL f ++ X).length [] hl (by rw [zml, <- hX]; omega); rw [hX] at hL ⊢; obtain ⟨g1, g2⟩ := zi7 f hf X
  unfold zbm; rw [znh (hdrX_pos f X), g1, g2]; simp only []; rw [hL]; rfl
def GoodX (f : Exm) (st : St) : Prop := st = none ∨ ∃ l : List Exm, (∀ s ∈ l, zfZ s) /\ st = some (l.flatMap (zbt f))
theorem zlx (f : Exm) (l : List UInt8) (h : GoodX f (some l)) : zdF (some l) /\ GoodX f (zaR f.ref f.t (some l)).2 := by
 rcases h with h | ⟨l', fP, e⟩
 ·cases h
 ·injection e with e
  subst e; rcases l' with _ | ⟨s, l'⟩
  ·show zdF (some []) /\ GoodX f (zaR f.ref f.t (some [])).2
   exact ⟨zfG, .inl rfl⟩
  ·obtain ⟨h1, h2⟩ := zgW f s (fP s (by simp)) (l'.flatMap (zbt f))
   rw [zmz]; exact ⟨h1, .inr ⟨l', fun x hx => fP x (by simp [hx]), by rw [h2]⟩⟩
theorem goodX_rec (l : List Exm) (hl : ∀ s ∈ l, zfZ s) : ∃ aj : St -> Prop,
 (∀ rest, zbh l = 4 :: rest -> ∀ l, aj (some l) -> zdF (some l) /\ aj (zaR (zab (some rest)).1 (zao (zab (some rest)).2).1 (some l)).2) /\
 (∀ rest, zbh l = 4 :: rest -> rest ≠ [] -> aj (zao (zab (some rest)).2).2) := by
 rcases l with _ | ⟨f, r⟩
 ·refine ⟨fun _ => False, fun _ _ _ h => h.elim, fun rest e hr => ?_⟩
  have e2 : [4] = 4 :: rest := e; injection e2 with _ e2; exact absurd e2.symm hr
 ·obtain ⟨X, hX⟩ := exE ((f :: r).flatMap (zbt f))
  obtain ⟨g1, g2⟩ := zi7 f (hl f (by simp)) X; have he : ∀ rest, zbh (f :: r) = 4 :: rest -> rest = zbL f ++ X := fun rest e => by
   have e2 : 4 :: (zbL f ++ (f :: r).flatMap (zbt f)) = 4 :: rest := e; injection e2 with _ e2; rw [<- e2, hX]
  refine ⟨GoodX f, fun rest e l' h => ?_, fun rest e _ => ?_⟩
  ·rw [he rest e, g1, g2]
   exact zlx f l' h
  ·rw [he rest e, g2, <- hX]
   exact .inr ⟨_, hl, rfl⟩
def ivc (p : Int × Int) : List Value := [.int .i64 p.1, .int .i64 p.2]
theorem info279 : (prog.info? 279).map (fun i => (i.zero, i.size, i.bytes)) = some (some (.agg #[.int .i64 0, .int .i64 0]), 2, 16) := by kernel_rfl
theorem info281 : (prog.info? 281).map (fun i => (i.zero, i.size, i.bytes)) = some (some (.agg #[.int .i64 0, .int .i64 0]), 2, 16) := by kernel_rfl
def IvEnds (t : TypeId) (w : World) (l : List (Int × Int)) (r : Ending) (w' : World) : Prop :=
 ∃ v, r = .returned v /\ w'.ownsRow w.heap.size t 2 v l.length (l.flatMap ivc) /\ Fr (fun _ => False) w w'
theorem zii (P : Nat -> Prop) (v : Value) (l : List (Int × Int)) (w : World) (h : Sl P w v 2 l.length (l.flatMap ivc)) (hl : l.length <= 1099511627776) :
 Calls prog 169 #[v] w (IvEnds 279 w l) := by
 obtain ⟨A, c, rfl, ak, aQ, hr⟩ := h; obtain ⟨n, hn⟩ := exE l.length; rw [hn] at hr aQ hl ⊢; have HN := zmk hn; have HR := zmk hr; obtain ⟨i0, aD, aA, az, aC⟩ := info_parts info279; clear hn hr ak; go_enter func169, ntmps169; go_wp2
 go_loopw [3, 8] (fun v i wr => ∃ k : Nat, k <= n /\ i = .int .i64 k /\ wr.ownsRow w.heap.size 279 2 v k ((l.take k).flatMap ivc) /\ Fr (fun _ => False) w wr) (fun _ i _ => n - (intOf i).toNat)
 case atStart => exact ⟨0, zmv _, rfl, zmy _ _ _ _, znq _ _⟩
 case round =>
  obtain ⟨k, hk, rfl, ab, hf⟩ := hrel; by_cases hlt : k < n
  ·obtain ⟨g, off, rfl, _, aa⟩ := HR.out (by omega)
   obtain ⟨x, hx⟩ : ∃ x, l[k]? = some x := ⟨_, zmm (by rw [HN.out]; exact hlt)⟩; have cc : ∀ j, j < 2 -> ∀ u, (ivc x)[j]? = some u -> wr.cell? ⟨g, off + (k * 2 + j), none⟩ = some u := fun j hj u hu => by
    have := aa (k * 2 + j) u (by rw [zbE ivc (fun _ => rfl) l k x hx j hj]; exact hu); rw [hf.cell (p := ⟨g, off + (k * 2 + j), none⟩) (zmr w _ this) (fun e => e)]; exact this
   have c0 : wr.cell? ⟨g, off + k * 2, none⟩ = some (.int .i64 x.1) := cc 0 (by omega) _ rfl; have c1 : wr.cell? ⟨g, off + k * 2 + 1, none⟩ = some (.int .i64 x.2) := cc 1 (by omega) _ rfl; have HC := zmk aa; have HO := zmk ab; have HX := zmk hx; obtain ⟨a', n', k', rfl⟩ := zac ab; clear aa cc ab hx; go_wp2_with (at_builtin; refine Hid.out ?_)
   refine zmk ?_; refine zaf _ rfl _ _ 145 145 rfl w.heap.size 279 i0 _ 2 16 underlying145 aD aA az aC rfl (by decide) _ k ((l.take k).flatMap ivc) rfl ((HO.out.alloc _).alloc _) _ 1 (ivc x) rfl (zaH underlying145 (zaK wr _ 279 (ivc x).toArray) rfl (by simp [ivc, Value.oneCell'])) (by unfold maxLen; omega) (by omega) (by have := hf.size; simp; omega) ?_
   intro v' w2 ac ad ax
   have af : w2.ownsRow w.heap.size 279 2 v' (k + 1) ((l.take (k + 1)).flatMap ivc) := by rw [zan ivc l k x HX.out]; exact ac
   have ar : Fr (fun _ => False) w w2 := ((hf.alloc _).alloc _).grown ad (fun g hg => .inr (((HO.out.lt g hg)).1)); have cH := zmk af; have bg := zmk ar; clear ac ad af ar hf c0 c1 ax
   go_wp2; go_roundw
   case rel => exact ⟨k + 1, by omega, by go_num, cH.out, bg.out⟩
   case measure => simp [intOf]; omega
  ·go_wp2
   go_ret; obtain rfl : k = n := by omega
   refine ⟨_, rfl, ?_, hf⟩; rw [<- HN.out] at ab ⊢; rw [zmL] at ab; exact ab
theorem zgh (P : Nat -> Prop) (v : Value) (l : List (Int × Int)) (w : World) (h : Sl P w v 2 l.length (l.flatMap ivc)) (hl : l.length <= 1099511627776) :
 Calls prog 76 #[v] w (IvEnds 281 w l) := by
 obtain ⟨A, c, rfl, ak, aQ, hr⟩ := h; obtain ⟨n, hn⟩ := exE l.length; rw [hn] at hr aQ hl ⊢; have HN := zmk hn; have HR := zmk hr; obtain ⟨i0, aD, aA, az, aC⟩ := info_parts info281; clear hn hr ak; go_enter func76, ntmps76; go_wp2
 go_loopw [3, 8] (fun v i wr => ∃ k : Nat, k <= n /\ i = .int .i64 k /\ wr.ownsRow w.heap.size 281 2 v k ((l.take k).flatMap ivc) /\ Fr (fun _ => False) w wr) (fun _ i _ => n - (intOf i).toNat)
 case atStart => exact ⟨0, zmv _, rfl, zmy _ _ _ _, znq _ _⟩
 case round =>
  obtain ⟨k, hk, rfl, ab, hf⟩ := hrel; by_cases hlt : k < n
  ·obtain ⟨g, off, rfl, _, aa⟩ := HR.out (by omega)
   obtain ⟨x, hx⟩ : ∃ x, l[k]? = some x := ⟨_, zmm (by rw [HN.out]; exact hlt)⟩; have cc : ∀ j, j < 2 -> ∀ u, (ivc x)[j]? = some u -> wr.cell? ⟨g, off + (k * 2 + j), none⟩ = some u := fun j hj u hu => by
    have := aa (k * 2 + j) u (by rw [zbE ivc (fun _ => rfl) l k x hx j hj]; exact hu); rw [hf.cell (p := ⟨g, off + (k * 2 + j), none⟩) (zmr w _ this) (fun e => e)]; exact this
   have c0 : wr.cell? ⟨g, off + k * 2, none⟩ = some (.int .i64 x.1) := cc 0 (by omega) _ rfl; have c1 : wr.cell? ⟨g, off + k * 2 + 1, none⟩ = some (.int .i64 x.2) := cc 1 (by omega) _ rfl; have HC := zmk aa; have HO := zmk ab; have HX := zmk hx; obtain ⟨a', n', k', rfl⟩ := zac ab; clear aa cc ab hx; go_wp2_with (at_builtin; refine Hid.out ?_)
   refine zmk ?_; refine zaf _ rfl _ _ 148 148 rfl w.heap.size 281 i0 _ 2 16 underlying148 aD aA az aC rfl (by decide) _ k ((l.take k).flatMap ivc) rfl ((HO.out.alloc _).alloc _) _ 1 (ivc x) rfl (zaH underlying148 (zaK wr _ 281 (ivc x).toArray) rfl (by simp [ivc, Value.oneCell'])) (by unfold maxLen; omega) (by omega) (by have := hf.size; simp; omega) ?_
   intro v' w2 ac ad ax
   have af : w2.ownsRow w.heap.size 281 2 v' (k + 1) ((l.take (k + 1)).flatMap ivc) := by rw [zan ivc l k x HX.out]; exact ac
   have ar : Fr (fun _ => False) w w2 := ((hf.alloc _).alloc _).grown ad (fun g hg => .inr (((HO.out.lt g hg)).1)); have cH := zmk af; have bg := zmk ar; clear ac ad af ar hf c0 c1 ax
   go_wp2; go_roundw
   case rel => exact ⟨k + 1, by omega, by go_num, cH.out, bg.out⟩
   case measure => simp [intOf]; omega
  ·go_wp2
   go_ret; obtain rfl : k = n := by omega
   refine ⟨_, rfl, ?_, hf⟩; rw [<- HN.out] at ab ⊢; rw [zmL] at ab; exact ab
structure Ston where
 ref : Nat
 ivs : List (Int × Int)
def stc (p : Ston × Value) : List Value := [.int .u64 p.1.ref, p.2]
def SlS (P : Nat -> Prop) (w : World) (v : Value) (lv : List (Ston × Value)) : Prop :=
 Sl P w v 2 lv.length (lv.flatMap stc) /\ ∀ p ∈ lv, Sl P w p.2 2 p.1.ivs.length (p.1.ivs.flatMap ivc)
def OwnS (base te ti : Nat) (w : World) (v : Value) (lv : List (Ston × Value)) : Prop :=
 w.ownsRow base te 2 v lv.length (lv.flatMap stc) /\ ∀ p ∈ lv, w.ownsRow base ti 2 p.2 p.1.ivs.length (p.1.ivs.flatMap ivc)
theorem info147 : (prog.info? 147).map (fun i => (i.zero, i.size, i.bytes)) = some (some (.agg #[.int .u64 0, .slice none 0 0]), 2, 32) := by kernel_rfl
theorem info151 : (prog.info? 151).map (fun i => (i.zero, i.size, i.bytes)) = some (some (.agg #[.int .u64 0, .slice none 0 0]), 2, 32) := by kernel_rfl
theorem SlS.fr {P S : Nat -> Prop} {w w' : World} {v : Value} {lv : List (Ston × Value)} (h : SlS P w v lv) (hf : Fr S w w') (hs : ∀ g, P g -> ¬ S g) : SlS P w' v lv :=
 ⟨h.1.fr hf hs, fun p hp => (h.2 p hp).fr hf hs⟩
theorem OwnS.fr {S : Nat -> Prop} {base te ti : Nat} {w w' : World} {v : Value} {lv : List (Ston × Value)} (h : OwnS base te ti w v lv) (hf : Fr S w w') (hs : ∀ k, base <= k -> k < w.heap.size -> ¬ S k) : OwnS base te ti w' v lv :=
 ⟨zaj h.1 hf (fun g hg => hs g (h.1.lt g hg).1 (zas h.1 hg)), fun p hp => zaj (h.2 p hp) hf (fun g hg => hs g ((h.2 p hp).lt g hg).1 (zas (h.2 p hp) hg))⟩
theorem OwnS.mono {base base' te ti : Nat} {w : World} {v : Value} {lv : List (Ston × Value)} (h : OwnS base te ti w v lv) (hb : base' <= base) : OwnS base' te ti w v lv :=
 ⟨zai h.1 hb, fun p hp => zai (h.2 p hp) hb⟩
theorem OwnS.nil (base te ti : Nat) (w : World) : OwnS base te ti w (.slice none 0 0) [] := ⟨zmy _ _ _ _, fun p hp => by cases hp⟩
theorem OwnS.sl {base te ti : Nat} {w : World} {v : Value} {lv : List (Ston × Value)} (h : OwnS base te ti w v lv) : SlS (fun g => base <= g /\ g < w.heap.size) w v lv :=
 ⟨(znt h.1).mono (fun g hg => ⟨(h.1.lt g hg).1, zas h.1 hg⟩), fun p hp => (znt (h.2 p hp)).mono (fun g hg => ⟨((h.2 p hp).lt g hg).1, zas (h.2 p hp) hg⟩)⟩
theorem OwnS.push {base te ti : Nat} {w w2 : World} {v v' : Value} {lv : List (Ston × Value)} {p : Ston × Value} (h : OwnS base te ti w v lv) (hp : w.ownsRow base ti 2 p.2 p.1.ivs.length (p.1.ivs.flatMap ivc)) (hg : w.grownBy w2 v.ownBlock)
 (ho : w2.ownsRow base te 2 v' (lv.length + 1) (lv.flatMap stc ++ stc p)) (bB : ti ≠ te) : OwnS base te ti w2 v' (lv ++ [p]) := by
 have hf : Fr (fun k => some k = v.ownBlock) w w2 := (znq (fun k => some k = v.ownBlock) w).grown hg (fun k hk => .inl hk.symm); refine ⟨by simpa using ho, fun q hq => ?_⟩; rcases zm0.1 hq with hq | hq
 ·exact zaj (h.2 q hq) hf (fun g jE e => zb6 (h.2 q hq) h.1 bB g jE e.symm)
 ·rw [zm1] at hq
  subst hq; exact zaj hp hf (fun g jE e => zb6 hp h.1 bB g jE e.symm)
def ziI (w : World) (l : List Ston) (r : Ending) (w' : World) : Prop :=
 ∃ v lv, r = .returned v /\ lv.map Prod.fst = l /\ OwnS w.heap.size 147 279 w' v lv /\ Fr (fun _ => False) w w'
theorem ze1 (P : Nat -> Prop) (v : Value) (lv : List (Ston × Value)) (w : World) (h : SlS P w v lv) (hl : lv.length <= 1099511627776) (aP : ∀ p ∈ lv, p.1.ivs.length <= 1099511627776) :
 Calls prog 75 #[v] w (ziI w (lv.map Prod.fst)) := by
 obtain ⟨⟨A, c, rfl, ak, aQ, hr⟩, cl⟩ := h; obtain ⟨n, hn⟩ := exE lv.length; rw [hn] at hr aQ hl ⊢; have HN := zmk hn; have HR := zmk hr; have HI := zmk cl
 have gq := zmk aP; obtain ⟨i0, aD, aA, az, aC⟩ := info_parts info147; clear hn hr ak cl aP; go_enter func75, ntmps75; go_wp2
 go_loopw [2, 7] (fun v i wr => ∃ (k : Nat) (lo : List (Ston × Value)), k <= n /\ i = .int .i64 k /\ Hid (lo.map Prod.fst = (lv.take k).map Prod.fst) /\ Hid (lo.length = k) /\ Hid (OwnS w.heap.size 147 279 wr v lo) /\ Hid (Fr (fun _ => False) w wr)) (fun _ i _ => n - (intOf i).toNat)
 case atStart => exact ⟨0, [], zmv _, rfl, zmk rfl, zmk rfl, zmk (OwnS.nil _ _ _ _), zmk (znq _ _)⟩
 case round =>
  obtain ⟨k, lo, hk, rfl, HM, ii, HO, HF⟩ := hrel; by_cases hlt : k < n
  ·obtain ⟨g, off, rfl, _, aa⟩ := HR.out (by omega)
   obtain ⟨x, hx⟩ : ∃ x, lv[k]? = some x := ⟨_, zmm (by rw [HN.out]; exact hlt)⟩; have cc : ∀ j, j < 2 -> ∀ u, (stc x)[j]? = some u -> wr.cell? ⟨g, off + (k * 2 + j), none⟩ = some u := fun j hj u hu => by
    have := aa (k * 2 + j) u (by rw [zbE stc (fun _ => rfl) lv k x hx j hj]; exact hu); rw [HF.out.cell (p := ⟨g, off + (k * 2 + j), none⟩) (zmr w _ this) (fun e => e)]; exact this
   have c0 : wr.cell? ⟨g, off + k * 2, none⟩ = some (.int .u64 x.1.ref) := cc 0 (by omega) _ rfl; have c1 : wr.cell? ⟨g, off + k * 2 + 1, none⟩ = some x.2 := cc 1 (by omega) _ rfl; have aH := zms hx; have b8 := HI.out x aH; have bC := gq.out x aH; obtain ⟨⟨ref, ivs⟩, iv⟩ := x; simp only [] at c0 c1 b8 bC
   have jD : ∃ A m c, iv = .slice A m c := let ⟨A, c, h, _⟩ := b8; ⟨A, _, c, h⟩
   obtain ⟨Ai, mi, ci, rfl⟩ := jD; have HX := zmk hx; obtain ⟨a', n', k', rfl⟩ := zac HO.out.1; clear aa cc hx aH; go_wp2_with fail
   have ch := znr wr 151 #[.int .u64 ref, .slice Ai mi ci]; have s0 := ch.cell 0; have s1 := ch.cell 1; simp only [zmF, zmD, zmE] at s0 s1; have bG := HF.out.size; have dn := zmk ch
   have hC := zii P (.slice Ai mi ci) ivs (wr.alloc (.cells #[.int .u64 ref, .slice Ai mi ci] 151)).drew (b8.fr (HF.out.alloc _).drew (fun _ _ e => e)) bC; have qY := ii.out; clear ch b8; have oV : (wr.alloc (.cells #[.int .u64 ref, .slice Ai mi ci] 151)).drew.heap.size = wr.heap.size + 1 := by simp
   have jw : lo.length <= 1099511627776 := by omega
   go_region_held3 (fun w' => w'.cell? ⟨wr.heap.size, 0, none⟩ = some (.int .u64 ref) /\ w'.cell? ⟨wr.heap.size, 1, none⟩ = some (.slice Ai mi ci))
    ((first | (go_split_ands; refine ⟨?_, ?_⟩ <;> first | exact ef.out.cell 0 | exact ef.out.cell 1) | (go_split_ands; refine ⟨?_, ?_⟩ <;> first | exact (cG.out.alloc _).cell 0 | exact (cG.out.alloc _).cell 1) | (go_split_ands; refine ⟨?_, ?_⟩ <;> first | exact cG.out.cell 0 | exact cG.out.cell 1) | go_keep))
    ((first
      | (go_at_call 169; refine hC.mono ?_; rintro r5 w5 ⟨v5, rfl, am, aq⟩; obtain ⟨a5, k5, rfl⟩ := zaa am; have cG := zmk (dn.out.drew.fr aq (fun e => e)); have F5 := zmk (((znq (fun _ => False) wr).alloc (.cells #[.int .u64 ref, .slice Ai mi ci] 151)).drew.same aq); have O5 := zmk (HO.out.fr F5.out (fun _ _ _ e => e)); have iR := zmk (zai am (base' := w.heap.size) (by rw [oV]; omega)); have lO := F5.out.size)
      | (refine zat _ (by rfl) _ _ 139 139 (by rfl) w.heap.size 147 i0 _ 2 32 underlying139 aD aA az aC rfl (by decide) (.slice a' n' k') lo.length (lo.flatMap stc) (by rfl) (O5.out.1.alloc _) _ 1 (stc (⟨ref, ivs⟩, .slice a5 ivs.length k5)) (by rfl) (zaH underlying139 (znr w5 147 (stc (⟨ref, ivs⟩, .slice a5 ivs.length k5)).toArray) rfl (by simp [stc, Value.oneCell'])) (by unfold maxLen; omega) (by omega) (by simp; omega) ?_; intro v' w2 ac ad ax; have ef := zmk ((cG.out.alloc (.cells (stc (⟨ref, ivs⟩, .slice a5 ivs.length k5)).toArray 147)).grown ad (fun e => zm4 _ (zas HO.out.1 e.symm))))))
   have aU : OwnS w.heap.size 147 279 w2 v' (lo ++ [(⟨ref, ivs⟩, .slice a5 ivs.length k5)]) :=
    OwnS.push (p := (⟨ref, ivs⟩, .slice a5 ivs.length k5)) (O5.out.fr ((znq (fun _ => False) w5).alloc (.cells (stc (⟨ref, ivs⟩, .slice a5 ivs.length k5)).toArray 147)) (fun _ _ _ e => e)) (iR.out.alloc _) ad ac (by decide)
   have bM : Fr (fun _ => False) w w2 := ((HF.out.same F5.out).alloc _).grown ad (fun g hg => .inr ((HO.out.1.lt g hg).1)); have cf : (lo ++ [((⟨ref, ivs⟩ : Ston), Value.slice a5 ivs.length k5)]).map Prod.fst = (lv.take (k + 1)).map Prod.fst := by
    rw [zmV, HX.out, zmK, zmK, HM.out]; rfl
   have cI : (lo ++ [((⟨ref, ivs⟩ : Ston), Value.slice a5 ivs.length k5)]).length = k + 1 := by rw [zml, ii.out]; rfl
   have NO := zmk aU; have NF := zmk bM; have NM := zmk cf; have NN := zmk cI; clear aU bM cf cI ac ad ax c0 c1 s0 s1 hC am aq ef O5 iR; go_wp2; go_roundw
   case rel => exact ⟨k + 1, _, by omega, by go_num, NM, NN, NO, NF⟩
   case measure => simp [intOf]; omega
  ·go_wp2
   go_ret; obtain rfl : k = n := by omega
   refine ⟨_, lo, rfl, ?_, HO.out, HF.out⟩; rw [HM.out, <- HN.out, zmL]
def zeS (s : Ston) : List Stn := s.ivs.map fun p => ⟨s.ref, p.1, p.2⟩
def zbY (l : List Ston) : List Stn := l.flatMap zeS
def Ston.wf (s : Ston) : Prop := s.ref < 18446744073709551616 /\ ∀ p ∈ s.ivs, (-9223372036854775808 <= p.1 /\ p.1 <= 9223372036854775807) /\ (-9223372036854775808 <= p.2 /\ p.2 <= 9223372036854775807)
def za9 (l : List Ston) : List UInt8 := zky (zbY l)
def zfV (r : Nat) (p : Int × Int) : List UInt8 := zb9 ⟨r, p.1, p.2⟩
theorem zjj (r : Nat) (p : Int × Int) (h : (-9223372036854775808 <= p.1 /\ p.1 <= 9223372036854775807) /\ (-9223372036854775808 <= p.2 /\ p.2 <= 9223372036854775807)) : (zfV r p).length <= 28 := by
 have h1 := zdZ p.1 h.1.1 h.1.2; have h2 := zdZ p.2 h.2.1 h.2.2; simp only [zfV, zb9, zml, zmu]; omega
theorem zgU (s : Ston) : (zeS s).flatMap zb9 = s.ivs.flatMap (zfV s.ref) := by
 unfold zeS; rw [List.flatMap_map]; rfl
theorem zdo {α : Type} (f : α -> List UInt8) (m : Nat) : ∀ l : List α, (∀ x ∈ l, (f x).length <= m) -> (l.flatMap f).length <= l.length * m
 | [], _ => by simp
 | x :: l, hf => by
   have h1 := zdo f m l (fun y hy => hf y (by simp [hy])); have h2 := hf x (by simp); rw [zmz, zml, zmC, Nat.add_mul]; omega
theorem zjd (l : List Ston) (hw : ∀ s ∈ l, s.wf) (hi : ∀ s ∈ l, s.ivs.length <= 4096) : ((zbY l).flatMap zb9).length <= l.length * 114688 := by
 have e : (zbY l).flatMap zb9 = l.flatMap (fun s => s.ivs.flatMap (zfV s.ref)) := by
  unfold zbY; rw [List.flatMap_assoc]; congr 1
  funext s
  exact zgU s
 rw [e]; refine zdo _ _ _ (fun s hs => ?_); have h1 := zdo (zfV s.ref) 28 s.ivs (fun p hp => zjj _ _ ((hw s hs).2 p hp)); have h2 := hi s hs; have h3 : s.ivs.length * 28 <= 4096 * 28 := zmx _ h2; omega
theorem zlG (l : List Ston) (k : Nat) (x : Ston) (h : l[k]? = some x) : (zbY (l.take (k + 1))).flatMap zb9 = (zbY (l.take k)).flatMap zb9 ++ x.ivs.flatMap (zfV x.ref) := by
 rw [zmV, h]; unfold zbY; rw [zmT, zmT, <- zgU]; simp
theorem ziq (ep : Value) (sv : Value) (P : Nat -> Prop) (v : Value) (xs : List UInt8) (lv : List (Ston × Value)) (w : World) (h : SlS P w sv lv) (ab : w.ownsRow 0 5 1 v xs.length (bc xs)) (hl : xs.length <= 1073741824)
 (au : lv.length <= 4096) (aP : ∀ p ∈ lv, p.1.ivs.length <= 4096) (aG : ∀ s ∈ lv.map Prod.fst, s.wf) (hP : ∀ g, P g -> g < w.heap.size /\ some g ≠ v.ownBlock) :
 Calls prog 93 #[ep, sv, v] w (zbR w v.ownBlock (xs ++ za9 (lv.map Prod.fst))) := by
 obtain ⟨⟨A, c, rfl, ak, aQ, hr⟩, cl⟩ := h; obtain ⟨a', n', k', rfl⟩ := zac ab; obtain ⟨n, hn⟩ := exE lv.length; rw [hn] at aQ hr au ⊢; have hE := Enc.made (z := .int .u8 0) ab _ rfl; have hQ := zcm w.heap.size _ xs 3 _ hE (by omega); have e2 : ((3 : UInt8).toNat : Int) = 3 := rfl; rw [e2] at hQ; have HN := zmk hn; have HR := zmk hr; have HP := zmk hP
 have HE := zmk hE; have rn := zmk cl
 have gq := zmk aP; have kq := zmk aG; clear hE hr e2 hn ak hP cl aP aG; go_enter func93, ntmps93; go_wp2_with (go_at_call 180; refine hQ.mono ?_; rintro r1 w1 ⟨rfl, R⟩; refine Hid.out ?_)
 have cU := zmk R; clear R hQ; refine zmk ?_; go_wp2_with fail
 have cP : Fr (fun k => some k = (Value.slice a' n' k').ownBlock) w (w.alloc (.cells #[.slice a' n' k', .int .u8 0, .int .u8 0, .int .u8 0, .int .u8 0, .int .u8 0, .int .u8 0, .int .u8 0, .int .u8 0, .int .u8 0, .int .u8 0] 224)) := (znq _ w).alloc _; generalize dZ : w.alloc _ = WB at HE cU cP; have hB : w.heap.size < WB.heap.size := by rw [<- dZ]; simp
 clear dZ; have dF := zmk cP; clear cP; go_loopw [17] (fun i wr => ∃ k : Nat, k <= n /\ i = .int .i64 k /\ Put WB w.heap.size (Value.slice a' n' k').ownBlock xs ([3] ++ (zbY ((lv.map Prod.fst).take k)).flatMap zb9) wr) (fun i _ => n - (intOf i).toNat)
 case atStart => exact ⟨0, zmv _, rfl, by simpa [zbY] using cU.out⟩
 case round =>
  obtain ⟨k, hk, rfl, R⟩ := hrel; by_cases hlt : k < n
  ·obtain ⟨g, off, rfl, fV, aa⟩ := HR.out (by omega)
   have hg := HP.out g fV; obtain ⟨x, hx⟩ : ∃ x, lv[k]? = some x := ⟨_, zmm (by rw [HN.out]; exact hlt)⟩; have aH := zms hx; have b8 := rn.out x aH; have bC := gq.out x aH; have eV : x.1.wf := kq.out _ (zmQ.2 ⟨x, aH, rfl⟩); have fH : (lv.map Prod.fst)[k]? = some x.1 := by rw [zmU, hx]; rfl
   have dM : Fr (fun k => some k = (Value.slice a' n' k').ownBlock) w wr := dF.out.trans R.fr (fun k hk e => by
    rcases e with e | e
    ·omega
    ·exact e)
   have cc : ∀ j, j < 2 -> ∀ u, (stc x)[j]? = some u -> wr.cell? ⟨g, off + (k * 2 + j), none⟩ = some u := fun j hj u hu => by
    have := aa (k * 2 + j) u (by rw [zbE stc (fun _ => rfl) lv k x hx j hj]; exact hu); rw [dM.cell (p := ⟨g, off + (k * 2 + j), none⟩) hg.1 hg.2]; exact this
   have d0 : wr.cell? ⟨g, off + k * 2, none⟩ = some (.int .u64 x.1.ref) := cc 0 (by omega) _ rfl; have d1 : wr.cell? ⟨g, off + k * 2 + 1, none⟩ = some x.2 := cc 1 (by omega) _ rfl; obtain ⟨⟨ref, ivs⟩, iv⟩ := x; simp only [] at d0 d1 b8 bC fH; obtain ⟨Ai, ci, rfl, _, pN, fJ⟩ := b8; obtain ⟨m, hm⟩ := exE ivs.length; rw [hm] at d1 pN fJ bC
   have bF : ([(3 : UInt8)] ++ (zbY ((lv.map Prod.fst).take k)).flatMap zb9).length <= 1 + 4096 * 114688 := by
    have h1 := zjd ((lv.map Prod.fst).take k) (fun s hs => kq.out s (zni hs)) (fun s hs => by
     obtain ⟨p, hp, rfl⟩ := zmQ.1 (zni hs)
     exact gq.out p hp)
    have h2 : ((lv.map Prod.fst).take k).length <= 4096 := by
     have := znl k (lv.map Prod.fst); omega
    have h3 : ((lv.map Prod.fst).take k).length * 114688 <= 4096 * 114688 := zmx _ h2; rw [zml, zmB]; omega
   have RA := R.alloc (.cells #[.int .u64 ref, .slice Ai m ci] 147); have df := znr wr 147 #[.int .u64 ref, .slice Ai m ci]; have x1 := df.cell 1; simp at x1; have HX1 := zmk fH; have cV := zmk df; have HL := zmk bF; have nN := zmk fJ; have HM := zmk hm; have bT := zmk RA; have oV := dM.size; clear hx dM cc df bF aa fJ hm RA fH aH; go_wp2_with fail
   generalize oU : [(3 : UInt8)] ++ (zbY ((lv.map Prod.fst).take k)).flatMap zb9 = ys at bT HL; clear R x1 d0 d1 oV; generalize wr.alloc (.cells #[.int .u64 ref, .slice Ai m ci] 147) = W9 at bT cV ⊢; generalize wr.heap.size = b9 at cV ⊢
   go_loopw [24] (fun i w' => ∃ j : Nat, j <= m /\ i = .int .i64 j /\ Hid (Put WB w.heap.size (Value.slice a' n' k').ownBlock xs (ys ++ (ivs.take j).flatMap (zfV ref)) w') /\ Hid (Blk w' b9 147 #[.int .u64 ref, .slice Ai m ci])) (fun i _ => m - (intOf i).toNat)
   case atStart => exact ⟨0, zmv _, rfl, zmk (by simpa using bT.out), cV⟩
   case round =>
    obtain ⟨j, hj, rfl, RJ, BJ⟩ := hrel; clear bT cV; by_cases hlt2 : j < m
    ·obtain ⟨g2, ap, rfl, hPg2, al⟩ := nN.out (by omega)
     have el := HP.out g2 hPg2; obtain ⟨y, hy⟩ : ∃ y, ivs[j]? = some y := ⟨_, zmm (by rw [HM.out]; exact hlt2)⟩; have od := eV.2 y (zms hy)
     have hFj : Fr (fun k => some k = (Value.slice a' n' k').ownBlock) w wr := dF.out.trans RJ.out.fr (fun k hk e => by
      rcases e with e | e
      ·omega
      ·exact e)
     have cc : ∀ i, i < 2 -> ∀ u, (ivc y)[i]? = some u -> wr.cell? ⟨g2, ap + (j * 2 + i), none⟩ = some u := fun i hi u hu => by
      have := al (j * 2 + i) u (by rw [zbE ivc (fun _ => rfl) ivs j y hy i hi]; exact hu); rw [hFj.cell (p := ⟨g2, ap + (j * 2 + i), none⟩) el.1 el.2]; exact this
     have d0 : wr.cell? ⟨g2, ap + j * 2, none⟩ = some (.int .i64 y.1) := cc 0 (by omega) _ rfl; have d1 : wr.cell? ⟨g2, ap + j * 2 + 1, none⟩ = some (.int .i64 y.2) := cc 1 (by omega) _ rfl; have oT : (ys ++ (ivs.take j).flatMap (zfV ref)).length <= 1 + 4096 * 114688 + 114688 := by
      have h1 := zdo (zfV ref) 28 (ivs.take j) (fun p hp => zjj _ _ (eV.2 p (zni hp))); have h2 : (ivs.take j).length <= 4096 := by
       have := znl j ivs; omega
      have h3 : (ivs.take j).length * 28 <= 4096 * 28 := zmx _ h2; have h4 := HL.out; rw [zml]; omega
     have RA := RJ.out.alloc (.cells #[.int .i64 y.1, .int .i64 y.2] 279); have B9 := BJ.out.alloc (.cells #[.int .i64 y.1, .int .i64 y.2] 279); have ln := znr wr 279 #[.int .i64 y.1, .int .i64 y.2]; have z0 := B9.cell 0; simp at z0
     have ee := zag RA (f := 181) (args := #[.pointer (some ⟨w.heap.size, 0, none⟩), .int .u64 ref]) (zs := Lib.beBytes 8 ref) (fun o2 he => zcn _ o2 _ _ eV.1 _ he (by rw [zml]; omega)); have HY := zmk hy; have HB9 := zmk B9; have oH := zmk ln; have HZL := zmk oT; have jA := zdZ y.1 od.1.1 od.1.2; clear hy hFj cc ln al B9 oT
     go_wp2_with (go_at_call 181; refine ee.mono ?_; rintro rA wA ⟨rfl, RB, KB⟩; refine Hid.out ?_)
     have HBA := zmk (KB.out _ _ _ (by decide) (by decide) HB9.out); have ln := KB.out _ _ _ (by decide) (by decide) oH.out; have y0 := ln.cell 0; simp at y0; have HBY2 := zmk ln
     have de := zag RB (f := 183) (args := #[.pointer (some ⟨w.heap.size, 0, none⟩), .int .i64 y.1]) (zs := Lib.uvarint (Lib.zigzag y.1)) (fun o2 he => zax _ o2 _ _ od.1.1 od.1.2 _ he (by have := HZL.out; rw [zml, zml, zmu]; omega)); clear ee d0 d1 z0 ln; refine zmk ?_
     go_wp2_with (go_at_call 183; refine de.mono ?_; rintro rB wB ⟨rfl, RC, KC⟩; refine Hid.out ?_)
     have oc := zmk (KC.out _ _ _ (by decide) (by decide) HBA.out); have ln := KC.out _ _ _ (by decide) (by decide) HBY2.out; have y1 := ln.cell 1; simp at y1
     have iY := zag RC (f := 183) (args := #[.pointer (some ⟨w.heap.size, 0, none⟩), .int .i64 y.2]) (zs := Lib.uvarint (Lib.zigzag y.2)) (fun o2 he => zax _ o2 _ _ od.2.1 od.2.2 _ he (by have := HZL.out; rw [zml, zml, zml, zmu]; omega)); clear de y0 ln; refine zmk ?_
     go_wp2_with (go_at_call 183; refine iY.mono ?_; rintro rD wD ⟨rfl, RD, KD⟩)
     have mE := zmk (KD.out _ _ _ (by decide) (by decide) oc.out); have RE : Put WB w.heap.size (Value.slice a' n' k').ownBlock xs (ys ++ (ivs.take (j + 1)).flatMap (zfV ref)) wD := by
      rw [zam (zfV ref) ivs j y HY.out]; simpa [zfV, zb9, zmn] using RD
     have cQ := zmk RE; clear RE RD RC RB iY y1 KB KC KD RA RJ BJ; go_wp2; go_roundw
     case rel => exact ⟨j + 1, by omega, by go_num, cQ, mE⟩
     case measure => simp [intOf]; omega
    ·obtain rfl : j = m := by omega
     have RE : Put WB w.heap.size (Value.slice a' n' k').ownBlock xs ([3] ++ (zbY ((lv.map Prod.fst).take (k + 1))).flatMap zb9) wr := by
      rw [zlG _ _ _ HX1.out, <- zmn, oU]; have h := RJ.out; have e1 : ivs.take j = ivs := zmt (by rw [HM.out]; exact zmw _); rw [e1] at h; exact h
     have cQ := zmk RE; clear RE RJ; go_wp2; go_roundw
     case rel => exact ⟨k + 1, by omega, by go_num, cQ.out⟩
     case measure => simp [intOf]; omega
  ·obtain rfl : k = n := by omega
   obtain ⟨oZ, dy, dX, fN⟩ := R; have hG := zd9 _ _ _ _ dy; have HEZ := zmk dy; have HZ := zmk dX; clear dy dX; go_wp2_with (go_at_call 116; refine hG.mono ?_; rintro rr w2 ⟨v2, rfl, rfl, af, bI⟩)
   go_ret; refine ⟨v2, rfl, ?_, dF.out.trans HZ.out (fun k hk e => ?_), ?_⟩
   ·have e1 : (lv.map Prod.fst).take k = lv.map Prod.fst := zmt (by rw [zmI, HN.out]; exact zmw _)
    rw [e1] at af; simpa [za9, zky] using af
   ·rcases e with e | e
    ·omega
    ·exact e
   ·rw [bI]
    rcases fN with h | ⟨k2, h, cO⟩
    ·exact .inl h
    ·exact .inr ⟨k2, h, by omega⟩
def one (s : Stn) : Ston := ⟨s.ref, [(s.lo, s.hi)]⟩
def zbQ (w : World) (base : Nat) (o : Option Nat) (pre : List Ston) (xs : List UInt8) (r : Ending) (w' : World) : Prop :=
 Fr (fun k => some k = o) w w' /\ match zaF xs with
  | some l => ∃ v' lv, r = .returned (.tuple #[v', .nilIface]) /\ lv.map Prod.fst = pre ++ l.map one /\ OwnS base 147 279 w' v' lv
  | none => ∃ t a, r = .returned (.tuple #[.slice none 0 0, .iface t a])
theorem zeg {w w' : World} {base : Nat} {o : Option Nat} {pre : List Ston} {xs : List UInt8} {t : TypeId} {a : Value} (hd : zaF xs = none) (hf : Fr (fun k => some k = o) w w') : zbQ w base o pre xs (.returned (.tuple #[.slice none 0 0, .iface t a])) w' := by
 unfold zbQ; rw [hd]; exact ⟨hf, _, _, rfl⟩
theorem zgl {w w' : World} {base : Nat} {o : Option Nat} {pre : List Ston} {xs : List UInt8} {l : List Stn} {v : Value} {lv : List (Ston × Value)} (hd : zaF xs = some l) (hf : Fr (fun k => some k = o) w w') (hm : lv.map Prod.fst = pre ++ l.map one) (ho : OwnS base 147 279 w' v lv) : zbQ w base o pre xs (.returned (.tuple #[v, .nilIface])) w' := by
 unfold zbQ; rw [hd]; exact ⟨hf, _, _, rfl, hm, ho⟩
theorem own_one {w : World} {base e : Nat} {a b : Value} (hb : base <= w.heap.size) : (w.alloc (.cells #[a, b] e)).ownsRow base e 2 (.slice (some ⟨w.heap.size, 0, none⟩) 1 1) 1 [a, b] :=
 ⟨rfl, .inr ⟨_, _, _, rfl, hb, znr w e #[a, b], zmw _, by unfold maxLen; omega, rfl, rfl⟩⟩
theorem zjS {l0 l : List UInt8} (h : (zbw (some l0)).2 = some l) : l.length < l0.length := by
 obtain ⟨l1, h1, qn⟩ := zb7 (st := (zaI (zab (some l0)).2).2) h; obtain ⟨l2, h2, qm⟩ := zb7 (st := (zab (some l0)).2) h1; obtain ⟨l3, h3, h3'⟩ := zbK (st := some l0) h2; injection h3 with h3; subst h3; omega
theorem zhq (te : TypeId) (pe : Value) (dv : Value) (g base : Nat) (cur : Array Value) (pre : List Ston) (xs : List UInt8) (v sv : Value) (w : World) (h : Rec te pe w g cur xs v) (hx : (zaD (some xs)).1 ≠ 3) :
 Calls prog 74 #[dv, v, sv] w (zbQ w base sv.ownBlock pre xs) := by
 have hd : zaF xs = none := by
  rcases xs with _ | ⟨b, r⟩
  ·rfl
  ·have : ¬ b = 3 := by rintro rfl; exact hx rfl
   simp [zaF, zbq, this]
 unfold zbQ; rw [hd]; clear hd; have hD := h.dec; obtain ⟨off, c, rfl, _⟩ := h; have hQ := zbG te pe w.heap.size g cur _ _ hD; have dS : ¬ ((zaD (some xs)).1 : Int) = 3 := by omega
 clear hD hx; generalize (zaD (some xs)).1 = x at hQ dS; generalize (zaD (some xs)).2 = st at hQ; go_enter func74, ntmps74; go_wp2_with (first | (go_at_call 160; refine hQ.mono ?_; rintro r w1 ⟨rfl, cr, ai⟩) | (go_at_call 161; refine (zbP _ _).mono ?_; rintro r w2 ⟨t, a, rfl, ar⟩))
 go_ret2; refine ⟨?_, _, _, rfl⟩; have f1 := (((znq (fun k => some k = sv.ownBlock) w).alloc (.cells #[.slice (some ⟨g, off, none⟩) xs.length c, .nilIface] 229)).trans ai (fun k hk e => by omega)); exact f1.trans ar (fun _ _ e => e.elim)
theorem OwnS.off {base te ti b t : Nat} {w w' : World} {v : Value} {lv : List (Ston × Value)} {cs : Array Value} (h : OwnS base te ti w v lv) (hb : Blk w b t cs) (h1 : te ≠ t) (h2 : ti ≠ t) (hf : Fr (fun k => k = b) w w') : OwnS base te ti w' v lv :=
 ⟨zaj h.1 hf (fun g hg e => zak h.1 hb h1 (by rw [hg, e])), fun p hp => zaj (h.2 p hp) hf (fun g hg e => zak (h.2 p hp) hb h2 (by rw [hg, e]))⟩
theorem OwnS.alloc {base te ti : Nat} {w : World} {v : Value} {lv : List (Ston × Value)} (h : OwnS base te ti w v lv) (o : Obj) : OwnS base te ti (w.alloc o) v lv := h.fr ((znq (fun _ => False) w).alloc o) (fun _ _ _ e => e)
theorem Dec.blk {te : TypeId} {pe : Value} {w : World} {d g : Nat} {cur : Array Value} {st : St} (h : Dec te pe w d g cur st) : ∃ cs, Blk w d 229 cs := by
 rcases st with _ | l
 ·obtain ⟨_, off, c, hb, _⟩ := h; exact ⟨_, hb⟩
 ·obtain ⟨off, c, hb, _⟩ := h; exact ⟨_, hb⟩
theorem zhr (te : TypeId) (pe : Value) (dv : Value) (g base : Nat) (cur : Array Value) (lp : List (Ston × Value)) (rest : List UInt8) (v sv : Value) (w : World) (h : Rec te pe w g cur (3 :: rest) v) (ho : OwnS base 147 279 w sv lp) (hb : g < base /\ 2 < base /\ base <= w.heap.size) (bm : lp.length <= 1073741824) :
 Calls prog 74 #[dv, v, sv] w (zbQ w base sv.ownBlock (lp.map Prod.fst) (3 :: rest)) := by
 obtain ⟨i0, aD, aA, az, aC⟩ := info_parts info147; have hD := h.dec; obtain ⟨off, c, rfl, _⟩ := h; have hQ := zbG te pe w.heap.size g cur _ _ hD; have e1 : zaD (some (3 :: rest)) = (3, some rest) := rfl; rw [e1] at hQ; have HO := zmk ho; obtain ⟨a', k', rfl⟩ := zaa ho.1; have oh : rest.length <= 1099511627776 := by
  obtain ⟨n, off', c', _, _, hn, aQ, _⟩ := hD.open_; have := hn _ rfl; simp at this; omega
 obtain ⟨np, fh⟩ := exE lp.length; have lC := zmk fh; rw [fh] at HO bm ⊢; have nA := hD.blk; clear hD e1 ho fh; go_enter func74, ntmps74
 go_wp2_with (first
  | (go_at_call 160; refine hQ.mono ?_; rintro r w1 ⟨rfl, cr, ai⟩; refine Hid.out ?_))
 obtain ⟨csD, nA⟩ := nA; have F1 : Fr (fun k => some k = (Value.slice a' np k').ownBlock) w w1 := ((znq (fun k => some k = (Value.slice a' np k').ownBlock) w).alloc _).trans ai (fun k hk e => by omega); have O1 : OwnS base 147 279 w1 (.slice a' np k') lp := (HO.out.alloc _).off nA (by decide) (by decide) ai; have bA := F1.size
 have eM : ∀ k, (Value.slice a' np k').ownBlock = some k -> k < w.heap.size := fun k hk => zas HO.out.1 hk; have cd := zmk F1; have dg := zmk O1; have aT := zmk cr; have ig := zmk eM; clear cr ai hQ F1 O1 eM nA; refine zmk ?_; go_wp2_with fail
 go_loopw [2] (fun sv wr => ∃ (st : St) (acc : List Stn) (lo : List (Ston × Value)) (j : Nat), Hid (Dec te pe wr w.heap.size g cur st) /\ Hid (OwnS base 147 279 wr sv lo) /\ Hid (lo.map Prod.fst = lp.map Prod.fst ++ acc.map one) /\ Hid (lo.length = np + acc.length) /\ Hid (Fr (fun k => some k = (Value.slice a' np k').ownBlock) w wr) /\ Hid (∀ k, sv.ownBlock = some k -> (some k = (Value.slice a' np k').ownBlock ∨ w.heap.size < k)) /\
  Hid (zad zbw j st acc = zad zbw rest.length (some rest) []) /\ Hid (∀ l, st = some l -> l.length <= j /\ acc.length + l.length <= rest.length) /\ acc.length <= rest.length + 1) (fun _ wr => zix w.heap.size wr)
 case atStart => exact ⟨some rest, [], lp, rest.length, aT, dg, zmk (by simp), zmk (by simpa using lC.out), cd, zmk (fun k hk => .inl hk.symm), zmk rfl, zmk (fun l hl => by cases hl; simp), by simp⟩
 case round =>
  obtain ⟨st, acc, lo, j, HD, HO, HM, ii, HF, HB, HE, HL, mn⟩ := hrel; obtain ⟨n6, io, c6, p0, p1, cN, aQ, hd, hg, h2⟩ := HD.out.open_; have hE := zg6 te pe _ _ _ _ _ HD.out; have hLn := decLen2 te pe _ _ _ _ _ HD.out; obtain ⟨a6, k6, rfl⟩ := zaa HO.out.1; rcases st with _ | l
  ·clear cN p1 p0
   have aI : zad zbw rest.length (some rest) [] = (acc, none) := by rw [<- HE.out]; unfold zad; rcases j with _ | j <;> rfl
   have HR := zmk (show zaF (3 :: rest) = none from zc2 aI); clear aI; simp only [zjH] at hE; go_wp2_with (go_at_call 118; refine hLn.mono ?_; rintro r w7 ⟨n7, rfl, _, hb7, rfl⟩; refine Hid.out ?_)
   rcases zmH n7 with rfl | om
   ·refine zmk ?_
    go_wp2_with (go_at_call 119; refine hE.mono ?_; rintro r w7 ⟨rfl, rfl⟩)
    go_ret2; exact zeg HR.out HF.out
   ·have bV : (0 : Int) < (n7 : Int) := by omega
    refine zmk ?_; go_wp2_with (go_at_call 119; refine hE.mono ?_; rintro r w7 ⟨rfl, rfl⟩)
    go_ret2; exact zeg HR.out HF.out
  ·obtain rfl : n6 = l.length := cN l rfl
   simp only [zjH] at hE; rcases l with _ | ⟨x, r⟩
   ·have aI : zad zbw rest.length (some rest) [] = (acc, some []) := by rw [<- HE.out]; unfold zad; rcases j with _ | j <;> rfl
    have HR := zmk (show zaF (3 :: rest) = some acc from zc1 aI); clear aI cN p1; simp only [znd] at p0; go_wp2_with (go_at_call 118; refine hLn.mono ?_; rintro r w7 ⟨n7, rfl, bV, hb7, rfl⟩; refine Hid.out ?_)
    have ma : n7 = 0 := bV [] rfl; have hn9 : ¬ (0 : Int) < (n7 : Int) := by omega
    clear bV ma; refine zmk ?_; go_wp2_with (go_at_call 119; refine hE.mono ?_; rintro r w7 ⟨rfl, rfl⟩)
    go_ret2; exact zgl HR.out HF.out HM.out HO.out
   ·obtain ⟨n7, bV⟩ := exE ((x :: r).length)
    have ma : (0 : Int) < (n7 : Int) := by rw [<- bV]; simp
    have gg := HL.out _ rfl; have hM := zbu HD.out; rw [bV] at p0 gg hM; have cS := zcF te pe _ _ _ _ _ HD.out; have eU := zmk bV; clear cN p1 bV
    go_wp2_with (first
     | (go_at_call 118; refine hLn.mono ?_; rintro r w7 ⟨n9, rfl, hn9, hb7, rfl⟩; have hn9' : n7 = n9 := ((hn9 _ rfl).trans eU.out).symm; subst hn9')
     | (go_at_call 119; refine hE.mono ?_; rintro r w7 ⟨rfl, rfl⟩)
     | (go_at_call 162; refine cS.mono ?_; rintro r w8 ⟨rfl, fC, cA⟩; refine Hid.out ?_))
    have s8 := cA.size; have D8 := zmk fC; have ic := zdC te pe _ _ _ _ _ fC; have F8 := zmk cA; clear fC cA cS p0; refine zmk ?_; go_wp2_with (go_at_call 165; refine ic.mono ?_; rintro r w9 ⟨rfl, fe, dY⟩; refine Hid.out ?_)
    have s9 := dY.size; have D9 := zmk fe; have jJ := zdC te pe _ _ _ _ _ fe; have F9 := zmk dY; clear fe dY ic; refine zmk ?_; go_wp2_with (go_at_call 165; refine jJ.mono ?_; rintro r wA ⟨rfl, qi, iz⟩; refine Hid.out ?_)
    have FA : Fr (fun k => k = w.heap.size) wr wA := (F8.out.same F9.out).same iz; have sA := FA.size; have DA := zmk qi; have dP := zmk FA; obtain ⟨csD, nA⟩ := HD.out.blk; have OA : OwnS base 147 279 wA (.slice a6 lo.length k6) lo := HO.out.off nA (by decide) (by decide) FA; have cR := zmk OA; clear qi iz jJ FA OA D8 F8 D9 F9 nA; refine zmk ?_
    go_wp2_with (first
     | (at_builtin; refine Hid.out ?_))
    have bW : ∀ l, (zbw (some (x :: r))).2 = some l -> l.length < n7 := fun l hl => eU.out ▸ zjS hl; have ie : Dec te pe wA w.heap.size g cur (zbw (some (x :: r))).2 := DA.out
    have dk : Hid (∀ j', j = j' + 1 -> zad zbw j' (zbw (some (x :: r))).2 (acc ++ [(zbw (some (x :: r))).1]) = zad zbw rest.length (some rest) []) := zmk (by rintro j' rfl; exact HE.out); have q1 : (zab (some (x :: r))).1 = (zbw (some (x :: r))).1.ref := rfl; have q2 : (zaI (zab (some (x :: r))).2).1 = (zbw (some (x :: r))).1.lo := rfl
    have q3 : (zaI (zaI (zab (some (x :: r))).2).2).1 = (zbw (some (x :: r))).1.hi := rfl; rw [q3, q2, q1]; clear DA hE HE q1 q2 q3; generalize zbw (some (x :: r)) = S at ie bW dk ⊢; obtain ⟨s1, ji⟩ := S; simp only [] at ie bW dk ⊢; have gO := zmk ie; have bd := zmk bW; clear ie bW; refine zmk ?_; have hbA : base <= wA.heap.size := by omega
    have an := own_one (w := wA) (base := base) (e := 279) (a := .int .i64 s1.lo) (b := .int .i64 s1.hi) hbA; have jw : lo.length <= 1073741824 + 1099511627776 + 1 := by have := ii.out; omega
    refine zaf _ rfl _ _ 139 139 rfl base 147 i0 _ 2 32 underlying139 aD aA az aC rfl (by decide) (.slice a6 lo.length k6) lo.length (lo.flatMap stc) rfl ((cR.out.alloc _).alloc _).1 _ 1 (stc (one s1, .slice (some ⟨wA.heap.size, 0, none⟩) 1 1)) rfl (zaH underlying139 (zaK wA _ 147 (stc (one s1, .slice (some ⟨wA.heap.size, 0, none⟩) 1 1)).toArray) rfl (by simp [stc, Value.oneCell'])) (by unfold maxLen; omega) (by omega) (by simp; omega) ?_
    intro v' w2 ac ad ax
    obtain ⟨a9, k9, rfl⟩ := zaa ac
    have aV : ∀ k, (Value.slice a6 lo.length k6).ownBlock = some k -> base <= k /\ k ≠ w.heap.size := fun k hk => ⟨(cR.out.1.lt k hk).1, by
     rcases HB.out k hk with h | h
     ·have := ig.out k h.symm; omega
     ·omega⟩
    have ip := ad.size; simp at ip; have fG : Fr (fun k => some k = (Value.slice a6 lo.length k6).ownBlock) wA w2 := (((znq (fun k => some k = (Value.slice a6 lo.length k6).ownBlock) wA).alloc _).alloc _).grown ad (fun k hk => .inl hk.symm)
    have rD : Dec te pe w2 w.heap.size g cur ji := gO.out.fr fG (fun e => (aV _ e.symm).2 rfl) (fun e => by have := (aV _ e.symm).1; omega) (fun e => by have := (aV _ e.symm).1; omega); have rO : OwnS base 147 279 w2 (.slice a9 (lo.length + 1) k9) (lo ++ [(one s1, .slice (some ⟨wA.heap.size, 0, none⟩) 1 1)]) :=
     OwnS.push (p := (one s1, .slice (some ⟨wA.heap.size, 0, none⟩) 1 1)) ((cR.out.alloc _).alloc _) (an.alloc _) ad ac (by decide)
    have rMM : (lo ++ [(one s1, Value.slice (some ⟨wA.heap.size, 0, none⟩) 1 1)]).map Prod.fst = lp.map Prod.fst ++ (acc ++ [s1]).map one := by
     rw [zmK, zmK, HM.out, zmn]; rfl
    have rL : (lo ++ [(one s1, Value.slice (some ⟨wA.heap.size, 0, none⟩) 1 1)]).length = np + (acc ++ [s1]).length := by
     rw [zml, zml, ii.out]; simp [Nat.add_assoc]
    have rF : Fr (fun k => some k = (Value.slice a' np k').ownBlock) w w2 := (HF.out.trans dP.out (fun k hk e => by omega)).trans fG (fun k hk e => by
     rcases HB.out k e.symm with h | h
     ·exact h
     ·omega)
    have rB : ∀ k, (Value.slice a9 (lo.length + 1) k9).ownBlock = some k -> (some k = (Value.slice a' np k').ownBlock ∨ w.heap.size < k) := fun k hk => by
     rcases ax with h | h
     ·exact HB.out k (h ▸ hk)
     ·rw [h] at hk; injection hk with hk; simp at hk; exact .inr (by omega)
    have rM : zix w.heap.size w2 < n7 + 1 := by
     rcases ji with _ | l9
     ·rw [zdc rD]; omega
     ·rw [zbu rD]; have := bd.out l9 rfl; omega
    have RD := zmk rD; have RO := zmk rO; have RF := zmk rF; have RB := zmk rB; have RMM := zmk rMM; have RL := zmk rL; clear rD rO rF rB rMM rL ac ad ax aV fG an cR; go_wp2; go_roundw
    case rel =>
     obtain ⟨j', rfl⟩ : ∃ j', j = j' + 1 := ⟨j - 1, by have := eU.out; simp at this; omega⟩; have au : ∃ a m c, (Value.slice a9 (lo.length + 1) k9) = .slice a m c := ⟨_, _, _, rfl⟩; refine ⟨ji, acc ++ [s1], _, j', RD, RO, RMM, RL, RF, RB, zmk (dk.out j' rfl), zmk (fun l hl => ?_), by simp; omega⟩; have := bd.out l hl; rw [zml, zmB]; omega
    case measure => rw [hM]; exact rM
theorem ziu (te : TypeId) (pe : Value) (dv : Value) (g base : Nat) (cur : Array Value) (lp : List (Ston × Value)) (xs : List UInt8) (v sv : Value) (w : World) (h : Rec te pe w g cur xs v) (ho : OwnS base 147 279 w sv lp) (hb : g < base /\ 2 < base /\ base <= w.heap.size) (bm : lp.length <= 1073741824) :
 Calls prog 74 #[dv, v, sv] w (zbQ w base sv.ownBlock (lp.map Prod.fst) xs) := by
 by_cases hx : (zaD (some xs)).1 = 3
 ·rcases xs with _ | ⟨b, rest⟩
  ·exact absurd hx (by decide)
  ·have hb2 : b = 3 := by
    have : b.toNat = (3 : UInt8).toNat := hx; exact UInt8.toNat_inj.1 this
   subst hb2; exact zhr te pe dv g base cur lp rest v sv w h ho hb bm
 ·exact zhq te pe dv g base cur (lp.map Prod.fst) xs v sv w h hx
def Ct (s t : St) : Prop := t = none ∨ ∃ l m, s = some l /\ t = some (l.take m)
def CutG {α : Type} (G : St -> α × St) : Prop := (G none).2 = none /\ ∀ s t, Ct s t -> (G t).2 = none ∨ ((G t).1 = (G s).1 /\ Ct (G s).2 (G t).2)
theorem CutG.ct {α : Type} {G : St -> α × St} (h : CutG G) {s t : St} (c : Ct s t) : Ct (G s).2 (G t).2 := by
 rcases h.2 s t c with e | ⟨_, e⟩
 ·exact .inl e
 ·exact e
theorem CutG.bind {α β : Type} {G : St -> α × St} {H : α -> St -> β × St} (hG : CutG G) (hH : ∀ a, CutG (H a)) : CutG (fun s => H (G s).1 (G s).2) := by
 refine ⟨by show (H _ (G none).2).2 = none; rw [hG.1]; exact (hH _).1, fun s t c => ?_⟩; show (H (G t).1 (G t).2).2 = none ∨ ((H (G t).1 (G t).2).1 = (H (G s).1 (G s).2).1 /\ Ct (H (G s).1 (G s).2).2 (H (G t).1 (G t).2).2); rcases hG.2 s t c with e | ⟨e, c2⟩
 ·rw [e]; exact .inl (hH _).1
 ·rw [e]; exact (hH _).2 _ _ c2
theorem CutG.map {α β : Type} {G : St -> α × St} (f : α -> β) (hG : CutG G) : CutG (fun s => (f (G s).1, (G s).2)) :=
 ⟨hG.1, fun s t c => (hG.2 s t c).imp id (fun h => ⟨znb f h.1, h.2⟩)⟩
theorem zfh {α : Type} (a : α) : CutG (fun s => (a, s)) := ⟨rfl, fun s t c => .inr ⟨rfl, c⟩⟩
theorem zk7 {α : Type} {G : St -> α × St} (h0 : (G none).2 = none) (h : ∀ l m, (G (some (l.take m))).2 = none ∨ ((G (some (l.take m))).1 = (G (some l)).1 /\ Ct (G (some l)).2 (G (some (l.take m))).2)) : CutG G := by
 refine ⟨h0, fun s t c => ?_⟩; rcases c with rfl | ⟨l, m, rfl, rfl⟩
 ·exact .inl h0
 ·exact h l m
theorem cut_byte : CutG zaD := by
 refine zk7 rfl fun l m => ?_; rcases m with _ | m
 ·exact .inl rfl
 ·rcases l with _ | ⟨b, r⟩
  ·exact .inl rfl
  ·exact .inr ⟨rfl, .inr ⟨r, m, rfl, rfl⟩⟩
theorem cut_be : CutG zab := by
 refine zk7 rfl fun l m => ?_; rcases zmN (l.take m).length 8 with h | h
 ·rw [zeR h]; exact .inl rfl
 ·rw [zm7] at h
  obtain ⟨k, rfl⟩ : ∃ k, m = k + 8 := ⟨m - 8, by omega⟩
  match l, h with
  | b0 :: b1 :: b2 :: b3 :: b4 :: b5 :: b6 :: b7 :: r, _ => exact .inr ⟨rfl, .inr ⟨r, k, rfl, rfl⟩⟩
theorem uv_cut : ∀ (l : List UInt8) (i acc m : Nat), (i : Int) < (Lib.uvarintFrom i acc (l.take m)).2 -> Lib.uvarintFrom i acc l = Lib.uvarintFrom i acc (l.take m) /\ ∃ n : Nat, (Lib.uvarintFrom i acc (l.take m)).2 = (i : Int) + n /\ n <= m
 | l, i, acc, 0, h => by
   rw [List.take_zero] at h; have : (i : Int) < 0 := h; omega
 | [], i, acc, m + 1, h => by
   have : (i : Int) < 0 := h; omega
 | b :: r, i, acc, m + 1, h => by
   rw [List.take_succ_cons] at h ⊢; have K : ∀ r, Lib.uvarintFrom i acc (b :: r) = if i = 10 then (0, -((i : Int) + 1)) else if b.toNat < 128 then (if i = 9 /\ 1 < b.toNat then (0, -((i : Int) + 1)) else (acc + b.toNat * 2 ^ (7 * i), (i : Int) + 1)) else Lib.uvarintFrom (i + 1) (acc + b.toNat % 128 * 2 ^ (7 * i)) r := fun r => by rw [Lib.uvarintFrom]
   rw [K] at h; rw [K, K]; by_cases h1 : i = 10
   ·rw [if_pos h1] at h; simp only [] at h; omega
   ·rw [znh h1] at h
    rw [znh h1, znh h1]; by_cases h2 : b.toNat < 128
    ·rw [if_pos h2] at h
     rw [if_pos h2, if_pos h2]; by_cases h3 : i = 9 /\ 1 < b.toNat
     ·rw [if_pos h3] at h; simp only [] at h; omega
     ·rw [znh h3]
      exact ⟨rfl, 1, rfl, by omega⟩
    ·rw [znh h2] at h
     rw [znh h2, znh h2]; have h4 := uv_ge (r.take m) (i + 1) (acc + b.toNat % 128 * 2 ^ (7 * i)) (by omega); obtain ⟨e, n, e2, hn⟩ := uv_cut r (i + 1) _ m h4; exact ⟨e, n + 1, by rw [e2]; omega, by omega⟩
where
 uv_ge : ∀ (l : List UInt8) (i acc : Nat), 0 < (Lib.uvarintFrom i acc l).2 -> (i : Int) < (Lib.uvarintFrom i acc l).2
 | [], i, acc, h => by have : (0 : Int) < 0 := h; omega
 | b :: r, i, acc, h => by
   rw [Lib.uvarintFrom] at h ⊢; by_cases h1 : i = 10
   ·rw [if_pos h1] at h; simp only [] at h; omega
   ·rw [znh h1] at h ⊢
    by_cases h2 : b.toNat < 128
    ·rw [if_pos h2] at h ⊢
     by_cases h3 : i = 9 /\ 1 < b.toNat
     ·rw [if_pos h3] at h; simp only [] at h; omega
     ·rw [znh h3]; simp only []; omega
    ·rw [znh h2] at h ⊢
     have := uv_ge r (i + 1) _ h; omega
theorem cut_uv : CutG gUv := by
 refine zk7 rfl fun l m => ?_; unfold gUv; simp only []; by_cases h : 1 <= (Lib.uvarintDec (l.take m)).2
 ·obtain ⟨e, n, e2, hn⟩ := uv_cut l 0 0 m (by show (0 : Int) < (Lib.uvarintDec (l.take m)).2; omega)
  have e3 : Lib.uvarintDec l = Lib.uvarintDec (l.take m) := e; have e4 : (Lib.uvarintDec (l.take m)).2 = n := by have : (Lib.uvarintDec (l.take m)).2 = ((0 : Nat) : Int) + n := e2; omega
  rw [e3, if_pos h, if_pos h, e4, zm6]; exact .inr ⟨rfl, .inr ⟨_, m - n, rfl, by rw [List.drop_take]⟩⟩
 ·rw [znh h]; exact .inl rfl
theorem cut_var : CutG zaI := cut_uv.map Lib.unzigzag
def hdrG (s : St) : (Nat × Int) × St := (((zab s).1, (zao (zab s).2).1), (zao (zab s).2).2)
theorem cut_hdr : CutG hdrG := cut_be.bind fun a => (cut_be.map i64).map fun b => (a, b)
def tkG (n : Nat) (s : St) : ByteArray × St := match s with
 | none => (⟨#[]⟩, none)
 | some r => if r.length < n then (⟨#[]⟩, none) else (⟨(r.take n).toArray⟩, some (r.drop n))
theorem cut_tk (n : Nat) : CutG (tkG n) := by
 refine zk7 rfl fun l m => ?_; show (if (l.take m).length < n then ((⟨#[]⟩ : ByteArray), (none : St)) else _).2 = none ∨ _; rcases zmN (l.take m).length n with h | h
 ·rw [if_pos h]; exact .inl rfl
 ·rw [znh (by omega)]
  have h2 := h; rw [zm7] at h2; have e1 : tkG n (some l) = (⟨(l.take n).toArray⟩, some (l.drop n)) := by show (if l.length < n then _ else _) = _; rw [znh (by omega)]
  have e2 : tkG n (some (l.take m)) = (⟨((l.take m).take n).toArray⟩, some ((l.take m).drop n)) := by show (if (l.take m).length < n then _ else _) = _; rw [znh (by omega)]
  rw [e1, e2]; refine .inr ⟨by rw [List.take_take, show min n m = n by omega], .inr ⟨_, m - n, rfl, by rw [List.drop_take]⟩⟩
theorem cut_str : CutG zb3 := cut_uv.bind cut_tk
theorem cut_lab : CutG gLab := cut_str.bind fun a => cut_str.map fun b => (a, b)
theorem zgc : ∀ k, CutG (fun s => za6 s k)
 | 0 => zfh []
 | k + 1 => (zgc k).bind fun a => cut_lab.map fun p => a ++ [p]
theorem cut_labG : CutG zfo := cut_uv.bind zgc
theorem cut_gN {α : Type} {f : St -> α × St} (h : CutG f) : ∀ n, CutG (gN f n)
 | 0 => zfh []
 | n + 1 => h.bind fun a => (cut_gN h n).map fun l => a :: l
theorem zbi {α : Type} {f : St -> α × St} (h : CutG f) : CutG (zeW f) := cut_uv.bind (cut_gN h)
theorem zeb : CutG gSp := cut_var.bind fun a => cut_uv.map fun b => (wrap32 a, b % 4294967296)
theorem ziA : ∀ k, CutG (fun s => zdz s k)
 | 0 => zfh _
 | k + 1 => (ziA k).bind fun a => cut_str.bind fun n => cut_str.map fun v => if n = ziE then (v, a.2) else if n = ziF then (a.1, v) else a
theorem cut_if {α : Type} (c : Prop) [Decidable c] {f g : St -> α × St} (hf : CutG f) (hg : CutG g) : CutG (fun s => if c then f s else g s) := by
 by_cases h : c
 ·simpa only [if_pos h] using hf
 ·simpa only [znh h] using hg
theorem cut_histW : CutG zcv := cut_byte.bind fun a => cut_var.bind fun b => cut_be.bind fun c => cut_uv.bind fun d => cut_uv.bind fun e => cut_be.bind fun f => (zbi zeb).bind fun g => (zbi zeb).bind fun h => (zbi cut_var).bind fun i => (zbi cut_var).bind fun j => (cut_if (wrap32 b = -53) (zbi cut_be) (zfh [])).map fun k => Hst.mk (UInt8.ofNat a) (wrap32 b) c f d e g h i j [] [] k
theorem cut_histF : CutG zcw := cut_byte.bind fun a => cut_var.bind fun b => cut_be.bind fun c => cut_be.bind fun d => cut_be.bind fun e => cut_be.bind fun f => (zbi zeb).bind fun g => (zbi zeb).bind fun h => (zbi cut_be).bind fun i => (zbi cut_be).bind fun j => (cut_if (wrap32 b = -53) (zbi cut_be) (zfh [])).map fun k => Hst.mk (UInt8.ofNat a) (wrap32 b) c f d e g h [] [] i j k
theorem cut_smp (br : Nat) (bt : Int) : CutG (zba br bt) := cut_var.bind fun a => cut_var.bind fun b => cut_be.map fun c => Smp.mk (u64 (wrap64 (i64 br + a))) (wrap64 (bt + b)) c
theorem cut_mrk : CutG zbJ := cut_be.bind fun a => cut_be.map fun b => Mrk.mk a b
theorem cut_stn : CutG zbw := cut_be.bind fun a => cut_var.bind fun b => cut_var.map fun c => Stn.mk a b c
theorem cut_ser : CutG zbc := cut_be.bind fun a => cut_labG.map fun b => SerD.mk a b
theorem cut_exm (br : Nat) (bt : Int) : CutG (zaR br bt) := cut_var.bind fun a => cut_var.bind fun b => cut_be.bind fun c => cut_labG.map fun d => ExD.mk (u64 ((br : Int) + u64 a)) (wrap64 (bt + b)) c d
theorem cut_mta : CutG zbd := cut_uv.bind fun a => cut_byte.bind fun b => cut_uv.bind fun n => (ziA n).map fun (f : ByteArray × ByteArray) => Mta.mk a (UInt8.ofNat b) f.1 f.2
theorem cut_hsW (br : Nat) (bt : Int) : CutG (zaN br bt) := cut_var.bind fun a => cut_var.bind fun b => cut_histW.map fun h => Rhs.mk (u64 ((br : Int) + u64 a)) (wrap64 (bt + b)) h
theorem cut_hsF (br : Nat) (bt : Int) : CutG (zaO br bt) := cut_var.bind fun a => cut_var.bind fun b => cut_histF.map fun h => Rhs.mk (u64 ((br : Int) + u64 a)) (wrap64 (bt + b)) h
theorem zek {α : Type} (step : St -> α × St) (k : Nat) (s : St) (acc L : List α) (z : St) (h : zad step k s acc = (L, z)) : ∃ u, L = acc ++ u := by
 have e := zgD step k s acc []; rw [zmG, h] at e; exact ⟨_, znb Prod.fst e⟩
theorem zfC {α : Type} (step : St -> α × St) (k : Nat) (acc : List α) : zad step k none acc = (acc, none) := by cases k <;> rfl
theorem zgC {α : Type} {step : St -> α × St} (hs : CutG step) : ∀ (k' k : Nat) (s t : St) (acc L L' : List α) (z z' : List UInt8), k' <= k -> Ct s t -> zad step k s acc = (L, some z) -> zad step k' t acc = (L', some z') -> ∃ u, L = L' ++ u := by
 intro k'; induction k' with
 | zero =>
   intro k s t acc L L' z z' _ _ h h'; obtain rfl : acc = L' := znb Prod.fst h'; exact zek step k s acc L _ h
 | succ k' ih =>
   intro k s t acc L L' z z' hk c h h'; rcases c with rfl | ⟨l, m, rfl, rfl⟩
   ·cases h'
   ·rcases k with _ | k
    ·omega
    rcases m with _ | m
    ·obtain rfl : acc = L' := znb Prod.fst h'
     exact zek step _ _ acc L _ h
    rcases l with _ | ⟨b, l⟩
    ·obtain rfl : acc = L' := znb Prod.fst h'
     exact zek step _ _ acc L _ h
    rw [List.take_succ_cons, zad] at h'; rw [zad] at h; have c2 : Ct (some (b :: l)) (some (b :: l.take m)) := .inr ⟨_, m + 1, rfl, rfl⟩; rcases hs.2 _ _ c2 with e | ⟨e, c3⟩
    ·rw [e, zfC] at h'
     cases h'
    ·rw [e] at h'
     exact ih k _ _ _ L L' z z' (by omega) c3 h h'
def zcz {α : Type} (step : Nat -> Int -> St -> α × St) (rest : List UInt8) : Option (List α) :=
 if rest = [] then some [] else match zad (step (zab (some rest)).1 (zao (zab (some rest)).2).1) rest.length (zao (zab (some rest)).2).2 [] with
  | (l, some _) => some l
  | (_, none) => none
def decFlt {α : Type} (step : St -> α × St) (rest : List UInt8) : Option (List α) :=
 match zad step rest.length (some rest) [] with
  | (l, some _) => some l
  | (_, none) => none
def CutD {α : Type} (f : List UInt8 -> Option (List α)) : Prop := ∀ xs m L L', f xs = some L -> f (xs.take m) = some L' -> ∃ u, L = L' ++ u
theorem ze9 {α : Type} {r : List α × St} {L : List α} (h : (match r with | (l, some _) => some l | (_, none) => none) = some L) : ∃ z, r = (L, some z) := by
 rcases r with ⟨l, _ | z⟩
 ·cases h
 ·injection h with h; subst h; exact ⟨z, rfl⟩
theorem zgb {s : List UInt8} (m : Nat) : Ct (some s) (some (s.take m)) := .inr ⟨s, m, rfl, rfl⟩
theorem zl8 {α : Type} {step : St -> α × St} (hs : CutG step) : CutD (decFlt step) := fun xs m L L' h h' => by
 obtain ⟨z, e⟩ := ze9 h; obtain ⟨z', e'⟩ := ze9 h'; exact zgC hs _ _ _ _ _ _ _ _ _ (by rw [zm7]; omega) (zgb m) e e'
theorem zey {α : Type} {step : Nat -> Int -> St -> α × St} (hs : ∀ br bt, CutG (step br bt)) : CutD (zcz step) := fun xs m L L' h h' => by
 unfold zcz at h h'; by_cases h0 : xs.take m = []
 ·rw [if_pos h0] at h'
  injection h' with h'; subst h'; exact ⟨L, rfl⟩
 ·rw [znh h0] at h'
  rw [znh (fun e => h0 (by rw [e, List.take_nil]))] at h; obtain ⟨z, e⟩ := ze9 h; obtain ⟨z', e'⟩ := ze9 h'; rcases cut_hdr.2 _ _ (zgb (s := xs) m) with n | ⟨v, c⟩
  ·have n2 : (zao (zab (some (xs.take m))).2).2 = none := n
   rw [n2, zfC] at e'; cases e'
  ·have v1 : (zab (some (xs.take m))).1 = (zab (some xs)).1 := znb (fun x : Nat × Int => x.1) v
   have v2 : (zao (zab (some (xs.take m))).2).1 = (zao (zab (some xs)).2).1 := znb (fun x : Nat × Int => x.2) v; rw [v1, v2] at e'; exact zgC (hs _ _) _ _ _ _ _ _ _ _ _ (by rw [zm7]; omega) c e e'
def decK {α : Type} (p : UInt8 -> Bool) (f : List UInt8 -> Option (List α)) : List UInt8 -> Option (List α)
 | [] => none
 | b :: rest => if p b = true then f rest else none
theorem zfg {α : Type} (p : UInt8 -> Bool) {f : List UInt8 -> Option (List α)} (h : CutD f) : CutD (decK p f) := fun xs m L L' e e' => by
 rcases m with _ | m
 ·cases e'
 rcases xs with _ | ⟨b, r⟩
 ·cases e
 by_cases k : p b = true
 ·have e1 : (if p b = true then f r else none) = some L := e
  have e2 : (if p b = true then f (r.take m) else none) = some L' := e'; rw [if_pos k] at e1 e2; exact h r m L L' e1 e2
 ·have e1 : (if p b = true then f r else none) = some L := e
  rw [znh k] at e1; cases e1
theorem CutD.congr {α : Type} {f g : List UInt8 -> Option (List α)} (h : CutD f) (e : ∀ xs, g xs = f xs) : CutD g := by
 obtain rfl : g = f := funext e; exact h
theorem zga {α : Type} (t : UInt8) {step : St -> α × St} (hs : CutG step) : CutD (zbq t step) := (zfg (fun b => decide (b = t)) (zl8 hs)).congr fun xs => by
 rcases xs with _ | ⟨b, r⟩
 ·rfl
 ·show (if b = t then decFlt step r else none) = if decide (b = t) = true then decFlt step r else none
  by_cases h : b = t
  ·rw [if_pos h, if_pos (decide_eq_true h)]
  ·rw [znh h, znh (fun e => h (of_decide_eq_true e))]
theorem zgn (br : Nat) (bt : Int) : ∀ (k : Nat) (s : St) (acc : List Smp), zbb br bt k s acc = zad (zba br bt) k s acc
 | 0, s, acc => rfl
 | k + 1, none, acc => rfl
 | k + 1, some [], acc => rfl
 | k + 1, some (c :: r), acc => by rw [zbb, zad]; exact zgn br bt k _ _
theorem hdr_smp (b : UInt8) (r : List UInt8) (hb : b = 2) : zal (b :: r) = zcz zba r := by
 subst hb; show (if r = [] then some [] else _) = _; unfold zcz; rw [zgn]; by_cases h : r = []
 ·rw [if_pos h, if_pos h]
 ·rw [znh h, znh h]
  generalize zad _ _ _ _ = q; rcases q with ⟨_, _ | _⟩ <;> rfl
theorem hdr_exm (r : List UInt8) : zbm r = zcz zaR r := by
 unfold zbm zcz; by_cases h : r = []
 ·rw [if_pos h, if_pos h]
 ·rw [znh h, znh h]
  generalize zad _ _ _ _ = q; rcases q with ⟨_, _ | _⟩ <;> rfl
theorem hdr_hsW (r : List UInt8) : zaV r = zcz zaN r := by
 unfold zaV zcz; by_cases h : r = []
 ·rw [if_pos h, if_pos h]
 ·rw [znh h, znh h]
  generalize zad _ _ _ _ = q; rcases q with ⟨_, _ | _⟩ <;> rfl
theorem hdr_hsF (r : List UInt8) : zaW r = zcz zaO r := by
 unfold zaW zcz; by_cases h : r = []
 ·rw [if_pos h, if_pos h]
 ·rw [znh h, znh h]
  generalize zad _ _ _ _ = q; rcases q with ⟨_, _ | _⟩ <;> rfl
theorem cutd_smp : CutD zal := (zfg (fun b => decide (b = 2)) (zey cut_smp)).congr fun xs => by
 rcases xs with _ | ⟨b, r⟩
 ·rfl
 ·by_cases h : b = 2
  ·rw [hdr_smp b r h]; show _ = if decide (b = 2) = true then zcz zba r else none; rw [if_pos (decide_eq_true h)]
  ·show (if b = 2 then _ else none) = if decide (b = 2) = true then zcz zba r else none
   rw [znh h, znh (fun e => h (of_decide_eq_true e))]
theorem cutd_exm : CutD zbl := (zfg (fun b => decide (b = 4)) (zey cut_exm)).congr fun xs => by
 rcases xs with _ | ⟨b, r⟩
 ·rfl
 ·by_cases h : b = 4
  ·show (if b = 4 then zbm r else none) = if decide (b = 4) = true then zcz zaR r else none; rw [if_pos h, if_pos (decide_eq_true h), hdr_exm]
  ·show (if b = 4 then _ else none) = if decide (b = 4) = true then zcz zaR r else none
   rw [znh h, znh (fun e => h (of_decide_eq_true e))]
theorem cutd_hsW : CutD zci := (zfg (fun b => decide (b = 7 ∨ b = 9)) (zey cut_hsW)).congr fun xs => by
 rcases xs with _ | ⟨b, r⟩
 ·rfl
 ·by_cases h : b = 7 ∨ b = 9
  ·show (if b = 7 ∨ b = 9 then zaV r else none) = if decide (b = 7 ∨ b = 9) = true then zcz zaN r else none; rw [if_pos h, if_pos (decide_eq_true h), hdr_hsW]
  ·show (if b = 7 ∨ b = 9 then _ else none) = if decide (b = 7 ∨ b = 9) = true then zcz zaN r else none
   rw [znh h, znh (fun e => h (of_decide_eq_true e))]
theorem cutd_hsF : CutD zcj := (zfg (fun b => decide (b = 8 ∨ b = 10)) (zey cut_hsF)).congr fun xs => by
 rcases xs with _ | ⟨b, r⟩
 ·rfl
 ·by_cases h : b = 8 ∨ b = 10
  ·show (if b = 8 ∨ b = 10 then zaW r else none) = if decide (b = 8 ∨ b = 10) = true then zcz zaO r else none; rw [if_pos h, if_pos (decide_eq_true h), hdr_hsF]
  ·show (if b = 8 ∨ b = 10 then _ else none) = if decide (b = 8 ∨ b = 10) = true then zcz zaO r else none
   rw [znh h, znh (fun e => h (of_decide_eq_true e))]
theorem uv_zero {s : St} (h : (gUv s).2 = none) : (gUv s).1 = 0 := by
 rcases s with _ | l
 ·rfl
 ·unfold gUv at h ⊢
  simp only [] at h ⊢; split
  ·rename_i k; rw [if_pos k] at h; cases h
  ·rfl
theorem zed {s t : St} (c : Ct s t) : (gUv t).1 <= (gUv s).1 := by
 rcases cut_uv.2 s t c with e | ⟨e, _⟩
 ·rw [uv_zero e]; exact zmv _
 ·omega
theorem str_zero {s : St} (h : (zb3 s).2 = none) : (zb3 s).1.size = 0 := by
 unfold zb3 at h ⊢; generalize (gUv s).2 = q at h ⊢; rcases q with _ | r
 ·rfl
 ·simp only [] at h ⊢
  split
  ·rfl
  ·rename_i k; rw [znh k] at h; cases h
theorem str_le {s t : St} (c : Ct s t) : (zb3 t).1.size <= (zb3 s).1.size := by
 rcases cut_str.2 s t c with e | ⟨e, _⟩
 ·rw [str_zero e]; exact zmv _
 ·rw [e]; exact zmw _
theorem labs_le {s t : St} (c : Ct s t) (B : Nat) : ∀ n, (∀ p ∈ (za6 s n).1, p.1.size <= B /\ p.2.size <= B) -> ∀ p ∈ (za6 t n).1, p.1.size <= B /\ p.2.size <= B
 | 0, _, p, hp => by cases hp
 | n + 1, h, p, hp => by
   have c2 := (zgc n).ct c; have hl := h (gLab (za6 s n).2).1 (zm0.2 (.inr (zm1.2 rfl))); rcases zm0.1 hp with h1 | h1
   ·exact labs_le c B n (fun q hq => h q (zm0.2 (.inl hq))) p h1
   ·rw [zm1] at h1
    subst h1; exact ⟨zm3 (str_le c2) hl.1, zm3 (str_le (cut_str.ct c2)) hl.2⟩
theorem zgK {s t : St} (c : Ct s t) (h : zev s) : zev t := by
 obtain ⟨h1, h2, h3⟩ := h; refine ⟨zm3 (zed c) h1, fun k hk => ?_, ?_⟩
 ·have c2 := (zgc k).ct (cut_uv.ct c)
  have h4 := h2 k (zmJ hk (zed c)); exact ⟨Nat.lt_of_le_of_lt (zed c2) h4.1, Nat.lt_of_le_of_lt (zed (cut_str.ct c2)) h4.2⟩
 ·rcases cut_uv.2 s t c with e | ⟨e, c2⟩
  ·unfold zfo
   rw [uv_zero e]; intro p hp; cases hp
  ·unfold zfo at h3 ⊢
   rw [e]; exact labs_le c2 _ _ h3
theorem zjX {s t : St} (c : Ct s t) (h : zdd s) : zdd t := zgK (cut_be.ct c) h
theorem zlV {s t : St} (c : Ct s t) (h : zdF s) : zdF t := zgK (cut_be.ct (cut_var.ct (cut_var.ct c))) h
theorem zka {s t : St} (c : Ct s t) (h : zdW s) : zdW t := by
 obtain ⟨h1, h2⟩ := h; have c1 := cut_byte.ct (cut_uv.ct c); refine ⟨zm3 (zed c1) h1, fun k hk => ?_⟩; have c2 := (ziA k).ct (cut_uv.ct c1); have h4 := h2 k (zmJ hk (zed c1)); exact ⟨Nat.lt_of_le_of_lt (zed c2) h4.1, Nat.lt_of_le_of_lt (zed (cut_str.ct c2)) h4.2⟩
theorem fineW_cut {s t : St} (c : Ct s t) (h : zkP s) : zkP t := by
 obtain ⟨h1, h2, h3, h4, h5⟩ := h; have c6 : Ct (hW6 s) (hW6 t) := cut_be.ct (cut_uv.ct (cut_uv.ct (cut_be.ct (cut_var.ct (cut_byte.ct c))))); have c7 := (zbi zeb).ct c6; have c8 := (zbi zeb).ct c7; have c9 := (zbi cut_var).ct c8; refine ⟨zm3 (zed c6) h1, zm3 (zed c7) h2, zm3 (zed c8) h3, zm3 (zed c9) h4, fun e => ?_⟩
 have K : CutG (fun s => (zhb s, hW10 s)) := cut_byte.bind fun a => cut_var.bind fun b => cut_be.bind fun c => cut_uv.bind fun d => cut_uv.bind fun e => cut_be.bind fun f => (zbi zeb).bind fun g => (zbi zeb).bind fun h => (zbi cut_var).bind fun i => (zbi cut_var).map fun j => wrap32 b; rcases K.2 s t c with n | ⟨v, jb⟩
 ·have n2 : hW10 t = none := n
  rw [n2]; exact zmv _
 ·exact zm3 (zed jb) (h5 ((show zhb t = zhb s from v) ▸ e))
theorem fineF_cut {s t : St} (c : Ct s t) (h : zkQ s) : zkQ t := by
 obtain ⟨h1, h2, h3, h4, h5⟩ := h; have c6 : Ct (hF6 s) (hF6 t) := cut_be.ct (cut_be.ct (cut_be.ct (cut_be.ct (cut_var.ct (cut_byte.ct c))))); have c7 := (zbi zeb).ct c6; have c8 := (zbi zeb).ct c7; have c9 := (zbi cut_be).ct c8; refine ⟨zm3 (zed c6) h1, zm3 (zed c7) h2, zm3 (zed c8) h3, zm3 (zed c9) h4, fun e => ?_⟩
 have K : CutG (fun s => (zhb s, zim s)) := cut_byte.bind fun a => cut_var.bind fun b => cut_be.bind fun c => cut_be.bind fun d => cut_be.bind fun e => cut_be.bind fun f => (zbi zeb).bind fun g => (zbi zeb).bind fun h => (zbi cut_be).bind fun i => (zbi cut_be).map fun j => wrap32 b; rcases K.2 s t c with n | ⟨v, jb⟩
 ·have n2 : zim t = none := n
  rw [n2]; exact zmv _
 ·exact zm3 (zed jb) (h5 ((show zhb t = zhb s from v) ▸ e))
theorem zkr {s t : St} (c : Ct s t) (h : zcG s) : zcG t := fineW_cut (cut_var.ct (cut_var.ct c)) h
theorem zks {s t : St} (c : Ct s t) (h : zcH s) : zcH t := fineF_cut (cut_var.ct (cut_var.ct c)) h
def GoodC (aj : St -> Prop) (t : St) : Prop := ∃ s, aj s /\ Ct s t
theorem zfq {α : Type} {step : St -> α × St} {fx aj : St -> Prop} (hs : CutG step) (hf : ∀ s t, Ct s t -> fx s -> fx t) (hG : ∀ l, aj (some l) -> fx (some l) /\ aj (step (some l)).2) (l : List UInt8) (h : GoodC aj (some l)) : fx (some l) /\ GoodC aj (step (some l)).2 := by
 obtain ⟨s, hg, c⟩ := h; have c0 := c; rcases c with e | ⟨l0, m, rfl, e⟩
 ·cases e
 ·obtain ⟨f, g⟩ := hG l0 hg
  exact ⟨hf _ _ c0 f, _, g, hs.ct c0⟩
theorem take_cons {xs r : List UInt8} {m : Nat} {b : UInt8} (e : xs.take m = b :: r) : ∃ R k, xs = b :: R /\ r = R.take k := by
 rcases m with _ | m
 ·cases e
 rcases xs with _ | ⟨c, R⟩
 ·cases e
 rw [List.take_succ_cons] at e; injection e with e1 e2; subst e1; exact ⟨R, m, rfl, e2.symm⟩
theorem zi8 {aj : St -> Prop} {xs : List UInt8} {b : UInt8} (m : Nat) (h : ∀ r, xs = b :: r -> aj (some r)) (r : List UInt8) (e : xs.take m = b :: r) : GoodC aj (some r) := by
 obtain ⟨R, k, h1, rfl⟩ := take_cons e; exact ⟨_, h R h1, zgb k⟩
theorem zgN {α : Type} {step : Nat -> Int -> St -> α × St} {fx : St -> Prop} (p : UInt8 -> Prop) (xs : List UInt8) (m : Nat) (hs : ∀ br bt, CutG (step br bt)) (hf : ∀ s t, Ct s t -> fx s -> fx t)
 (h : ∃ aj : St -> Prop, (∀ kd rest, xs = kd :: rest -> p kd -> ∀ l, aj (some l) -> fx (some l) /\ aj (step (zab (some rest)).1 (zao (zab (some rest)).2).1 (some l)).2) /\ (∀ kd rest, xs = kd :: rest -> p kd -> rest ≠ [] -> aj (zao (zab (some rest)).2).2)) :
 ∃ aj : St -> Prop, (∀ kd rest, xs.take m = kd :: rest -> p kd -> ∀ l, aj (some l) -> fx (some l) /\ aj (step (zab (some rest)).1 (zao (zab (some rest)).2).1 (some l)).2) /\ (∀ kd rest, xs.take m = kd :: rest -> p kd -> rest ≠ [] -> aj (zao (zab (some rest)).2).2) := by
 obtain ⟨aj, g1, g2⟩ := h; rcases m with _ | m
 ·exact ⟨fun _ => False, fun _ _ e => (by cases e), fun _ _ e => (by cases e)⟩
 rcases xs with _ | ⟨b, R⟩
 ·exact ⟨fun _ => False, fun _ _ e => (by cases e), fun _ _ e => (by cases e)⟩
 have q : ∀ kd rest, (b :: R).take (m + 1) = kd :: rest -> b = kd /\ rest = R.take m := fun kd rest e => by
  rw [List.take_succ_cons] at e; injection e with e1 e2; exact ⟨e1, e2.symm⟩
 rcases cut_hdr.2 _ _ (zgb (s := R) m) with n | ⟨v, c⟩
 ·refine ⟨fun s => s = none, fun _ _ _ _ l e => (by cases e), fun kd rest e _ _ => ?_⟩
  obtain ⟨rfl, rfl⟩ := q kd rest e; exact n
 ·have v1 : (zab (some (R.take m))).1 = (zab (some R)).1 := znb (fun x : Nat × Int => x.1) v
  have v2 : (zao (zab (some (R.take m))).2).1 = (zao (zab (some R)).2).1 := znb (fun x : Nat × Int => x.2) v; refine ⟨GoodC aj, fun kd rest e hp l hl => ?_, fun kd rest e hp hr => ?_⟩
  ·obtain ⟨rfl, rfl⟩ := q kd rest e
   rw [v1, v2]; exact zfq (hs _ _) hf (g1 b R rfl hp) l hl
  ·obtain ⟨rfl, rfl⟩ := q kd rest e
   exact ⟨_, g2 b R rfl hp (fun e => hr (by rw [e, List.take_nil])), c⟩
theorem zee {P : Program} {ops : Array Oper} {Q : Exit -> Act -> World -> Prop} {md : Region.Mode} {S : World -> Prop} {c : Nat} (i j : Nat) {fuel : Nat} {ah : Array Bool} {a : Act} {w : World} {oi oj : Oper}
 (hr : Region.ready md ops ah = [i, j]) (hoi : ops[i]? = some oi) (jt : ops[j]? = some oj) (hwi : Region.wanted oi (yielded ops a.tmps) = true) (hwj : Region.wanted oj (yielded ops a.tmps) = true)
 (hi : ∀ K' : Act -> World -> Prop, Shut (∀ a w, S w -> zcV P md ops Q S c fuel (ah.setIfInBounds i true) a w -> K' a w) -> Oper.wp P oi a w K' Q)
 (hj : ∀ K' : Act -> World -> Prop, Shut (∀ a w, S w -> zcV P md ops Q S c fuel (ah.setIfInBounds j true) a w -> K' a w) -> Oper.wp P oj a w K' Q) : zcV P md ops Q S c (fuel + 1) ah a w := by
 refine ⟨fun h0 => (by rw [hr] at h0; cases h0), fun k hk => ?_⟩; rw [hr] at hk; rcases List.mem_cons.mp hk with e | hk
 ·subst e
  unfold wpOp; simp only [hoi, hwi, if_true]; exact .inl (hi _ (fun a w hS hW => ⟨fun _ => hS, hW⟩))
 ·rw [zm1] at hk
  subst hk; unfold wpOp; simp only [jt, hwj, if_true]; exact .inl (hj _ (fun a w hS hW => ⟨fun _ => hS, hW⟩))
theorem less_lt : ∀ x y : List UInt8, Op.bytesLess x y = decide (x < y)
 | x, [] => by cases x <;> simp [Op.bytesLess]
 | [], _ :: _ => by simp [Op.bytesLess]
 | a :: x, b :: y => by
   rw [Op.bytesLess, less_lt x y]; simp only [List.cons_lt_cons_iff, Bool.decide_or, Bool.decide_and]; congr 1
theorem zkX (x y : Lab) : Op.bytesLess x.1.toList y.1.toList = ltL x y := by
 rw [less_lt, Lib.toList_data, Lib.toList_data]; rfl
theorem zf6 (l : List Lab) : ∀ u ∈ l.flatMap zaJ, u.oneCell' = true := by
 intro u hu; obtain ⟨x, _, hx⟩ := List.mem_flatMap.mp hu; simp [zaJ] at hx; rcases hx with rfl | rfl <;> rfl
theorem zis : prog.elem 31 = 40 := by kernel_rfl
theorem size40 (w : World) : (sizeOf 40).run prog w = .ok 2 w := by kernel_rfl
theorem zhC (o : List Lab) (j : Nat) (hj : j <= o.length) : (o.flatMap zaJ).take (j * 2) = (o.take j).flatMap zaJ /\ (o.flatMap zaJ).drop (j * 2) = (o.drop j).flatMap zaJ := by
 have e : o.flatMap zaJ = (o.take j).flatMap zaJ ++ (o.drop j).flatMap zaJ := by rw [<- zmT, List.take_append_drop]
 have h : ((o.take j).flatMap zaJ).length = j * 2 := by rw [zeq, zm7, Nat.min_eq_left hj]
 rw [e]; exact ⟨List.take_left' h, List.drop_left' h⟩
theorem sl_take {P : Nat -> Prop} {W : World} {A : Option Addr} {c : Nat} {o : List Lab} {k j : Nat} (h : Sl P W (.slice A k c) 2 k (o.flatMap zaJ)) (ho : o.length = k) (hj : j <= k) : Sl P W (.slice A j c) 2 j ((o.take j).flatMap zaJ) := by
 obtain ⟨A', c', e, hl, hc, hr⟩ := h; injection e with e1 _ e3; subst e1 e3; refine ⟨A, c, rfl, by rw [zeq, zm7]; omega, by omega, fun h0 => ?_⟩; obtain ⟨g, off, hA, hP, aa⟩ := hr (by omega); refine ⟨g, off, hA, hP, fun i u hu => aa i u ?_⟩; rw [<- (zhC o j (by omega)).1, List.getElem?_take] at hu; split at hu
 ·exact hu
 ·cases hu
theorem sl_drop {P : Nat -> Prop} {W0 : World} {A : Option Addr} {c : Nat} {o : List Lab} {k j : Nat} (h : Sl P W0 (.slice A k c) 2 k (o.flatMap zaJ)) (ho : o.length = k) (hj : j <= k) :
 ∃ A', (∀ W, (Instr.slice 31 (.slice A k c) (some (.int .i64 j)) none none).run prog W = .ok (.slice A' (k - j) (c - j)) W) /\ ∀ W, Sl P W (.slice A k c) 2 k (o.flatMap zaJ) -> Sl P W (.slice A' (k - j) (c - j)) 2 (k - j) ((o.drop j).flatMap zaJ) := by
 have jr : ∀ W, (Instr.slice 31 (.slice A k c) (some (.int .i64 j)) none none).run prog W = .ok (sliced A j k c 2) W := fun W => by
  have h := run_slice_l (P := prog) W 31 A k c (by rw [zis]; exact underlying31) .i64 j (by omega) (by omega); rw [zis, size40] at h; rw [h]; simp [Result.andThen]
 refine ⟨if c = j then A else A.map (fun a : Addr => a.add (j * 2)), fun W => jr W, fun W h2 => ?_⟩; obtain ⟨A', c', e, hl, hc, hr⟩ := h2; injection e with e1 _ e3; subst e1 e3; refine ⟨_, _, rfl, by rw [zeq, List.length_drop]; omega, by omega, fun h0 => ?_⟩; obtain ⟨g, off, rfl, hP, aa⟩ := hr (by omega); have hcj : ¬ c = j := by omega
 have e1 : (⟨g, off, none⟩ : Addr).add (j * 2) = ⟨g, off + j * 2, none⟩ := by unfold Addr.add; split <;> simp_all
 refine ⟨g, off + j * 2, by simp [hcj, e1], hP, fun i u hu => ?_⟩; rw [<- (zhC o j (by omega)).2, List.getElem?_drop] at hu; rw [Nat.add_assoc]; exact aa _ _ hu
theorem zdL (W : World) (base : Nat) (h : base <= W.heap.size) : (W.alloc (.cells #[] 40)).ownsRow base 40 2 (.slice (some ⟨W.heap.size, 0, none⟩) 0 0) 0 [] :=
 znp (base := base) (e := 40) (size := 2) W #[] 0 h (zmv _) rfl
theorem zex (P : Nat -> Prop) (v : Value) (l : List Lab) (w : World) (h : Sl P w v 2 l.length (l.flatMap zaJ)) (hl : l.length <= 1099511627776) : Calls prog 24 #[v] w (zew 40 w (zaG l)) := by
 unfold zew; rw [za2]; obtain ⟨A, c, rfl, _, hc, hr⟩ := h; obtain ⟨n, hn⟩ := exE l.length; rw [hn] at hr hc hl ⊢; have HN := zmk hn; have HR := zmk hr; obtain ⟨i0, aD, aA, az, aC⟩ := info_parts info40; clear hn hr; go_enter func24, ntmps24; go_wp2
 go_loopw [3, 4] (fun vo vi wr => ∃ k : Nat, k <= n /\ vi = .int .i64 k /\ Hid (wr.ownsRow w.heap.size 40 2 vo k ((zaG (l.take k)).flatMap zaJ)) /\ Hid (Fr (fun _ => False) w wr)) (fun _ vi _ => n - (intOf vi).toNat)
 case atStart => exact ⟨0, zmv _, rfl, zmk (zmy _ _ _ _), zmk (znq _ _)⟩
 case round =>
  obtain ⟨k, hk, rfl, HO, HF⟩ := hrel; by_cases hlt : k < n
  ·obtain ⟨g, off, rfl, _, aa⟩ := HR.out (by omega)
   obtain ⟨x, hx⟩ : ∃ x, l[k]? = some x := ⟨_, zmm (by rw [HN.out]; exact hlt)⟩; have cx : ∀ W, Fr (fun _ => False) w W -> W.cell? ⟨g, off + k * 2, none⟩ = some (.string x.1) /\ W.cell? ⟨g, off + k * 2 + 1, none⟩ = some (.string x.2) := fun W hF => by
    have cc : ∀ j, j < 2 -> ∀ u, (zaJ x)[j]? = some u -> W.cell? ⟨g, off + (k * 2 + j), none⟩ = some u := fun j hj u hu => by
     have := aa (k * 2 + j) u (by rw [zbE zaJ (fun _ => rfl) l k x hx j hj]; exact hu); rw [hF.cell (p := ⟨g, off + (k * 2 + j), none⟩) (zmr w _ this) (fun e => e)]; exact this
    exact ⟨cc 0 (by omega) _ rfl, cc 1 (by omega) _ rfl⟩
   have ak : (zaG (l.take k)).length = k := by rw [za2, zm7]; have := HN.out; omega
   have lS := zls ltL l k x hx; obtain ⟨o, ho⟩ := exE (zaG (l.take k)); have me : o.length = k := by rw [<- ho]; exact ak
   have jk : zaG (l.take (k + 1)) = zjG ltL o x := by rw [<- ho]; exact lS
   rw [ho] at HO; obtain ⟨A2, c2, rfl⟩ := zaa HO.out; have HX := zmk cx; have HL := zmk me; have jc := zmk jk; have iO := zmk (znt HO.out); clear cx ak lS ho hx aa me jk; go_wp2; go_loopw [5] (fun vj w' => ∃ j : Nat, j <= k /\ vj = .int .i64 j /\ Hid (zid ltL x o k = zid ltL x o j) /\ Hid (Fr (fun _ => False) wr w')) (fun vj _ => (intOf vj).toNat)
   case atStart => exact ⟨k, zmw _, rfl, zmk rfl, zmk (znq _ _)⟩
   case round =>
    obtain ⟨j, hj, rfl, HJ, bg⟩ := hrel; have nY : Hid (Fr (fun _ => False) w wr) := zmk (HF.out.same bg.out); rcases j with _ | j
    ·have HP : Hid (zid ltL x o o.length = 0) := zmk (by rw [HL.out, HJ.out]; rfl)
     go_wp2; go_region; all_goals go_wp2
     have jR : Hid (∀ W, Fr (fun _ => False) wr W -> Sl (fun g => (Value.slice A2 k c2).ownBlock = some g) W (.slice A2 k c2) 2 k (o.flatMap zaJ)) := zmk (fun W hW => (iO.out.fr (bg.out.same hW) (fun _ _ e => e))); have hjk : 0 <= k := by omega
     have mM := cutTo zis underlying31 size40 A2 k c2 (0) .i64 ((0 : Nat) : Int) rfl (by have h := iO.out; obtain ⟨_, _, e, _, h, _⟩ := h; injection e with e1 e2 e3; omega)
     have eH : Hid (∀ W, Fr (fun _ => False) wr W -> Src prog 2 31 (.slice A2 (0) c2) (0) ((o.take (0)).flatMap zaJ) W) := zmk (fun W hW => zdh underlying31 (sl_take (jR.out W hW) HL.out hjk) (zf6 _))
     have jQ : Hid (∀ W, Fr (fun _ => False) wr W -> Src prog 2 31 (.slice A2 (k - (0)) (c2 - (0))) (k - (0)) ((o.drop (0)).flatMap zaJ) W) := zmk (fun W hW => zdh underlying31 (by have h := jR.out W hW; simpa using h) (zf6 _)); have jy : zjG ltL o x = o.take (0) ++ x :: o.drop (0) := by unfold zjG; rw [HP.out]
     have nS := zmk jy
     have mP := nY.out.size; clear jy jR; refine zaT (fun w' => Fr (fun _ => False) wr w') 14 (by kernel_rfl) ((znq _ wr).drew.drew) ?_; intro hS; have F0 : Fr (fun _ => False) wr wr.drew.drew := (znq _ wr).drew.drew; generalize wr.drew.drew = W0 at F0 hS ⊢; refine wpT 1 (.slice A2 k c2) rfl (by intro w; go_simp) hS ?_
     try simp only [Act.put, zmo, zmp, zmq]
     refine wpT 2 (.int .i64 ((0 : Nat) : Int)) rfl (by intro w; go_simp) hS ?_; try simp only [Act.put, zmo, zmp, zmq]
     refine wpT 3 (.slice A2 (0) c2) rfl (by intro w; go_simp) hS ?_; try simp only [Act.put, zmo, zmp, zmq]
     refine wpT 5 (.slice (some ⟨g, off, none⟩) n c) rfl (by intro w; go_simp) hS ?_; try simp only [Act.put, zmo, zmp, zmq]
     refine wpT 6 (.int .i64 k) rfl (by intro w; go_simp) hS ?_; try simp only [Act.put, zmo, zmp, zmq]
     refine wpT 7 (.pointer (some ⟨g, off + k * 2, none⟩)) rfl (by intro w; go_simp) hS ?_; try simp only [Act.put, zmo, zmp, zmq]
     refine wpL 8 [9, 10, 14] (.agg #[.string x.1, .string x.2]) rfl (by rintro w h1; obtain ⟨h2, h3⟩ := HX.out _ (nY.out.same h1); go_simp) hS ?_; try simp only [Act.put, zmo, zmp, zmq]
     refine wpT 11 (.slice A2 k c2) rfl (by intro w; go_simp) hS ?_; try simp only [Act.put, zmo, zmp, zmq]
     refine wpT 12 (.int .i64 ((0 : Nat) : Int)) rfl (by intro w; go_simp) hS ?_; try simp only [Act.put, zmo, zmp, zmq]
     refine wpT 13 (.slice A2 (k - (0)) (c2 - (0))) rfl (by intro w; go_simp) hS ?_; try simp only [Act.put, zmo, zmp, zmq]
     refine zee 0 9 (by kernel_rfl) rfl rfl (by rfl) (by rfl) (fun K hK => ?_) (fun K hK => ?_); go_simp; have o0 := zdL W0 wr.heap.size F0.size; have F1 := F0.alloc (.cells #[] 40); have ni := F0.size; refine hK.out _ _ F1 ?_; clear hK K hS; try simp only [Act.put, zmo, zmp, zmq]
     generalize World.alloc W0 (Obj.cells #[] 40) = W1 at o0 F1 ⊢; generalize W0.heap.size = e0 at o0 ni ⊢; have hS := F1; refine zee 4 9 (by kernel_rfl) rfl rfl (by rfl) (by rfl) (fun K hK => ?_) (fun K hK => ?_)
     refine zaA W1 _ _ 31 31 (by rfl) wr.heap.size 40 i0 _ 2 32 underlying31 aD aA az aC rfl (by decide) (.slice (some ⟨e0, 0, none⟩) 0 0) 0 [] (by rfl) o0 (.slice A2 (0) c2) (0) ((o.take (0)).flatMap zaJ) (by rfl) (eH.out _ F1) (by unfold maxLen; omega) (by omega) F1.size ?_; intro v1 W2 an aJ eD; rw [zmP, zmW] at an
     have F2 := F1.grown aJ (fun q hq => .inr (by have hq : e0 = q := zna hq; omega)); obtain ⟨a1, n1, k1, rfl⟩ := zac an; refine hK.out _ _ F2 ?_; clear hK K hS aJ eD; try simp only [Act.put, zmo, zmp, zmq]
     have hS := F2; refine zaq 9 (by kernel_rfl) rfl (by rfl) (fun K hK => ?_); go_simp; have B9 : Blk (W2.alloc (.cells #[.string x.1, .string x.2] 40)) W2.heap.size 40 #[.string x.1, .string x.2] := znr W2 40 _; have F3 := F2.alloc (.cells #[.string x.1, .string x.2] 40); have ex := World.ownsRow.alloc an (.cells #[.string x.1, .string x.2] 40); refine hK.out _ _ F3 ?_; clear hK K hS
     try simp only [Act.put, zmo, zmp, zmq]
     generalize World.alloc W2 (Obj.cells #[.string x.1, .string x.2] 40) = W3 at B9 F3 ex ⊢; generalize W2.heap.size = g9 at B9 ⊢; have hS := F3; have OX := ex; have BX := B9
     rotate_left
     go_simp; have B9 : Blk (W1.alloc (.cells #[.string x.1, .string x.2] 40)) W1.heap.size 40 #[.string x.1, .string x.2] := znr W1 40 _; have F2 := F1.alloc (.cells #[.string x.1, .string x.2] 40); have oQ := World.ownsRow.alloc o0 (.cells #[.string x.1, .string x.2] 40); have ez : W1.heap.size ≠ e0 := fun e => by have h := zas o0 (k := e0) rfl; omega
     refine hK.out _ _ F2 ?_; clear hK K hS; try simp only [Act.put, zmo, zmp, zmq]
     generalize World.alloc W1 (Obj.cells #[.string x.1, .string x.2] 40) = W2 at B9 F2 oQ ⊢; generalize W1.heap.size = g9 at B9 ez ⊢; have hS := F2; refine zaq 4 (by kernel_rfl) rfl (by rfl) (fun K hK => ?_)
     refine zaA W2 _ _ 31 31 (by rfl) wr.heap.size 40 i0 _ 2 32 underlying31 aD aA az aC rfl (by decide) (.slice (some ⟨e0, 0, none⟩) 0 0) 0 [] (by rfl) oQ (.slice A2 (0) c2) (0) ((o.take (0)).flatMap zaJ) (by rfl) (eH.out _ F2) (by unfold maxLen; omega) (by omega) F2.size ?_; intro v1 W3 an aJ eD; rw [zmP, zmW] at an
     have F3 := F2.grown aJ (fun q hq => .inr (by have hq : e0 = q := zna hq; omega)); have lL := B9.grown aJ (fun e => ez (zna e)); obtain ⟨a1, n1, k1, rfl⟩ := zac an; refine hK.out _ _ F3 ?_; clear hK K hS aJ eD; try simp only [Act.put, zmo, zmp, zmq]
     have hS := F3; have OX := an; have BX := lL
     rotate_left
     go_simp; have B9 : Blk (W0.alloc (.cells #[.string x.1, .string x.2] 40)) W0.heap.size 40 #[.string x.1, .string x.2] := znr W0 40 _; have F1 := F0.alloc (.cells #[.string x.1, .string x.2] 40); refine hK.out _ _ F1 ?_; clear hK K hS; try simp only [Act.put, zmo, zmp, zmq]
     generalize World.alloc W0 (Obj.cells #[.string x.1, .string x.2] 40) = W1 at B9 F1 ⊢; generalize W0.heap.size = g9 at B9 ⊢; have hS := F1; refine zaq 0 (by kernel_rfl) rfl (by rfl) (fun K hK => ?_); go_simp; have o0 := zdL W1 wr.heap.size F1.size; have F2 := F1.alloc (.cells #[] 40); have ni := F1.size; have ez : g9 ≠ W1.heap.size := Nat.ne_of_lt B9.lt
     have lL := B9.alloc (.cells #[] 40); refine hK.out _ _ F2 ?_; clear hK K hS; try simp only [Act.put, zmo, zmp, zmq]
     generalize World.alloc W1 (Obj.cells #[] 40) = W2 at o0 F2 lL ⊢; generalize W1.heap.size = e0 at o0 ni ez ⊢; have hS := F2; refine zaq 4 (by kernel_rfl) rfl (by rfl) (fun K hK => ?_)
     refine zaA W2 _ _ 31 31 (by rfl) wr.heap.size 40 i0 _ 2 32 underlying31 aD aA az aC rfl (by decide) (.slice (some ⟨e0, 0, none⟩) 0 0) 0 [] (by rfl) o0 (.slice A2 (0) c2) (0) ((o.take (0)).flatMap zaJ) (by rfl) (eH.out _ F2) (by unfold maxLen; omega) (by omega) F2.size ?_; intro v1 W3 an aJ eD; rw [zmP, zmW] at an
     have F3 := F2.grown aJ (fun q hq => .inr (by have hq : e0 = q := zna hq; omega)); have B9c := lL.grown aJ (fun e => ez (zna e)); obtain ⟨a1, n1, k1, rfl⟩ := zac an; refine hK.out _ _ F3 ?_; clear hK K hS aJ eD; try simp only [Act.put, zmo, zmp, zmq]
     have hS := F3; have OX := an; have BX := B9c
     rotate_left
     all_goals
      refine zaq 10 (by kernel_rfl) rfl (by rfl) (fun K hK => ?_); refine zaA W3 _ _ 31 31 (by rfl) wr.heap.size 40 i0 _ 2 32 underlying31 aD aA az aC rfl (by decide) (.slice a1 n1 k1) (0) ((o.take (0)).flatMap zaJ) (by rfl) OX _ 1 (zaJ x) (by rfl) (zaH (cs := zaJ x) underlying31 BX rfl (by simp [zaJ, Value.oneCell'])) (by unfold maxLen; omega) (by omega) F3.size ?_
      intro v2 W4 af eC bu; have F4 := F3.grown eC (fun q hq => .inr ((World.ownsRow.lt OX q hq).1)); obtain ⟨a2, n2, k2, rfl⟩ := zac af; refine hK.out _ _ F4 ?_; clear hK K hS eC bu; try simp only [Act.put, zmo, zmp, zmq]
      have hS := F4; refine zay 14 (by kernel_rfl) rfl (by kernel_rfl) (by rfl) (fun K hK => ?_)
      refine zaA W4 _ _ 31 31 (by rfl) wr.heap.size 40 i0 _ 2 32 underlying31 aD aA az aC rfl (by decide) (.slice a2 n2 k2) (0 + 1) ((o.take (0)).flatMap zaJ ++ zaJ x) (by rfl) af (.slice A2 (k - (0)) (c2 - (0))) (k - (0)) ((o.drop (0)).flatMap zaJ) (by rfl) (jQ.out _ F4) (by unfold maxLen; omega) (by omega) F4.size ?_; intro v3 W5 aF eB iE
      have F5 := F4.grown eB (fun q hq => .inr ((World.ownsRow.lt af q hq).1)); obtain ⟨a3, n3, k3, rfl⟩ := zac aF; have aX : W5.ownsRow w.heap.size 40 2 (.slice a3 n3 k3) (k + 1) ((zaG (l.take (k + 1))).flatMap zaJ) := by
       rw [jc.out, nS.out]; have e1 : 0 + 1 + (k - (0)) = k + 1 := by omega
       rw [e1] at aF; have h := zai aF mP; simpa [zmT, zmz] using h
      have dj := zmk aX; have iT := zmk (nY.out.same F5); refine hK.out _ _ ?_; clear hK K hS eB iE aF aX; try simp only [Act.put, zmo, zmp, zmq]
      refine zay 15 (by kernel_rfl) rfl (by kernel_rfl) (by rfl) (fun K hK => ?_); go_simp; refine hK.out _ _ ?_; clear hK K; refine zbC (by kernel_rfl) ?_ _; go_wp2; go_roundw
      case rel => exact ⟨k + 1, by omega, by go_num, dj, iT⟩
      case measure => simp [intOf]; omega
    ·obtain ⟨g2, ap, rfl, _, al⟩ : ∃ g2 ap, A2 = some ⟨g2, ap, none⟩ /\ True /\ ∀ i u, (o.flatMap zaJ)[i]? = some u -> (_ : World).cell? ⟨g2, ap + i, none⟩ = some u := by
      obtain ⟨A3, c3, e3, _, _, h3⟩ := iO.out; injection e3 with e1 _ e2; subst e1 e2; obtain ⟨g2, ap, h4, _, h5⟩ := h3 (by omega); exact ⟨g2, ap, h4, trivial, h5⟩
     obtain ⟨y, hy⟩ : ∃ y, o[j]? = some y := ⟨_, zmm (by rw [HL.out]; omega)⟩; have d0 : wr.drew.cell? ⟨g, off + k * 2, none⟩ = some (.string x.1) := (HX.out _ nY.out.drew).1; have d1 : wr.drew.cell? ⟨g2, ap + j * 2, none⟩ = some (.string y.1) := by
      have := al (j * 2 + 0) (.string y.1) (by rw [zbE zaJ (fun _ => rfl) o j y hy 0 (by omega)]; rfl); have h6 := bg.out.drew.cell (p := ⟨g2, ap + j * 2, none⟩) (zmr _ _ this) (fun e => e); rw [h6]; exact this
     have HY := zmk hy; have bx := zmk bg.out.drew; clear al hy; by_cases hxy : ltL x y = true
     ·have mc : Op.bytesLess x.1.toList y.1.toList = true := by rw [zkX, hxy]
      have HJ3 : Hid (zid ltL x o k = zid ltL x o j) := zmk (by
       rw [HJ.out, zid, HY.out]
       simp [hxy])
      clear hxy; go_wp2; go_region; all_goals go_wp2
      exact ⟨⟨j, by omega, by first | rfl | go_num, HJ3, bx⟩, by simp [intOf]; try omega⟩
     ·have mH : ltL x y = false := by simpa using hxy
      have mc : Op.bytesLess x.1.toList y.1.toList = false := by rw [zkX, mH]
      have HP : Hid (zid ltL x o o.length = j + 1) := zmk (by
       rw [HL.out, HJ.out, zid, HY.out]
       simp [mH])
      clear hxy mH; go_wp2; go_region; all_goals go_wp2
      clear d0 d1 mc; generalize some (⟨g2, ap, none⟩ : Addr) = A2 at *
      have jR : Hid (∀ W, Fr (fun _ => False) wr W -> Sl (fun g => (Value.slice A2 k c2).ownBlock = some g) W (.slice A2 k c2) 2 k (o.flatMap zaJ)) := zmk (fun W hW => (iO.out.fr (bg.out.same hW) (fun _ _ e => e))); have hjk : j + 1 <= k := by omega
      obtain ⟨A3, lV, jo⟩ := sl_drop iO.out HL.out hjk; have mM := cutTo zis underlying31 size40 A2 k c2 (j + 1) .i64 ((j + 1 : Nat) : Int) rfl (by have h := iO.out; obtain ⟨_, _, e, _, h, _⟩ := h; injection e with e1 e2 e3; omega)
      have eH : Hid (∀ W, Fr (fun _ => False) wr W -> Src prog 2 31 (.slice A2 (j + 1) c2) (j + 1) ((o.take (j + 1)).flatMap zaJ) W) := zmk (fun W hW => zdh underlying31 (sl_take (jR.out W hW) HL.out hjk) (zf6 _))
      have jQ : Hid (∀ W, Fr (fun _ => False) wr W -> Src prog 2 31 (.slice A3 (k - (j + 1)) (c2 - (j + 1))) (k - (j + 1)) ((o.drop (j + 1)).flatMap zaJ) W) := zmk (fun W hW => zdh underlying31 (jo W (jR.out W hW)) (zf6 _)); have jy : zjG ltL o x = o.take (j + 1) ++ x :: o.drop (j + 1) := by unfold zjG; rw [HP.out]
      have hrun3b : ∀ W, (Instr.slice 31 (.slice A2 k c2) (some (.int .i64 ((j : Int) + 1))) none none).run prog W = .ok (.slice A3 (k - (j + 1)) (c2 - (j + 1))) W := lV; have htob : ∀ W, (Instr.slice 31 (.slice A2 k c2) none (some (.int .i64 ((j : Int) + 1))) none).run prog W = .ok (.slice A2 (j + 1) c2) W := mM; clear lV mM; have nS := zmk jy
      have mP := nY.out.size; clear jy jo jR; refine zaT (fun w' => Fr (fun _ => False) wr w') 14 (by kernel_rfl) ((znq _ wr).drew.drew) ?_; intro hS; have F0 : Fr (fun _ => False) wr wr.drew.drew := (znq _ wr).drew.drew; generalize wr.drew.drew = W0 at F0 hS ⊢; refine wpT 1 (.slice A2 k c2) rfl (by intro w; go_simp) hS ?_
      try simp only [Act.put, zmo, zmp, zmq]
      refine wpT 2 (.int .i64 ((j + 1 : Nat) : Int)) rfl (by intro w; go_simp) hS ?_; try simp only [Act.put, zmo, zmp, zmq]
      refine wpT 3 (.slice A2 (j + 1) c2) rfl (by intro w; go_simp) hS ?_; try simp only [Act.put, zmo, zmp, zmq]
      refine wpT 5 (.slice (some ⟨g, off, none⟩) n c) rfl (by intro w; go_simp) hS ?_; try simp only [Act.put, zmo, zmp, zmq]
      refine wpT 6 (.int .i64 k) rfl (by intro w; go_simp) hS ?_; try simp only [Act.put, zmo, zmp, zmq]
      refine wpT 7 (.pointer (some ⟨g, off + k * 2, none⟩)) rfl (by intro w; go_simp) hS ?_; try simp only [Act.put, zmo, zmp, zmq]
      refine wpL 8 [9, 10, 14] (.agg #[.string x.1, .string x.2]) rfl (by rintro w h1; obtain ⟨h2, h3⟩ := HX.out _ (nY.out.same h1); go_simp) hS ?_; try simp only [Act.put, zmo, zmp, zmq]
      refine wpT 11 (.slice A2 k c2) rfl (by intro w; go_simp) hS ?_; try simp only [Act.put, zmo, zmp, zmq]
      refine wpT 12 (.int .i64 ((j + 1 : Nat) : Int)) rfl (by intro w; go_simp) hS ?_; try simp only [Act.put, zmo, zmp, zmq]
      refine wpT 13 (.slice A3 (k - (j + 1)) (c2 - (j + 1))) rfl (by intro w; go_simp) hS ?_; try simp only [Act.put, zmo, zmp, zmq]
      refine zee 0 9 (by kernel_rfl) rfl rfl (by rfl) (by rfl) (fun K hK => ?_) (fun K hK => ?_); go_simp; have o0 := zdL W0 wr.heap.size F0.size; have F1 := F0.alloc (.cells #[] 40); have ni := F0.size; refine hK.out _ _ F1 ?_; clear hK K hS; try simp only [Act.put, zmo, zmp, zmq]
      generalize World.alloc W0 (Obj.cells #[] 40) = W1 at o0 F1 ⊢; generalize W0.heap.size = e0 at o0 ni ⊢; have hS := F1; refine zee 4 9 (by kernel_rfl) rfl rfl (by rfl) (by rfl) (fun K hK => ?_) (fun K hK => ?_)
      refine zaA W1 _ _ 31 31 (by rfl) wr.heap.size 40 i0 _ 2 32 underlying31 aD aA az aC rfl (by decide) (.slice (some ⟨e0, 0, none⟩) 0 0) 0 [] (by rfl) o0 (.slice A2 (j + 1) c2) (j + 1) ((o.take (j + 1)).flatMap zaJ) (by rfl) (eH.out _ F1) (by unfold maxLen; omega) (by omega) F1.size ?_; intro v1 W2 an aJ eD; rw [zmP, zmW] at an
      have F2 := F1.grown aJ (fun q hq => .inr (by have hq : e0 = q := zna hq; omega)); obtain ⟨a1, n1, k1, rfl⟩ := zac an; refine hK.out _ _ F2 ?_; clear hK K hS aJ eD; try simp only [Act.put, zmo, zmp, zmq]
      have hS := F2; refine zaq 9 (by kernel_rfl) rfl (by rfl) (fun K hK => ?_); go_simp; have B9 : Blk (W2.alloc (.cells #[.string x.1, .string x.2] 40)) W2.heap.size 40 #[.string x.1, .string x.2] := znr W2 40 _; have F3 := F2.alloc (.cells #[.string x.1, .string x.2] 40); have ex := World.ownsRow.alloc an (.cells #[.string x.1, .string x.2] 40); refine hK.out _ _ F3 ?_; clear hK K hS
      try simp only [Act.put, zmo, zmp, zmq]
      generalize World.alloc W2 (Obj.cells #[.string x.1, .string x.2] 40) = W3 at B9 F3 ex ⊢; generalize W2.heap.size = g9 at B9 ⊢; have hS := F3; have OX := ex; have BX := B9
      rotate_left
      go_simp; have B9 : Blk (W1.alloc (.cells #[.string x.1, .string x.2] 40)) W1.heap.size 40 #[.string x.1, .string x.2] := znr W1 40 _; have F2 := F1.alloc (.cells #[.string x.1, .string x.2] 40); have oQ := World.ownsRow.alloc o0 (.cells #[.string x.1, .string x.2] 40); have ez : W1.heap.size ≠ e0 := fun e => by have h := zas o0 (k := e0) rfl; omega
      refine hK.out _ _ F2 ?_; clear hK K hS; try simp only [Act.put, zmo, zmp, zmq]
      generalize World.alloc W1 (Obj.cells #[.string x.1, .string x.2] 40) = W2 at B9 F2 oQ ⊢; generalize W1.heap.size = g9 at B9 ez ⊢; have hS := F2; refine zaq 4 (by kernel_rfl) rfl (by rfl) (fun K hK => ?_)
      refine zaA W2 _ _ 31 31 (by rfl) wr.heap.size 40 i0 _ 2 32 underlying31 aD aA az aC rfl (by decide) (.slice (some ⟨e0, 0, none⟩) 0 0) 0 [] (by rfl) oQ (.slice A2 (j + 1) c2) (j + 1) ((o.take (j + 1)).flatMap zaJ) (by rfl) (eH.out _ F2) (by unfold maxLen; omega) (by omega) F2.size ?_; intro v1 W3 an aJ eD; rw [zmP, zmW] at an
      have F3 := F2.grown aJ (fun q hq => .inr (by have hq : e0 = q := zna hq; omega)); have lL := B9.grown aJ (fun e => ez (zna e)); obtain ⟨a1, n1, k1, rfl⟩ := zac an; refine hK.out _ _ F3 ?_; clear hK K hS aJ eD; try simp only [Act.put, zmo, zmp, zmq]
      have hS := F3; have OX := an; have BX := lL
      rotate_left
      go_simp; have B9 : Blk (W0.alloc (.cells #[.string x.1, .string x.2] 40)) W0.heap.size 40 #[.string x.1, .string x.2] := znr W0 40 _; have F1 := F0.alloc (.cells #[.string x.1, .string x.2] 40); refine hK.out _ _ F1 ?_; clear hK K hS; try simp only [Act.put, zmo, zmp, zmq]
      generalize World.alloc W0 (Obj.cells #[.string x.1, .string x.2] 40) = W1 at B9 F1 ⊢; generalize W0.heap.size = g9 at B9 ⊢; have hS := F1; refine zaq 0 (by kernel_rfl) rfl (by rfl) (fun K hK => ?_); go_simp; have o0 := zdL W1 wr.heap.size F1.size; have F2 := F1.alloc (.cells #[] 40); have ni := F1.size; have ez : g9 ≠ W1.heap.size := Nat.ne_of_lt B9.lt
      have lL := B9.alloc (.cells #[] 40); refine hK.out _ _ F2 ?_; clear hK K hS; try simp only [Act.put, zmo, zmp, zmq]
      generalize World.alloc W1 (Obj.cells #[] 40) = W2 at o0 F2 lL ⊢; generalize W1.heap.size = e0 at o0 ni ez ⊢; have hS := F2; refine zaq 4 (by kernel_rfl) rfl (by rfl) (fun K hK => ?_)
      refine zaA W2 _ _ 31 31 (by rfl) wr.heap.size 40 i0 _ 2 32 underlying31 aD aA az aC rfl (by decide) (.slice (some ⟨e0, 0, none⟩) 0 0) 0 [] (by rfl) o0 (.slice A2 (j + 1) c2) (j + 1) ((o.take (j + 1)).flatMap zaJ) (by rfl) (eH.out _ F2) (by unfold maxLen; omega) (by omega) F2.size ?_; intro v1 W3 an aJ eD; rw [zmP, zmW] at an
      have F3 := F2.grown aJ (fun q hq => .inr (by have hq : e0 = q := zna hq; omega)); have B9c := lL.grown aJ (fun e => ez (zna e)); obtain ⟨a1, n1, k1, rfl⟩ := zac an; refine hK.out _ _ F3 ?_; clear hK K hS aJ eD; try simp only [Act.put, zmo, zmp, zmq]
      have hS := F3; have OX := an; have BX := B9c
      rotate_left
      all_goals
       refine zaq 10 (by kernel_rfl) rfl (by rfl) (fun K hK => ?_)
       refine zaA W3 _ _ 31 31 (by rfl) wr.heap.size 40 i0 _ 2 32 underlying31 aD aA az aC rfl (by decide) (.slice a1 n1 k1) (j + 1) ((o.take (j + 1)).flatMap zaJ) (by rfl) OX _ 1 (zaJ x) (by rfl) (zaH (cs := zaJ x) underlying31 BX rfl (by simp [zaJ, Value.oneCell'])) (by unfold maxLen; omega) (by omega) F3.size ?_; intro v2 W4 af eC bu
       have F4 := F3.grown eC (fun q hq => .inr ((World.ownsRow.lt OX q hq).1)); obtain ⟨a2, n2, k2, rfl⟩ := zac af; refine hK.out _ _ F4 ?_; clear hK K hS eC bu; try simp only [Act.put, zmo, zmp, zmq]
       have hS := F4; refine zay 14 (by kernel_rfl) rfl (by kernel_rfl) (by rfl) (fun K hK => ?_)
       refine zaA W4 _ _ 31 31 (by rfl) wr.heap.size 40 i0 _ 2 32 underlying31 aD aA az aC rfl (by decide) (.slice a2 n2 k2) (j + 1 + 1) ((o.take (j + 1)).flatMap zaJ ++ zaJ x) (by rfl) af (.slice A3 (k - (j + 1)) (c2 - (j + 1))) (k - (j + 1)) ((o.drop (j + 1)).flatMap zaJ) (by rfl) (jQ.out _ F4) (by unfold maxLen; omega) (by omega) F4.size ?_; intro v3 W5 aF eB iE
       have F5 := F4.grown eB (fun q hq => .inr ((World.ownsRow.lt af q hq).1)); obtain ⟨a3, n3, k3, rfl⟩ := zac aF; have aX : W5.ownsRow w.heap.size 40 2 (.slice a3 n3 k3) (k + 1) ((zaG (l.take (k + 1))).flatMap zaJ) := by
        rw [jc.out, nS.out]; have e1 : j + 1 + 1 + (k - (j + 1)) = k + 1 := by omega
        rw [e1] at aF; have h := zai aF mP; simpa [zmT, zmz] using h
       have dj := zmk aX; have iT := zmk (nY.out.same F5); refine hK.out _ _ ?_; clear hK K hS eB iE aF aX; try simp only [Act.put, zmo, zmp, zmq]
       refine zay 15 (by kernel_rfl) rfl (by kernel_rfl) (by rfl) (fun K hK => ?_); go_simp; refine hK.out _ _ ?_; clear hK K; refine zbC (by kernel_rfl) ?_ _; go_wp2; go_roundw
       case rel => exact ⟨k + 1, by omega, by go_num, dj, iT⟩
       case measure => simp [intOf]; omega
  ·go_wp2
   go_ret; obtain rfl : k = n := by omega
   have e : l.take k = l := zmt (by rw [HN.out]; exact zmw _); have h := HO.out; rw [e] at h; exact ⟨_, rfl, h, HF.out⟩
end Go.Proofs.YtbkookiigkckdaaGreatDoor
