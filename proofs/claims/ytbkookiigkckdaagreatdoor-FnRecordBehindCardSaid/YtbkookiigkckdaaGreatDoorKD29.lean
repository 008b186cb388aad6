/- Merged. -/
import Derived.Test.YtbkookiigkckdaaGreatDoorKD18
import Derived.Test.YtbkookiigkckdaaGreatDoorKD28
set_option linter.unusedVariables false
set_option linter.unusedSimpArgs false
set_option maxRecDepth 100000
set_option maxHeartbeats 8000000
namespace Go.Proofs.YtbkookiigkckdaaGreatDoor
open Go.RowKit Go.Proofs.Tryz
theorem zc1 {α β : Type} (step : St -> α × St) (enc : β -> List UInt8) (rd : β -> α) (Q : β -> Prop) (hs : ∀ x r, Q x -> step (some (enc x ++ r)) = (rd x, some r)) (hp : ∀ x, ∃ c r, enc x = c :: r) :
 ∀ (l : List β) (k : Nat) (acc : List α), (∀ x ∈ l, Q x) -> l.length <= k -> zaj step k (some (l.flatMap enc)) acc = (acc ++ l.map rd, some [])
 | [], k, acc, _, _ => by cases k <;> simp [zaj]
 | x :: l, 0, acc, _, h => by simp at h
 | x :: l, k + 1, acc, hw, h => by
   obtain ⟨c, r, e⟩ := hp x; have bg := hs x (l.flatMap enc) (hw x (by simp)); rw [zmw]; rw [e] at bg ⊢; show zaj step (k + 1) (some (c :: (r ++ l.flatMap enc))) acc = _; have js : step (some (c :: (r ++ l.flatMap enc))) = (rd x, some (l.flatMap enc)) := bg; rw [zaj, js]; simp only []
   rw [zc1 step enc rd Q hs hp l k (acc ++ [rd x]) (fun y hy => hw y (by simp [hy])) (by simpa using h)]; simp
theorem zjv (x : Int) (r : List UInt8) : ∃ c t, zzu x ++ r = c :: t := by
 have := Lib.uvarint_pos (Lib.zigzag x); unfold zzu; rcases h : Lib.uvarint (Lib.zigzag x) with _ | ⟨c, t⟩
 ·rw [h] at this; simp at this
 ·exact ⟨c, t ++ r, rfl⟩
theorem zgh (a b : Nat) (ha : a < 18446744073709551616) : u64 ((b : Int) + u64 (wrap64 (wrap64 a - wrap64 b))) = a := by
 have h : ((b : Int) + u64 (wrap64 (wrap64 a - wrap64 b))) % 18446744073709551616 = (a : Int) := by unfold u64 wrap64; omega
 rw [u64, h]; rfl
theorem zgD {β : Type} (enc : β -> List UInt8) (hp : ∀ x, ∃ c r, enc x = c :: r) : ∀ l : List β, l.length <= (l.flatMap enc).length
 | [] => by simp
 | x :: l => by
   obtain ⟨c, r, e⟩ := hp x; have := zgD enc hp l; rw [zmw, zmi, e]; simp only [zmz]; omega
theorem zeZ (f : Rhs) (hf : f.ok) (X : List UInt8) : (zac (some (zar f ++ X))).1 = f.ref /\ zav (zac (some (zar f ++ X))).2 = (f.t, some X) := by
 have h1 := zaT f.ref hf.1 (Lib.beBytes 8 (u64 f.t) ++ X); have h2 := zaT (u64 f.t) (zkF _) X; unfold zar; rw [zmk, h1]; refine ⟨rfl, ?_⟩; show (i64 (zac (some (Lib.beBytes 8 (u64 f.t) ++ X))).1, (zac (some (Lib.beBytes 8 (u64 f.t) ++ X))).2) = _; rw [h2]; show (i64 (u64 f.t), some X) = _; rw [zkb _ hf.2.1 hf.2.2.1]
theorem zkX (f : Rhs) (X : List UInt8) : zar f ++ X ≠ [] := by
 intro h; have := zm7 List.length h; unfold zar at this; simp [zmr] at this
def Rhs.readW (s : Rhs) : Rhs := { s with h := s.h.readW }
theorem zgx (f s : Rhs) (hs : s.ok) (r : List UInt8) : zdb (some (za1 f s ++ r)) /\ zaR f.ref f.t (some (za1 f s ++ r)) = (s.readW, some r) := by
 have e0 : za1 f s ++ r = Lib.uvarint (Lib.zigzag (zeL f s)) ++ (Lib.uvarint (Lib.zigzag (hT f s)) ++ (zaX s.h ++ r)) := by
  unfold za1 zzu; simp only [zmk]
 have h1 := zcd (zeL f s) (zae _).1 (zae _).2 (Lib.uvarint (Lib.zigzag (hT f s)) ++ (zaX s.h ++ r)); have h2 := zcd (hT f s) (zae _).1 (zae _).2 (zaX s.h ++ r); obtain ⟨h3, h4⟩ := zlx s.h hs.2.2.2 r; rw [e0]; constructor
 ·unfold zdb
  rw [h1]; show FineW (zaJ (some (Lib.uvarint (Lib.zigzag (hT f s)) ++ (zaX s.h ++ r)))).2; rw [h2]; exact h3
 ·unfold zaR
  rw [h1]; show (Rhs.mk (u64 ((f.ref : Int) + u64 (zeL f s))) (wrap64 (f.t + (zaJ (some (Lib.uvarint (Lib.zigzag (hT f s)) ++ (zaX s.h ++ r)))).1)) (zcM (zaJ (some (Lib.uvarint (Lib.zigzag (hT f s)) ++ (zaX s.h ++ r)))).2).1, (zcM (zaJ (some (Lib.uvarint (Lib.zigzag (hT f s)) ++ (zaX s.h ++ r)))).2).2) = _; rw [h2]
  show (Rhs.mk (u64 ((f.ref : Int) + u64 (zeL f s))) (wrap64 (f.t + hT f s)) (zcM (some (zaX s.h ++ r))).1, (zcM (some (zaX s.h ++ r))).2) = _; rw [h4]; unfold zeL hT; rw [zgh _ _ hs.1, zkG _ _ hs.2.1 hs.2.2.1]; rfl
theorem zhE (f s : Rhs) : ∃ c r, za1 f s = c :: r := by unfold za1; exact zjv _ _
theorem zlX (kind : UInt8) (hk : kind = 7 ∨ kind = 9) (q : Rhs -> Bool) (l : List Rhs) (hl : ∀ s ∈ l, s.ok) : zcO (za3 kind q l) = some ((l.filter q).map Rhs.readW) := by
 rcases l with _ | ⟨f, r⟩
 ·show (if kind = 7 ∨ kind = 9 then zbb [] else none) = _
  rw [if_pos hk]; rfl
 ·have hf := hl f (by simp)
  show (if kind = 7 ∨ kind = 9 then zbb (zar f ++ ((f :: r).filter q).flatMap (za1 f)) else none) = _; rw [if_pos hk]; obtain ⟨X, hX⟩ := exE (((f :: r).filter q).flatMap (za1 f)); have ai := zgD (za1 f) (zhE f) ((f :: r).filter q)
  have hL := zc1 (zaR f.ref f.t) (za1 f) Rhs.readW Rhs.ok (fun x r hx => (zgx f x hx r).2) (zhE f) ((f :: r).filter q) (zar f ++ X).length [] (fun x hx => hl x (zmW.1 hx).1) (by rw [zmi, <- hX]; omega); rw [hX] at hL ⊢; obtain ⟨g1, g2⟩ := zeZ f hf X; unfold zbb; rw [znd (zkX f X), g1, g2]; simp only []; rw [hL]; rfl
def GoodW (f : Rhs) (st : St) : Prop := st = none ∨ ∃ l : List Rhs, (∀ s ∈ l, s.ok) /\ st = some (l.flatMap (za1 f))
theorem zls (f : Rhs) (l : List UInt8) (h : GoodW f (some l)) : zdb (some l) /\ GoodW f (zaR f.ref f.t (some l)).2 := by
 rcases h with h | ⟨l', fU, e⟩
 ·cases h
 ·injection e with e
  subst e; rcases l' with _ | ⟨s, l'⟩
  ·show zdb (some []) /\ GoodW f (zaR f.ref f.t (some [])).2
   have e0 : zaJ (some []) = (0, none) := rfl; have e1 : zaJ none = (0, none) := rfl; have e2 : (zcM none).2 = none := by
    rcases h : (zcM none).2 with _ | l
    ·rfl
    ·obtain ⟨l0, h0, _⟩ := zhr _ _ h
     cases h0
   refine ⟨?_, .inl ?_⟩
   ·unfold zdb
    rw [e0]; show FineW (zaJ none).2; rw [e1]; exact ⟨zms _, zms _, zms _, zms _, fun _ => zms _⟩
   ·unfold zaR
    rw [e0]; show (zcM (zaJ none).2).2 = none; rw [e1]; exact e2
  ·obtain ⟨h1, h2⟩ := zgx f s (fU s (by simp)) (l'.flatMap (za1 f))
   rw [zmw]; exact ⟨h1, .inr ⟨l', fun x hx => fU x (by simp [hx]), by rw [h2]⟩⟩
theorem goodW_rec (kind : UInt8) (q : Rhs -> Bool) (l : List Rhs) (hl : ∀ s ∈ l, s.ok) : ∃ ak : St -> Prop,
 (∀ kd rest, za3 kind q l = kd :: rest -> (kd = 7 ∨ kd = 9) -> ∀ l, ak (some l) -> zdb (some l) /\ ak (zaR (zac (some rest)).1 (zav (zac (some rest)).2).1 (some l)).2) /\
 (∀ kd rest, za3 kind q l = kd :: rest -> (kd = 7 ∨ kd = 9) -> rest ≠ [] -> ak (zav (zac (some rest)).2).2) := by
 rcases l with _ | ⟨f, r⟩
 ·refine ⟨fun _ => False, fun _ _ _ _ _ h => h.elim, fun kd rest e _ hr => ?_⟩
  have e2 : [kind] = kd :: rest := e; injection e2 with _ e2; exact absurd e2.symm hr
 ·obtain ⟨X, hX⟩ := exE (((f :: r).filter q).flatMap (za1 f))
  obtain ⟨g1, g2⟩ := zeZ f (hl f (by simp)) X; have he : ∀ kd rest, za3 kind q (f :: r) = kd :: rest -> rest = zar f ++ X := fun kd rest e => by
   have e2 : kind :: (zar f ++ ((f :: r).filter q).flatMap (za1 f)) = kd :: rest := e; injection e2 with _ e2; rw [<- e2, hX]
  refine ⟨GoodW f, fun kd rest e _ l' h => ?_, fun kd rest e _ _ => ?_⟩
  ·rw [he kd rest e, g1, g2]
   exact zls f l' h
  ·rw [he kd rest e, g2, <- hX]
   exact .inr ⟨_, fun x hx => hl x (zmW.1 hx).1, rfl⟩
def Rhs.readF (s : Rhs) : Rhs := { s with h := s.h.readF }
theorem zgy (f s : Rhs) (hs : s.ok) (r : List UInt8) : zdc (some (za2 f s ++ r)) /\ zaS f.ref f.t (some (za2 f s ++ r)) = (s.readF, some r) := by
 have e0 : za2 f s ++ r = Lib.uvarint (Lib.zigzag (zeL f s)) ++ (Lib.uvarint (Lib.zigzag (hT f s)) ++ (zaY s.h ++ r)) := by
  unfold za2 zzu; simp only [zmk]
 have h1 := zcd (zeL f s) (zae _).1 (zae _).2 (Lib.uvarint (Lib.zigzag (hT f s)) ++ (zaY s.h ++ r)); have h2 := zcd (hT f s) (zae _).1 (zae _).2 (zaY s.h ++ r); obtain ⟨h3, h4⟩ := zly s.h hs.2.2.2 r; rw [e0]; constructor
 ·unfold zdc
  rw [h1]; show FineF (zaJ (some (Lib.uvarint (Lib.zigzag (hT f s)) ++ (zaY s.h ++ r)))).2; rw [h2]; exact h3
 ·unfold zaS
  rw [h1]; show (Rhs.mk (u64 ((f.ref : Int) + u64 (zeL f s))) (wrap64 (f.t + (zaJ (some (Lib.uvarint (Lib.zigzag (hT f s)) ++ (zaY s.h ++ r)))).1)) (zcN (zaJ (some (Lib.uvarint (Lib.zigzag (hT f s)) ++ (zaY s.h ++ r)))).2).1, (zcN (zaJ (some (Lib.uvarint (Lib.zigzag (hT f s)) ++ (zaY s.h ++ r)))).2).2) = _; rw [h2]
  show (Rhs.mk (u64 ((f.ref : Int) + u64 (zeL f s))) (wrap64 (f.t + hT f s)) (zcN (some (zaY s.h ++ r))).1, (zcN (some (zaY s.h ++ r))).2) = _; rw [h4]; unfold zeL hT; rw [zgh _ _ hs.1, zkG _ _ hs.2.1 hs.2.2.1]; rfl
theorem zhF (f s : Rhs) : ∃ c r, za2 f s = c :: r := by unfold za2; exact zjv _ _
theorem zlZ (kind : UInt8) (hk : kind = 8 ∨ kind = 10) (q : Rhs -> Bool) (l : List Rhs) (hl : ∀ s ∈ l, s.ok) : zcP (za4 kind q l) = some ((l.filter q).map Rhs.readF) := by
 rcases l with _ | ⟨f, r⟩
 ·show (if kind = 8 ∨ kind = 10 then zbc [] else none) = _
  rw [if_pos hk]; rfl
 ·have hf := hl f (by simp)
  show (if kind = 8 ∨ kind = 10 then zbc (zar f ++ ((f :: r).filter q).flatMap (za2 f)) else none) = _; rw [if_pos hk]; obtain ⟨X, hX⟩ := exE (((f :: r).filter q).flatMap (za2 f)); have ai := zgD (za2 f) (zhF f) ((f :: r).filter q)
  have hL := zc1 (zaS f.ref f.t) (za2 f) Rhs.readF Rhs.ok (fun x r hx => (zgy f x hx r).2) (zhF f) ((f :: r).filter q) (zar f ++ X).length [] (fun x hx => hl x (zmW.1 hx).1) (by rw [zmi, <- hX]; omega); rw [hX] at hL ⊢; obtain ⟨g1, g2⟩ := zeZ f hf X; unfold zbc; rw [znd (zkX f X), g1, g2]; simp only []; rw [hL]; rfl
def GoodF (f : Rhs) (st : St) : Prop := st = none ∨ ∃ l : List Rhs, (∀ s ∈ l, s.ok) /\ st = some (l.flatMap (za2 f))
theorem zlv (f : Rhs) (l : List UInt8) (h : GoodF f (some l)) : zdc (some l) /\ GoodF f (zaS f.ref f.t (some l)).2 := by
 rcases h with h | ⟨l', fU, e⟩
 ·cases h
 ·injection e with e
  subst e; rcases l' with _ | ⟨s, l'⟩
  ·show zdc (some []) /\ GoodF f (zaS f.ref f.t (some [])).2
   have e0 : zaJ (some []) = (0, none) := rfl; have e1 : zaJ none = (0, none) := rfl; have e2 : (zcN none).2 = none := by
    rcases h : (zcN none).2 with _ | l
    ·rfl
    ·obtain ⟨l0, h0, _⟩ := zhs _ _ h
     cases h0
   refine ⟨?_, .inl ?_⟩
   ·unfold zdc
    rw [e0]; show FineF (zaJ none).2; rw [e1]; exact ⟨zms _, zms _, zms _, zms _, fun _ => zms _⟩
   ·unfold zaS
    rw [e0]; show (zcN (zaJ none).2).2 = none; rw [e1]; exact e2
  ·obtain ⟨h1, h2⟩ := zgy f s (fU s (by simp)) (l'.flatMap (za2 f))
   rw [zmw]; exact ⟨h1, .inr ⟨l', fun x hx => fU x (by simp [hx]), by rw [h2]⟩⟩
theorem goodF_rec (kind : UInt8) (q : Rhs -> Bool) (l : List Rhs) (hl : ∀ s ∈ l, s.ok) : ∃ ak : St -> Prop,
 (∀ kd rest, za4 kind q l = kd :: rest -> (kd = 8 ∨ kd = 10) -> ∀ l, ak (some l) -> zdc (some l) /\ ak (zaS (zac (some rest)).1 (zav (zac (some rest)).2).1 (some l)).2) /\
 (∀ kd rest, za4 kind q l = kd :: rest -> (kd = 8 ∨ kd = 10) -> rest ≠ [] -> ak (zav (zac (some rest)).2).2) := by
 rcases l with _ | ⟨f, r⟩
 ·refine ⟨fun _ => False, fun _ _ _ _ _ h => h.elim, fun kd rest e _ hr => ?_⟩
  have e2 : [kind] = kd :: rest := e; injection e2 with _ e2; exact absurd e2.symm hr
 ·obtain ⟨X, hX⟩ := exE (((f :: r).filter q).flatMap (za2 f))
  obtain ⟨g1, g2⟩ := zeZ f (hl f (by simp)) X; have he : ∀ kd rest, za4 kind q (f :: r) = kd :: rest -> rest = zar f ++ X := fun kd rest e => by
   have e2 : kind :: (zar f ++ ((f :: r).filter q).flatMap (za2 f)) = kd :: rest := e; injection e2 with _ e2; rw [<- e2, hX]
  refine ⟨GoodF f, fun kd rest e _ l' h => ?_, fun kd rest e _ _ => ?_⟩
  ·rw [he kd rest e, g1, g2]
   exact zlv f l' h
  ·rw [he kd rest e, g2, <- hX]
   exact .inr ⟨_, fun x hx => hl x (zmW.1 hx).1, rfl⟩
theorem zkT (l : List Lab) (hl : l.length <= 12) (hs : ∀ p ∈ l, p.1.size <= 600 /\ p.2.size <= 600) (r : List UInt8) : zfp (some (zbj l ++ r)) /\ zfW (some (zbj l ++ r)) = (l, some r) := by
 have ek : ∀ p ∈ l, p.1.size < 18446744073709551616 /\ p.2.size < 18446744073709551616 := fun p hp => by have := hs p hp; omega
 have a : gUv (some (zbj l ++ r)) = (l.length, some (l.flatMap zbL ++ r)) := by unfold zbj; rw [zmk]; exact zez l.length (by omega) _
 have b : zfW (some (zbj l ++ r)) = (l, some r) := by
  unfold zfW; rw [a]; show za9 (some (l.flatMap zbL ++ r)) l.length = _; rw [zgz l r ek l.length (zmt _), zmI, List.drop_length]; rfl
 refine ⟨⟨by rw [a]; show l.length <= 4096; omega, fun k hk => ?_, fun p hp => ?_⟩, b⟩
 ·rw [a] at hk ⊢
  have cI : k < l.length := hk; show (gUv (za9 (some (l.flatMap zbL ++ r)) k).2).1 < _ /\ (gUv (zce (za9 (some (l.flatMap zbL ++ r)) k).2).2).1 < _; rw [zgz l r ek k (by omega), List.drop_eq_getElem_cons cI, zmw]; have hm := hs _ (List.getElem_mem cI); obtain ⟨p, hp⟩ := exE (l[k]); rw [hp] at hm ⊢
  have e : zbL p ++ (l.drop (k + 1)).flatMap zbL ++ r = zaN p.1 ++ (zaN p.2 ++ ((l.drop (k + 1)).flatMap zbL ++ r)) := by unfold zbL; simp only [zmk]
  rw [e]; show (gUv (some (zaN p.1 ++ _))).1 < _ /\ (gUv (zce (some (zaN p.1 ++ (zaN p.2 ++ ((l.drop (k + 1)).flatMap zbL ++ r))))).2).1 < _; rw [zfh _ _ (by omega), zdL _ _ (by omega)]; show p.1.size < _ /\ (gUv (some (zaN p.2 ++ _))).1 < _; rw [zfh _ _ (by omega)]; exact ⟨by omega, by omega⟩
 ·rw [b] at hp
  have := hs p hp; omega
theorem zep (l : List Lab) (hl : l.length <= 12) (hs : ∀ p ∈ l, p.1.size <= 600 /\ p.2.size <= 600) : (zaI l).length <= 12 /\ ∀ p ∈ zaI l, p.1.size <= 600 /\ p.2.size <= 600 :=
 have hp := (zbW ltL zc4 zcx zcw l).2
 ⟨by rw [zaZ]; exact hl, fun p hm => hs p (hp.mem_iff.mp hm)⟩
def tos (x : Ser) : SerD := ⟨x.ref, zaI x.labs⟩
theorem zgb (s : Ser) (hs : zhh s) (r : List UInt8) : zdS (some (zbT s ++ r)) /\ zbd (some (zbT s ++ r)) = (tos s, some r) := by
 obtain ⟨h1, h2, h3, _⟩ := hs; obtain ⟨q1, q2⟩ := zep s.labs h2 h3; obtain ⟨f, g⟩ := zkT (zaI s.labs) q1 q2 r; have a : zac (some (zbT s ++ r)) = (s.ref, some (zbj (zaI s.labs) ++ r)) := by unfold zbT; rw [zmk]; exact zaT s.ref h1 _
 constructor
 ·unfold zdS
  rw [a]; exact f
 ·unfold zbd
  rw [a]; show (SerD.mk s.ref (zfW (some (zbj (zaI s.labs) ++ r))).1, (zfW (some (zbj (zaI s.labs) ++ r))).2) = _; rw [g]; rfl
theorem be8_pos (v : Nat) (r : List UInt8) : ∃ c t, Lib.beBytes 8 v ++ r = c :: t := by
 rcases h : Lib.beBytes 8 v ++ r with _ | ⟨c, t⟩
 ·have := zm7 List.length h
  simp [zmr] at this
 ·exact ⟨c, t, rfl⟩
theorem zhC (s : Ser) : ∃ c r, zbT s = c :: r := by unfold zbT; exact be8_pos _ _
theorem zkp (l : List Ser) (hl : ∀ s ∈ l, zhh s) : zbk (zbY l) = some (l.map tos) := by
 have hL := zc1 zbd zbT tos zhh (fun x r hx => (zgb x hx r).2) zhC l (l.flatMap zbT).length [] hl (zgD zbT zhC l); unfold zbk zbY; rw [zbn, if_pos rfl, hL]; rfl
def GoodR (st : St) : Prop := st = none ∨ ∃ l : List Ser, (∀ s ∈ l, zhh s) /\ st = some (l.flatMap zbT)
theorem labG_none : zfW none = ([], none) := rfl
theorem zfv : zfp none := by
 have e : gUv none = (0, none) := rfl; exact ⟨by rw [e]; exact zms _, fun k hk => by rw [e] at hk; exact absurd hk (zm2 _), fun p hp => by rw [labG_none] at hp; cases hp⟩
theorem zlt (l : List UInt8) (h : GoodR (some l)) : zdS (some l) /\ GoodR (zbd (some l)).2 := by
 rcases h with h | ⟨l', fU, e⟩
 ·cases h
 ·injection e with e
  subst e; rcases l' with _ | ⟨s, l'⟩
  ·show zdS (some []) /\ GoodR (zbd (some [])).2
   exact ⟨zfv, .inl rfl⟩
  ·obtain ⟨h1, h2⟩ := zgb s (fU s (by simp)) (l'.flatMap zbT)
   rw [zmw]; exact ⟨h1, .inr ⟨l', fun x hx => fU x (by simp [hx]), by rw [h2]⟩⟩
theorem goodR_rec (l : List Ser) (hl : ∀ s ∈ l, zhh s) (r : List UInt8) (e : zbY l = 1 :: r) : GoodR (some r) := by
 have e2 : 1 :: l.flatMap zbT = 1 :: r := e; injection e2 with _ e2; exact .inr ⟨l, hl, by rw [e2]⟩
def toe (x : Exm) : ExD := ⟨x.ref, x.t, x.v, zaI x.labs⟩
theorem zgI (f s : Exm) (hs : zfO s) (r : List UInt8) : zen (some (zbm f s ++ r)) /\ zaW f.ref f.t (some (zbm f s ++ r)) = (toe s, some r) := by
 obtain ⟨w1, w2, w3, w4, h2, h3, _⟩ := hs; obtain ⟨q1, q2⟩ := zep s.labs h2 h3; obtain ⟨p1, p2⟩ := zkT (zaI s.labs) q1 q2 r; have e0 : zbm f s ++ r = Lib.uvarint (Lib.zigzag (xRef f s)) ++ (Lib.uvarint (Lib.zigzag (xT f s)) ++ (Lib.beBytes 8 s.v ++ (zbj (zaI s.labs) ++ r))) := by
  unfold zbm; simp only [zmk]
 have a1 : zaJ (some (zbm f s ++ r)) = (xRef f s, some (Lib.uvarint (Lib.zigzag (xT f s)) ++ (Lib.beBytes 8 s.v ++ (zbj (zaI s.labs) ++ r)))) := by rw [e0]; exact zcd _ (zae _).1 (zae _).2 _
 have a2 : zaJ (zaJ (some (zbm f s ++ r))).2 = (xT f s, some (Lib.beBytes 8 s.v ++ (zbj (zaI s.labs) ++ r))) := by rw [a1]; exact zcd _ (zae _).1 (zae _).2 _
 have a3 : zac (zaJ (zaJ (some (zbm f s ++ r))).2).2 = (s.v, some (zbj (zaI s.labs) ++ r)) := by rw [a2]; exact zaT s.v w4 _
 constructor
 ·unfold zen
  rw [a3]; exact p1
 ·unfold zaW
  rw [a3, a2, a1]; show (ExD.mk (u64 ((f.ref : Int) + u64 (xRef f s))) (wrap64 (f.t + xT f s)) s.v (zfW (some (zbj (zaI s.labs) ++ r))).1, (zfW (some (zbj (zaI s.labs) ++ r))).2) = _; rw [p2]; unfold xRef xT toe; rw [zgh _ _ w1, zkG _ _ w2 w3]
theorem zhI (f s : Exm) : ∃ c r, zbm f s = c :: r := by unfold zbm; exact zjv _ _
theorem ziU (f : Exm) (hf : zfO f) (X : List UInt8) : (zac (some (zbI f ++ X))).1 = f.ref /\ zav (zac (some (zbI f ++ X))).2 = (f.t, some X) := by
 have h1 := zaT f.ref hf.1 (Lib.beBytes 8 (u64 f.t) ++ X); have h2 := zaT (u64 f.t) (zkF _) X; unfold zbI; rw [zmk, h1]; refine ⟨rfl, ?_⟩; show (i64 (zac (some (Lib.beBytes 8 (u64 f.t) ++ X))).1, (zac (some (Lib.beBytes 8 (u64 f.t) ++ X))).2) = _; rw [h2]; show (i64 (u64 f.t), some X) = _; rw [zkb _ hf.2.1 hf.2.2.1]
theorem hdrX_pos (f : Exm) (X : List UInt8) : zbI f ++ X ≠ [] := by
 intro h; have := zm7 List.length h; unfold zbI at this; simp [zmr] at this
theorem zjl (rest : List UInt8) : zbB (4 :: rest) = zbM rest := rfl
theorem zi8 (f : Exm) (r : List Exm) : zbA (f :: r) = 4 :: (zbI f ++ (f :: r).flatMap (zbm f)) := rfl
theorem zkv (l : List Exm) (hl : ∀ s ∈ l, zfO s) : zbB (zbA l) = some (l.map toe) := by
 rcases l with _ | ⟨f, r⟩
 ·rfl
 ·have hf := hl f (by simp)
  rw [zi8, zjl]; obtain ⟨X, hX⟩ := exE ((f :: r).flatMap (zbm f)); have ai := zgD (zbm f) (zhI f) (f :: r); have hL := zc1 (zaW f.ref f.t) (zbm f) toe zfO (fun x r hx => (zgI f x hx r).2) (zhI f) (f :: r) (zbI f ++ X).length [] hl (by rw [zmi, <- hX]; omega); rw [hX] at hL ⊢; obtain ⟨g1, g2⟩ := ziU f hf X
  unfold zbM; rw [znd (hdrX_pos f X), g1, g2]; simp only []; rw [hL]; rfl
def GoodX (f : Exm) (st : St) : Prop := st = none ∨ ∃ l : List Exm, (∀ s ∈ l, zfO s) /\ st = some (l.flatMap (zbm f))
theorem zlr (f : Exm) (l : List UInt8) (h : GoodX f (some l)) : zen (some l) /\ GoodX f (zaW f.ref f.t (some l)).2 := by
 rcases h with h | ⟨l', fU, e⟩
 ·cases h
 ·injection e with e
  subst e; rcases l' with _ | ⟨s, l'⟩
  ·show zen (some []) /\ GoodX f (zaW f.ref f.t (some [])).2
   exact ⟨zfv, .inl rfl⟩
  ·obtain ⟨h1, h2⟩ := zgI f s (fU s (by simp)) (l'.flatMap (zbm f))
   rw [zmw]; exact ⟨h1, .inr ⟨l', fun x hx => fU x (by simp [hx]), by rw [h2]⟩⟩
theorem goodX_rec (l : List Exm) (hl : ∀ s ∈ l, zfO s) : ∃ ak : St -> Prop,
 (∀ rest, zbA l = 4 :: rest -> ∀ l, ak (some l) -> zen (some l) /\ ak (zaW (zac (some rest)).1 (zav (zac (some rest)).2).1 (some l)).2) /\
 (∀ rest, zbA l = 4 :: rest -> rest ≠ [] -> ak (zav (zac (some rest)).2).2) := by
 rcases l with _ | ⟨f, r⟩
 ·refine ⟨fun _ => False, fun _ _ _ h => h.elim, fun rest e hr => ?_⟩
  have e2 : [4] = 4 :: rest := e; injection e2 with _ e2; exact absurd e2.symm hr
 ·obtain ⟨X, hX⟩ := exE ((f :: r).flatMap (zbm f))
  obtain ⟨g1, g2⟩ := ziU f (hl f (by simp)) X; have he : ∀ rest, zbA (f :: r) = 4 :: rest -> rest = zbI f ++ X := fun rest e => by
   have e2 : 4 :: (zbI f ++ (f :: r).flatMap (zbm f)) = 4 :: rest := e; injection e2 with _ e2; rw [<- e2, hX]
  refine ⟨GoodX f, fun rest e l' h => ?_, fun rest e _ => ?_⟩
  ·rw [he rest e, g1, g2]
   exact zlr f l' h
  ·rw [he rest e, g2, <- hX]
   exact .inr ⟨_, hl, rfl⟩
theorem info130 : (prog.info? 130).map (fun i => (i.zero, i.size, i.bytes)) = some (some (.agg #[.int .u64 0, .slice none 0 0]), 2, 32) := by kernel_rfl
def ziM (pre : List SerD) (xs : List UInt8) : List SerD := match zbk xs with | some l => pre ++ l | none => []
def zjE (x : SerD) : Ser := ⟨x.ref, x.labs⟩
theorem OwnR.alloc {base : Nat} {w : World} {v : Value} {lo : List (Ser × Value)} (h : OwnR base w v lo) (o : Obj) : OwnR base (w.alloc o) v lo := h.fr ((znl (fun _ => False) w).alloc o) (fun _ _ _ e => e)
theorem sero_serd (l : List Ser) : l.flatMap sero = (l.map tos).flatMap ziA := by rw [List.flatMap_map]; rfl
def ReadEndsR (w : World) (bb bp bo : Nat) (pre : List SerD) (xs : List UInt8) (r : Ending) (w' : World) : Prop :=
 r = .returned (.tuple #[]) /\ Fr (fun k => k = bb ∨ k = bp ∨ k = bo) w w' /\ Blk w' bo 4 #[.bool (zbk xs).isSome] /\
  ∃ lv lo, Blk w' bp 54 #[lv, .slice none 0 0, .slice none 0 0, .slice none 0 0, .slice none 0 0, .slice none 0 0, .slice none 0 0] /\ OwnR w.heap.size w' lv lo /\ lo.map Prod.fst = (ziM pre xs).map zjE
theorem ziz {b0 d : Nat} {w w' : World} {base : Nat} {o : Option Nat} {pre : List SerD} {xs : List UInt8} {r : Ending} (h : zcH b0 d w base o pre xs r w') :
 ∃ v' e, r = .returned (.tuple #[v', e]) /\ w'.ownsRow base 127 2 v' (ziM pre xs).length ((ziM pre xs).flatMap ziA) /\ Fr (fun k => some k = o ∨ zdu w b0 d k) w w' /\ ((e = .nilIface /\ (zbk xs).isSome = true) ∨ (∃ t a, e = .iface t a /\ (zbk xs).isSome = false)) := by
 unfold zcH at h; unfold ziM; rcases hd : zbk xs with _ | l
 ·rw [hd] at h
  obtain ⟨hf, t, a, rfl⟩ := h; exact ⟨_, _, rfl, zmv _ _ _ _, hf, .inr ⟨_, _, rfl, rfl⟩⟩
 ·rw [hd] at h
  obtain ⟨hf, v', rfl, ho⟩ := h; exact ⟨_, _, rfl, ho, hf, .inl ⟨rfl, rfl⟩⟩
theorem zfT {W w5 w6 : World} {b t b0 d : Nat} {cs : Array Value} {v5 : Value} {n : Nat} {xs : List Value} (h : Blk W b t cs) (ap : z_F W.drew w5) (ho : w5.ownsRow W.drew.heap.size 127 2 v5 n xs) (aR : Fr (fun k => some k = v5.ownBlock ∨ zdu w5 b0 d k) w5 w6) (hb : b < b0 /\ b0 <= d) : Blk w6 b t cs :=
 (h.drew.fr ap id).fr aR (fun e => by
   rcases e with e | e | ⟨e, _⟩
   ·have h1 := (ho.lt b e.symm).1; have h2 : b < W.heap.size := h.lt; exact zm1 _ (zmG h2 h1)
   ·omega
   ·omega)
theorem info159 : (prog.info? 159).map (fun i => (i.zero, i.size, i.bytes)) = some (some (.agg #[.int .u64 0, .int .i64 0, .int .u64 0, .slice none 0 0]), 4, 48) := by kernel_rfl
def OwnX (base : Nat) (w : World) (v : Value) (lo : List (Exm × Value)) : Prop :=
 w.ownsRow base 159 4 v lo.length (lo.flatMap exc) /\ ∀ p ∈ lo, w.ownsRow base 40 2 p.2 p.1.labs.length (p.1.labs.flatMap zaK)
theorem OwnX.nil (base : Nat) (w : World) : OwnX base w (.slice none 0 0) [] := ⟨zmv _ _ _ _, fun p hp => by cases hp⟩
theorem OwnX.fr {S : Nat -> Prop} {base : Nat} {w w' : World} {v : Value} {lo : List (Exm × Value)} (h : OwnX base w v lo) (hf : Fr S w w') (hs : ∀ k, base <= k -> k < w.heap.size -> ¬ S k) : OwnX base w' v lo :=
 ⟨zai h.1 hf (fun g hg => hs g (h.1.lt g hg).1 (zaq h.1 hg)), fun p hp => zai (h.2 p hp) hf (fun g hg => hs g ((h.2 p hp).lt g hg).1 (zaq (h.2 p hp) hg))⟩
theorem OwnX.mono {base base' : Nat} {w : World} {v : Value} {lo : List (Exm × Value)} (h : OwnX base w v lo) (hb : base' <= base) : OwnX base' w v lo :=
 ⟨zah h.1 hb, fun p hp => zah (h.2 p hp) hb⟩
theorem OwnX.sl {base : Nat} {w : World} {v : Value} {lo : List (Exm × Value)} (h : OwnX base w v lo) : SlX (fun g => base <= g /\ g < w.heap.size) w v lo :=
 ⟨(zno h.1).mono (fun g hg => ⟨(h.1.lt g hg).1, zaq h.1 hg⟩), fun p hp => (zno (h.2 p hp)).mono (fun g hg => ⟨((h.2 p hp).lt g hg).1, zaq (h.2 p hp) hg⟩)⟩
theorem OwnX.push {base : Nat} {w w2 : World} {v v' : Value} {lo : List (Exm × Value)} {p : Exm × Value} (h : OwnX base w v lo) (hp : w.ownsRow base 40 2 p.2 p.1.labs.length (p.1.labs.flatMap zaK)) (hg : w.grownBy w2 v.ownBlock)
 (ho : w2.ownsRow base 159 4 v' (lo.length + 1) (lo.flatMap exc ++ exc p)) : OwnX base w2 v' (lo ++ [p]) := by
 have hf : Fr (fun k => some k = v.ownBlock) w w2 := (znl (fun k => some k = v.ownBlock) w).grown hg (fun k hk => .inl hk.symm); refine ⟨by simpa using ho, fun q hq => ?_⟩; rcases zmX.1 hq with hq | hq
 ·exact zai (h.2 q hq) hf (fun g jJ e => zb4 (h.2 q hq) h.1 (by decide) g jJ e.symm)
 ·rw [zmY] at hq
  subst hq; exact zai hp hf (fun g jJ e => zb4 hp h.1 (by decide) g jJ e.symm)
theorem OwnX.off {base : Nat} {w w' : World} {v : Value} {lo : List (Exm × Value)} {d t : Nat} {cs : Array Value} (h : OwnX base w v lo) (hb : Blk w d t cs) (h1 : 159 ≠ t) (h2 : 40 ≠ t) (hf : Fr (fun k => k = d) w w') : OwnX base w' v lo :=
 ⟨zai h.1 hf (fun g hg e => zak h.1 hb h1 (by rw [hg, e])), fun p hp => zai (h.2 p hp) hf (fun g hg e => zak (h.2 p hp) hb h2 (by rw [hg, e]))⟩
theorem OwnX.alloc {base : Nat} {w : World} {v : Value} {lo : List (Exm × Value)} (h : OwnX base w v lo) (o : Obj) : OwnX base (w.alloc o) v lo := h.fr ((znl (fun _ => False) w).alloc o) (fun _ _ _ e => e)
def ziL (pre : List ExD) (xs : List UInt8) : List ExD := match zbB xs with | some l => pre ++ l | none => []
def zjF (x : ExD) : Exm := ⟨x.ref, x.t, x.v, x.labs⟩
theorem exo_exd (l : List Exm) : l.flatMap exo = (l.map toe).flatMap exd := by rw [List.flatMap_map]; rfl
def ReadEndsX (w : World) (bb bp bo : Nat) (pre : List ExD) (xs : List UInt8) (r : Ending) (w' : World) : Prop :=
 r = .returned (.tuple #[]) /\ Fr (fun k => k = bb ∨ k = bp ∨ k = bo) w w' /\ Blk w' bo 4 #[.bool (zbB xs).isSome] /\
  ∃ lv lo, Blk w' bp 54 #[.slice none 0 0, .slice none 0 0, .slice none 0 0, lv, .slice none 0 0, .slice none 0 0, .slice none 0 0] /\ OwnX w.heap.size w' lv lo /\ lo.map Prod.fst = (ziL pre xs).map zjF
theorem zi1 {b0 d : Nat} {w w' : World} {base : Nat} {o : Option Nat} {pre : List ExD} {xs : List UInt8} {r : Ending} (h : zeB (fun k => some k = o ∨ zdu w b0 d k) w base pre (zbB xs) r w') :
 ∃ v' e, r = .returned (.tuple #[v', e]) /\ w'.ownsRow base 157 4 v' (ziL pre xs).length ((ziL pre xs).flatMap exd) /\ Fr (fun k => some k = o ∨ zdu w b0 d k) w w' /\ ((e = .nilIface /\ (zbB xs).isSome = true) ∨ (∃ t a, e = .iface t a /\ (zbB xs).isSome = false)) := by
 unfold zeB at h; unfold ziL; rcases hd : zbB xs with _ | l
 ·rw [hd] at h
  obtain ⟨hf, t, a, rfl⟩ := h; exact ⟨_, _, rfl, zmv _ _ _ _, hf, .inr ⟨_, _, rfl, rfl⟩⟩
 ·rw [hd] at h
  obtain ⟨hf, v', rfl, ho⟩ := h; exact ⟨_, _, rfl, ho, hf, .inl ⟨rfl, rfl⟩⟩
theorem zfQ {W w5 w6 : World} {b t b0 d : Nat} {cs : Array Value} {v5 : Value} {n : Nat} {xs : List Value} (h : Blk W b t cs) (ap : z_F W.drew w5) (ho : w5.ownsRow W.drew.heap.size 157 4 v5 n xs) (aR : Fr (fun k => some k = v5.ownBlock ∨ zdu w5 b0 d k) w5 w6) (hb : b < b0 /\ b0 <= d) : Blk w6 b t cs :=
 (h.drew.fr ap id).fr aR (fun e => by
   rcases e with e | e | ⟨e, _⟩
   ·have h1 := (ho.lt b e.symm).1; have h2 : b < W.heap.size := h.lt; exact zm1 _ (zmG h2 h1)
   ·omega
   ·omega)
theorem zcj : (∀ (_ : True) (te : TypeId) (pe : Value) (bb bk bq bp bo : Nat) (P : Nat -> Prop) (q0 q1 q2 q3 q4 q5 q6 v : Value) (xs : List UInt8) (w : World) (hb : Blk w bb 44 #[v]) (hv : Sl P w v 1 xs.length (bc xs)) (hk : Blk w bk 3 #[.int .i64 1]) (hq : Blk w bq 54 #[q0, q1, q2, q3, q4, q5, q6]) (pre : List (Ser × Value)) (hs : SlR P w q0 pre) (bx : pre.length <= 1024)
 (fj : ∀ p ∈ pre, LabOk p.1.labs 12 600) (dI : ∀ x ∈ ziM ((pre.map Prod.fst).map tos) xs, x.labs.length <= 4096 /\ ∀ p ∈ x.labs, p.1.size <= 1048576 /\ p.2.size <= 1048576) (kO : (ziM ((pre.map Prod.fst).map tos) xs).length <= 1048576)
 (hp : Blk w bp 54 #[.slice none 0 0, .slice none 0 0, .slice none 0 0, .slice none 0 0, .slice none 0 0, .slice none 0 0, .slice none 0 0]) (ho : Blk w bo 4 #[.bool false]) (hE : w.cell? ⟨2, 0, none⟩ = some (.iface te pe)) (bm : xs.length <= 1073741824)
 (dV : ∀ g, P g -> g ≠ bb) (dr : bp ≠ bq) (h2 : bb ≠ 2 /\ bp ≠ 2 /\ bo ≠ 2)
 (ak : St -> Prop) (hG : ∀ l, ak (some l) -> zdS (some l) /\ ak (zbd (some l)).2) (aZ : ∀ r, xs = 1 :: r -> ak (some r)),
 Calls prog 66 #[.pointer (some ⟨bb, 0, none⟩), .pointer (some ⟨bk, 0, none⟩), .pointer (some ⟨bq, 0, none⟩), .pointer (some ⟨bp, 0, none⟩), .pointer (some ⟨bo, 0, none⟩)] w (ReadEndsR w bb bp bo ((pre.map Prod.fst).map tos) xs)) /\ (∀ (_ : True) (te : TypeId) (pe : Value) (bb bk bq bp bo : Nat) (P : Nat -> Prop) (q0 q1 q2 q3 q4 q5 q6 v : Value) (xs : List UInt8) (w : World) (hb : Blk w bb 44 #[v]) (hv : Sl P w v 1 xs.length (bc xs)) (hk : Blk w bk 3 #[.int .i64 4]) (hq : Blk w bq 54 #[q0, q1, q2, q3, q4, q5, q6]) (pre : List (Exm × Value)) (hs : SlX P w q3 pre) (bx : pre.length <= 1024)
 (fj : ∀ p ∈ pre, LabOk p.1.labs 12 600) (dI : ∀ x ∈ ziL ((pre.map Prod.fst).map toe) xs, x.labs.length <= 4096 /\ ∀ p ∈ x.labs, p.1.size <= 1048576 /\ p.2.size <= 1048576) (kO : (ziL ((pre.map Prod.fst).map toe) xs).length <= 1048576)
 (hp : Blk w bp 54 #[.slice none 0 0, .slice none 0 0, .slice none 0 0, .slice none 0 0, .slice none 0 0, .slice none 0 0, .slice none 0 0]) (ho : Blk w bo 4 #[.bool false]) (hE : w.cell? ⟨2, 0, none⟩ = some (.iface te pe)) (bm : xs.length <= 1073741824)
 (dV : ∀ g, P g -> g ≠ bb) (dr : bp ≠ bq) (h2 : bb ≠ 2 /\ bp ≠ 2 /\ bo ≠ 2)
 (ak : St -> Prop) (hG : ∀ rest, xs = 4 :: rest -> ∀ l, ak (some l) -> zen (some l) /\ ak (zaW (zac (some rest)).1 (zav (zac (some rest)).2).1 (some l)).2) (aZ : ∀ rest, xs = 4 :: rest -> rest ≠ [] -> ak (zav (zac (some rest)).2).2),
 Calls prog 66 #[.pointer (some ⟨bb, 0, none⟩), .pointer (some ⟨bk, 0, none⟩), .pointer (some ⟨bq, 0, none⟩), .pointer (some ⟨bp, 0, none⟩), .pointer (some ⟨bo, 0, none⟩)] w (ReadEndsX w bb bp bo ((pre.map Prod.fst).map toe) xs)) := by
 refine ⟨fun ag te pe bb bk bq bp bo P q0 q1 q2 q3 q4 q5 q6 v xs w hb hv hk hq pre hs bx fj dI kO hp ho hE bm dV dr h2 ak hG aZ => ?_, fun bU te pe bb bk bq bp bo P q0 q1 q2 q3 q4 q5 q6 v xs w hb hv hk hq pre hs bx fj dI kO hp ho hE bm dV dr h2 ak hG aZ => ?_⟩; all_goals
  have ii := zmh hG; have ig := zmh aZ; have HXF := zmh dI; have HXN := zmh kO; have oW := zmh fj; have h2w : 2 < w.heap.size := zmo w _ hE; have qu := hb.lt; have qp := hp.lt; have qr := ho.lt; have qo := hq.lt; clear hG aZ dI kO fj; obtain ⟨i0, aC, az, ay, aB⟩ := info_parts zff; have HB := zmh hb; have HV := zmh hv
  have HK := zmh hk; have HQ := zmh hq; have HS := zmh hs; have HP := zmh hp; have HO := zmh ho; have HE := zmh hE; have kA := zmh dV; have cA : ∃ A m c, v = .slice A m c := let ⟨A, c, h, _⟩ := hv; ⟨A, _, c, h⟩
  obtain ⟨A, m, c, rfl⟩ := cA; clear hb hv hk hq hs hp ho hE dV; go_enter func66, ntmps66; go_wp2_with (first | (go_at_call 67; refine (zll _ _).mono ?_; rintro r w1 ⟨v1, rfl, ⟨gb, rfl, hob⟩, ah⟩; have HOB := zmh hob; clear hob; refine Hid.out ?_))
  have ax := ((HB.out.fr ah id).alloc (.cells #[.slice (some ⟨gb, 0, none⟩) 0 0, .string ⟨#[]⟩, .slice none 0 0] 119)).alloc (.cells #[] 5); have b1 := ax.cell 0; simp at b1; clear ax; refine zmh ?_; go_wp2_with (at_builtin; refine Hid.out ?_)
  have eo := znk (base := w.heap.size) (e := 5) (size := 1) (w1.alloc (.cells #[.slice (some ⟨gb, 0, none⟩) 0 0, .string ⟨#[]⟩, .slice none 0 0] 119)) #[] 0 (by have := ah.size; simp; omega) (zms _) rfl; have dw : z_F w ((w1.alloc (.cells #[.slice (some ⟨gb, 0, none⟩) 0 0, .string ⟨#[]⟩, .slice none 0 0] 119)).alloc (.cells #[] 5)) := (ah.alloc _).alloc _
  have bh := ah.size; refine zmh ?_; have li : (w1.alloc (.cells #[.slice (some ⟨gb, 0, none⟩) 0 0, .string ⟨#[]⟩, .slice none 0 0] 119)).heap.size = w1.heap.size + 1 := by simp
  rw [li] at eo; clear b1; have hBW := bld_new HOB.out; have oS : Blk ((w1.alloc (.cells #[.slice (some ⟨gb, 0, none⟩) 0 0, .string ⟨#[]⟩, .slice none 0 0] 119)).alloc (.cells #[] 5)) (w1.heap.size + 1) 5 #[] := by have h := znm (w1.alloc (.cells #[.slice (some ⟨gb, 0, none⟩) 0 0, .string ⟨#[]⟩, .slice none 0 0] 119)) 5 #[]; simpa using h
  generalize World.alloc _ (Obj.cells #[] 5) = WA at eo dw hBW oS ⊢; have HBW := zmh hBW; have cj := zmh oS; clear hBW oS; have hsA := dw.size; have cd := zbp underlying44 (HV.out.fr dw z_i) (zfC xs)
  refine zaf _ rfl _ _ 44 44 rfl w.heap.size 5 i0 (.int .u8 0) 1 1 underlying44 aC az ay aB rfl (by decide) (.slice (some ⟨w1.heap.size + 1, 0, none⟩) 0 0) 0 [] rfl eo (.slice A m c) xs.length (bc xs) rfl cd (by unfold maxLen; omega) (by omega) (by omega) ?_; intro v' w2 ac ad av
  rw [zmM, zmT] at ac; obtain ⟨a2, k2, rfl⟩ := zaa ac; have eJ : ∀ k, (Value.slice (some ⟨w1.heap.size + 1, 0, none⟩) 0 0).ownBlock = some k -> w.heap.size <= k := fun k hk => by
   have hk : w1.heap.size + 1 = k := zm6 hk; omega
  have F2 : z_F w w2 := dw.grown ad (fun k hk => .inr (eJ k hk)); have dq : ∃ g2 aI, a2 = some ⟨g2, 0, none⟩ /\ w.heap.size <= g2 /\ Blk w2 g2 5 aI /\ xs.length <= k2 /\ k2 <= maxLen /\ aI.toList.take xs.length = bc xs := by
   rcases ac.2 with ⟨h, _⟩ | ⟨g2, aK, aI, h, h1, h3, h4, h5, _, h6⟩
   ·rw [h] at av
    rcases av with av | av <;> exact absurd av (by simp [Value.ownBlock])
   ·injection h with e1 e2 e3
    subst e3; exact ⟨g2, aI, e1, h1, h3, h4, h5, by simpa using h6⟩
  have cn : ∀ k, (Value.slice a2 xs.length k2).ownBlock = some k -> w.heap.size <= k := fun k hk => (ac.lt k hk).1; have lB := HB.out.lt; have gB := HB.out.fr F2 id; have y0 := gB.cell 0; have y1 := gB.frozen 0; simp at y0
  have F3 : Fr (fun k => k = bb) w (w2.setCell ⟨bb, 0, none⟩ (.slice a2 xs.length k2)) := (F2.mono (S' := fun k => k = bb) (fun _ _ e => e.elim)).setCell (p := ⟨bb, 0, none⟩) (.inl rfl) _; have O3 : (w2.setCell ⟨bb, 0, none⟩ (.slice a2 xs.length k2)).ownsRow w.heap.size 5 1 (.slice a2 xs.length k2) xs.length (bc xs) := zai ac (Fr.put_ w2 bb 0 _) (fun k hk e => by have := cn k hk; omega)
  have B3 : Blk (w2.setCell ⟨bb, 0, none⟩ (.slice a2 xs.length k2)) bb 44 #[.slice a2 xs.length k2] := by simpa using gB.set_ 0 (.slice a2 xs.length k2)
  have K3 := (HK.out.fr F3 (fun e => znn HK.out HB.out (by decide) e)).cell 0; have Q3 := HQ.out.fr F3 (fun e => znn HQ.out HB.out (by decide) e); have P3 := HP.out.fr F3 (fun e => znn HP.out HB.out (by decide) e); have O4 := HO.out.fr F3 (fun e => znn HO.out HB.out (by decide) e)
  have E3 : (w2.setCell ⟨bb, 0, none⟩ (.slice a2 xs.length k2)).cell? ⟨2, 0, none⟩ = some (.iface te pe) := by
   rw [F3.cell (p := ⟨2, 0, none⟩) (zmo w _ HE.out) (fun e => h2.1 e.symm)]; exact HE.out
  simp at K3
  have qM : Bld w2 w.heap.size w1.heap.size [] ⟨#[]⟩ := HBW.out.fr (S := fun k => k = w1.heap.size + 1) ((znl (fun k => k = w1.heap.size + 1) WA).grown ad (fun k hk => .inl (zm6 hk).symm)) (by omega) (fun g' _ hc e => by
   obtain ⟨cs, hc⟩ := hc; subst e
   exact znn hc cj.out (by decide) rfl)
  have qK := qM.fr (Fr.put_ w2 bb 0 (.slice a2 xs.length k2)) (by omega) (fun g' _ hc e => by
   obtain ⟨cs, hc⟩ := hc; subst e
   exact znn hc gB (by decide) rfl)
  have lV := zmh qK; clear qM qK HBW cj; have bB := zmh F3; have eq := zmh O3; have bH := zmh B3; have c8 := zmh Q3; have eK := zmh P3; have dj := zmh O4; have dF := zmh E3; have ou := zmh cn; obtain ⟨g2, aI, rfl, dU, co, cI, dt, dp⟩ := dq
  have R3 : Rec te pe (w2.setCell ⟨bb, 0, none⟩ (.slice (some ⟨g2, 0, none⟩) xs.length k2)) g2 aI xs (.slice (some ⟨g2, 0, none⟩) xs.length k2) := by
   refine ⟨0, k2, rfl, co.far (p := ⟨bb, 0, none⟩) (by show g2 ≠ bb; omega) _, cI, ⟨by simp [maxLen] at dt; omega, by omega⟩, fun j u hu => ?_, E3⟩; rw [zmM, <- Array.getElem?_toList]; have hj : j < xs.length := by
    rcases zmK j xs.length with h | h
    ·exact h
    ·rw [zmL (by rw [zda]; exact h)] at hu; cases hu
   rw [<- dp, List.getElem?_take_of_lt hj] at hu; exact hu
  have bG := zmh R3; have lh := co.lt; clear R3 dt dp co; clear F2 F3 O3 B3 Q3 P3 O4 E3 gB eJ cn ac ad av cd eo dw ah; go_wp2_with fail
  generalize w2.setCell ⟨bb, 0, none⟩ (.slice (some ⟨g2, 0, none⟩) xs.length k2) = W3 at bB eq bH c8 eK dj dF bG lV ⊢; have fb := bG.out; have gq : g2 < W3.heap.size := let ⟨_, _, _, h, _⟩ := fb; h.lt
  have jj : 2 < W3.heap.size := zmo W3 _ dF.out; clear fb
  first | (guard_hyp ag; have hS3 : SlR P W3.drew q0 pre := HS.out.fr bB.out.drew (fun g hg e => kA.out g hg e)) | (have hS3 : SlX P W3.drew q3 pre := HS.out.fr bB.out.drew (fun g hg e => kA.out g hg e))
  first | (guard_hyp ag; have eD := zeR P q0 pre W3.drew hS3 (by omega) oW.out) | (have eD := zdY P q3 pre W3.drew hS3 (by omega) oW.out)
  first | (guard_hyp ag; have eZ : ∃ A m c, q0 = .slice A m c := let ⟨A, c, h, _⟩ := HS.out.1; ⟨A, _, c, h⟩) | (have eZ : ∃ A m c, q3 = .slice A m c := let ⟨A, c, h, _⟩ := HS.out.1; ⟨A, _, c, h⟩)
  obtain ⟨Aq, mq, cq, rfl⟩ := eZ; have x0 := bH.out.cell 0
  first | (guard_hyp ag; have x1 := c8.out.cell 0) | (have x1 := c8.out.cell 3)
  have kI : W3.drew.cell? ⟨bb, 0, none⟩ = some (.slice (some ⟨g2, 0, none⟩) xs.length k2) := x0
  first | (guard_hyp ag; have jn : W3.drew.cell? ⟨bq, 0, none⟩ = some (.slice Aq mq cq) := x1) | (have jn : W3.drew.cell? ⟨bq, 3, none⟩ = some (.slice Aq mq cq) := x1)
  simp at x0 x1; clear y0 y1 K3
  first
   | guard_hyp ag
     go_region_held3 (fun w' => w'.cell? ⟨bb, 0, none⟩ = some (.slice (some ⟨g2, 0, none⟩) xs.length k2) /\ w'.cell? ⟨bq, 0, none⟩ = some (.slice Aq mq cq))
      ((first | (go_split_ands; refine ⟨?_, ?_⟩ <;> first | exact (bH.out.drew.fr ap id).cell 0 | exact (c8.out.drew.fr ap id).cell 0) | (go_split_ands; refine ⟨?_, ?_⟩ <;> first | exact KB.out.cell 0 | exact KQ.out.cell 0) | go_keep))
      ((first
        | (go_at_call 69; refine eD.mono ?_; rintro r5 w5 ⟨v5, rfl, al, ap⟩; rw [sero_serd, <- zmF (f := tos)] at al)
        | (go_at_call 68; refine (zkq ak ii.out te pe w.heap.size w1.heap.size g2 W3.drew.heap.size aI ((pre.map Prod.fst).map tos) xs _ v5 w5 (bG.out.fr (w := W3) (((znl (fun _ => False) W3).drew).same ap) id id) al ⟨jj, ap.size, zmG gq ap.size⟩ (by rw [zmF, zmF]; omega) ig.out [] ⟨#[]⟩ (lV.out.fr (((znl (fun _ => False) W3).drew).same ap) id (fun _ _ _ e => e)) ⟨zm0 bB.out.size ap.size, h2w, bh⟩).mono ?_; rintro r6 w6 eE; obtain ⟨v6, e6, rfl, aJ, aR, cl⟩ := ziz eE; clear eE; have KB := zmh (zfT bH.out ap al aR ⟨qu, bh⟩); have KQ := zmh (zfT c8.out ap al aR ⟨qo, bh⟩))))
   | go_region_held3 (fun w' => w'.cell? ⟨bb, 0, none⟩ = some (.slice (some ⟨g2, 0, none⟩) xs.length k2) /\ w'.cell? ⟨bq, 3, none⟩ = some (.slice Aq mq cq))
      ((first | (go_split_ands; refine ⟨?_, ?_⟩ <;> first | exact (bH.out.drew.fr ap id).cell 0 | exact (c8.out.drew.fr ap id).cell 3) | (go_split_ands; refine ⟨?_, ?_⟩ <;> first | exact KB.out.cell 0 | exact KQ.out.cell 3) | go_keep))
      ((first
        | (go_at_call 78; refine eD.mono ?_; rintro r5 w5 ⟨v5, rfl, al, ap⟩; rw [exo_exd, <- zmF (f := toe)] at al)
        | (go_at_call 77; refine (zkw te pe w.heap.size w1.heap.size g2 W3.drew.heap.size aI ((pre.map Prod.fst).map toe) xs _ v5 w5 (bG.out.fr (w := W3) (((znl (fun _ => False) W3).drew).same ap) id id) al ⟨jj, ap.size⟩ (by rw [zmF, zmF]; omega) ak ii.out ig.out [] ⟨#[]⟩ (lV.out.fr (((znl (fun _ => False) W3).drew).same ap) id (fun _ _ _ e => e)) ⟨zm0 bB.out.size ap.size, h2w, bh⟩).mono ?_; rintro r6 w6 eE; obtain ⟨v6, e6, rfl, aJ, aR, cl⟩ := zi1 eE; clear eE; have KB := zmh (zfQ bH.out ap al aR ⟨qu, bh⟩); have KQ := zmh (zfQ c8.out ap al aR ⟨qo, bh⟩))))
  have T6 : Fr (fun k => k = bb) w w6 := ((bB.out.trans (((znl (fun _ => False) W3).drew).same ap) (fun _ _ e => e.elim)).trans aR (fun k hk e => by
   rcases e with e | e | ⟨e, _⟩
   ·have h1 := (al.lt k e.symm).1
    have h2 := bB.out.size; simp at h1; omega
   ·omega
   ·omega))
  first | (guard_hyp ag; have P6 := zfT eK.out ap al aR ⟨qp, bh⟩) | (have P6 := zfQ eK.out ap al aR ⟨qp, bh⟩)
  first | (guard_hyp ag; have O6 := zfT dj.out ap al aR ⟨qr, bh⟩) | (have O6 := zfQ dj.out ap al aR ⟨qr, bh⟩)
  have kM : w.heap.size <= W3.drew.heap.size := bB.out.size; have V6 := zah aJ kM; have kw := zmh T6; have jl := zmh P6; have fz := zmh O6; have fy := zmh V6; have kB := zmh cl; have kT := ap.size; have kS := aR.size; have gR : ∀ k, v6.ownBlock = some k -> k < w6.heap.size := fun k hk => zaq aJ hk
  clear x0 x1 kI jn eD T6 P6 O6 V6 cl al ap aJ aR KB KQ eq bH c8 eK dj dF bG bB lV
  first | (guard_hyp ag; obtain ⟨l, hl⟩ := exE (ziM ((pre.map Prod.fst).map tos) xs)) | (obtain ⟨l, hl⟩ := exE (ziL ((pre.map Prod.fst).map toe) xs))
  rw [hl] at fy HXF HXN; have mP := zmh hl; clear hl; obtain ⟨a6, k6, rfl⟩ := zaa fy.out; go_wp2_with fail
  obtain ⟨n, hn⟩ := exE l.length; have HN := zmh hn; rw [hn] at fy gR HXN ⊢; clear hn
  first | (guard_hyp ag; obtain ⟨i1, gp, ei, dC, fi⟩ := info_parts info130) | (obtain ⟨i1, gp, ei, dC, fi⟩ := info_parts info159)
  first
   | guard_hyp ag
     go_loopw [51] (fun i wr => ∃ (k : Nat) (lv : Value) (lo : List (Ser × Value)), k <= n /\ i = .int .i64 k /\ Hid (Fr (fun j => j = bb ∨ j = bp) w wr) /\ Hid (wr.ownsRow w.heap.size 127 2 (.slice a6 n k6) n (l.flatMap ziA)) /\ Hid (Blk wr bo 4 #[.bool false]) /\
      Hid (Blk wr bp 54 #[lv, .slice none 0 0, .slice none 0 0, .slice none 0 0, .slice none 0 0, .slice none 0 0, .slice none 0 0]) /\ Hid (OwnR w.heap.size wr lv lo) /\ Hid (lo.map Prod.fst = (l.take k).map zjE) /\ Hid (lo.length = k)) (fun i _ => n - (intOf i).toNat)
   | go_loopw [143] (fun i wr => ∃ (k : Nat) (lv : Value) (lo : List (Exm × Value)), k <= n /\ i = .int .i64 k /\ Hid (Fr (fun j => j = bb ∨ j = bp) w wr) /\ Hid (wr.ownsRow w.heap.size 157 4 (.slice a6 n k6) n (l.flatMap exd)) /\ Hid (Blk wr bo 4 #[.bool false]) /\
      Hid (Blk wr bp 54 #[.slice none 0 0, .slice none 0 0, .slice none 0 0, lv, .slice none 0 0, .slice none 0 0, .slice none 0 0]) /\ Hid (OwnX w.heap.size wr lv lo) /\ Hid (lo.map Prod.fst = (l.take k).map zjF) /\ Hid (lo.length = k)) (fun i _ => n - (intOf i).toNat)
  case atStart => first | (guard_hyp ag; exact ⟨0, _, [], zms _, rfl, zmh (Fr.mono kw.out (fun _ _ e => Or.inl e)), fy, fz, jl, zmh (OwnR.nil _ _), zmh rfl, zmh rfl⟩) | (exact ⟨0, _, [], zms _, rfl, zmh (Fr.mono kw.out (fun _ _ e => Or.inl e)), fy, fz, jl, zmh (OwnX.nil _ _), zmh rfl, zmh rfl⟩)
  case round =>
   obtain ⟨k, lv, lo, hk, rfl, RF, RV, RO, RP, RL, RM, RN⟩ := hrel; by_cases hlt : k < n
   ·obtain ⟨A7, c7, e7, _, _, jA⟩ := zno RV.out
    injection e7 with e7 _ nR; subst e7 nR; obtain ⟨g7, bw, rfl, _, bK⟩ := jA (by omega); obtain ⟨x, hx⟩ : ∃ x, l[k]? = some x := ⟨_, zmj (by rw [HN.out]; exact hlt)⟩
    first
     | guard_hyp ag
       have cc : ∀ j, j < 2 -> ∀ u, (ziA x)[j]? = some u -> wr.cell? ⟨g7, bw + (k * 2 + j), none⟩ = some u := fun j hj u hu =>
        bK (k * 2 + j) u (by rw [zby ziA (fun _ => rfl) l k x hx j hj]; exact hu)
     | have cc : ∀ j, j < 4 -> ∀ u, (exd x)[j]? = some u -> wr.cell? ⟨g7, bw + (k * 4 + j), none⟩ = some u := fun j hj u hu =>
        bK (k * 4 + j) u (by rw [zdy exd (fun _ => rfl) l k x hx j hj]; exact hu)
    first | (guard_hyp ag; have c0 : wr.cell? ⟨g7, bw + k * 2, none⟩ = some (.int .u64 x.ref) := cc 0 (by omega) _ rfl) | (have c0 : wr.cell? ⟨g7, bw + k * 4, none⟩ = some (.int .u64 x.ref) := cc 0 (by omega) _ rfl)
    first | (guard_hyp bU; have c1 : wr.cell? ⟨g7, bw + k * 4 + 1, none⟩ = some (.int .i64 x.t) := cc 1 (by omega) _ rfl) | skip
    first | (guard_hyp bU; have c2 : wr.cell? ⟨g7, bw + k * 4 + 2, none⟩ = some (.float .f64 x.v) := cc 2 (by omega) _ rfl) | skip
    first | (guard_hyp ag; have c1 : wr.cell? ⟨g7, bw + k * 2 + 1, none⟩ = some (.string (zau x.labs)) := cc 1 (by omega) _ rfl) | (have c3 : wr.cell? ⟨g7, bw + k * 4 + 3, none⟩ = some (.string (zau x.labs)) := cc 3 (by omega) _ rfl)
    first | (guard_hyp bU; have hsf := zbU) | skip
    obtain ⟨u1, u2⟩ := HXF.out x (zmp hx)
    first | (guard_hyp ag; obtain ⟨ref, labs⟩ := x) | (obtain ⟨ref, t, vv, labs⟩ := x)
    first | (guard_hyp ag; simp only [] at c0 c1 u1 u2) | (simp only [] at c0 c1 c2 c3 u1 u2)
    have hC := fun W => zk9 labs W (by omega) (fun p hp => by have := u2 p hp; omega) (zfu labs u1 u2); obtain ⟨st, bg⟩ := exE (zau labs)
    first | (guard_hyp ag; rw [bg] at hC c1) | (rw [bg] at hC c3)
    have HX := zmh hx; have HC := zmh hC; obtain ⟨aL, kL, rfl⟩ := zaa RL.out.1; clear bK jA cc hx hC bg u1 u2; go_wp2_with fail
    first | (guard_hyp ag; have ch := znm wr 127 #[.int .u64 ref, .string st]) | (have ch := znm wr 157 #[.int .u64 ref, .int .i64 t, .float .f64 vv, .string st])
    have s0 := ch.cell 0; have s1 := ch.cell 1
    first | (guard_hyp bU; have s2 := ch.cell 2) | skip
    first | (guard_hyp bU; have s4 := ch.cell 3) | skip
    first | (guard_hyp ag; have ff := RP.out.alloc (.cells #[.int .u64 ref, .string st] 127)) | (have ff := RP.out.alloc (.cells #[.int .u64 ref, .int .i64 t, .float .f64 vv, .string st] 157))
    first | (guard_hyp ag; have s3 := ff.cell 0) | (have s3 := ff.cell 3)
    first | (guard_hyp ag; simp only [zmC, zmA, zmB] at s0 s1 s3) | (simp only [zmC, zmA, zmB] at s0 s1 s2 s3 s4)
    have lP := RP.out.lt; have bD := RF.out.size; have hnn := HXN.out; have jE : lo.length <= 1048576 := by have h1 := RN.out; omega
    have lf : k < 4294967296 := by have h1 := RN.out; omega
    have cO := zmh ch; have mO := zmh ff
    first | (guard_hyp ag; have hC := HC.out (wr.alloc (.cells #[.int .u64 ref, .string st] 127)).drew) | (have hC := HC.out (wr.alloc (.cells #[.int .u64 ref, .int .i64 t, .float .f64 vv, .string st] 157)).drew)
    clear ch ff
    first | (guard_hyp ag; refine zaQ (fun w' => w'.cell? ⟨bp, 0, none⟩ = some (.slice aL lo.length kL) /\ w'.cell? ⟨wr.heap.size, 0, none⟩ = some (.int .u64 ref) /\ w'.cell? ⟨wr.heap.size, 1, none⟩ = some (.string st)) 9 (by kernel_rfl) ⟨s3, s0, s1⟩ ?_) | (refine zaQ (fun w' => w'.cell? ⟨bp, 3, none⟩ = some (.slice aL lo.length kL) /\ w'.cell? ⟨wr.heap.size, 0, none⟩ = some (.int .u64 ref) /\ w'.cell? ⟨wr.heap.size, 1, none⟩ = some (.int .i64 t) /\ w'.cell? ⟨wr.heap.size, 2, none⟩ = some (.float .f64 vv) /\ w'.cell? ⟨wr.heap.size, 3, none⟩ = some (.string st)) 14 (by kernel_rfl) ⟨s3, s0, s1, s2, s4⟩ ?_)
    intro hS
    first | (guard_hyp ag; refine wpT 0 (.pointer (some ⟨bp, 0, none⟩)) rfl (by intro w; go_simp) hS ?_) | (refine wpT 0 (.pointer (some ⟨bp, 3, none⟩)) rfl (by intro w; go_simp) hS ?_)
    try simp only [Act.put, zml, zmm, zmn]
    first | (guard_hyp ag; refine wpL 1 [9, 11] (.slice aL lo.length kL) rfl (by rintro w ⟨h1, h2, h3⟩; go_simp) hS ?_) | (refine wpL 1 [14, 16] (.slice aL lo.length kL) rfl (by rintro w ⟨h1, h2, h3, h4, h5⟩; go_simp) hS ?_)
    try simp only [Act.put, zml, zmm, zmn]
    refine wpT 2 (.pointer (some ⟨wr.heap.size, 0, none⟩)) rfl (by intro w; go_simp) hS ?_; try simp only [Act.put, zml, zmm, zmn]
    first | (guard_hyp ag; refine wpL 3 [7, 8, 9, 11] (.int .u64 ref) rfl (by rintro w ⟨h1, h2, h3⟩; go_simp) hS ?_) | (refine wpL 3 [12, 13, 14, 16] (.int .u64 ref) rfl (by rintro w ⟨h1, h2, h3, h4, h5⟩; go_simp) hS ?_)
    try simp only [Act.put, zml, zmm, zmn]
    refine wpT 4 (.pointer (some ⟨wr.heap.size, 1, none⟩)) rfl (by intro w; go_simp) hS ?_; try simp only [Act.put, zml, zmm, zmn]
    first | (guard_hyp ag; refine wpL 5 [6, 7, 8, 9, 11] (.agg #[.string st]) rfl (by rintro w ⟨h1, h2, h3⟩; go_simp) hS ?_) | (refine wpL 5 [12, 13, 14, 16] (.int .i64 t) rfl (by rintro w ⟨h1, h2, h3, h4, h5⟩; go_simp) hS ?_)
    try simp only [Act.put, zml, zmm, zmn]
    first | (guard_hyp bU; refine wpT 6 (.pointer (some ⟨wr.heap.size, 2, none⟩)) rfl (by intro w; go_simp) hS ?_) | skip
    first | (guard_hyp bU; try simp only [Act.put, zml, zmm, zmn]) | skip
    first | (guard_hyp bU; refine wpL 7 [8, 12, 13, 14, 16] (.float .f64 vv) rfl (by rintro w ⟨h1, h2, h3, h4, h5⟩; go_simp) hS ?_) | skip
    first | (guard_hyp bU; try simp only [Act.put, zml, zmm, zmn]) | skip
    first | (guard_hyp bU; refine wpT 9 (.pointer (some ⟨wr.heap.size, 3, none⟩)) rfl (by intro w; go_simp) hS ?_) | skip
    first | (guard_hyp bU; try simp only [Act.put, zml, zmm, zmn]) | skip
    first | (guard_hyp bU; refine wpL 10 [11, 12, 13, 14, 16] (.agg #[.string st]) rfl (by rintro w ⟨h1, h2, h3, h4, h5⟩; go_simp) hS ?_) | skip
    first | (guard_hyp bU; try simp only [Act.put, zml, zmm, zmn]) | skip
    first | (guard_hyp ag; refine zao 6 (by kernel_rfl) rfl (by rfl) (fun K hK => ?_)) | (refine zao 8 (by kernel_rfl) rfl (by rfl) (fun K hK => ?_))
    first | (guard_hyp bU; go_simp) | skip
    first | (guard_hyp bU; go_at_call 73) | skip
    first | (guard_hyp bU; refine (zdB _ _).mono ?_) | skip
    first | (guard_hyp bU; rintro r w' ⟨rfl, rfl⟩) | skip
    first | (guard_hyp bU; refine hK.out _ _ hS ?_) | skip
    first | (guard_hyp bU; clear hK K) | skip
    first | (guard_hyp bU; try simp only [Act.put, zml, zmm, zmn]) | skip
    first | (guard_hyp bU; refine zao 11 (by kernel_rfl) rfl (by rfl) (fun K hK => ?_)) | skip
    go_simp; go_at_call 70
    refine hC.mono ?_; rintro r w5 ⟨v5, rfl, al, ap⟩; obtain ⟨a5, k5, rfl⟩ := zaa al
    first | (guard_hyp ag; have F5 := zmh (((znl (fun _ => False) wr).alloc (.cells #[.int .u64 ref, .string st] 127)).drew.same ap)) | (have F5 := zmh (((znl (fun _ => False) wr).alloc (.cells #[.int .u64 ref, .int .i64 t, .float .f64 vv, .string st] 157)).drew.same ap))
    have P5 := zmh (mO.out.drew.fr ap id); have B5 := zmh (cO.out.drew.fr ap id)
    first | (guard_hyp ag; have iR : w5.cell? ⟨bp, 0, none⟩ = some (.slice aL lo.length kL) /\ w5.cell? ⟨wr.heap.size, 0, none⟩ = some (.int .u64 ref) /\ w5.cell? ⟨wr.heap.size, 1, none⟩ = some (.string st) := ⟨P5.out.cell 0, B5.out.cell 0, B5.out.cell 1⟩) | (have iR : w5.cell? ⟨bp, 3, none⟩ = some (.slice aL lo.length kL) /\ w5.cell? ⟨wr.heap.size, 0, none⟩ = some (.int .u64 ref) /\ w5.cell? ⟨wr.heap.size, 1, none⟩ = some (.int .i64 t) /\ w5.cell? ⟨wr.heap.size, 2, none⟩ = some (.float .f64 vv) /\ w5.cell? ⟨wr.heap.size, 3, none⟩ = some (.string st) := ⟨P5.out.cell 3, B5.out.cell 0, B5.out.cell 1, B5.out.cell 2, B5.out.cell 3⟩)
    have lZ := F5.out.size; have N5 := zmh (zah al (base' := w.heap.size) (by simp; omega)); have L5 := zmh (RL.out.fr F5.out (fun _ _ _ e => e)); refine hK.out _ _ iR ?_; clear hK K hS hC al ap; try simp only [Act.put, zml, zmm, zmn]
    first | (guard_hyp ag; refine wpT 7 (.agg #[.int .u64 ref, .slice a5 labs.length k5]) rfl (by intro w; go_simp) iR ?_) | (refine wpT 12 (.agg #[.int .u64 ref, .int .i64 t, .int .u64 vv, .slice a5 labs.length k5]) rfl (by intro w; go_simp) iR ?_)
    try simp only [Act.put, zml, zmm, zmn]
    first | (guard_hyp ag; refine zao 8 (by kernel_rfl) rfl (by rfl) (fun K hK => ?_)) | (refine zao 13 (by kernel_rfl) rfl (by rfl) (fun K hK => ?_))
    go_simp
    first | (guard_hyp ag; refine hK.out _ _ ⟨(P5.out.alloc _).cell 0, (B5.out.alloc _).cell 0, (B5.out.alloc _).cell 1⟩ ?_) | (refine hK.out _ _ ⟨(P5.out.alloc _).cell 3, (B5.out.alloc _).cell 0, (B5.out.alloc _).cell 1, (B5.out.alloc _).cell 2, (B5.out.alloc _).cell 3⟩ ?_)
    clear hK K iR; try simp only [Act.put, zml, zmm, zmn]
    first | (guard_hyp ag; refine zaA 9 (by kernel_rfl) rfl (by kernel_rfl) (by rfl) (fun K hK => ?_)) | (refine zaA 14 (by kernel_rfl) rfl (by kernel_rfl) (by rfl) (fun K hK => ?_))
    first | (guard_hyp ag; refine zaw _ _ _ 46 46 (by rfl) w.heap.size 130 i1 _ 2 32 underlying46 gp ei dC fi rfl (by decide) (.slice aL lo.length kL) lo.length (lo.flatMap zfP) (by rfl) (L5.out.alloc _).1 _ 1 (zfP (⟨ref, labs⟩, .slice a5 labs.length k5)) (by rfl) (zaF underlying46 (znm w5 130 (zfP (⟨ref, labs⟩, .slice a5 labs.length k5)).toArray) rfl (by simp [zfP, Value.oneCell'])) (by unfold maxLen; omega) (by omega) (by simp; omega) ?_) | (refine zaw _ _ _ 49 49 (by rfl) w.heap.size 159 i1 _ 4 48 underlying49 gp ei dC fi rfl (by decide) (.slice aL lo.length kL) lo.length (lo.flatMap exc) (by rfl) (L5.out.alloc _).1 _ 1 (exc (⟨ref, t, vv, labs⟩, .slice a5 labs.length k5)) (by rfl) (zaF underlying49 (znm w5 159 (exc (⟨ref, t, vv, labs⟩, .slice a5 labs.length k5)).toArray) rfl (by simp [exc, Value.oneCell'])) (by unfold maxLen; omega) (by omega) (by simp; omega) ?_)
    intro v' w2 ac ad av
    obtain ⟨a9, k9, rfl⟩ := zaa ac; have dN := zmh ((P5.out.alloc _).grown ad (Ne.symm (zak RL.out.1 RP.out (by decide))))
    first | (guard_hyp ag; have p9 := dN.out.cell 0) | (have p9 := dN.out.cell 3)
    first | (guard_hyp ag; have z9 := dN.out.frozen 0) | (have z9 := dN.out.frozen 3)
    simp at p9; refine hK.out _ _ ?_; clear hK K; try simp only [Act.put, zml, zmm, zmn]
    first | (guard_hyp ag; refine zaA 10 (by kernel_rfl) rfl (by kernel_rfl) (by rfl) (fun K hK => ?_)) | (refine zaA 15 (by kernel_rfl) rfl (by kernel_rfl) (by rfl) (fun K hK => ?_))
    go_simp; refine hK.out _ _ ?_; clear hK K
    first | (guard_hyp ag; refine zaA 11 (by kernel_rfl) rfl (by kernel_rfl) (by rfl) (fun K hK => ?_)) | (refine zaA 16 (by kernel_rfl) rfl (by kernel_rfl) (by rfl) (fun K hK => ?_))
    go_simp; refine hK.out _ _ ?_; clear hK K; refine zbv (by kernel_rfl) ?_ _
    first | (guard_hyp ag; have cV : Blk (w2.setCell ⟨bp, 0, none⟩ (.slice a9 (lo.length + 1) k9)) bp 54 #[.slice a9 (lo.length + 1) k9, .slice none 0 0, .slice none 0 0, .slice none 0 0, .slice none 0 0, .slice none 0 0, .slice none 0 0] := by simpa using dN.out.set_ 0 (.slice a9 (lo.length + 1) k9)) | (have cV : Blk (w2.setCell ⟨bp, 3, none⟩ (.slice a9 (lo.length + 1) k9)) bp 54 #[.slice none 0 0, .slice none 0 0, .slice none 0 0, .slice a9 (lo.length + 1) k9, .slice none 0 0, .slice none 0 0, .slice none 0 0] := by simpa using dN.out.set_ 3 (.slice a9 (lo.length + 1) k9))
    first | (guard_hyp ag; have O5 := (RO.out.fr F5.out id).alloc (.cells (zfP (⟨ref, labs⟩, .slice a5 labs.length k5)).toArray 130)) | (have O5 := (RO.out.fr F5.out id).alloc (.cells (exc (⟨ref, t, vv, labs⟩, .slice a5 labs.length k5)).toArray 159))
    first | (guard_hyp ag; have aU : Blk (w2.setCell ⟨bp, 0, none⟩ (.slice a9 (lo.length + 1) k9)) bo 4 #[.bool false] := (O5.grown ad (Ne.symm (zak RL.out.1 RO.out (by decide)))).far (p := ⟨bp, 0, none⟩) (znn RO.out RP.out (by decide)) _) | (have aU : Blk (w2.setCell ⟨bp, 3, none⟩ (.slice a9 (lo.length + 1) k9)) bo 4 #[.bool false] := (O5.grown ad (Ne.symm (zak RL.out.1 RO.out (by decide)))).far (p := ⟨bp, 3, none⟩) (znn RO.out RP.out (by decide)) _)
    first
     | guard_hyp ag
       have dR : OwnR w.heap.size w2 (.slice a9 (lo.length + 1) k9) (lo ++ [(⟨ref, labs⟩, .slice a5 labs.length k5)]) :=
        OwnR.push (p := (⟨ref, labs⟩, .slice a5 labs.length k5)) (L5.out.alloc _) (N5.out.alloc _) ad ac
     | have dR : OwnX w.heap.size w2 (.slice a9 (lo.length + 1) k9) (lo ++ [(⟨ref, t, vv, labs⟩, .slice a5 labs.length k5)]) :=
        OwnX.push (p := (⟨ref, t, vv, labs⟩, .slice a5 labs.length k5)) (L5.out.alloc _) (N5.out.alloc _) ad ac
    first | (guard_hyp ag; have cz : OwnR w.heap.size (w2.setCell ⟨bp, 0, none⟩ (.slice a9 (lo.length + 1) k9)) (.slice a9 (lo.length + 1) k9) (lo ++ [(⟨ref, labs⟩, .slice a5 labs.length k5)]) := dR.off dN.out (by decide) (by decide) (Fr.put_ w2 bp 0 _)) | (have cz : OwnX w.heap.size (w2.setCell ⟨bp, 3, none⟩ (.slice a9 (lo.length + 1) k9)) (.slice a9 (lo.length + 1) k9) (lo ++ [(⟨ref, t, vv, labs⟩, .slice a5 labs.length k5)]) := dR.off dN.out (by decide) (by decide) (Fr.put_ w2 bp 3 _))
    first
     | guard_hyp ag
       have fG : Fr (fun j => some j = (Value.slice aL lo.length kL).ownBlock ∨ j = bp) wr (w2.setCell ⟨bp, 0, none⟩ (.slice a9 (lo.length + 1) k9)) :=
        (((F5.out.mono (S' := fun j => some j = (Value.slice aL lo.length kL).ownBlock ∨ j = bp) (fun _ _ e => e.elim)).alloc _).grown ad (fun g hg => .inl (.inl hg.symm))).setCell (p := ⟨bp, 0, none⟩) (.inl (.inr rfl)) _
     | have fG : Fr (fun j => some j = (Value.slice aL lo.length kL).ownBlock ∨ j = bp) wr (w2.setCell ⟨bp, 3, none⟩ (.slice a9 (lo.length + 1) k9)) :=
        (((F5.out.mono (S' := fun j => some j = (Value.slice aL lo.length kL).ownBlock ∨ j = bp) (fun _ _ e => e.elim)).alloc _).grown ad (fun g hg => .inl (.inl hg.symm))).setCell (p := ⟨bp, 3, none⟩) (.inl (.inr rfl)) _
    first
     | guard_hyp ag
       have dn : (w2.setCell ⟨bp, 0, none⟩ (.slice a9 (lo.length + 1) k9)).ownsRow w.heap.size 127 2 (.slice (some ⟨g7, bw, none⟩) n k6) n (l.flatMap ziA) := zai RV.out fG (fun g hg e => by
        rcases e with e | e
        ·exact zb4 RV.out RL.out.1 (by decide) g hg e.symm
        ·exact zak RV.out RP.out (by decide) (by rw [hg, e]))
     | have dn : (w2.setCell ⟨bp, 3, none⟩ (.slice a9 (lo.length + 1) k9)).ownsRow w.heap.size 157 4 (.slice (some ⟨g7, bw, none⟩) n k6) n (l.flatMap exd) := zai RV.out fG (fun g hg e => by
        rcases e with e | e
        ·exact zb4 RV.out RL.out.1 (by decide) g hg e.symm
        ·exact zak RV.out RP.out (by decide) (by rw [hg, e]))
    first
     | guard_hyp ag
       have bN : Fr (fun j => j = bb ∨ j = bp) w (w2.setCell ⟨bp, 0, none⟩ (.slice a9 (lo.length + 1) k9)) := RF.out.trans fG (fun j hj e => by
        rcases e with e | e
        ·have := (RL.out.1.lt j e.symm).1; omega
        ·exact .inr e)
     | have bN : Fr (fun j => j = bb ∨ j = bp) w (w2.setCell ⟨bp, 3, none⟩ (.slice a9 (lo.length + 1) k9)) := RF.out.trans fG (fun j hj e => by
        rcases e with e | e
        ·have := (RL.out.1.lt j e.symm).1; omega
        ·exact .inr e)
    first
     | guard_hyp ag
       have c9 : (lo ++ [((⟨ref, labs⟩ : Ser), Value.slice a5 labs.length k5)]).map Prod.fst = (l.take (k + 1)).map zjE := by
        rw [zmS, HX.out, zmH, zmH, RM.out]; rfl
     | have c9 : (lo ++ [((⟨ref, t, vv, labs⟩ : Exm), Value.slice a5 labs.length k5)]).map Prod.fst = (l.take (k + 1)).map zjF := by
        rw [zmS, HX.out, zmH, zmH, RM.out]; rfl
    first | (guard_hyp ag; have cG : (lo ++ [((⟨ref, labs⟩ : Ser), Value.slice a5 labs.length k5)]).length = k + 1 := by rw [zmi, RN.out]; rfl) | (have cG : (lo ++ [((⟨ref, t, vv, labs⟩ : Exm), Value.slice a5 labs.length k5)]).length = k + 1 := by rw [zmi, RN.out]; rfl)
    have NP := zmh cV; have NO := zmh aU; have NL := zmh cz; have NV := zmh dn; have NF := zmh bN; have NM := zmh c9; have NN := zmh cG
    first | (guard_hyp ag; clear cV aU dR cz dn bN c9 cG fG ac ad av p9 z9 c0 c1 s0 s1 s3 O5 L5 N5 F5 P5 B5) | (clear cV aU dR cz dn bN c9 cG fG ac ad av p9 z9 c0 c1 c2 c3 s0 s1 s2 s3 s4 O5 L5 N5 F5 P5 B5)
    go_wp2; go_roundw
    case rel => exact ⟨k + 1, _, _, by omega, by go_num, NF, NV, NO, NP, NL, NM, NN⟩
    case measure => simp [intOf]; omega
   ·obtain rfl : k = n := by omega
    have o0 := RO.out.cell 0; have o1 := RO.out.frozen 0; simp at o0
    first | (guard_hyp ag; have W1 : Blk (wr.setCell ⟨bo, 0, none⟩ (.bool (zbk xs).isSome)) bo 4 #[.bool (zbk xs).isSome] := by simpa using RO.out.set_ 0 (.bool (zbk xs).isSome)) | (have W1 : Blk (wr.setCell ⟨bo, 0, none⟩ (.bool (zbB xs).isSome)) bo 4 #[.bool (zbB xs).isSome] := by simpa using RO.out.set_ 0 (.bool (zbB xs).isSome))
    first | (guard_hyp ag; have W2 := RP.out.far (p := ⟨bo, 0, none⟩) (znn RP.out RO.out (by decide)) (.bool (zbk xs).isSome)) | (have W2 := RP.out.far (p := ⟨bo, 0, none⟩) (znn RP.out RO.out (by decide)) (.bool (zbB xs).isSome))
    first | (guard_hyp ag; have gg := OwnR.off RL.out RO.out (by decide) (by decide) (Fr.put_ wr bo 0 (.bool (zbk xs).isSome))) | (have gg := OwnX.off RL.out RO.out (by decide) (by decide) (Fr.put_ wr bo 0 (.bool (zbB xs).isSome)))
    first | (guard_hyp ag; have W4 : Fr (fun k => k = bb ∨ k = bp ∨ k = bo) w (wr.setCell ⟨bo, 0, none⟩ (.bool (zbk xs).isSome)) := (Fr.mono (S' := fun k => k = bb ∨ k = bp ∨ k = bo) RF.out (fun _ _ e => e.elim (fun h => Or.inl h) (fun h => Or.inr (Or.inl h)))).setCell (p := ⟨bo, 0, none⟩) (.inl (.inr (.inr rfl))) _) | (have W4 : Fr (fun k => k = bb ∨ k = bp ∨ k = bo) w (wr.setCell ⟨bo, 0, none⟩ (.bool (zbB xs).isSome)) := (Fr.mono (S' := fun k => k = bb ∨ k = bp ∨ k = bo) RF.out (fun _ _ e => e.elim (fun h => Or.inl h) (fun h => Or.inr (Or.inl h)))).setCell (p := ⟨bo, 0, none⟩) (.inl (.inr (.inr rfl))) _)
    rcases kB.out with ⟨rfl, aA⟩ | ⟨t, ae, rfl, aA⟩; all_goals
     rw [aA] at W1 W2 gg W4; have io := zmh W1; have jO := zmh W2; have eQ := zmh gg; have hW4 := zmh W4; clear W1 W2 gg W4; go_wp2_with fail
     go_end0; refine ⟨rfl, hW4.out, by rw [aA]; exact io.out, lv, lo, jO.out, eQ.out, ?_⟩; have e1 : l.take k = l := zmq (by rw [HN.out]; exact zmt _); rw [RM.out, e1, <- mP.out, znj]
theorem ziI : type_of% (zcj.1 trivial) := zcj.1 trivial
theorem zlj : type_of% (zcj.2 trivial) := zcj.2 trivial
end Go.Proofs.YtbkookiigkckdaaGreatDoor
