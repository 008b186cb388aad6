/- Texts of this seat, merged and shortened. -/
import Derived.Test.YtbkookiigkckdaaGreatDoorK15
set_option linter.unusedVariables false
set_option linter.unusedSimpArgs false
set_option maxRecDepth 100000
set_option maxHeartbeats 8000000
namespace Go.Proofs.YtbkookiigkckdaaGreatDoor
open Go.RowKit Go.Proofs.Tryz
theorem zkx (l : List Lab) (hl : l.length <= 12) (hs : ∀ p ∈ l, p.1.size <= 600 /\ p.2.size <= 600) (r : List UInt8) : zfl (some (zbj l ++ r)) /\ zfR (some (zbj l ++ r)) = (l, some r) := by
 have gi : ∀ p ∈ l, p.1.size < 18446744073709551616 /\ p.2.size < 18446744073709551616 := fun p hp => by have := hs p hp; omega
 have a : gUv (some (zbj l ++ r)) = (l.length, some (l.flatMap zbN ++ r)) := by unfold zbj; rw [zlP]; exact zeC l.length (by omega) _
 have b : zfR (some (zbj l ++ r)) = (l, some r) := by
  unfold zfR; rw [a]; show zba (some (l.flatMap zbN ++ r)) l.length = _; rw [zgv l r gi l.length (zlY _), zmd, List.drop_length]; rfl
 refine ⟨⟨by rw [a]; show l.length <= 4096; omega, fun k hk => ?_, fun p hp => ?_⟩, b⟩
 ·rw [a] at hk ⊢
  have cR : k < l.length := hk; show (gUv (zba (some (l.flatMap zbN ++ r)) k).2).1 < _ /\ (gUv (zcn (zba (some (l.flatMap zbN ++ r)) k).2).2).1 < _; rw [zgv l r gi k (by omega), List.drop_eq_getElem_cons cR, zl1]; have hm := hs _ (List.getElem_mem cR); obtain ⟨p, hp⟩ := exE (l[k]); rw [hp] at hm ⊢
  have e : zbN p ++ (l.drop (k + 1)).flatMap zbN ++ r = zaM p.1 ++ (zaM p.2 ++ ((l.drop (k + 1)).flatMap zbN ++ r)) := by unfold zbN; simp only [zlP]
  rw [e]; show (gUv (some (zaM p.1 ++ _))).1 < _ /\ (gUv (zcn (some (zaM p.1 ++ (zaM p.2 ++ ((l.drop (k + 1)).flatMap zbN ++ r))))).2).1 < _; rw [zfe _ _ (by omega), zdP _ _ (by omega)]; show p.1.size < _ /\ (gUv (some (zaM p.2 ++ _))).1 < _; rw [zfe _ _ (by omega)]; exact ⟨by omega, by omega⟩
 ·rw [b] at hp
  have := hs p hp; omega
theorem zfK (l : List Lab) (hl : l.length <= 12) (hs : ∀ p ∈ l, p.1.size <= 600 /\ p.2.size <= 600) : (zaE l).length <= 12 /\ ∀ p ∈ zaE l, p.1.size <= 600 /\ p.2.size <= 600 :=
 have hp := (zb0 ltL zc5 zcC zcB l).2
 ⟨by rw [zaZ]; exact hl, fun p hm => hs p (hp.mem_iff.mp hm)⟩
def tos (x : Ser) : SerD := ⟨x.ref, zaE x.labs⟩
theorem zf6 (s : Ser) (hs : zhd s) (r : List UInt8) : zdV (some (zbX s ++ r)) /\ zbe (some (zbX s ++ r)) = (tos s, some r) := by
 obtain ⟨h1, h2, h3, _⟩ := hs; obtain ⟨q1, q2⟩ := zfK s.labs h2 h3; obtain ⟨f, g⟩ := zkx (zaE s.labs) q1 q2 r; have a : zac (some (zbX s ++ r)) = (s.ref, some (zbj (zaE s.labs) ++ r)) := by unfold zbX; rw [zlP]; exact zaS s.ref h1 _
 constructor
 ·unfold zdV
  rw [a]; exact f
 ·unfold zbe
  rw [a]; show (SerD.mk s.ref (zfR (some (zbj (zaE s.labs) ++ r))).1, (zfR (some (zbj (zaE s.labs) ++ r))).2) = _; rw [g]; rfl
theorem be8_pos (v : Nat) (r : List UInt8) : ∃ c t, Lib.beBytes 8 v ++ r = c :: t := by
 rcases h : Lib.beBytes 8 v ++ r with _ | ⟨c, t⟩
 ·have := zmC List.length h
  simp [zlW] at this
 ·exact ⟨c, t, rfl⟩
theorem zhy (s : Ser) : ∃ c r, zbX s = c :: r := by unfold zbX; exact be8_pos _ _
theorem zkb (l : List Ser) (hl : ∀ s ∈ l, zhd s) : zbk (zb4 l) = some (l.map tos) := by
 have hL := zc3 zbe zbX tos zhd (fun x r hx => (zf6 x hx r).2) zhy l (l.flatMap zbX).length [] hl (zgz zbX zhy l); unfold zbk zb4; rw [zbq, if_pos rfl, hL]; rfl
def GoodR (st : St) : Prop := st = none ∨ ∃ l : List Ser, (∀ s ∈ l, zhd s) /\ st = some (l.flatMap zbX)
theorem labG_none : zfR none = ([], none) := rfl
theorem zfr : zfl none := by
 have e : gUv none = (0, none) := rfl; exact ⟨by rw [e]; exact zlX _, fun k hk => by rw [e] at hk; exact absurd hk (zmx _), fun p hp => by rw [labG_none] at hp; cases hp⟩
theorem zk3 (l : List UInt8) (h : GoodR (some l)) : zdV (some l) /\ GoodR (zbe (some l)).2 := by
 rcases h with h | ⟨l', fR, e⟩
 ·cases h
 ·injection e with e
  subst e; rcases l' with _ | ⟨s, l'⟩
  ·show zdV (some []) /\ GoodR (zbe (some [])).2
   exact ⟨zfr, .inl rfl⟩
  ·obtain ⟨h1, h2⟩ := zf6 s (fR s (by simp)) (l'.flatMap zbX)
   rw [zl1]; exact ⟨h1, .inr ⟨l', fun x hx => fR x (by simp [hx]), by rw [h2]⟩⟩
theorem goodR_rec (l : List Ser) (hl : ∀ s ∈ l, zhd s) (r : List UInt8) (e : zb4 l = 1 :: r) : GoodR (some r) := by
 have e2 : 1 :: l.flatMap zbX = 1 :: r := e; injection e2 with _ e2; exact .inr ⟨l, hl, by rw [e2]⟩
def toe (x : Exm) : ExD := ⟨x.ref, x.t, x.v, zaE x.labs⟩
theorem zgE (f s : Exm) (hs : zfJ s) (r : List UInt8) : zep (some (zbp f s ++ r)) /\ zaU f.ref f.t (some (zbp f s ++ r)) = (toe s, some r) := by
 obtain ⟨w1, w2, w3, w4, h2, h3, _⟩ := hs; obtain ⟨q1, q2⟩ := zfK s.labs h2 h3; obtain ⟨p1, p2⟩ := zkx (zaE s.labs) q1 q2 r; have e0 : zbp f s ++ r = Lib.uvarint (Lib.zigzag (xRef f s)) ++ (Lib.uvarint (Lib.zigzag (xT f s)) ++ (Lib.beBytes 8 s.v ++ (zbj (zaE s.labs) ++ r))) := by
  unfold zbp; simp only [zlP]
 have a1 : zaH (some (zbp f s ++ r)) = (xRef f s, some (Lib.uvarint (Lib.zigzag (xT f s)) ++ (Lib.beBytes 8 s.v ++ (zbj (zaE s.labs) ++ r)))) := by rw [e0]; exact zcm _ (zad _).1 (zad _).2 _
 have a2 : zaH (zaH (some (zbp f s ++ r))).2 = (xT f s, some (Lib.beBytes 8 s.v ++ (zbj (zaE s.labs) ++ r))) := by rw [a1]; exact zcm _ (zad _).1 (zad _).2 _
 have a3 : zac (zaH (zaH (some (zbp f s ++ r))).2).2 = (s.v, some (zbj (zaE s.labs) ++ r)) := by rw [a2]; exact zaS s.v w4 _
 constructor
 ·unfold zep
  rw [a3]; exact p1
 ·unfold zaU
  rw [a3, a2, a1]; show (ExD.mk (u64 ((f.ref : Int) + u64 (xRef f s))) (wrap64 (f.t + xT f s)) s.v (zfR (some (zbj (zaE s.labs) ++ r))).1, (zfR (some (zbj (zaE s.labs) ++ r))).2) = _; rw [p2]; unfold xRef xT toe; rw [zgc _ _ w1, zkr _ _ w2 w3]
theorem zhE (f s : Exm) : ∃ c r, zbp f s = c :: r := by unfold zbp; exact zjk _ _
theorem ziJ (f : Exm) (hf : zfJ f) (X : List UInt8) : (zac (some (zbK f ++ X))).1 = f.ref /\ zav (zac (some (zbK f ++ X))).2 = (f.t, some X) := by
 have h1 := zaS f.ref hf.1 (Lib.beBytes 8 (u64 f.t) ++ X); have h2 := zaS (u64 f.t) (zkq _) X; unfold zbK; rw [zlP, h1]; refine ⟨rfl, ?_⟩; show (i64 (zac (some (Lib.beBytes 8 (u64 f.t) ++ X))).1, (zac (some (Lib.beBytes 8 (u64 f.t) ++ X))).2) = _; rw [h2]; show (i64 (u64 f.t), some X) = _; rw [zjX _ hf.2.1 hf.2.2.1]
theorem hdrX_pos (f : Exm) (X : List UInt8) : zbK f ++ X ≠ [] := by
 intro h; have := zmC List.length h; unfold zbK at this; simp [zlW] at this
theorem zja (rest : List UInt8) : zbE (4 :: rest) = zbO rest := rfl
theorem ziX (f : Exm) (r : List Exm) : zbD (f :: r) = 4 :: (zbK f ++ (f :: r).flatMap (zbp f)) := rfl
theorem zkh (l : List Exm) (hl : ∀ s ∈ l, zfJ s) : zbE (zbD l) = some (l.map toe) := by
 rcases l with _ | ⟨f, r⟩
 ·rfl
 ·have hf := hl f (by simp)
  rw [ziX, zja]; obtain ⟨X, hX⟩ := exE ((f :: r).flatMap (zbp f)); have ai := zgz (zbp f) (zhE f) (f :: r); have hL := zc3 (zaU f.ref f.t) (zbp f) toe zfJ (fun x r hx => (zgE f x hx r).2) (zhE f) (f :: r) (zbK f ++ X).length [] hl (by rw [zlN, <- hX]; omega); rw [hX] at hL ⊢; obtain ⟨g1, g2⟩ := ziJ f hf X
  unfold zbO; rw [zmI (hdrX_pos f X), g1, g2]; simp only []; rw [hL]; rfl
def GoodX (f : Exm) (st : St) : Prop := st = none ∨ ∃ l : List Exm, (∀ s ∈ l, zfJ s) /\ st = some (l.flatMap (zbp f))
theorem zk1 (f : Exm) (l : List UInt8) (h : GoodX f (some l)) : zep (some l) /\ GoodX f (zaU f.ref f.t (some l)).2 := by
 rcases h with h | ⟨l', fR, e⟩
 ·cases h
 ·injection e with e
  subst e; rcases l' with _ | ⟨s, l'⟩
  ·show zep (some []) /\ GoodX f (zaU f.ref f.t (some [])).2
   exact ⟨zfr, .inl rfl⟩
  ·obtain ⟨h1, h2⟩ := zgE f s (fR s (by simp)) (l'.flatMap (zbp f))
   rw [zl1]; exact ⟨h1, .inr ⟨l', fun x hx => fR x (by simp [hx]), by rw [h2]⟩⟩
theorem goodX_rec (l : List Exm) (hl : ∀ s ∈ l, zfJ s) : ∃ al : St -> Prop,
 (∀ rest, zbD l = 4 :: rest -> ∀ l, al (some l) -> zep (some l) /\ al (zaU (zac (some rest)).1 (zav (zac (some rest)).2).1 (some l)).2) /\
 (∀ rest, zbD l = 4 :: rest -> rest ≠ [] -> al (zav (zac (some rest)).2).2) := by
 rcases l with _ | ⟨f, r⟩
 ·refine ⟨fun _ => False, fun _ _ _ h => h.elim, fun rest e hr => ?_⟩
  have e2 : [4] = 4 :: rest := e; injection e2 with _ e2; exact absurd e2.symm hr
 ·obtain ⟨X, hX⟩ := exE ((f :: r).flatMap (zbp f))
  obtain ⟨g1, g2⟩ := ziJ f (hl f (by simp)) X; have he : ∀ rest, zbD (f :: r) = 4 :: rest -> rest = zbK f ++ X := fun rest e => by
   have e2 : 4 :: (zbK f ++ (f :: r).flatMap (zbp f)) = 4 :: rest := e; injection e2 with _ e2; rw [<- e2, hX]
  refine ⟨GoodX f, fun rest e l' h => ?_, fun rest e _ => ?_⟩
  ·rw [he rest e, g1, g2]
   exact zk1 f l' h
  ·rw [he rest e, g2, <- hX]
   exact .inr ⟨_, hl, rfl⟩
def zlK (pre : List Mrk) (xs : List UInt8) : List Mrk := match zaG xs with | some l => pre ++ l | none => []
def ReadEndsM (w : World) (bb bp bo : Nat) (pre : List Mrk) (xs : List UInt8) (r : Ending) (w' : World) : Prop :=
 r = .returned (.tuple #[]) /\ Fr (fun k => k = bb ∨ k = bp ∨ k = bo) w w' /\ Blk w' bo 4 #[.bool (zaG xs).isSome] /\
  ∃ lv, Blk w' bp 54 #[.slice none 0 0, .slice none 0 0, .slice none 0 0, .slice none 0 0, .slice none 0 0, lv, .slice none 0 0] /\ w'.ownsRow w.heap.size 168 2 lv (zlK pre xs).length ((zlK pre xs).flatMap Mrk.c)
theorem zgh {α : Type} (step : St -> α × St) : ∀ (k : Nat) (st : St) (acc : List α), (zaj step k st acc).1.length <= acc.length + k
 | 0, st, acc => by simp [zaj]
 | k + 1, none, acc => by simp [zaj]
 | k + 1, some [], acc => by simp [zaj]
 | k + 1, some (c :: r), acc => by
   have h := zgh step k (step (some (c :: r))).2 (acc ++ [(step (some (c :: r))).1]); rw [zlN, zl3] at h; show (zaj step k (step (some (c :: r))).2 (acc ++ [(step (some (c :: r))).1])).1.length <= _; omega
theorem zek {α : Type} {t : UInt8} {step : St -> α × St} {xs : List UInt8} {l : List α} (h : zbq t step xs = some l) : l.length <= xs.length := by
 rcases xs with _ | ⟨b, rest⟩
 ·cases h
 ·unfold zbq at h
  simp only [] at h; split at h
  ·have hl := zgh step rest.length (some rest) []
   split at h
   ·rename_i e
    injection h with h; rw [e] at hl; subst h; simp at hl ⊢; omega
   ·cases h
  ·cases h
theorem outM_len (pre : List Mrk) (xs : List UInt8) : (zlK pre xs).length <= pre.length + xs.length := by
 unfold zlK; split
 ·rename_i h
  have := zek h; rw [zlN]; omega
 ·simp
theorem zgn {w w' : World} {base : Nat} {o : Option Nat} {pre : List Mrk} {xs : List UInt8} {r : Ending} (h : zbh w base o pre xs r w') :
 ∃ v' e, r = .returned (.tuple #[v', e]) /\ w'.ownsRow base 166 2 v' (zlK pre xs).length ((zlK pre xs).flatMap Mrk.c) /\ Fr (fun k => some k = o) w w' /\ ((e = .nilIface /\ (zaG xs).isSome = true) ∨ (∃ t a, e = .iface t a /\ (zaG xs).isSome = false)) := by
 unfold zbh at h; unfold zlK; rcases hd : zaG xs with _ | l
 ·rw [hd] at h
  obtain ⟨hf, t, a, rfl⟩ := h; exact ⟨_, _, rfl, zl0 _ _ _ _, hf, .inr ⟨_, _, rfl, rfl⟩⟩
 ·rw [hd] at h
  obtain ⟨hf, v', rfl, ho⟩ := h; exact ⟨_, _, rfl, ho, hf, .inl ⟨rfl, rfl⟩⟩
theorem zfP {W w5 w6 : World} {b t : Nat} {cs : Array Value} {v5 : Value} {n : Nat} {xs : List Value} (h : Blk W b t cs) (aq : Fr (fun _ => False) W.drew w5) (ho : w5.ownsRow W.drew.heap.size 166 2 v5 n xs) (aS : Fr (fun k => some k = v5.ownBlock) w5 w6) : Blk w6 b t cs :=
 (h.drew.fr aq (fun e => e)).fr aS (fun e => by have h1 := (ho.lt b e.symm).1; have h2 : b < W.heap.size := h.lt; exact zmw _ (zmb h2 h1))
theorem info130 : (prog.info? 130).map (fun i => (i.zero, i.size, i.bytes)) = some (some (.agg #[.int .u64 0, .slice none 0 0]), 2, 32) := by kernel_rfl
def ziB (pre : List SerD) (xs : List UInt8) : List SerD := match zbk xs with | some l => pre ++ l | none => []
def zjs (x : SerD) : Ser := ⟨x.ref, x.labs⟩
theorem OwnR.alloc {base : Nat} {w : World} {v : Value} {lo : List (Ser × Value)} (h : OwnR base w v lo) (o : Obj) : OwnR base (w.alloc o) v lo := h.fr ((zmR (fun _ => False) w).alloc o) (fun _ _ _ e => e)
theorem sero_serd (l : List Ser) : l.flatMap sero = (l.map tos).flatMap zit := by rw [List.flatMap_map]; rfl
def ReadEndsR (w : World) (bb bp bo : Nat) (pre : List SerD) (xs : List UInt8) (r : Ending) (w' : World) : Prop :=
 r = .returned (.tuple #[]) /\ Fr (fun k => k = bb ∨ k = bp ∨ k = bo) w w' /\ Blk w' bo 4 #[.bool (zbk xs).isSome] /\
  ∃ lv lo, Blk w' bp 54 #[lv, .slice none 0 0, .slice none 0 0, .slice none 0 0, .slice none 0 0, .slice none 0 0, .slice none 0 0] /\ OwnR w.heap.size w' lv lo /\ lo.map Prod.fst = (ziB pre xs).map zjs
theorem zis {b0 d : Nat} {w w' : World} {base : Nat} {o : Option Nat} {pre : List SerD} {xs : List UInt8} {r : Ending} (h : zcM b0 d w base o pre xs r w') :
 ∃ v' e, r = .returned (.tuple #[v', e]) /\ w'.ownsRow base 127 2 v' (ziB pre xs).length ((ziB pre xs).flatMap zit) /\ Fr (fun k => some k = o ∨ zdx w b0 d k) w w' /\ ((e = .nilIface /\ (zbk xs).isSome = true) ∨ (∃ t a, e = .iface t a /\ (zbk xs).isSome = false)) := by
 unfold zcM at h; unfold ziB; rcases hd : zbk xs with _ | l
 ·rw [hd] at h
  obtain ⟨hf, t, a, rfl⟩ := h; exact ⟨_, _, rfl, zl0 _ _ _ _, hf, .inr ⟨_, _, rfl, rfl⟩⟩
 ·rw [hd] at h
  obtain ⟨hf, v', rfl, ho⟩ := h; exact ⟨_, _, rfl, ho, hf, .inl ⟨rfl, rfl⟩⟩
theorem zfO {W w5 w6 : World} {b t b0 d : Nat} {cs : Array Value} {v5 : Value} {n : Nat} {xs : List Value} (h : Blk W b t cs) (aq : Fr (fun _ => False) W.drew w5) (ho : w5.ownsRow W.drew.heap.size 127 2 v5 n xs) (aS : Fr (fun k => some k = v5.ownBlock ∨ zdx w5 b0 d k) w5 w6) (hb : b < b0 /\ b0 <= d) : Blk w6 b t cs :=
 (h.drew.fr aq (fun e => e)).fr aS (fun e => by
   rcases e with e | e | ⟨e, _⟩
   ·have h1 := (ho.lt b e.symm).1; have h2 : b < W.heap.size := h.lt; exact zmw _ (zmb h2 h1)
   ·omega
   ·omega)
theorem info159 : (prog.info? 159).map (fun i => (i.zero, i.size, i.bytes)) = some (some (.agg #[.int .u64 0, .int .i64 0, .int .u64 0, .slice none 0 0]), 4, 48) := by kernel_rfl
def OwnX (base : Nat) (w : World) (v : Value) (lo : List (Exm × Value)) : Prop :=
 w.ownsRow base 159 4 v lo.length (lo.flatMap exc) /\ ∀ p ∈ lo, w.ownsRow base 40 2 p.2 p.1.labs.length (p.1.labs.flatMap zaI)
theorem OwnX.nil (base : Nat) (w : World) : OwnX base w (.slice none 0 0) [] := ⟨zl0 _ _ _ _, fun p hp => by cases hp⟩
theorem OwnX.fr {S : Nat -> Prop} {base : Nat} {w w' : World} {v : Value} {lo : List (Exm × Value)} (h : OwnX base w v lo) (hf : Fr S w w') (hs : ∀ k, base <= k -> k < w.heap.size -> ¬ S k) : OwnX base w' v lo :=
 ⟨zai h.1 hf (fun g hg => hs g (h.1.lt g hg).1 (zar h.1 hg)), fun p hp => zai (h.2 p hp) hf (fun g hg => hs g ((h.2 p hp).lt g hg).1 (zar (h.2 p hp) hg))⟩
theorem OwnX.mono {base base' : Nat} {w : World} {v : Value} {lo : List (Exm × Value)} (h : OwnX base w v lo) (hb : base' <= base) : OwnX base' w v lo :=
 ⟨zah h.1 hb, fun p hp => zah (h.2 p hp) hb⟩
theorem OwnX.sl {base : Nat} {w : World} {v : Value} {lo : List (Exm × Value)} (h : OwnX base w v lo) : SlX (fun g => base <= g /\ g < w.heap.size) w v lo :=
 ⟨(zmU h.1).mono (fun g hg => ⟨(h.1.lt g hg).1, zar h.1 hg⟩), fun p hp => (zmU (h.2 p hp)).mono (fun g hg => ⟨((h.2 p hp).lt g hg).1, zar (h.2 p hp) hg⟩)⟩
theorem OwnX.push {base : Nat} {w w2 : World} {v v' : Value} {lo : List (Exm × Value)} {p : Exm × Value} (h : OwnX base w v lo) (hp : w.ownsRow base 40 2 p.2 p.1.labs.length (p.1.labs.flatMap zaI)) (hg : w.grownBy w2 v.ownBlock)
 (ho : w2.ownsRow base 159 4 v' (lo.length + 1) (lo.flatMap exc ++ exc p)) : OwnX base w2 v' (lo ++ [p]) := by
 have hf : Fr (fun k => some k = v.ownBlock) w w2 := (zmR (fun k => some k = v.ownBlock) w).grown hg (fun k hk => .inl hk.symm); refine ⟨by simpa using ho, fun q hq => ?_⟩; rcases zms.1 hq with hq | hq
 ·exact zai (h.2 q hq) hf (fun g jD e => zcb (h.2 q hq) h.1 (by decide) g jD e.symm)
 ·rw [zmt] at hq
  subst hq; exact zai hp hf (fun g jD e => zcb hp h.1 (by decide) g jD e.symm)
theorem OwnX.off {base : Nat} {w w' : World} {v : Value} {lo : List (Exm × Value)} {d t : Nat} {cs : Array Value} (h : OwnX base w v lo) (hb : Blk w d t cs) (h1 : 159 ≠ t) (h2 : 40 ≠ t) (hf : Fr (fun k => k = d) w w') : OwnX base w' v lo :=
 ⟨zai h.1 hf (fun g hg e => zak h.1 hb h1 (by rw [hg, e])), fun p hp => zai (h.2 p hp) hf (fun g hg e => zak (h.2 p hp) hb h2 (by rw [hg, e]))⟩
theorem OwnX.alloc {base : Nat} {w : World} {v : Value} {lo : List (Exm × Value)} (h : OwnX base w v lo) (o : Obj) : OwnX base (w.alloc o) v lo := h.fr ((zmR (fun _ => False) w).alloc o) (fun _ _ _ e => e)
def ziA (pre : List ExD) (xs : List UInt8) : List ExD := match zbE xs with | some l => pre ++ l | none => []
def zjt (x : ExD) : Exm := ⟨x.ref, x.t, x.v, x.labs⟩
theorem exo_exd (l : List Exm) : l.flatMap exo = (l.map toe).flatMap exd := by rw [List.flatMap_map]; rfl
def ReadEndsX (w : World) (bb bp bo : Nat) (pre : List ExD) (xs : List UInt8) (r : Ending) (w' : World) : Prop :=
 r = .returned (.tuple #[]) /\ Fr (fun k => k = bb ∨ k = bp ∨ k = bo) w w' /\ Blk w' bo 4 #[.bool (zbE xs).isSome] /\
  ∃ lv lo, Blk w' bp 54 #[.slice none 0 0, .slice none 0 0, .slice none 0 0, lv, .slice none 0 0, .slice none 0 0, .slice none 0 0] /\ OwnX w.heap.size w' lv lo /\ lo.map Prod.fst = (ziA pre xs).map zjt
theorem ziQ {b0 d : Nat} {w w' : World} {base : Nat} {o : Option Nat} {pre : List ExD} {xs : List UInt8} {r : Ending} (h : zeF (fun k => some k = o ∨ zdx w b0 d k) w base pre (zbE xs) r w') :
 ∃ v' e, r = .returned (.tuple #[v', e]) /\ w'.ownsRow base 157 4 v' (ziA pre xs).length ((ziA pre xs).flatMap exd) /\ Fr (fun k => some k = o ∨ zdx w b0 d k) w w' /\ ((e = .nilIface /\ (zbE xs).isSome = true) ∨ (∃ t a, e = .iface t a /\ (zbE xs).isSome = false)) := by
 unfold zeF at h; unfold ziA; rcases hd : zbE xs with _ | l
 ·rw [hd] at h
  obtain ⟨hf, t, a, rfl⟩ := h; exact ⟨_, _, rfl, zl0 _ _ _ _, hf, .inr ⟨_, _, rfl, rfl⟩⟩
 ·rw [hd] at h
  obtain ⟨hf, v', rfl, ho⟩ := h; exact ⟨_, _, rfl, ho, hf, .inl ⟨rfl, rfl⟩⟩
theorem zfL {W w5 w6 : World} {b t b0 d : Nat} {cs : Array Value} {v5 : Value} {n : Nat} {xs : List Value} (h : Blk W b t cs) (aq : Fr (fun _ => False) W.drew w5) (ho : w5.ownsRow W.drew.heap.size 157 4 v5 n xs) (aS : Fr (fun k => some k = v5.ownBlock ∨ zdx w5 b0 d k) w5 w6) (hb : b < b0 /\ b0 <= d) : Blk w6 b t cs :=
 (h.drew.fr aq (fun e => e)).fr aS (fun e => by
   rcases e with e | e | ⟨e, _⟩
   ·have h1 := (ho.lt b e.symm).1; have h2 : b < W.heap.size := h.lt; exact zmw _ (zmb h2 h1)
   ·omega
   ·omega)
theorem zcr : (∀ (_ : True) (te : TypeId) (pe : Value) (bb bk bq bp bo : Nat) (P : Nat -> Prop) (q0 q1 q2 q3 q4 q5 q6 v : Value) (xs : List UInt8) (w : World) (hb : Blk w bb 44 #[v]) (hv : Sl P w v 1 xs.length (bc xs)) (hk : Blk w bk 3 #[.int .i64 1]) (hq : Blk w bq 54 #[q0, q1, q2, q3, q4, q5, q6]) (pre : List (Ser × Value)) (hs : SlR P w q0 pre) (bj : pre.length <= 1024)
 (fh : ∀ p ∈ pre, LabOk p.1.labs 12 600) (dM : ∀ x ∈ ziB ((pre.map Prod.fst).map tos) xs, x.labs.length <= 4096 /\ ∀ p ∈ x.labs, p.1.size <= 1048576 /\ p.2.size <= 1048576) (kE : (ziB ((pre.map Prod.fst).map tos) xs).length <= 1048576)
 (hp : Blk w bp 54 #[.slice none 0 0, .slice none 0 0, .slice none 0 0, .slice none 0 0, .slice none 0 0, .slice none 0 0, .slice none 0 0]) (ho : Blk w bo 4 #[.bool false]) (hE : w.cell? ⟨2, 0, none⟩ = some (.iface te pe)) (bg : xs.length <= 1073741824)
 (dX : ∀ g, P g -> g ≠ bb) (dy : bp ≠ bq) (h2 : bb ≠ 2 /\ bp ≠ 2 /\ bo ≠ 2)
 (al : St -> Prop) (hG : ∀ l, al (some l) -> zdV (some l) /\ al (zbe (some l)).2) (aY : ∀ r, xs = 1 :: r -> al (some r)),
 Calls prog 66 #[.pointer (some ⟨bb, 0, none⟩), .pointer (some ⟨bk, 0, none⟩), .pointer (some ⟨bq, 0, none⟩), .pointer (some ⟨bp, 0, none⟩), .pointer (some ⟨bo, 0, none⟩)] w (ReadEndsR w bb bp bo ((pre.map Prod.fst).map tos) xs)) /\ (∀ (_ : True) (te : TypeId) (pe : Value) (bb bk bq bp bo : Nat) (P : Nat -> Prop) (q0 q1 q2 q3 q4 q5 q6 v : Value) (xs : List UInt8) (w : World) (hb : Blk w bb 44 #[v]) (hv : Sl P w v 1 xs.length (bc xs)) (hk : Blk w bk 3 #[.int .i64 4]) (hq : Blk w bq 54 #[q0, q1, q2, q3, q4, q5, q6]) (pre : List (Exm × Value)) (hs : SlX P w q3 pre) (bj : pre.length <= 1024)
 (fh : ∀ p ∈ pre, LabOk p.1.labs 12 600) (dM : ∀ x ∈ ziA ((pre.map Prod.fst).map toe) xs, x.labs.length <= 4096 /\ ∀ p ∈ x.labs, p.1.size <= 1048576 /\ p.2.size <= 1048576) (kE : (ziA ((pre.map Prod.fst).map toe) xs).length <= 1048576)
 (hp : Blk w bp 54 #[.slice none 0 0, .slice none 0 0, .slice none 0 0, .slice none 0 0, .slice none 0 0, .slice none 0 0, .slice none 0 0]) (ho : Blk w bo 4 #[.bool false]) (hE : w.cell? ⟨2, 0, none⟩ = some (.iface te pe)) (bg : xs.length <= 1073741824)
 (dX : ∀ g, P g -> g ≠ bb) (dy : bp ≠ bq) (h2 : bb ≠ 2 /\ bp ≠ 2 /\ bo ≠ 2)
 (al : St -> Prop) (hG : ∀ rest, xs = 4 :: rest -> ∀ l, al (some l) -> zep (some l) /\ al (zaU (zac (some rest)).1 (zav (zac (some rest)).2).1 (some l)).2) (aY : ∀ rest, xs = 4 :: rest -> rest ≠ [] -> al (zav (zac (some rest)).2).2),
 Calls prog 66 #[.pointer (some ⟨bb, 0, none⟩), .pointer (some ⟨bk, 0, none⟩), .pointer (some ⟨bq, 0, none⟩), .pointer (some ⟨bp, 0, none⟩), .pointer (some ⟨bo, 0, none⟩)] w (ReadEndsX w bb bp bo ((pre.map Prod.fst).map toe) xs)) := by
 refine ⟨fun aj te pe bb bk bq bp bo P q0 q1 q2 q3 q4 q5 q6 v xs w hb hv hk hq pre hs bj fh dM kE hp ho hE bg dX dy h2 al hG aY => ?_, fun cf te pe bb bk bq bp bo P q0 q1 q2 q3 q4 q5 q6 v xs w hb hv hk hq pre hs bj fh dM kE hp ho hE bg dX dy h2 al hG aY => ?_⟩; all_goals
  have ib := zlM hG; have ia := zlM aY; have HXF := zlM dM; have HXN := zlM kE; have oK := zlM fh; have h2w : 2 < w.heap.size := zlT w _ hE; have qb := hb.lt; have pY := hp.lt; have pZ := ho.lt; have pX := hq.lt; clear hG aY dM kE fh; obtain ⟨i0, aB, ay, ax, aA⟩ := info_parts zfd; have HB := zlM hb; have HV := zlM hv
  have HK := zlM hk; have HQ := zlM hq; have HS := zlM hs; have HP := zlM hp; have HO := zlM ho; have HE := zlM hE; have kr := zlM dX; have bT : ∃ A m c, v = .slice A m c := let ⟨A, c, h, _⟩ := hv; ⟨A, _, c, h⟩
  obtain ⟨A, m, c, rfl⟩ := bT; clear hb hv hk hq hs hp ho hE dX; go_enter func66, ntmps66; go_wp2_with (first | (go_at_call 67; refine (zkU _ _).mono ?_; rintro r w1 ⟨v1, rfl, ⟨gb, rfl, hob⟩, ag⟩; have HOB := zlM hob; clear hob; refine Hid.out ?_))
  have av := ((HB.out.fr ag (fun e => e)).alloc (.cells #[.slice (some ⟨gb, 0, none⟩) 0 0, .string ⟨#[]⟩, .slice none 0 0] 119)).alloc (.cells #[] 5); have b1 := av.cell 0; simp at b1; clear av; refine zlM ?_; go_wp2_with (at_builtin; refine Hid.out ?_)
  have er := zmQ (base := w.heap.size) (e := 5) (size := 1) (w1.alloc (.cells #[.slice (some ⟨gb, 0, none⟩) 0 0, .string ⟨#[]⟩, .slice none 0 0] 119)) #[] 0 (by have := ag.size; simp; omega) (zlX _) rfl; have dC : Fr (fun _ => False) w ((w1.alloc (.cells #[.slice (some ⟨gb, 0, none⟩) 0 0, .string ⟨#[]⟩, .slice none 0 0] 119)).alloc (.cells #[] 5)) := (ag.alloc _).alloc _
  have bw := ag.size; refine zlM ?_; have kV : (w1.alloc (.cells #[.slice (some ⟨gb, 0, none⟩) 0 0, .string ⟨#[]⟩, .slice none 0 0] 119)).heap.size = w1.heap.size + 1 := by simp
  rw [kV] at er; clear b1; have hBW := bld_new HOB.out; have oG : Blk ((w1.alloc (.cells #[.slice (some ⟨gb, 0, none⟩) 0 0, .string ⟨#[]⟩, .slice none 0 0] 119)).alloc (.cells #[] 5)) (w1.heap.size + 1) 5 #[] := by have h := zmS (w1.alloc (.cells #[.slice (some ⟨gb, 0, none⟩) 0 0, .string ⟨#[]⟩, .slice none 0 0] 119)) 5 #[]; simpa using h
  generalize World.alloc _ (Obj.cells #[] 5) = WA at er dC hBW oG ⊢; have HBW := zlM hBW; have cA := zlM oG; clear hBW oG; have hsA := dC.size; have cO := zde underlying44 (HV.out.fr dC (fun _ _ e => e)) (zfx xs)
  refine zae _ rfl _ _ 44 44 rfl w.heap.size 5 i0 (.int .u8 0) 1 1 underlying44 aB ay ax aA rfl (by decide) (.slice (some ⟨w1.heap.size + 1, 0, none⟩) 0 0) 0 [] rfl er (.slice A m c) xs.length (bc xs) rfl cO (by unfold maxLen; omega) (by omega) (by omega) ?_; intro v' w2 ac ad aw
  rw [zmh, zmo] at ac; obtain ⟨a2, k2, rfl⟩ := zaa ac; have eN : ∀ k, (Value.slice (some ⟨w1.heap.size + 1, 0, none⟩) 0 0).ownBlock = some k -> w.heap.size <= k := fun k hk => by
   have hk : w1.heap.size + 1 = k := zmB hk; omega
  have F2 : Fr (fun _ => False) w w2 := dC.grown ad (fun k hk => .inr (eN k hk)); have dx : ∃ g2 aM, a2 = some ⟨g2, 0, none⟩ /\ w.heap.size <= g2 /\ Blk w2 g2 5 aM /\ xs.length <= k2 /\ k2 <= maxLen /\ aM.toList.take xs.length = bc xs := by
   rcases ac.2 with ⟨h, _⟩ | ⟨g2, aP, aM, h, h1, h3, h4, h5, _, h6⟩
   ·rw [h] at aw
    rcases aw with aw | aw <;> exact absurd aw (by simp [Value.ownBlock])
   ·injection h with e1 e2 e3
    subst e3; exact ⟨g2, aM, e1, h1, h3, h4, h5, by simpa using h6⟩
  have cr : ∀ k, (Value.slice a2 xs.length k2).ownBlock = some k -> w.heap.size <= k := fun k hk => (ac.lt k hk).1; have lB := HB.out.lt; have gB := HB.out.fr F2 (fun e => e); have y0 := gB.cell 0; have y1 := gB.frozen 0; simp at y0
  have F3 : Fr (fun k => k = bb) w (w2.setCell ⟨bb, 0, none⟩ (.slice a2 xs.length k2)) := (F2.mono (S' := fun k => k = bb) (fun _ _ e => e.elim)).setCell (p := ⟨bb, 0, none⟩) (.inl rfl) _; have O3 : (w2.setCell ⟨bb, 0, none⟩ (.slice a2 xs.length k2)).ownsRow w.heap.size 5 1 (.slice a2 xs.length k2) xs.length (bc xs) := zai ac (Fr.put_ w2 bb 0 _) (fun k hk e => by have := cr k hk; omega)
  have B3 : Blk (w2.setCell ⟨bb, 0, none⟩ (.slice a2 xs.length k2)) bb 44 #[.slice a2 xs.length k2] := by simpa using gB.set_ 0 (.slice a2 xs.length k2)
  have K3 := (HK.out.fr F3 (fun e => zmT HK.out HB.out (by decide) e)).cell 0; have Q3 := HQ.out.fr F3 (fun e => zmT HQ.out HB.out (by decide) e); have P3 := HP.out.fr F3 (fun e => zmT HP.out HB.out (by decide) e); have O4 := HO.out.fr F3 (fun e => zmT HO.out HB.out (by decide) e)
  have E3 : (w2.setCell ⟨bb, 0, none⟩ (.slice a2 xs.length k2)).cell? ⟨2, 0, none⟩ = some (.iface te pe) := by
   rw [F3.cell (p := ⟨2, 0, none⟩) (zlT w _ HE.out) (fun e => h2.1 e.symm)]; exact HE.out
  simp at K3
  have qt : Bld w2 w.heap.size w1.heap.size [] ⟨#[]⟩ := HBW.out.fr (S := fun k => k = w1.heap.size + 1) ((zmR (fun k => k = w1.heap.size + 1) WA).grown ad (fun k hk => .inl (zmB hk).symm)) (by omega) (fun g' _ hc e => by
   obtain ⟨cs, hc⟩ := hc; subst e
   exact zmT hc cA.out (by decide) rfl)
  have qr := qt.fr (Fr.put_ w2 bb 0 (.slice a2 xs.length k2)) (by omega) (fun g' _ hc e => by
   obtain ⟨cs, hc⟩ := hc; subst e
   exact zmT hc gB (by decide) rfl)
  have lI := zlM qr; clear qt qr HBW cA; have bH := zlM F3; have es := zlM O3; have bI := zlM B3; have c8 := zlM Q3; have eO := zlM P3; have dq := zlM O4; have dK := zlM E3; have o9 := zlM cr; obtain ⟨g2, aM, rfl, eo, ct, cR, dz, dw⟩ := dx
  have R3 : Rec te pe (w2.setCell ⟨bb, 0, none⟩ (.slice (some ⟨g2, 0, none⟩) xs.length k2)) g2 aM xs (.slice (some ⟨g2, 0, none⟩) xs.length k2) := by
   refine ⟨0, k2, rfl, ct.far (p := ⟨bb, 0, none⟩) (by show g2 ≠ bb; omega) _, cR, ⟨by simp [maxLen] at dz; omega, by omega⟩, fun j u hu => ?_, E3⟩; rw [zmh, <- Array.getElem?_toList]; have hj : j < xs.length := by
    rcases zmf j xs.length with h | h
    ·exact h
    ·rw [zmg (by rw [zdF]; exact h)] at hu; cases hu
   rw [<- dw, List.getElem?_take_of_lt hj] at hu; exact hu
  have bC := zlM R3; have kU := ct.lt; clear R3 dz dw ct; clear F2 F3 O3 B3 Q3 P3 O4 E3 gB eN cr ac ad aw cO er dC ag; go_wp2_with fail
  generalize w2.setCell ⟨bb, 0, none⟩ (.slice (some ⟨g2, 0, none⟩) xs.length k2) = W3 at bH es bI c8 eO dq dK bC lI ⊢; have f9 := bC.out; have gl : g2 < W3.heap.size := let ⟨_, _, _, h, _⟩ := f9; h.lt
  have jc : 2 < W3.heap.size := zlT W3 _ dK.out; clear f9
  first | (guard_hyp aj; have hS3 : SlR P W3.drew q0 pre := HS.out.fr bH.out.drew (fun g hg e => kr.out g hg e)) | (have hS3 : SlX P W3.drew q3 pre := HS.out.fr bH.out.drew (fun g hg e => kr.out g hg e))
  first | (guard_hyp aj; have eH := zeU P q0 pre W3.drew hS3 (by omega) oK.out) | (have eH := zd1 P q3 pre W3.drew hS3 (by omega) oK.out)
  first | (guard_hyp aj; have eZ : ∃ A m c, q0 = .slice A m c := let ⟨A, c, h, _⟩ := HS.out.1; ⟨A, _, c, h⟩) | (have eZ : ∃ A m c, q3 = .slice A m c := let ⟨A, c, h, _⟩ := HS.out.1; ⟨A, _, c, h⟩)
  obtain ⟨Aq, mq, cq, rfl⟩ := eZ; have x0 := bI.out.cell 0
  first | (guard_hyp aj; have x1 := c8.out.cell 0) | (have x1 := c8.out.cell 3)
  have ky : W3.drew.cell? ⟨bb, 0, none⟩ = some (.slice (some ⟨g2, 0, none⟩) xs.length k2) := x0
  first | (guard_hyp aj; have ji : W3.drew.cell? ⟨bq, 0, none⟩ = some (.slice Aq mq cq) := x1) | (have ji : W3.drew.cell? ⟨bq, 3, none⟩ = some (.slice Aq mq cq) := x1)
  simp at x0 x1; clear y0 y1 K3
  first
   | guard_hyp aj
     go_region_held3 (fun w' => w'.cell? ⟨bb, 0, none⟩ = some (.slice (some ⟨g2, 0, none⟩) xs.length k2) /\ w'.cell? ⟨bq, 0, none⟩ = some (.slice Aq mq cq))
      ((first | (go_split_ands; refine ⟨?_, ?_⟩ <;> first | exact (bI.out.drew.fr aq (fun e => e)).cell 0 | exact (c8.out.drew.fr aq (fun e => e)).cell 0) | (go_split_ands; refine ⟨?_, ?_⟩ <;> first | exact KB.out.cell 0 | exact KQ.out.cell 0) | go_keep))
      ((first
        | (go_at_call 69; refine eH.mono ?_; rintro r5 w5 ⟨v5, rfl, am, aq⟩; rw [sero_serd, <- zma (f := tos)] at am)
        | (go_at_call 68; refine (zkc al ib.out te pe w.heap.size w1.heap.size g2 W3.drew.heap.size aM ((pre.map Prod.fst).map tos) xs _ v5 w5 (bC.out.fr (w := W3) (((zmR (fun _ => False) W3).drew).same aq) (fun e => e) (fun e => e)) am ⟨jc, aq.size, zmb gl aq.size⟩ (by rw [zma, zma]; omega) ia.out [] ⟨#[]⟩ (lI.out.fr (((zmR (fun _ => False) W3).drew).same aq) (fun e => e) (fun _ _ _ e => e)) ⟨zmv bH.out.size aq.size, h2w, bw⟩).mono ?_; rintro r6 w6 eI; obtain ⟨v6, e6, rfl, aO, aS, cn⟩ := zis eI; clear eI; have KB := zlM (zfO bI.out aq am aS ⟨qb, bw⟩); have KQ := zlM (zfO c8.out aq am aS ⟨pX, bw⟩))))
   | go_region_held3 (fun w' => w'.cell? ⟨bb, 0, none⟩ = some (.slice (some ⟨g2, 0, none⟩) xs.length k2) /\ w'.cell? ⟨bq, 3, none⟩ = some (.slice Aq mq cq))
      ((first | (go_split_ands; refine ⟨?_, ?_⟩ <;> first | exact (bI.out.drew.fr aq (fun e => e)).cell 0 | exact (c8.out.drew.fr aq (fun e => e)).cell 3) | (go_split_ands; refine ⟨?_, ?_⟩ <;> first | exact KB.out.cell 0 | exact KQ.out.cell 3) | go_keep))
      ((first
        | (go_at_call 78; refine eH.mono ?_; rintro r5 w5 ⟨v5, rfl, am, aq⟩; rw [exo_exd, <- zma (f := toe)] at am)
        | (go_at_call 77; refine (zki te pe w.heap.size w1.heap.size g2 W3.drew.heap.size aM ((pre.map Prod.fst).map toe) xs _ v5 w5 (bC.out.fr (w := W3) (((zmR (fun _ => False) W3).drew).same aq) (fun e => e) (fun e => e)) am ⟨jc, aq.size⟩ (by rw [zma, zma]; omega) al ib.out ia.out [] ⟨#[]⟩ (lI.out.fr (((zmR (fun _ => False) W3).drew).same aq) (fun e => e) (fun _ _ _ e => e)) ⟨zmv bH.out.size aq.size, h2w, bw⟩).mono ?_; rintro r6 w6 eI; obtain ⟨v6, e6, rfl, aO, aS, cn⟩ := ziQ eI; clear eI; have KB := zlM (zfL bI.out aq am aS ⟨qb, bw⟩); have KQ := zlM (zfL c8.out aq am aS ⟨pX, bw⟩))))
  have T6 : Fr (fun k => k = bb) w w6 := ((bH.out.trans (((zmR (fun _ => False) W3).drew).same aq) (fun _ _ e => e.elim)).trans aS (fun k hk e => by
   rcases e with e | e | ⟨e, _⟩
   ·have h1 := (am.lt k e.symm).1
    have h2 := bH.out.size; simp at h1; omega
   ·omega
   ·omega))
  first | (guard_hyp aj; have P6 := zfO eO.out aq am aS ⟨pY, bw⟩) | (have P6 := zfL eO.out aq am aS ⟨pY, bw⟩)
  first | (guard_hyp aj; have O6 := zfO dq.out aq am aS ⟨pZ, bw⟩) | (have O6 := zfL dq.out aq am aS ⟨pZ, bw⟩)
  have kC : w.heap.size <= W3.drew.heap.size := bH.out.size; have V6 := zah aO kC; have kq := zlM T6; have jf := zlM P6; have gq := zlM O6; have fy := zlM V6; have ks := zlM cn; have kJ := aq.size; have kI := aS.size; have gL : ∀ k, v6.ownBlock = some k -> k < w6.heap.size := fun k hk => zar aO hk
  clear x0 x1 ky ji eH T6 P6 O6 V6 cn am aq aO aS KB KQ es bI c8 eO dq dK bC bH lI
  first | (guard_hyp aj; obtain ⟨l, hl⟩ := exE (ziB ((pre.map Prod.fst).map tos) xs)) | (obtain ⟨l, hl⟩ := exE (ziA ((pre.map Prod.fst).map toe) xs))
  rw [hl] at fy HXF HXN; have mB := zlM hl; clear hl; obtain ⟨a6, k6, rfl⟩ := zaa fy.out; go_wp2_with fail
  obtain ⟨n, hn⟩ := exE l.length; have HN := zlM hn; rw [hn] at fy gL HXN ⊢; clear hn
  first | (guard_hyp aj; obtain ⟨i1, gD, ek, dZ, fI⟩ := info_parts info130) | (obtain ⟨i1, gD, ek, dZ, fI⟩ := info_parts info159)
  first
   | guard_hyp aj
     go_loopw [51] (fun i wr => ∃ (k : Nat) (lv : Value) (lo : List (Ser × Value)), k <= n /\ i = .int .i64 k /\ Hid (Fr (fun j => j = bb ∨ j = bp) w wr) /\ Hid (wr.ownsRow w.heap.size 127 2 (.slice a6 n k6) n (l.flatMap zit)) /\ Hid (Blk wr bo 4 #[.bool false]) /\
      Hid (Blk wr bp 54 #[lv, .slice none 0 0, .slice none 0 0, .slice none 0 0, .slice none 0 0, .slice none 0 0, .slice none 0 0]) /\ Hid (OwnR w.heap.size wr lv lo) /\ Hid (lo.map Prod.fst = (l.take k).map zjs) /\ Hid (lo.length = k)) (fun i _ => n - (intOf i).toNat)
   | go_loopw [143] (fun i wr => ∃ (k : Nat) (lv : Value) (lo : List (Exm × Value)), k <= n /\ i = .int .i64 k /\ Hid (Fr (fun j => j = bb ∨ j = bp) w wr) /\ Hid (wr.ownsRow w.heap.size 157 4 (.slice a6 n k6) n (l.flatMap exd)) /\ Hid (Blk wr bo 4 #[.bool false]) /\
      Hid (Blk wr bp 54 #[.slice none 0 0, .slice none 0 0, .slice none 0 0, lv, .slice none 0 0, .slice none 0 0, .slice none 0 0]) /\ Hid (OwnX w.heap.size wr lv lo) /\ Hid (lo.map Prod.fst = (l.take k).map zjt) /\ Hid (lo.length = k)) (fun i _ => n - (intOf i).toNat)
  case atStart => first | (guard_hyp aj; exact ⟨0, _, [], zlX _, rfl, zlM (Fr.mono kq.out (fun _ _ e => Or.inl e)), fy, gq, jf, zlM (OwnR.nil _ _), zlM rfl, zlM rfl⟩) | (exact ⟨0, _, [], zlX _, rfl, zlM (Fr.mono kq.out (fun _ _ e => Or.inl e)), fy, gq, jf, zlM (OwnX.nil _ _), zlM rfl, zlM rfl⟩)
  case round =>
   obtain ⟨k, lv, lo, hk, rfl, RF, RV, RO, RP, RL, RM, RN⟩ := hrel; by_cases hlt : k < n
   ·obtain ⟨A7, c7, e7, _, _, jt⟩ := zmU RV.out
    injection e7 with e7 _ nF; subst e7 nF; obtain ⟨g7, bi, rfl, _, bG⟩ := jt (by omega); obtain ⟨x, hx⟩ : ∃ x, l[k]? = some x := ⟨_, zlO (by rw [HN.out]; exact hlt)⟩
    first
     | guard_hyp aj
       have cc : ∀ j, j < 2 -> ∀ u, (zit x)[j]? = some u -> wr.cell? ⟨g7, bi + (k * 2 + j), none⟩ = some u := fun j hj u hu =>
        bG (k * 2 + j) u (by rw [zbB zit (fun _ => rfl) l k x hx j hj]; exact hu)
     | have cc : ∀ j, j < 4 -> ∀ u, (exd x)[j]? = some u -> wr.cell? ⟨g7, bi + (k * 4 + j), none⟩ = some u := fun j hj u hu =>
        bG (k * 4 + j) u (by rw [zdB exd (fun _ => rfl) l k x hx j hj]; exact hu)
    first | (guard_hyp aj; have c0 : wr.cell? ⟨g7, bi + k * 2, none⟩ = some (.int .u64 x.ref) := cc 0 (by omega) _ rfl) | (have c0 : wr.cell? ⟨g7, bi + k * 4, none⟩ = some (.int .u64 x.ref) := cc 0 (by omega) _ rfl)
    first | (guard_hyp cf; have c1 : wr.cell? ⟨g7, bi + k * 4 + 1, none⟩ = some (.int .i64 x.t) := cc 1 (by omega) _ rfl) | skip
    first | (guard_hyp cf; have c2 : wr.cell? ⟨g7, bi + k * 4 + 2, none⟩ = some (.float .f64 x.v) := cc 2 (by omega) _ rfl) | skip
    first | (guard_hyp aj; have c1 : wr.cell? ⟨g7, bi + k * 2 + 1, none⟩ = some (.string (zat x.labs)) := cc 1 (by omega) _ rfl) | (have c3 : wr.cell? ⟨g7, bi + k * 4 + 3, none⟩ = some (.string (zat x.labs)) := cc 3 (by omega) _ rfl)
    first | (guard_hyp cf; have pw := zbA) | skip
    obtain ⟨u1, u2⟩ := HXF.out x (zlU hx)
    first | (guard_hyp aj; obtain ⟨ref, labs⟩ := x) | (obtain ⟨ref, t, vv, labs⟩ := x)
    first | (guard_hyp aj; simp only [] at c0 c1 u1 u2) | (simp only [] at c0 c1 c2 c3 u1 u2)
    have hC := fun W => zkM labs W (by omega) (fun p hp => by have := u2 p hp; omega) (zfq labs u1 u2); obtain ⟨st, aZ⟩ := exE (zat labs)
    first | (guard_hyp aj; rw [aZ] at hC c1) | (rw [aZ] at hC c3)
    have HX := zlM hx; have HC := zlM hC; obtain ⟨aL, kL, rfl⟩ := zaa RL.out.1; clear bG jt cc hx hC aZ u1 u2; go_wp2_with fail
    first | (guard_hyp aj; have cj := zmS wr 127 #[.int .u64 ref, .string st]) | (have cj := zmS wr 157 #[.int .u64 ref, .int .i64 t, .float .f64 vv, .string st])
    have s0 := cj.cell 0; have s1 := cj.cell 1
    first | (guard_hyp cf; have s2 := cj.cell 2) | skip
    first | (guard_hyp cf; have s4 := cj.cell 3) | skip
    first | (guard_hyp aj; have fc := RP.out.alloc (.cells #[.int .u64 ref, .string st] 127)) | (have fc := RP.out.alloc (.cells #[.int .u64 ref, .int .i64 t, .float .f64 vv, .string st] 157))
    first | (guard_hyp aj; have s3 := fc.cell 0) | (have s3 := fc.cell 3)
    first | (guard_hyp aj; simp only [zl7, zl5, zl6] at s0 s1 s3) | (simp only [zl7, zl5, zl6] at s0 s1 s2 s3 s4)
    have lP := RP.out.lt; have bF := RF.out.size; have hnn := HXN.out; have jw : lo.length <= 1048576 := by have h1 := RN.out; omega
    have kS : k < 4294967296 := by have h1 := RN.out; omega
    have dt := zlM cj; have mA := zlM fc
    first | (guard_hyp aj; have hC := HC.out (wr.alloc (.cells #[.int .u64 ref, .string st] 127)).drew) | (have hC := HC.out (wr.alloc (.cells #[.int .u64 ref, .int .i64 t, .float .f64 vv, .string st] 157)).drew)
    clear cj fc
    first | (guard_hyp aj; refine zaV (fun w' => w'.cell? ⟨bp, 0, none⟩ = some (.slice aL lo.length kL) /\ w'.cell? ⟨wr.heap.size, 0, none⟩ = some (.int .u64 ref) /\ w'.cell? ⟨wr.heap.size, 1, none⟩ = some (.string st)) 9 (by kernel_rfl) ⟨s3, s0, s1⟩ ?_) | (refine zaV (fun w' => w'.cell? ⟨bp, 3, none⟩ = some (.slice aL lo.length kL) /\ w'.cell? ⟨wr.heap.size, 0, none⟩ = some (.int .u64 ref) /\ w'.cell? ⟨wr.heap.size, 1, none⟩ = some (.int .i64 t) /\ w'.cell? ⟨wr.heap.size, 2, none⟩ = some (.float .f64 vv) /\ w'.cell? ⟨wr.heap.size, 3, none⟩ = some (.string st)) 14 (by kernel_rfl) ⟨s3, s0, s1, s2, s4⟩ ?_)
    intro hS
    first | (guard_hyp aj; refine wpT 0 (.pointer (some ⟨bp, 0, none⟩)) rfl (by intro w; go_simp) hS ?_) | (refine wpT 0 (.pointer (some ⟨bp, 3, none⟩)) rfl (by intro w; go_simp) hS ?_)
    try simp only [Act.put, zlQ, zlR, zlS]
    first | (guard_hyp aj; refine wpL 1 [9, 11] (.slice aL lo.length kL) rfl (by rintro w ⟨h1, h2, h3⟩; go_simp) hS ?_) | (refine wpL 1 [14, 16] (.slice aL lo.length kL) rfl (by rintro w ⟨h1, h2, h3, h4, h5⟩; go_simp) hS ?_)
    try simp only [Act.put, zlQ, zlR, zlS]
    refine wpT 2 (.pointer (some ⟨wr.heap.size, 0, none⟩)) rfl (by intro w; go_simp) hS ?_; try simp only [Act.put, zlQ, zlR, zlS]
    first | (guard_hyp aj; refine wpL 3 [7, 8, 9, 11] (.int .u64 ref) rfl (by rintro w ⟨h1, h2, h3⟩; go_simp) hS ?_) | (refine wpL 3 [12, 13, 14, 16] (.int .u64 ref) rfl (by rintro w ⟨h1, h2, h3, h4, h5⟩; go_simp) hS ?_)
    try simp only [Act.put, zlQ, zlR, zlS]
    refine wpT 4 (.pointer (some ⟨wr.heap.size, 1, none⟩)) rfl (by intro w; go_simp) hS ?_; try simp only [Act.put, zlQ, zlR, zlS]
    first | (guard_hyp aj; refine wpL 5 [6, 7, 8, 9, 11] (.agg #[.string st]) rfl (by rintro w ⟨h1, h2, h3⟩; go_simp) hS ?_) | (refine wpL 5 [12, 13, 14, 16] (.int .i64 t) rfl (by rintro w ⟨h1, h2, h3, h4, h5⟩; go_simp) hS ?_)
    try simp only [Act.put, zlQ, zlR, zlS]
    first | (guard_hyp cf; refine wpT 6 (.pointer (some ⟨wr.heap.size, 2, none⟩)) rfl (by intro w; go_simp) hS ?_) | skip
    first | (guard_hyp cf; try simp only [Act.put, zlQ, zlR, zlS]) | skip
    first | (guard_hyp cf; refine wpL 7 [8, 12, 13, 14, 16] (.float .f64 vv) rfl (by rintro w ⟨h1, h2, h3, h4, h5⟩; go_simp) hS ?_) | skip
    first | (guard_hyp cf; try simp only [Act.put, zlQ, zlR, zlS]) | skip
    first | (guard_hyp cf; refine wpT 9 (.pointer (some ⟨wr.heap.size, 3, none⟩)) rfl (by intro w; go_simp) hS ?_) | skip
    first | (guard_hyp cf; try simp only [Act.put, zlQ, zlR, zlS]) | skip
    first | (guard_hyp cf; refine wpL 10 [11, 12, 13, 14, 16] (.agg #[.string st]) rfl (by rintro w ⟨h1, h2, h3, h4, h5⟩; go_simp) hS ?_) | skip
    first | (guard_hyp cf; try simp only [Act.put, zlQ, zlR, zlS]) | skip
    first | (guard_hyp aj; refine zap 6 (by kernel_rfl) rfl (by rfl) (fun K hK => ?_)) | (refine zap 8 (by kernel_rfl) rfl (by rfl) (fun K hK => ?_))
    first | (guard_hyp cf; go_simp) | skip
    first | (guard_hyp cf; go_at_call 73) | skip
    first | (guard_hyp cf; refine (zdE _ _).mono ?_) | skip
    first | (guard_hyp cf; rintro r w' ⟨rfl, rfl⟩) | skip
    first | (guard_hyp cf; refine hK.out _ _ hS ?_) | skip
    first | (guard_hyp cf; clear hK K) | skip
    first | (guard_hyp cf; try simp only [Act.put, zlQ, zlR, zlS]) | skip
    first | (guard_hyp cf; refine zap 11 (by kernel_rfl) rfl (by rfl) (fun K hK => ?_)) | skip
    go_simp; go_at_call 70
    refine hC.mono ?_; rintro r w5 ⟨v5, rfl, am, aq⟩; obtain ⟨a5, k5, rfl⟩ := zaa am
    first | (guard_hyp aj; have F5 := zlM (((zmR (fun _ => False) wr).alloc (.cells #[.int .u64 ref, .string st] 127)).drew.same aq)) | (have F5 := zlM (((zmR (fun _ => False) wr).alloc (.cells #[.int .u64 ref, .int .i64 t, .float .f64 vv, .string st] 157)).drew.same aq))
    have P5 := zlM (mA.out.drew.fr aq (fun e => e)); have B5 := zlM (dt.out.drew.fr aq (fun e => e))
    first | (guard_hyp aj; have iL : w5.cell? ⟨bp, 0, none⟩ = some (.slice aL lo.length kL) /\ w5.cell? ⟨wr.heap.size, 0, none⟩ = some (.int .u64 ref) /\ w5.cell? ⟨wr.heap.size, 1, none⟩ = some (.string st) := ⟨P5.out.cell 0, B5.out.cell 0, B5.out.cell 1⟩) | (have iL : w5.cell? ⟨bp, 3, none⟩ = some (.slice aL lo.length kL) /\ w5.cell? ⟨wr.heap.size, 0, none⟩ = some (.int .u64 ref) /\ w5.cell? ⟨wr.heap.size, 1, none⟩ = some (.int .i64 t) /\ w5.cell? ⟨wr.heap.size, 2, none⟩ = some (.float .f64 vv) /\ w5.cell? ⟨wr.heap.size, 3, none⟩ = some (.string st) := ⟨P5.out.cell 3, B5.out.cell 0, B5.out.cell 1, B5.out.cell 2, B5.out.cell 3⟩)
    have lM := F5.out.size; have N5 := zlM (zah am (base' := w.heap.size) (by simp; omega)); have L5 := zlM (RL.out.fr F5.out (fun _ _ _ e => e)); refine hK.out _ _ iL ?_; clear hK K hS hC am aq; try simp only [Act.put, zlQ, zlR, zlS]
    first | (guard_hyp aj; refine wpT 7 (.agg #[.int .u64 ref, .slice a5 labs.length k5]) rfl (by intro w; go_simp) iL ?_) | (refine wpT 12 (.agg #[.int .u64 ref, .int .i64 t, .int .u64 vv, .slice a5 labs.length k5]) rfl (by intro w; go_simp) iL ?_)
    try simp only [Act.put, zlQ, zlR, zlS]
    first | (guard_hyp aj; refine zap 8 (by kernel_rfl) rfl (by rfl) (fun K hK => ?_)) | (refine zap 13 (by kernel_rfl) rfl (by rfl) (fun K hK => ?_))
    go_simp
    first | (guard_hyp aj; refine hK.out _ _ ⟨(P5.out.alloc _).cell 0, (B5.out.alloc _).cell 0, (B5.out.alloc _).cell 1⟩ ?_) | (refine hK.out _ _ ⟨(P5.out.alloc _).cell 3, (B5.out.alloc _).cell 0, (B5.out.alloc _).cell 1, (B5.out.alloc _).cell 2, (B5.out.alloc _).cell 3⟩ ?_)
    clear hK K iL; try simp only [Act.put, zlQ, zlR, zlS]
    first | (guard_hyp aj; refine zaA 9 (by kernel_rfl) rfl (by kernel_rfl) (by rfl) (fun K hK => ?_)) | (refine zaA 14 (by kernel_rfl) rfl (by kernel_rfl) (by rfl) (fun K hK => ?_))
    first | (guard_hyp aj; refine zay _ _ _ 46 46 (by rfl) w.heap.size 130 i1 _ 2 32 underlying46 gD ek dZ fI rfl (by decide) (.slice aL lo.length kL) lo.length (lo.flatMap zim) (by rfl) (L5.out.alloc _).1 _ 1 (zim (⟨ref, labs⟩, .slice a5 labs.length k5)) (by rfl) (zaF underlying46 (zmS w5 130 (zim (⟨ref, labs⟩, .slice a5 labs.length k5)).toArray) rfl (by simp [zim, Value.oneCell'])) (by unfold maxLen; omega) (by omega) (by simp; omega) ?_) | (refine zay _ _ _ 49 49 (by rfl) w.heap.size 159 i1 _ 4 48 underlying49 gD ek dZ fI rfl (by decide) (.slice aL lo.length kL) lo.length (lo.flatMap exc) (by rfl) (L5.out.alloc _).1 _ 1 (exc (⟨ref, t, vv, labs⟩, .slice a5 labs.length k5)) (by rfl) (zaF underlying49 (zmS w5 159 (exc (⟨ref, t, vv, labs⟩, .slice a5 labs.length k5)).toArray) rfl (by simp [exc, Value.oneCell'])) (by unfold maxLen; omega) (by omega) (by simp; omega) ?_)
    intro v' w2 ac ad aw
    obtain ⟨a9, k9, rfl⟩ := zaa ac; have dQ := zlM ((P5.out.alloc _).grown ad (Ne.symm (zak RL.out.1 RP.out (by decide))))
    first | (guard_hyp aj; have p9 := dQ.out.cell 0) | (have p9 := dQ.out.cell 3)
    first | (guard_hyp aj; have z9 := dQ.out.frozen 0) | (have z9 := dQ.out.frozen 3)
    simp at p9; refine hK.out _ _ ?_; clear hK K; try simp only [Act.put, zlQ, zlR, zlS]
    first | (guard_hyp aj; refine zaA 10 (by kernel_rfl) rfl (by kernel_rfl) (by rfl) (fun K hK => ?_)) | (refine zaA 15 (by kernel_rfl) rfl (by kernel_rfl) (by rfl) (fun K hK => ?_))
    go_simp; refine hK.out _ _ ?_; clear hK K
    first | (guard_hyp aj; refine zaA 11 (by kernel_rfl) rfl (by kernel_rfl) (by rfl) (fun K hK => ?_)) | (refine zaA 16 (by kernel_rfl) rfl (by kernel_rfl) (by rfl) (fun K hK => ?_))
    go_simp; refine hK.out _ _ ?_; clear hK K; refine zbQ (by kernel_rfl) ?_ _
    first | (guard_hyp aj; have db : Blk (w2.setCell ⟨bp, 0, none⟩ (.slice a9 (lo.length + 1) k9)) bp 54 #[.slice a9 (lo.length + 1) k9, .slice none 0 0, .slice none 0 0, .slice none 0 0, .slice none 0 0, .slice none 0 0, .slice none 0 0] := by simpa using dQ.out.set_ 0 (.slice a9 (lo.length + 1) k9)) | (have db : Blk (w2.setCell ⟨bp, 3, none⟩ (.slice a9 (lo.length + 1) k9)) bp 54 #[.slice none 0 0, .slice none 0 0, .slice none 0 0, .slice a9 (lo.length + 1) k9, .slice none 0 0, .slice none 0 0, .slice none 0 0] := by simpa using dQ.out.set_ 3 (.slice a9 (lo.length + 1) k9))
    first | (guard_hyp aj; have O5 := (RO.out.fr F5.out (fun e => e)).alloc (.cells (zim (⟨ref, labs⟩, .slice a5 labs.length k5)).toArray 130)) | (have O5 := (RO.out.fr F5.out (fun e => e)).alloc (.cells (exc (⟨ref, t, vv, labs⟩, .slice a5 labs.length k5)).toArray 159))
    first | (guard_hyp aj; have aT : Blk (w2.setCell ⟨bp, 0, none⟩ (.slice a9 (lo.length + 1) k9)) bo 4 #[.bool false] := (O5.grown ad (Ne.symm (zak RL.out.1 RO.out (by decide)))).far (p := ⟨bp, 0, none⟩) (zmT RO.out RP.out (by decide)) _) | (have aT : Blk (w2.setCell ⟨bp, 3, none⟩ (.slice a9 (lo.length + 1) k9)) bo 4 #[.bool false] := (O5.grown ad (Ne.symm (zak RL.out.1 RO.out (by decide)))).far (p := ⟨bp, 3, none⟩) (zmT RO.out RP.out (by decide)) _)
    first
     | guard_hyp aj
       have dV : OwnR w.heap.size w2 (.slice a9 (lo.length + 1) k9) (lo ++ [(⟨ref, labs⟩, .slice a5 labs.length k5)]) :=
        OwnR.push (p := (⟨ref, labs⟩, .slice a5 labs.length k5)) (L5.out.alloc _) (N5.out.alloc _) ad ac
     | have dV : OwnX w.heap.size w2 (.slice a9 (lo.length + 1) k9) (lo ++ [(⟨ref, t, vv, labs⟩, .slice a5 labs.length k5)]) :=
        OwnX.push (p := (⟨ref, t, vv, labs⟩, .slice a5 labs.length k5)) (L5.out.alloc _) (N5.out.alloc _) ad ac
    first | (guard_hyp aj; have cE : OwnR w.heap.size (w2.setCell ⟨bp, 0, none⟩ (.slice a9 (lo.length + 1) k9)) (.slice a9 (lo.length + 1) k9) (lo ++ [(⟨ref, labs⟩, .slice a5 labs.length k5)]) := dV.off dQ.out (by decide) (by decide) (Fr.put_ w2 bp 0 _)) | (have cE : OwnX w.heap.size (w2.setCell ⟨bp, 3, none⟩ (.slice a9 (lo.length + 1) k9)) (.slice a9 (lo.length + 1) k9) (lo ++ [(⟨ref, t, vv, labs⟩, .slice a5 labs.length k5)]) := dV.off dQ.out (by decide) (by decide) (Fr.put_ w2 bp 3 _))
    first
     | guard_hyp aj
       have fG : Fr (fun j => some j = (Value.slice aL lo.length kL).ownBlock ∨ j = bp) wr (w2.setCell ⟨bp, 0, none⟩ (.slice a9 (lo.length + 1) k9)) :=
        (((F5.out.mono (S' := fun j => some j = (Value.slice aL lo.length kL).ownBlock ∨ j = bp) (fun _ _ e => e.elim)).alloc _).grown ad (fun g hg => .inl (.inl hg.symm))).setCell (p := ⟨bp, 0, none⟩) (.inl (.inr rfl)) _
     | have fG : Fr (fun j => some j = (Value.slice aL lo.length kL).ownBlock ∨ j = bp) wr (w2.setCell ⟨bp, 3, none⟩ (.slice a9 (lo.length + 1) k9)) :=
        (((F5.out.mono (S' := fun j => some j = (Value.slice aL lo.length kL).ownBlock ∨ j = bp) (fun _ _ e => e.elim)).alloc _).grown ad (fun g hg => .inl (.inl hg.symm))).setCell (p := ⟨bp, 3, none⟩) (.inl (.inr rfl)) _
    first
     | guard_hyp aj
       have du : (w2.setCell ⟨bp, 0, none⟩ (.slice a9 (lo.length + 1) k9)).ownsRow w.heap.size 127 2 (.slice (some ⟨g7, bi, none⟩) n k6) n (l.flatMap zit) := zai RV.out fG (fun g hg e => by
        rcases e with e | e
        ·exact zcb RV.out RL.out.1 (by decide) g hg e.symm
        ·exact zak RV.out RP.out (by decide) (by rw [hg, e]))
     | have du : (w2.setCell ⟨bp, 3, none⟩ (.slice a9 (lo.length + 1) k9)).ownsRow w.heap.size 157 4 (.slice (some ⟨g7, bi, none⟩) n k6) n (l.flatMap exd) := zai RV.out fG (fun g hg e => by
        rcases e with e | e
        ·exact zcb RV.out RL.out.1 (by decide) g hg e.symm
        ·exact zak RV.out RP.out (by decide) (by rw [hg, e]))
    first
     | guard_hyp aj
       have bM : Fr (fun j => j = bb ∨ j = bp) w (w2.setCell ⟨bp, 0, none⟩ (.slice a9 (lo.length + 1) k9)) := RF.out.trans fG (fun j hj e => by
        rcases e with e | e
        ·have := (RL.out.1.lt j e.symm).1; omega
        ·exact .inr e)
     | have bM : Fr (fun j => j = bb ∨ j = bp) w (w2.setCell ⟨bp, 3, none⟩ (.slice a9 (lo.length + 1) k9)) := RF.out.trans fG (fun j hj e => by
        rcases e with e | e
        ·have := (RL.out.1.lt j e.symm).1; omega
        ·exact .inr e)
    first
     | guard_hyp aj
       have cg : (lo ++ [((⟨ref, labs⟩ : Ser), Value.slice a5 labs.length k5)]).map Prod.fst = (l.take (k + 1)).map zjs := by
        rw [zmn, HX.out, zmc, zmc, RM.out]; rfl
     | have cg : (lo ++ [((⟨ref, t, vv, labs⟩ : Exm), Value.slice a5 labs.length k5)]).map Prod.fst = (l.take (k + 1)).map zjt := by
        rw [zmn, HX.out, zmc, zmc, RM.out]; rfl
    first | (guard_hyp aj; have cM : (lo ++ [((⟨ref, labs⟩ : Ser), Value.slice a5 labs.length k5)]).length = k + 1 := by rw [zlN, RN.out]; rfl) | (have cM : (lo ++ [((⟨ref, t, vv, labs⟩ : Exm), Value.slice a5 labs.length k5)]).length = k + 1 := by rw [zlN, RN.out]; rfl)
    have NP := zlM db; have NO := zlM aT; have NL := zlM cE; have NV := zlM du; have NF := zlM bM; have NM := zlM cg; have NN := zlM cM
    first | (guard_hyp aj; clear db aT dV cE du bM cg cM fG ac ad aw p9 z9 c0 c1 s0 s1 s3 O5 L5 N5 F5 P5 B5) | (clear db aT dV cE du bM cg cM fG ac ad aw p9 z9 c0 c1 c2 c3 s0 s1 s2 s3 s4 O5 L5 N5 F5 P5 B5)
    go_wp2; go_roundw
    case rel => exact ⟨k + 1, _, _, by omega, by go_num, NF, NV, NO, NP, NL, NM, NN⟩
    case measure => simp [intOf]; omega
   ·obtain rfl : k = n := by omega
    have o0 := RO.out.cell 0; have o1 := RO.out.frozen 0; simp at o0
    first | (guard_hyp aj; have W1 : Blk (wr.setCell ⟨bo, 0, none⟩ (.bool (zbk xs).isSome)) bo 4 #[.bool (zbk xs).isSome] := by simpa using RO.out.set_ 0 (.bool (zbk xs).isSome)) | (have W1 : Blk (wr.setCell ⟨bo, 0, none⟩ (.bool (zbE xs).isSome)) bo 4 #[.bool (zbE xs).isSome] := by simpa using RO.out.set_ 0 (.bool (zbE xs).isSome))
    first | (guard_hyp aj; have W2 := RP.out.far (p := ⟨bo, 0, none⟩) (zmT RP.out RO.out (by decide)) (.bool (zbk xs).isSome)) | (have W2 := RP.out.far (p := ⟨bo, 0, none⟩) (zmT RP.out RO.out (by decide)) (.bool (zbE xs).isSome))
    first | (guard_hyp aj; have ga := OwnR.off RL.out RO.out (by decide) (by decide) (Fr.put_ wr bo 0 (.bool (zbk xs).isSome))) | (have ga := OwnX.off RL.out RO.out (by decide) (by decide) (Fr.put_ wr bo 0 (.bool (zbE xs).isSome)))
    first | (guard_hyp aj; have W4 : Fr (fun k => k = bb ∨ k = bp ∨ k = bo) w (wr.setCell ⟨bo, 0, none⟩ (.bool (zbk xs).isSome)) := (Fr.mono (S' := fun k => k = bb ∨ k = bp ∨ k = bo) RF.out (fun _ _ e => e.elim (fun h => Or.inl h) (fun h => Or.inr (Or.inl h)))).setCell (p := ⟨bo, 0, none⟩) (.inl (.inr (.inr rfl))) _) | (have W4 : Fr (fun k => k = bb ∨ k = bp ∨ k = bo) w (wr.setCell ⟨bo, 0, none⟩ (.bool (zbE xs).isSome)) := (Fr.mono (S' := fun k => k = bb ∨ k = bp ∨ k = bo) RF.out (fun _ _ e => e.elim (fun h => Or.inl h) (fun h => Or.inr (Or.inl h)))).setCell (p := ⟨bo, 0, none⟩) (.inl (.inr (.inr rfl))) _)
    rcases ks.out with ⟨rfl, aD⟩ | ⟨t, ae, rfl, aD⟩; all_goals
     rw [aD] at W1 W2 ga W4; have ik := zlM W1; have jH := zlM W2; have eS := zlM ga; have hW4 := zlM W4; clear W1 W2 ga W4; go_wp2_with fail
     go_end0; refine ⟨rfl, hW4.out, by rw [aD]; exact ik.out, lv, lo, jH.out, eS.out, ?_⟩; have e1 : l.take k = l := zlV (by rw [HN.out]; exact zlY _); rw [RM.out, e1, <- mB.out, zmP]
theorem ziy : type_of% (zcr.1 trivial) := zcr.1 trivial
theorem zkS : type_of% (zcr.2 trivial) := zcr.2 trivial
end Go.Proofs.YtbkookiigkckdaaGreatDoor
