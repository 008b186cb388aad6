/- Merged. -/
import Derived.Test.YtbkookiigkckdaaGreatDoorKD29
import Derived.Test.YtbkookiigkckdaaGreatDoorKD30
set_option linter.unusedVariables false
set_option linter.unusedSimpArgs false
set_option maxRecDepth 100000
set_option maxHeartbeats 8000000
namespace Go.Proofs.YtbkookiigkckdaaGreatDoor
open Go.RowKit Go.Proofs.Tryz
theorem zb2 {base e z n : Nat} {u : Value} {xs : List Value} {w w' : World} (h : w.ownsRow base e z u n xs) (h1 : e ≠ 4) (h2 : e ≠ 54) (hv : zjq w w') : w'.ownsRow base e z u n xs :=
 zai h hv (fun g hg => by rintro ⟨cs, k | k⟩; exact zak h k h1 hg; exact zak h k h2 hg)
theorem OwnR.vars {base : Nat} {v : Value} {lo : List (Ser × Value)} {w w' : World} (h : OwnR base w v lo) (hv : zjq w w') : OwnR base w' v lo :=
 ⟨zb2 h.1 (by decide) (by decide) hv, fun p hp => zb2 (h.2 p hp) (by decide) (by decide) hv⟩
theorem OwnX.vars {base : Nat} {v : Value} {lo : List (Exm × Value)} {w w' : World} (h : OwnX base w v lo) (hv : zjq w w') : OwnX base w' v lo :=
 ⟨zb2 h.1 (by decide) (by decide) hv, fun p hp => zb2 (h.2 p hp) (by decide) (by decide) hv⟩
theorem OwnI.varsR {base : Nat} {v : Value} {lo : List (Rhs × Hsl)} {w w' : World} (h : OwnI base w v lo) (hv : zjq w w') : OwnI base w' v lo := by
 refine ⟨zb2 h.1 (by decide) (by decide) hv, fun p hp => ?_⟩; obtain ⟨a1, a2, a3, a4, a5, a6, a7⟩ := h.2 p hp; exact ⟨zb2 a1 (by decide) (by decide) hv, zb2 a2 (by decide) (by decide) hv, zb2 a3 (by decide) (by decide) hv, zb2 a4 (by decide) (by decide) hv, zb2 a5 (by decide) (by decide) hv, zb2 a6 (by decide) (by decide) hv, zb2 a7 (by decide) (by decide) hv⟩
theorem zd9 {a0 a1 a2 a3 a4 a5 a6 : Value} (h : ∀ s ∈ [a0, a1, a2, a3, a4, a5, a6], ∃ A m c, s = .slice A m c) : zl9 #[a0, a1, a2, a3, a4, a5, a6] := by
 obtain ⟨A0, m0, c0, rfl⟩ := h a0 (by simp); obtain ⟨A1, m1, c1, rfl⟩ := h a1 (by simp); obtain ⟨A2, m2, c2, rfl⟩ := h a2 (by simp); obtain ⟨A3, m3, c3, rfl⟩ := h a3 (by simp); obtain ⟨A4, m4, c4, rfl⟩ := h a4 (by simp); obtain ⟨A5, m5, c5, rfl⟩ := h a5 (by simp); obtain ⟨A6, m6, c6, rfl⟩ := h a6 (by simp); exact ⟨_, _, _, _, _, _, _, _, _, _, _, _, _, _, _, _, _, _, _, _, _, rfl⟩
def SerParts (base : Nat) (l : List Ser) (ps : Array Value) (w : World) : Prop :=
 ∃ v lo, ps = #[v, .slice none 0 0, .slice none 0 0, .slice none 0 0, .slice none 0 0, .slice none 0 0, .slice none 0 0] /\ lo.map Prod.fst = l /\ OwnR base w v lo
theorem zfc (te : TypeId) (pe : Value) (q0 q1 q2 q3 q4 q5 q6 bv : Value) (pre : List (Ser × Value)) (xs : List UInt8) (P : Nat -> Prop) (w : World) (hb : Sl P w bv 1 xs.length (bc xs)) (bm : xs.length <= 1073741824) (hP : ∀ g, P g -> g < w.heap.size)
 (au : ∀ s ∈ [q0, q1, q2, q3, q4, q5, q6], ∃ A m c, s = .slice A m c) (hs : SlR P w q0 pre) (bx : pre.length <= 1024) (fj : ∀ p ∈ pre, LabOk p.1.labs 12 600) (dI : ∀ x ∈ ziM ((pre.map Prod.fst).map tos) xs, x.labs.length <= 4096 /\ ∀ p ∈ x.labs, p.1.size <= 1048576 /\ p.2.size <= 1048576) (kO : (ziM ((pre.map Prod.fst).map tos) xs).length <= 1048576) (hE : w.cell? ⟨2, 0, none⟩ = some (.iface te pe))
 (ak : St -> Prop) (hG : ∀ l, ak (some l) -> zdS (some l) /\ ak (zbd (some l)).2) (aZ : ∀ r, xs = 1 :: r -> ak (some r)) :
 Calls prog 29 #[.int .i64 1, bv, .agg #[q0, q1, q2, q3, q4, q5, q6]] w (ReadDone (SerParts w.heap.size ((ziM ((pre.map Prod.fst).map tos) xs).map zjE)) (zbk xs).isSome w) := by
 have h2 := zmo w _ hE; refine zbl 1 q0 q1 q2 q3 q4 q5 q6 bv xs P _ _ w hb au ?_ ?_
 ·rintro ps W W' ⟨v, lo, rfl, hm, ho⟩ hv
  exact ⟨v, lo, rfl, hm, ho.vars hv⟩
 ·intro bb bk bq bp bo W hk bJ hq hp ho g8 nG nH dr hF
  have gU : W.cell? ⟨2, 0, none⟩ = some (.iface te pe) := by rw [hF.cell (p := ⟨2, 0, none⟩) h2 id]; exact hE
  refine (ziI te pe bb bk bq bp bo P q0 q1 q2 q3 q4 q5 q6 bv xs W bJ (hb.fr hF z_i) hk hq pre (hs.fr hF z_i) bx fj dI kO hp ho gU bm (fun g hg e => by have := hP g hg; omega) dr (by simp only [] at h2; omega) ak hG aZ).mono ?_; rintro r w' ⟨rfl, hf, db, v, lo, da, ab, hm⟩; have hz := hF.size; obtain ⟨a, c, gJ⟩ := zaa ab.1
  refine ⟨rfl, hf, db, _, zd9 ?_, da, v, lo, rfl, hm, ab.mono hz⟩; intro s hs; simp only [zmV, zmU, or_false] at hs; rcases hs with rfl | rfl | rfl | rfl | rfl | rfl | rfl; all_goals first | exact ⟨_, _, _, rfl⟩ | exact ⟨_, _, _, gJ⟩
def ExmParts (base : Nat) (l : List Exm) (ps : Array Value) (w : World) : Prop :=
 ∃ v lo, ps = #[.slice none 0 0, .slice none 0 0, .slice none 0 0, v, .slice none 0 0, .slice none 0 0, .slice none 0 0] /\ lo.map Prod.fst = l /\ OwnX base w v lo
theorem zgk (te : TypeId) (pe : Value) (q0 q1 q2 q3 q4 q5 q6 bv : Value) (pre : List (Exm × Value)) (xs : List UInt8) (P : Nat -> Prop) (w : World) (hb : Sl P w bv 1 xs.length (bc xs)) (bm : xs.length <= 1073741824) (hP : ∀ g, P g -> g < w.heap.size)
 (au : ∀ s ∈ [q0, q1, q2, q3, q4, q5, q6], ∃ A m c, s = .slice A m c) (hs : SlX P w q3 pre) (bx : pre.length <= 1024) (fj : ∀ p ∈ pre, LabOk p.1.labs 12 600) (dI : ∀ x ∈ ziL ((pre.map Prod.fst).map toe) xs, x.labs.length <= 4096 /\ ∀ p ∈ x.labs, p.1.size <= 1048576 /\ p.2.size <= 1048576) (kO : (ziL ((pre.map Prod.fst).map toe) xs).length <= 1048576) (hE : w.cell? ⟨2, 0, none⟩ = some (.iface te pe))
 (ak : St -> Prop) (hG : ∀ rest, xs = 4 :: rest -> ∀ l, ak (some l) -> zen (some l) /\ ak (zaW (zac (some rest)).1 (zav (zac (some rest)).2).1 (some l)).2) (aZ : ∀ rest, xs = 4 :: rest -> rest ≠ [] -> ak (zav (zac (some rest)).2).2) :
 Calls prog 29 #[.int .i64 4, bv, .agg #[q0, q1, q2, q3, q4, q5, q6]] w (ReadDone (ExmParts w.heap.size ((ziL ((pre.map Prod.fst).map toe) xs).map zjF)) (zbB xs).isSome w) := by
 have h2 := zmo w _ hE; refine zbl 4 q0 q1 q2 q3 q4 q5 q6 bv xs P _ _ w hb au ?_ ?_
 ·rintro ps W W' ⟨v, lo, rfl, hm, ho⟩ hv
  exact ⟨v, lo, rfl, hm, ho.vars hv⟩
 ·intro bb bk bq bp bo W hk bJ hq hp ho g8 nG nH dr hF
  have gU : W.cell? ⟨2, 0, none⟩ = some (.iface te pe) := by rw [hF.cell (p := ⟨2, 0, none⟩) h2 id]; exact hE
  refine (zlj te pe bb bk bq bp bo P q0 q1 q2 q3 q4 q5 q6 bv xs W bJ (hb.fr hF z_i) hk hq pre (hs.fr hF z_i) bx fj dI kO hp ho gU bm (fun g hg e => by have := hP g hg; omega) dr (by simp only [] at h2; omega) ak hG aZ).mono ?_; rintro r w' ⟨rfl, hf, db, v, lo, da, ab, hm⟩; have hz := hF.size; obtain ⟨a, c, gJ⟩ := zaa ab.1
  refine ⟨rfl, hf, db, _, zd9 ?_, da, v, lo, rfl, hm, ab.mono hz⟩; intro s hs; simp only [zmV, zmU, or_false] at hs; rcases hs with rfl | rfl | rfl | rfl | rfl | rfl | rfl; all_goals first | exact ⟨_, _, _, rfl⟩ | exact ⟨_, _, _, gJ⟩
def MtaParts (base : Nat) (l : List Mta) (ps : Array Value) (w : World) : Prop :=
 ∃ v, ps = #[.slice none 0 0, .slice none 0 0, .slice none 0 0, .slice none 0 0, v, .slice none 0 0, .slice none 0 0] /\ w.ownsRow base 176 4 v l.length (l.flatMap Mta.c)
theorem zfH (te : TypeId) (pe : Value) (q0 q1 q2 q3 q4 q5 q6 bv : Value) (pre : List Mta) (xs : List UInt8) (P : Nat -> Prop) (w : World) (hb : Sl P w bv 1 xs.length (bc xs)) (bm : xs.length <= 1073741824) (hP : ∀ g, P g -> g < w.heap.size)
 (au : ∀ s ∈ [q0, q1, q2, q3, q4, q5, q6], ∃ A m c, s = .slice A m c) (hs : Sl P w q4 4 pre.length (pre.flatMap Mta.c)) (bx : pre.length <= 1073741824) (hE : w.cell? ⟨2, 0, none⟩ = some (.iface te pe))
 (ak : St -> Prop) (hG : ∀ l, ak (some l) -> zeK (some l) /\ ak (zbe (some l)).2) (aZ : ∀ r, xs = 6 :: r -> ak (some r)) :
 Calls prog 29 #[.int .i64 6, bv, .agg #[q0, q1, q2, q3, q4, q5, q6]] w (ReadDone (MtaParts w.heap.size (zmb pre xs)) (zaU xs).isSome w) := by
 have h2 := zmo w _ hE; refine zbl 6 q0 q1 q2 q3 q4 q5 q6 bv xs P _ _ w hb au ?_ ?_
 ·rintro ps W W' ⟨v, rfl, ho⟩ hv
  exact ⟨v, rfl, zb2 ho (by decide) (by decide) hv⟩
 ·intro bb bk bq bp bo W hk bJ hq hp ho g8 nG nH dr hF
  have gU : W.cell? ⟨2, 0, none⟩ = some (.iface te pe) := by rw [hF.cell (p := ⟨2, 0, none⟩) h2 id]; exact hE
  refine (zjW te pe bb bk bq bp bo P q0 q1 q2 q3 q4 q5 q6 bv xs W bJ (hb.fr hF z_i) hk hq pre (hs.fr hF z_i) bx hp ho gU bm (fun g hg e => by have := hP g hg; omega) dr (by simp only [] at h2; omega) ak hG aZ).mono ?_; rintro r w' ⟨rfl, hf, db, v, da, ab⟩; have hz := hF.size; obtain ⟨a, c, gJ⟩ := zaa ab
  refine ⟨rfl, hf, db, _, zd9 ?_, da, v, rfl, zah ab hz⟩; intro s hs; simp only [zmV, zmU, or_false] at hs; rcases hs with rfl | rfl | rfl | rfl | rfl | rfl | rfl; all_goals first | exact ⟨_, _, _, rfl⟩ | exact ⟨_, _, _, gJ⟩
def HstParts (base : Nat) (l : List Rhs) (ps : Array Value) (w : World) : Prop :=
 ∃ v lo, ps = #[.slice none 0 0, .slice none 0 0, .slice none 0 0, .slice none 0 0, .slice none 0 0, .slice none 0 0, v] /\ lo.map Prod.fst = l /\ OwnI base w v lo
theorem zg3 (te : TypeId) (pe : Value) (q0 q1 q2 q3 q4 q5 q6 bv : Value) (kz : Nat) (kl : kz = 7 ∨ kz = 9) (pre : List (Rhs × Hsl)) (xs : List UInt8) (P : Nat -> Prop) (w : World) (hb : Sl P w bv 1 xs.length (bc xs)) (bm : xs.length <= 1073741824) (hP : ∀ g, P g -> g < w.heap.size)
 (au : ∀ s ∈ [q0, q1, q2, q3, q4, q5, q6], ∃ A m c, s = .slice A m c) (hs : SlH P w q6 pre) (bx : pre.length <= 1024) (fj : ∀ p ∈ pre, p.1.h.few 1099511627776) (dI : ∀ l, zcO xs = some l -> l.length <= 1024 /\ ∀ x ∈ l, x.h.few 1099511627776) (hE : w.cell? ⟨2, 0, none⟩ = some (.iface te pe))
 (ak : St -> Prop) (hG : ∀ kd rest, xs = kd :: rest -> (kd = 7 ∨ kd = 9) -> ∀ l, ak (some l) -> zdb (some l) /\ ak (zaR (zac (some rest)).1 (zav (zac (some rest)).2).1 (some l)).2) (aZ : ∀ kd rest, xs = kd :: rest -> (kd = 7 ∨ kd = 9) -> rest ≠ [] -> ak (zav (zac (some rest)).2).2) :
 Calls prog 29 #[.int .i64 (kz : Int), bv, .agg #[q0, q1, q2, q3, q4, q5, q6]] w (ReadDone (HstParts w.heap.size (zgp (pre.map Prod.fst) xs)) (zcO xs).isSome w) := by
 have h2 := zmo w _ hE; refine zbl (kz : Int) q0 q1 q2 q3 q4 q5 q6 bv xs P _ _ w hb au ?_ ?_
 ·rintro ps W W' ⟨v, lo, rfl, hm, ho⟩ hv
  exact ⟨v, lo, rfl, hm, ho.varsR hv⟩
 ·intro bb bk bq bp bo W hk bJ hq hp ho g8 nG nH dr hF
  have gU : W.cell? ⟨2, 0, none⟩ = some (.iface te pe) := by rw [hF.cell (p := ⟨2, 0, none⟩) h2 id]; exact hE
  refine (read1_hsW te pe bb bk bq bp bo P q0 q1 q2 q3 q4 q5 q6 bv xs kz kl W bJ (hb.fr hF z_i) hk hq pre (hs.fr hF z_i) bx fj dI hp ho gU bm (fun g hg e => by have := hP g hg; omega) dr (by simp only [] at h2; omega) ak hG aZ).mono ?_; rintro r w' ⟨rfl, hf, db, v, lo, da, ab, hm⟩; have hz := hF.size; obtain ⟨a, c, gJ⟩ := zaa ab.1
  refine ⟨rfl, hf, db, _, zd9 ?_, da, v, lo, rfl, hm, ab.mono hz⟩; intro s hs; simp only [zmV, zmU, or_false] at hs; rcases hs with rfl | rfl | rfl | rfl | rfl | rfl | rfl; all_goals first | exact ⟨_, _, _, rfl⟩ | exact ⟨_, _, _, gJ⟩
theorem zg4 (te : TypeId) (pe : Value) (q0 q1 q2 q3 q4 q5 q6 bv : Value) (kz : Nat) (kl : kz = 8 ∨ kz = 10) (pre : List (Rhs × Hsl)) (xs : List UInt8) (P : Nat -> Prop) (w : World) (hb : Sl P w bv 1 xs.length (bc xs)) (bm : xs.length <= 1073741824) (hP : ∀ g, P g -> g < w.heap.size)
 (au : ∀ s ∈ [q0, q1, q2, q3, q4, q5, q6], ∃ A m c, s = .slice A m c) (hs : SlH P w q6 pre) (bx : pre.length <= 1024) (fj : ∀ p ∈ pre, p.1.h.few 1099511627776) (dI : ∀ l, zcP xs = some l -> l.length <= 1024 /\ ∀ x ∈ l, x.h.few 1099511627776) (hE : w.cell? ⟨2, 0, none⟩ = some (.iface te pe))
 (ak : St -> Prop) (hG : ∀ kd rest, xs = kd :: rest -> (kd = 8 ∨ kd = 10) -> ∀ l, ak (some l) -> zdc (some l) /\ ak (zaS (zac (some rest)).1 (zav (zac (some rest)).2).1 (some l)).2) (aZ : ∀ kd rest, xs = kd :: rest -> (kd = 8 ∨ kd = 10) -> rest ≠ [] -> ak (zav (zac (some rest)).2).2) :
 Calls prog 29 #[.int .i64 (kz : Int), bv, .agg #[q0, q1, q2, q3, q4, q5, q6]] w (ReadDone (HstParts w.heap.size (zgq (pre.map Prod.fst) xs)) (zcP xs).isSome w) := by
 have h2 := zmo w _ hE; refine zbl (kz : Int) q0 q1 q2 q3 q4 q5 q6 bv xs P _ _ w hb au ?_ ?_
 ·rintro ps W W' ⟨v, lo, rfl, hm, ho⟩ hv
  exact ⟨v, lo, rfl, hm, ho.varsR hv⟩
 ·intro bb bk bq bp bo W hk bJ hq hp ho g8 nG nH dr hF
  have gU : W.cell? ⟨2, 0, none⟩ = some (.iface te pe) := by rw [hF.cell (p := ⟨2, 0, none⟩) h2 id]; exact hE
  refine (read1_hsF te pe bb bk bq bp bo P q0 q1 q2 q3 q4 q5 q6 bv xs kz kl W bJ (hb.fr hF z_i) hk hq pre (hs.fr hF z_i) bx fj dI hp ho gU bm (fun g hg e => by have := hP g hg; omega) dr (by simp only [] at h2; omega) ak hG aZ).mono ?_; rintro r w' ⟨rfl, hf, db, v, lo, da, ab, hm⟩; have hz := hF.size; obtain ⟨a, c, gJ⟩ := zaa ab.1
  refine ⟨rfl, hf, db, _, zd9 ?_, da, v, lo, rfl, hm, ab.mono hz⟩; intro s hs; simp only [zmV, zmU, or_false] at hs; rcases hs with rfl | rfl | rfl | rfl | rfl | rfl | rfl; all_goals first | exact ⟨_, _, _, rfl⟩ | exact ⟨_, _, _, gJ⟩
theorem zbi (P : Nat -> Prop) (W : World) (s : Nat) : Sl P W (.slice none 0 0) s 0 [] := ⟨none, 0, rfl, by simp, zmt _, fun h => absurd h (by omega)⟩
theorem noR (P : Nat -> Prop) (W : World) : SlR P W (.slice none 0 0) [] := ⟨zbi _ _ _, fun p hp => by cases hp⟩
theorem noX (P : Nat -> Prop) (W : World) : SlX P W (.slice none 0 0) [] := ⟨zbi _ _ _, fun p hp => by cases hp⟩
theorem noS (P : Nat -> Prop) (W : World) : SlS P W (.slice none 0 0) [] := ⟨zbi _ _ _, fun p hp => by cases hp⟩
theorem noH (P : Nat -> Prop) (W : World) : SlH P W (.slice none 0 0) [] := ⟨zbi _ _ _, fun p hp => by cases hp⟩
theorem len_ser (l : List Ser) (hl : ∀ s ∈ l, zhh s) (hn : l.length <= 12) : (zbY l).length <= 1073741824 := by
 have h1 := za0 zbT 20000 l (fun x hx => zhD x (hl x hx)); show (_ :: l.flatMap zbT).length <= _; rw [zmz]; omega
theorem len_smp (l : List Smp) (hl : ∀ s ∈ l, s.wf) (hn : l.length <= 12) : (zaE l).length <= 1073741824 := by
 rcases l with _ | ⟨f, r⟩
 ·decide
 ·have h1 := za0 (zbq f) 28 (f :: r) (fun x _ => zfk f x)
  show ([2] ++ (zd3 f ++ (f :: r).flatMap (zbq f))).length <= _; rw [zmi, zmi]; simp only [zd3, zmi, zmr, zmy]; omega
theorem len_sto (l : List Ston) (hl : ∀ s ∈ l, s.wf) (hn : l.length <= 12) (hi : ∀ s ∈ l, s.ivs.length <= 4096) : (zbz l).length <= 1073741824 := by
 have h1 := ziZ l hl hi; show (_ :: (zb7 l).flatMap zb8).length <= _; rw [zmz]; omega
theorem len_exm (l : List Exm) (hl : ∀ s ∈ l, zfO s) (hn : l.length <= 12) : (zbA l).length <= 1073741824 := by
 rcases l with _ | ⟨f, r⟩
 ·decide
 ·have h1 := za0 (zbm f) 20000 (f :: r) (fun x hx => zhJ f x (hl x hx))
  show (4 :: (zbI f ++ (f :: r).flatMap (zbm f))).length <= _; rw [zmz, zmi]; simp only [zbI, zmi, zmr]; omega
theorem len_mrk (l : List Mrk) (hl : ∀ s ∈ l, s.wf) (hn : l.length <= 12) : (zba l).length <= 1073741824 := by
 have h1 := za0 zct 16 l (fun x hx => Nat.le_of_eq (zhH x)); show (_ :: l.flatMap zct).length <= _; rw [zmz]; omega
theorem len_mta (l : List Mta) (hl : ∀ s ∈ l, s.wf) (hn : l.length <= 12) : (zbJ l).length <= 1073741824 := by
 have h1 := za0 zb3 8300 l (fun x hx => zhG x (hl x hx)); show (_ :: l.flatMap zb3).length <= _; rw [zmz]; omega
theorem few_readW {h : Hst} (k : h.ok) : (h.readW).few 1099511627776 := by
 obtain ⟨a, b, c, d, e, f, g⟩ := k.few; refine ⟨by show h.pos.length <= _; omega, by show h.neg.length <= _; omega, by show h.ups.length <= _; omega, by show h.downs.length <= _; omega, zms _, zms _, ?_⟩; show (if h.schema = -53 then h.cus else []).length <= _; split
 ·omega
 ·exact zms _
theorem len_hsW (k : Nat) (q : Rhs -> Bool) (l : List Rhs) (hl : ∀ s ∈ l, s.ok) (hn : l.length <= 12) : (za3 (UInt8.ofNat k) q l).length <= 1073741824 := by
 rcases l with _ | ⟨f, r⟩
 ·show 1 <= 1073741824
  omega
 ·have h1 := za0 (za1 f) 5020 ((f :: r).filter q) (fun x hx => zfl f x (hl x (zmW.1 hx).1))
  have h2 := znf q (f :: r); show ([UInt8.ofNat k] ++ (zar f ++ ((f :: r).filter q).flatMap (za1 f))).length <= _; rw [zmi, zmi]; simp only [zar, zmi, zmr, zmy]; omega
theorem few_readF {h : Hst} (k : h.ok) : (h.readF).few 1099511627776 := by
 obtain ⟨a, b, c, d, e, f, g⟩ := k.few; refine ⟨by show h.pos.length <= _; omega, by show h.neg.length <= _; omega, zms _, zms _, by show h.fups.length <= _; omega, by show h.fdowns.length <= _; omega, ?_⟩; show (if h.schema = -53 then h.cus else []).length <= _; split
 ·omega
 ·exact zms _
theorem len_hsF (k : Nat) (q : Rhs -> Bool) (l : List Rhs) (hl : ∀ s ∈ l, s.ok) (hn : l.length <= 12) : (za4 (UInt8.ofNat k) q l).length <= 1073741824 := by
 rcases l with _ | ⟨f, r⟩
 ·show 1 <= 1073741824
  omega
 ·have h1 := za0 (za2 f) 5020 ((f :: r).filter q) (fun x hx => zfm f x (hl x (zmW.1 hx).1))
  have h2 := znf q (f :: r); show ([UInt8.ofNat k] ++ (zar f ++ ((f :: r).filter q).flatMap (za2 f))).length <= _; rw [zmi, zmi]; simp only [zar, zmi, zmr, zmy]; omega
end Go.Proofs.YtbkookiigkckdaaGreatDoor
