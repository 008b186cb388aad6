/- Texts of this seat, merged and shortened. -/
import Derived.Test.YtbkookiigkckdaaGreatDoorK17
import Derived.Test.YtbkookiigkckdaaGreatDoorK19
set_option linter.unusedVariables false
set_option linter.unusedSimpArgs false
set_option maxRecDepth 100000
set_option maxHeartbeats 8000000
namespace Go.Proofs.YtbkookiigkckdaaGreatDoor
open Go.RowKit Go.Proofs.Tryz
theorem zb9 {base e z n : Nat} {u : Value} {xs : List Value} {w w' : World} (h : w.ownsRow base e z u n xs) (h1 : e ≠ 4) (h2 : e ≠ 54) (hv : zjf w w') : w'.ownsRow base e z u n xs :=
 zai h hv (fun g hg => by rintro ⟨cs, k | k⟩; exact zak h k h1 hg; exact zak h k h2 hg)
theorem OwnR.vars {base : Nat} {v : Value} {lo : List (Ser × Value)} {w w' : World} (h : OwnR base w v lo) (hv : zjf w w') : OwnR base w' v lo :=
 ⟨zb9 h.1 (by decide) (by decide) hv, fun p hp => zb9 (h.2 p hp) (by decide) (by decide) hv⟩
theorem OwnX.vars {base : Nat} {v : Value} {lo : List (Exm × Value)} {w w' : World} (h : OwnX base w v lo) (hv : zjf w w') : OwnX base w' v lo :=
 ⟨zb9 h.1 (by decide) (by decide) hv, fun p hp => zb9 (h.2 p hp) (by decide) (by decide) hv⟩
theorem OwnI.varsR {base : Nat} {v : Value} {lo : List (Rhs × Hsl)} {w w' : World} (h : OwnI base w v lo) (hv : zjf w w') : OwnI base w' v lo := by
 refine ⟨zb9 h.1 (by decide) (by decide) hv, fun p hp => ?_⟩; obtain ⟨a1, a2, a3, a4, a5, a6, a7⟩ := h.2 p hp; exact ⟨zb9 a1 (by decide) (by decide) hv, zb9 a2 (by decide) (by decide) hv, zb9 a3 (by decide) (by decide) hv, zb9 a4 (by decide) (by decide) hv, zb9 a5 (by decide) (by decide) hv, zb9 a6 (by decide) (by decide) hv, zb9 a7 (by decide) (by decide) hv⟩
theorem zeb {a0 a1 a2 a3 a4 a5 a6 : Value} (h : ∀ s ∈ [a0, a1, a2, a3, a4, a5, a6], ∃ A m c, s = .slice A m c) : zlH #[a0, a1, a2, a3, a4, a5, a6] := by
 obtain ⟨A0, m0, c0, rfl⟩ := h a0 (by simp); obtain ⟨A1, m1, c1, rfl⟩ := h a1 (by simp); obtain ⟨A2, m2, c2, rfl⟩ := h a2 (by simp); obtain ⟨A3, m3, c3, rfl⟩ := h a3 (by simp); obtain ⟨A4, m4, c4, rfl⟩ := h a4 (by simp); obtain ⟨A5, m5, c5, rfl⟩ := h a5 (by simp); obtain ⟨A6, m6, c6, rfl⟩ := h a6 (by simp); exact ⟨_, _, _, _, _, _, _, _, _, _, _, _, _, _, _, _, _, _, _, _, _, rfl⟩
def SerParts (base : Nat) (l : List Ser) (ps : Array Value) (w : World) : Prop :=
 ∃ v lo, ps = #[v, .slice none 0 0, .slice none 0 0, .slice none 0 0, .slice none 0 0, .slice none 0 0, .slice none 0 0] /\ lo.map Prod.fst = l /\ OwnR base w v lo
theorem zfb (te : TypeId) (pe : Value) (q0 q1 q2 q3 q4 q5 q6 bv : Value) (pre : List (Ser × Value)) (xs : List UInt8) (P : Nat -> Prop) (w : World) (hb : Sl P w bv 1 xs.length (bc xs)) (bg : xs.length <= 1073741824) (hP : ∀ g, P g -> g < w.heap.size)
 (au : ∀ s ∈ [q0, q1, q2, q3, q4, q5, q6], ∃ A m c, s = .slice A m c) (hs : SlR P w q0 pre) (bj : pre.length <= 1024) (fh : ∀ p ∈ pre, LabOk p.1.labs 12 600) (dM : ∀ x ∈ ziB ((pre.map Prod.fst).map tos) xs, x.labs.length <= 4096 /\ ∀ p ∈ x.labs, p.1.size <= 1048576 /\ p.2.size <= 1048576) (kE : (ziB ((pre.map Prod.fst).map tos) xs).length <= 1048576) (hE : w.cell? ⟨2, 0, none⟩ = some (.iface te pe))
 (al : St -> Prop) (hG : ∀ l, al (some l) -> zdV (some l) /\ al (zbe (some l)).2) (aY : ∀ r, xs = 1 :: r -> al (some r)) :
 Calls prog 29 #[.int .i64 1, bv, .agg #[q0, q1, q2, q3, q4, q5, q6]] w (ReadDone (SerParts w.heap.size ((ziB ((pre.map Prod.fst).map tos) xs).map zjs)) (zbk xs).isSome w) := by
 have h2 := zlT w _ hE; refine zbm 1 q0 q1 q2 q3 q4 q5 q6 bv xs P _ _ w hb au ?_ ?_
 ·rintro ps W W' ⟨v, lo, rfl, hm, ho⟩ hv
  exact ⟨v, lo, rfl, hm, ho.vars hv⟩
 ·intro bb bk bq bp bo W hk bK hq hp ho fW nu nv dy hF
  have gP : W.cell? ⟨2, 0, none⟩ = some (.iface te pe) := by rw [hF.cell (p := ⟨2, 0, none⟩) h2 (fun e => e)]; exact hE
  refine (ziy te pe bb bk bq bp bo P q0 q1 q2 q3 q4 q5 q6 bv xs W bK (hb.fr hF (fun _ _ e => e)) hk hq pre (hs.fr hF (fun _ _ e => e)) bj fh dM kE hp ho gP bg (fun g hg e => by have := hP g hg; omega) dy (by simp only [] at h2; omega) al hG aY).mono ?_; rintro r w' ⟨rfl, hf, dg, v, lo, df, ab, hm⟩; have hz := hF.size; obtain ⟨a, c, gA⟩ := zaa ab.1
  refine ⟨rfl, hf, dg, _, zeb ?_, df, v, lo, rfl, hm, ab.mono hz⟩; intro s hs; simp only [zmq, zmp, or_false] at hs; rcases hs with rfl | rfl | rfl | rfl | rfl | rfl | rfl; all_goals first | exact ⟨_, _, _, rfl⟩ | exact ⟨_, _, _, gA⟩
def ExmParts (base : Nat) (l : List Exm) (ps : Array Value) (w : World) : Prop :=
 ∃ v lo, ps = #[.slice none 0 0, .slice none 0 0, .slice none 0 0, v, .slice none 0 0, .slice none 0 0, .slice none 0 0] /\ lo.map Prod.fst = l /\ OwnX base w v lo
theorem zgf (te : TypeId) (pe : Value) (q0 q1 q2 q3 q4 q5 q6 bv : Value) (pre : List (Exm × Value)) (xs : List UInt8) (P : Nat -> Prop) (w : World) (hb : Sl P w bv 1 xs.length (bc xs)) (bg : xs.length <= 1073741824) (hP : ∀ g, P g -> g < w.heap.size)
 (au : ∀ s ∈ [q0, q1, q2, q3, q4, q5, q6], ∃ A m c, s = .slice A m c) (hs : SlX P w q3 pre) (bj : pre.length <= 1024) (fh : ∀ p ∈ pre, LabOk p.1.labs 12 600) (dM : ∀ x ∈ ziA ((pre.map Prod.fst).map toe) xs, x.labs.length <= 4096 /\ ∀ p ∈ x.labs, p.1.size <= 1048576 /\ p.2.size <= 1048576) (kE : (ziA ((pre.map Prod.fst).map toe) xs).length <= 1048576) (hE : w.cell? ⟨2, 0, none⟩ = some (.iface te pe))
 (al : St -> Prop) (hG : ∀ rest, xs = 4 :: rest -> ∀ l, al (some l) -> zep (some l) /\ al (zaU (zac (some rest)).1 (zav (zac (some rest)).2).1 (some l)).2) (aY : ∀ rest, xs = 4 :: rest -> rest ≠ [] -> al (zav (zac (some rest)).2).2) :
 Calls prog 29 #[.int .i64 4, bv, .agg #[q0, q1, q2, q3, q4, q5, q6]] w (ReadDone (ExmParts w.heap.size ((ziA ((pre.map Prod.fst).map toe) xs).map zjt)) (zbE xs).isSome w) := by
 have h2 := zlT w _ hE; refine zbm 4 q0 q1 q2 q3 q4 q5 q6 bv xs P _ _ w hb au ?_ ?_
 ·rintro ps W W' ⟨v, lo, rfl, hm, ho⟩ hv
  exact ⟨v, lo, rfl, hm, ho.vars hv⟩
 ·intro bb bk bq bp bo W hk bK hq hp ho fW nu nv dy hF
  have gP : W.cell? ⟨2, 0, none⟩ = some (.iface te pe) := by rw [hF.cell (p := ⟨2, 0, none⟩) h2 (fun e => e)]; exact hE
  refine (zkS te pe bb bk bq bp bo P q0 q1 q2 q3 q4 q5 q6 bv xs W bK (hb.fr hF (fun _ _ e => e)) hk hq pre (hs.fr hF (fun _ _ e => e)) bj fh dM kE hp ho gP bg (fun g hg e => by have := hP g hg; omega) dy (by simp only [] at h2; omega) al hG aY).mono ?_; rintro r w' ⟨rfl, hf, dg, v, lo, df, ab, hm⟩; have hz := hF.size; obtain ⟨a, c, gA⟩ := zaa ab.1
  refine ⟨rfl, hf, dg, _, zeb ?_, df, v, lo, rfl, hm, ab.mono hz⟩; intro s hs; simp only [zmq, zmp, or_false] at hs; rcases hs with rfl | rfl | rfl | rfl | rfl | rfl | rfl; all_goals first | exact ⟨_, _, _, rfl⟩ | exact ⟨_, _, _, gA⟩
def MtaParts (base : Nat) (l : List Mta) (ps : Array Value) (w : World) : Prop :=
 ∃ v, ps = #[.slice none 0 0, .slice none 0 0, .slice none 0 0, .slice none 0 0, v, .slice none 0 0, .slice none 0 0] /\ w.ownsRow base 176 4 v l.length (l.flatMap Mta.c)
theorem zfC (te : TypeId) (pe : Value) (q0 q1 q2 q3 q4 q5 q6 bv : Value) (pre : List Mta) (xs : List UInt8) (P : Nat -> Prop) (w : World) (hb : Sl P w bv 1 xs.length (bc xs)) (bg : xs.length <= 1073741824) (hP : ∀ g, P g -> g < w.heap.size)
 (au : ∀ s ∈ [q0, q1, q2, q3, q4, q5, q6], ∃ A m c, s = .slice A m c) (hs : Sl P w q4 4 pre.length (pre.flatMap Mta.c)) (bj : pre.length <= 1073741824) (hE : w.cell? ⟨2, 0, none⟩ = some (.iface te pe))
 (al : St -> Prop) (hG : ∀ l, al (some l) -> zeN (some l) /\ al (zbf (some l)).2) (aY : ∀ r, xs = 6 :: r -> al (some r)) :
 Calls prog 29 #[.int .i64 6, bv, .agg #[q0, q1, q2, q3, q4, q5, q6]] w (ReadDone (MtaParts w.heap.size (zlJ pre xs)) (zaT xs).isSome w) := by
 have h2 := zlT w _ hE; refine zbm 6 q0 q1 q2 q3 q4 q5 q6 bv xs P _ _ w hb au ?_ ?_
 ·rintro ps W W' ⟨v, rfl, ho⟩ hv
  exact ⟨v, rfl, zb9 ho (by decide) (by decide) hv⟩
 ·intro bb bk bq bp bo W hk bK hq hp ho fW nu nv dy hF
  have gP : W.cell? ⟨2, 0, none⟩ = some (.iface te pe) := by rw [hF.cell (p := ⟨2, 0, none⟩) h2 (fun e => e)]; exact hE
  refine (zjK te pe bb bk bq bp bo P q0 q1 q2 q3 q4 q5 q6 bv xs W bK (hb.fr hF (fun _ _ e => e)) hk hq pre (hs.fr hF (fun _ _ e => e)) bj hp ho gP bg (fun g hg e => by have := hP g hg; omega) dy (by simp only [] at h2; omega) al hG aY).mono ?_; rintro r w' ⟨rfl, hf, dg, v, df, ab⟩; have hz := hF.size; obtain ⟨a, c, gA⟩ := zaa ab
  refine ⟨rfl, hf, dg, _, zeb ?_, df, v, rfl, zah ab hz⟩; intro s hs; simp only [zmq, zmp, or_false] at hs; rcases hs with rfl | rfl | rfl | rfl | rfl | rfl | rfl; all_goals first | exact ⟨_, _, _, rfl⟩ | exact ⟨_, _, _, gA⟩
def HstParts (base : Nat) (l : List Rhs) (ps : Array Value) (w : World) : Prop :=
 ∃ v lo, ps = #[.slice none 0 0, .slice none 0 0, .slice none 0 0, .slice none 0 0, .slice none 0 0, .slice none 0 0, v] /\ lo.map Prod.fst = l /\ OwnI base w v lo
theorem zg0 (te : TypeId) (pe : Value) (q0 q1 q2 q3 q4 q5 q6 bv : Value) (kz : Nat) (kg : kz = 7 ∨ kz = 9) (pre : List (Rhs × Hsl)) (xs : List UInt8) (P : Nat -> Prop) (w : World) (hb : Sl P w bv 1 xs.length (bc xs)) (bg : xs.length <= 1073741824) (hP : ∀ g, P g -> g < w.heap.size)
 (au : ∀ s ∈ [q0, q1, q2, q3, q4, q5, q6], ∃ A m c, s = .slice A m c) (hs : SlH P w q6 pre) (bj : pre.length <= 1024) (fh : ∀ p ∈ pre, p.1.h.few 1099511627776) (dM : ∀ l, zcQ xs = some l -> l.length <= 1024 /\ ∀ x ∈ l, x.h.few 1099511627776) (hE : w.cell? ⟨2, 0, none⟩ = some (.iface te pe))
 (al : St -> Prop) (hG : ∀ kd rest, xs = kd :: rest -> (kd = 7 ∨ kd = 9) -> ∀ l, al (some l) -> zda (some l) /\ al (zaQ (zac (some rest)).1 (zav (zac (some rest)).2).1 (some l)).2) (aY : ∀ kd rest, xs = kd :: rest -> (kd = 7 ∨ kd = 9) -> rest ≠ [] -> al (zav (zac (some rest)).2).2) :
 Calls prog 29 #[.int .i64 (kz : Int), bv, .agg #[q0, q1, q2, q3, q4, q5, q6]] w (ReadDone (HstParts w.heap.size (zgk (pre.map Prod.fst) xs)) (zcQ xs).isSome w) := by
 have h2 := zlT w _ hE; refine zbm (kz : Int) q0 q1 q2 q3 q4 q5 q6 bv xs P _ _ w hb au ?_ ?_
 ·rintro ps W W' ⟨v, lo, rfl, hm, ho⟩ hv
  exact ⟨v, lo, rfl, hm, ho.varsR hv⟩
 ·intro bb bk bq bp bo W hk bK hq hp ho fW nu nv dy hF
  have gP : W.cell? ⟨2, 0, none⟩ = some (.iface te pe) := by rw [hF.cell (p := ⟨2, 0, none⟩) h2 (fun e => e)]; exact hE
  refine (read1_hsW te pe bb bk bq bp bo P q0 q1 q2 q3 q4 q5 q6 bv xs kz kg W bK (hb.fr hF (fun _ _ e => e)) hk hq pre (hs.fr hF (fun _ _ e => e)) bj fh dM hp ho gP bg (fun g hg e => by have := hP g hg; omega) dy (by simp only [] at h2; omega) al hG aY).mono ?_; rintro r w' ⟨rfl, hf, dg, v, lo, df, ab, hm⟩; have hz := hF.size; obtain ⟨a, c, gA⟩ := zaa ab.1
  refine ⟨rfl, hf, dg, _, zeb ?_, df, v, lo, rfl, hm, ab.mono hz⟩; intro s hs; simp only [zmq, zmp, or_false] at hs; rcases hs with rfl | rfl | rfl | rfl | rfl | rfl | rfl; all_goals first | exact ⟨_, _, _, rfl⟩ | exact ⟨_, _, _, gA⟩
theorem zg1 (te : TypeId) (pe : Value) (q0 q1 q2 q3 q4 q5 q6 bv : Value) (kz : Nat) (kg : kz = 8 ∨ kz = 10) (pre : List (Rhs × Hsl)) (xs : List UInt8) (P : Nat -> Prop) (w : World) (hb : Sl P w bv 1 xs.length (bc xs)) (bg : xs.length <= 1073741824) (hP : ∀ g, P g -> g < w.heap.size)
 (au : ∀ s ∈ [q0, q1, q2, q3, q4, q5, q6], ∃ A m c, s = .slice A m c) (hs : SlH P w q6 pre) (bj : pre.length <= 1024) (fh : ∀ p ∈ pre, p.1.h.few 1099511627776) (dM : ∀ l, zcR xs = some l -> l.length <= 1024 /\ ∀ x ∈ l, x.h.few 1099511627776) (hE : w.cell? ⟨2, 0, none⟩ = some (.iface te pe))
 (al : St -> Prop) (hG : ∀ kd rest, xs = kd :: rest -> (kd = 8 ∨ kd = 10) -> ∀ l, al (some l) -> zdb (some l) /\ al (zaR (zac (some rest)).1 (zav (zac (some rest)).2).1 (some l)).2) (aY : ∀ kd rest, xs = kd :: rest -> (kd = 8 ∨ kd = 10) -> rest ≠ [] -> al (zav (zac (some rest)).2).2) :
 Calls prog 29 #[.int .i64 (kz : Int), bv, .agg #[q0, q1, q2, q3, q4, q5, q6]] w (ReadDone (HstParts w.heap.size (zgl (pre.map Prod.fst) xs)) (zcR xs).isSome w) := by
 have h2 := zlT w _ hE; refine zbm (kz : Int) q0 q1 q2 q3 q4 q5 q6 bv xs P _ _ w hb au ?_ ?_
 ·rintro ps W W' ⟨v, lo, rfl, hm, ho⟩ hv
  exact ⟨v, lo, rfl, hm, ho.varsR hv⟩
 ·intro bb bk bq bp bo W hk bK hq hp ho fW nu nv dy hF
  have gP : W.cell? ⟨2, 0, none⟩ = some (.iface te pe) := by rw [hF.cell (p := ⟨2, 0, none⟩) h2 (fun e => e)]; exact hE
  refine (read1_hsF te pe bb bk bq bp bo P q0 q1 q2 q3 q4 q5 q6 bv xs kz kg W bK (hb.fr hF (fun _ _ e => e)) hk hq pre (hs.fr hF (fun _ _ e => e)) bj fh dM hp ho gP bg (fun g hg e => by have := hP g hg; omega) dy (by simp only [] at h2; omega) al hG aY).mono ?_; rintro r w' ⟨rfl, hf, dg, v, lo, df, ab, hm⟩; have hz := hF.size; obtain ⟨a, c, gA⟩ := zaa ab.1
  refine ⟨rfl, hf, dg, _, zeb ?_, df, v, lo, rfl, hm, ab.mono hz⟩; intro s hs; simp only [zmq, zmp, or_false] at hs; rcases hs with rfl | rfl | rfl | rfl | rfl | rfl | rfl; all_goals first | exact ⟨_, _, _, rfl⟩ | exact ⟨_, _, _, gA⟩
def ivc (p : Int × Int) : List Value := [.int .i64 p.1, .int .i64 p.2]
theorem info279 : (prog.info? 279).map (fun i => (i.zero, i.size, i.bytes)) = some (some (.agg #[.int .i64 0, .int .i64 0]), 2, 16) := by kernel_rfl
theorem info281 : (prog.info? 281).map (fun i => (i.zero, i.size, i.bytes)) = some (some (.agg #[.int .i64 0, .int .i64 0]), 2, 16) := by kernel_rfl
def IvEnds (t : TypeId) (w : World) (l : List (Int × Int)) (r : Ending) (w' : World) : Prop :=
 ∃ v, r = .returned v /\ w'.ownsRow w.heap.size t 2 v l.length (l.flatMap ivc) /\ Fr (fun _ => False) w w'
theorem zhZ (P : Nat -> Prop) (v : Value) (l : List (Int × Int)) (w : World) (h : Sl P w v 2 l.length (l.flatMap ivc)) (hl : l.length <= 1099511627776) :
 Calls prog 169 #[v] w (IvEnds 279 w l) := by
 obtain ⟨A, c, rfl, ai, aR, hr⟩ := h; obtain ⟨n, hn⟩ := exE l.length; rw [hn] at hr aR hl ⊢; have HN := zlM hn; have HR := zlM hr; obtain ⟨i0, aB, ay, ax, aA⟩ := info_parts info279; clear hn hr ai; go_enter func169, ntmps169; go_wp2
 go_loopw [3, 8] (fun v i wr => ∃ k : Nat, k <= n /\ i = .int .i64 k /\ wr.ownsRow w.heap.size 279 2 v k ((l.take k).flatMap ivc) /\ Fr (fun _ => False) w wr) (fun _ i _ => n - (intOf i).toNat)
 case atStart => exact ⟨0, zlX _, rfl, zl0 _ _ _ _, zmR _ _⟩
 case round =>
  obtain ⟨k, hk, rfl, ab, hf⟩ := hrel; by_cases hlt : k < n
  ·obtain ⟨g, off, rfl, _, aa⟩ := HR.out (by omega)
   obtain ⟨x, hx⟩ : ∃ x, l[k]? = some x := ⟨_, zlO (by rw [HN.out]; exact hlt)⟩; have cc : ∀ j, j < 2 -> ∀ u, (ivc x)[j]? = some u -> wr.cell? ⟨g, off + (k * 2 + j), none⟩ = some u := fun j hj u hu => by
    have := aa (k * 2 + j) u (by rw [zbB ivc (fun _ => rfl) l k x hx j hj]; exact hu); rw [hf.cell (p := ⟨g, off + (k * 2 + j), none⟩) (zlT w _ this) (fun e => e)]; exact this
   have c0 : wr.cell? ⟨g, off + k * 2, none⟩ = some (.int .i64 x.1) := cc 0 (by omega) _ rfl; have c1 : wr.cell? ⟨g, off + k * 2 + 1, none⟩ = some (.int .i64 x.2) := cc 1 (by omega) _ rfl; have HC := zlM aa; have HO := zlM ab; have HX := zlM hx; obtain ⟨a', n', k', rfl⟩ := zab ab; clear aa cc ab hx; go_wp2_with (at_builtin; refine Hid.out ?_)
   refine zlM ?_; refine zae _ rfl _ _ 145 145 rfl w.heap.size 279 i0 _ 2 16 underlying145 aB ay ax aA rfl (by decide) _ k ((l.take k).flatMap ivc) rfl ((HO.out.alloc _).alloc _) _ 1 (ivc x) rfl (zaF underlying145 (zaL wr _ 279 (ivc x).toArray) rfl (by simp [ivc, Value.oneCell'])) (by unfold maxLen; omega) (by omega) (by have := hf.size; simp; omega) ?_
   intro v' w2 ac ad aw
   have af : w2.ownsRow w.heap.size 279 2 v' (k + 1) ((l.take (k + 1)).flatMap ivc) := by rw [zam ivc l k x HX.out]; exact ac
   have ar : Fr (fun _ => False) w w2 := ((hf.alloc _).alloc _).grown ad (fun g hg => .inr (((HO.out.lt g hg)).1)); have cL := zlM af; have bx := zlM ar; clear ac ad af ar hf c0 c1 aw
   go_wp2; go_roundw
   case rel => exact ⟨k + 1, by omega, by go_num, cL.out, bx.out⟩
   case measure => simp [intOf]; omega
  ·go_wp2
   go_ret; obtain rfl : k = n := by omega
   refine ⟨_, rfl, ?_, hf⟩; rw [<- HN.out] at ab ⊢; rw [zmd] at ab; exact ab
theorem zfY (P : Nat -> Prop) (v : Value) (l : List (Int × Int)) (w : World) (h : Sl P w v 2 l.length (l.flatMap ivc)) (hl : l.length <= 1099511627776) :
 Calls prog 76 #[v] w (IvEnds 281 w l) := by
 obtain ⟨A, c, rfl, ai, aR, hr⟩ := h; obtain ⟨n, hn⟩ := exE l.length; rw [hn] at hr aR hl ⊢; have HN := zlM hn; have HR := zlM hr; obtain ⟨i0, aB, ay, ax, aA⟩ := info_parts info281; clear hn hr ai; go_enter func76, ntmps76; go_wp2
 go_loopw [3, 8] (fun v i wr => ∃ k : Nat, k <= n /\ i = .int .i64 k /\ wr.ownsRow w.heap.size 281 2 v k ((l.take k).flatMap ivc) /\ Fr (fun _ => False) w wr) (fun _ i _ => n - (intOf i).toNat)
 case atStart => exact ⟨0, zlX _, rfl, zl0 _ _ _ _, zmR _ _⟩
 case round =>
  obtain ⟨k, hk, rfl, ab, hf⟩ := hrel; by_cases hlt : k < n
  ·obtain ⟨g, off, rfl, _, aa⟩ := HR.out (by omega)
   obtain ⟨x, hx⟩ : ∃ x, l[k]? = some x := ⟨_, zlO (by rw [HN.out]; exact hlt)⟩; have cc : ∀ j, j < 2 -> ∀ u, (ivc x)[j]? = some u -> wr.cell? ⟨g, off + (k * 2 + j), none⟩ = some u := fun j hj u hu => by
    have := aa (k * 2 + j) u (by rw [zbB ivc (fun _ => rfl) l k x hx j hj]; exact hu); rw [hf.cell (p := ⟨g, off + (k * 2 + j), none⟩) (zlT w _ this) (fun e => e)]; exact this
   have c0 : wr.cell? ⟨g, off + k * 2, none⟩ = some (.int .i64 x.1) := cc 0 (by omega) _ rfl; have c1 : wr.cell? ⟨g, off + k * 2 + 1, none⟩ = some (.int .i64 x.2) := cc 1 (by omega) _ rfl; have HC := zlM aa; have HO := zlM ab; have HX := zlM hx; obtain ⟨a', n', k', rfl⟩ := zab ab; clear aa cc ab hx; go_wp2_with (at_builtin; refine Hid.out ?_)
   refine zlM ?_; refine zae _ rfl _ _ 148 148 rfl w.heap.size 281 i0 _ 2 16 underlying148 aB ay ax aA rfl (by decide) _ k ((l.take k).flatMap ivc) rfl ((HO.out.alloc _).alloc _) _ 1 (ivc x) rfl (zaF underlying148 (zaL wr _ 281 (ivc x).toArray) rfl (by simp [ivc, Value.oneCell'])) (by unfold maxLen; omega) (by omega) (by have := hf.size; simp; omega) ?_
   intro v' w2 ac ad aw
   have af : w2.ownsRow w.heap.size 281 2 v' (k + 1) ((l.take (k + 1)).flatMap ivc) := by rw [zam ivc l k x HX.out]; exact ac
   have ar : Fr (fun _ => False) w w2 := ((hf.alloc _).alloc _).grown ad (fun g hg => .inr (((HO.out.lt g hg)).1)); have cL := zlM af; have bx := zlM ar; clear ac ad af ar hf c0 c1 aw
   go_wp2; go_roundw
   case rel => exact ⟨k + 1, by omega, by go_num, cL.out, bx.out⟩
   case measure => simp [intOf]; omega
  ·go_wp2
   go_ret; obtain rfl : k = n := by omega
   refine ⟨_, rfl, ?_, hf⟩; rw [<- HN.out] at ab ⊢; rw [zmd] at ab; exact ab
structure Ston where
 ref : Nat
 ivs : List (Int × Int)
def stc (p : Ston × Value) : List Value := [.int .u64 p.1.ref, p.2]
def SlS (P : Nat -> Prop) (w : World) (v : Value) (lv : List (Ston × Value)) : Prop :=
 Sl P w v 2 lv.length (lv.flatMap stc) /\ ∀ p ∈ lv, Sl P w p.2 2 p.1.ivs.length (p.1.ivs.flatMap ivc)
def OwnS (base te ti : Nat) (w : World) (v : Value) (lv : List (Ston × Value)) : Prop :=
 w.ownsRow base te 2 v lv.length (lv.flatMap stc) /\ ∀ p ∈ lv, w.ownsRow base ti 2 p.2 p.1.ivs.length (p.1.ivs.flatMap ivc)
theorem info147 : (prog.info? 147).map (fun i => (i.zero, i.size, i.bytes)) = some (some (.agg #[.int .u64 0, .slice none 0 0]), 2, 32) := by kernel_rfl
theorem info151 : (prog.info? 151).map (fun i => (i.zero, i.size, i.bytes)) = some (some (.agg #[.int .u64 0, .slice none 0 0]), 2, 32) := by kernel_rfl
theorem SlS.fr {P S : Nat -> Prop} {w w' : World} {v : Value} {lv : List (Ston × Value)} (h : SlS P w v lv) (hf : Fr S w w') (hs : ∀ g, P g -> ¬ S g) : SlS P w' v lv :=
 ⟨h.1.fr hf hs, fun p hp => (h.2 p hp).fr hf hs⟩
theorem OwnS.fr {S : Nat -> Prop} {base te ti : Nat} {w w' : World} {v : Value} {lv : List (Ston × Value)} (h : OwnS base te ti w v lv) (hf : Fr S w w') (hs : ∀ k, base <= k -> k < w.heap.size -> ¬ S k) : OwnS base te ti w' v lv :=
 ⟨zai h.1 hf (fun g hg => hs g (h.1.lt g hg).1 (zar h.1 hg)), fun p hp => zai (h.2 p hp) hf (fun g hg => hs g ((h.2 p hp).lt g hg).1 (zar (h.2 p hp) hg))⟩
theorem OwnS.mono {base base' te ti : Nat} {w : World} {v : Value} {lv : List (Ston × Value)} (h : OwnS base te ti w v lv) (hb : base' <= base) : OwnS base' te ti w v lv :=
 ⟨zah h.1 hb, fun p hp => zah (h.2 p hp) hb⟩
theorem OwnS.nil (base te ti : Nat) (w : World) : OwnS base te ti w (.slice none 0 0) [] := ⟨zl0 _ _ _ _, fun p hp => by cases hp⟩
theorem OwnS.sl {base te ti : Nat} {w : World} {v : Value} {lv : List (Ston × Value)} (h : OwnS base te ti w v lv) : SlS (fun g => base <= g /\ g < w.heap.size) w v lv :=
 ⟨(zmU h.1).mono (fun g hg => ⟨(h.1.lt g hg).1, zar h.1 hg⟩), fun p hp => (zmU (h.2 p hp)).mono (fun g hg => ⟨((h.2 p hp).lt g hg).1, zar (h.2 p hp) hg⟩)⟩
theorem OwnS.push {base te ti : Nat} {w w2 : World} {v v' : Value} {lv : List (Ston × Value)} {p : Ston × Value} (h : OwnS base te ti w v lv) (hp : w.ownsRow base ti 2 p.2 p.1.ivs.length (p.1.ivs.flatMap ivc)) (hg : w.grownBy w2 v.ownBlock)
 (ho : w2.ownsRow base te 2 v' (lv.length + 1) (lv.flatMap stc ++ stc p)) (bD : ti ≠ te) : OwnS base te ti w2 v' (lv ++ [p]) := by
 have hf : Fr (fun k => some k = v.ownBlock) w w2 := (zmR (fun k => some k = v.ownBlock) w).grown hg (fun k hk => .inl hk.symm); refine ⟨by simpa using ho, fun q hq => ?_⟩; rcases zms.1 hq with hq | hq
 ·exact zai (h.2 q hq) hf (fun g jD e => zcb (h.2 q hq) h.1 bD g jD e.symm)
 ·rw [zmt] at hq
  subst hq; exact zai hp hf (fun g jD e => zcb hp h.1 bD g jD e.symm)
def zik (w : World) (l : List Ston) (r : Ending) (w' : World) : Prop :=
 ∃ v lv, r = .returned v /\ lv.map Prod.fst = l /\ OwnS w.heap.size 147 279 w' v lv /\ Fr (fun _ => False) w w'
theorem zeT (P : Nat -> Prop) (v : Value) (lv : List (Ston × Value)) (w : World) (h : SlS P w v lv) (hl : lv.length <= 1099511627776) (aQ : ∀ p ∈ lv, p.1.ivs.length <= 1099511627776) :
 Calls prog 75 #[v] w (zik w (lv.map Prod.fst)) := by
 obtain ⟨⟨A, c, rfl, ai, aR, hr⟩, co⟩ := h; obtain ⟨n, hn⟩ := exE lv.length; rw [hn] at hr aR hl ⊢; have HN := zlM hn; have HR := zlM hr; have HI := zlM co
 have gr := zlM aQ; obtain ⟨i0, aB, ay, ax, aA⟩ := info_parts info147; clear hn hr ai co aQ; go_enter func75, ntmps75; go_wp2
 go_loopw [2, 7] (fun v i wr => ∃ (k : Nat) (lo : List (Ston × Value)), k <= n /\ i = .int .i64 k /\ Hid (lo.map Prod.fst = (lv.take k).map Prod.fst) /\ Hid (lo.length = k) /\ Hid (OwnS w.heap.size 147 279 wr v lo) /\ Hid (Fr (fun _ => False) w wr)) (fun _ i _ => n - (intOf i).toNat)
 case atStart => exact ⟨0, [], zlX _, rfl, zlM rfl, zlM rfl, zlM (OwnS.nil _ _ _ _), zlM (zmR _ _)⟩
 case round =>
  obtain ⟨k, lo, hk, rfl, HM, ip, HO, HF⟩ := hrel; by_cases hlt : k < n
  ·obtain ⟨g, off, rfl, _, aa⟩ := HR.out (by omega)
   obtain ⟨x, hx⟩ : ∃ x, lv[k]? = some x := ⟨_, zlO (by rw [HN.out]; exact hlt)⟩; have cc : ∀ j, j < 2 -> ∀ u, (stc x)[j]? = some u -> wr.cell? ⟨g, off + (k * 2 + j), none⟩ = some u := fun j hj u hu => by
    have := aa (k * 2 + j) u (by rw [zbB stc (fun _ => rfl) lv k x hx j hj]; exact hu); rw [HF.out.cell (p := ⟨g, off + (k * 2 + j), none⟩) (zlT w _ this) (fun e => e)]; exact this
   have c0 : wr.cell? ⟨g, off + k * 2, none⟩ = some (.int .u64 x.1.ref) := cc 0 (by omega) _ rfl; have c1 : wr.cell? ⟨g, off + k * 2 + 1, none⟩ = some x.2 := cc 1 (by omega) _ rfl; have aH := zlU hx; have aX := HI.out x aH; have bA := gr.out x aH; obtain ⟨⟨ref, ivs⟩, iv⟩ := x; simp only [] at c0 c1 aX bA
   have jC : ∃ A m c, iv = .slice A m c := let ⟨A, c, h, _⟩ := aX; ⟨A, _, c, h⟩
   obtain ⟨Ai, mi, ci, rfl⟩ := jC; have HX := zlM hx; obtain ⟨a', n', k', rfl⟩ := zab HO.out.1; clear aa cc hx aH; go_wp2_with fail
   have cj := zmS wr 151 #[.int .u64 ref, .slice Ai mi ci]; have s0 := cj.cell 0; have s1 := cj.cell 1; simp only [zl7, zl5, zl6] at s0 s1; have bF := HF.out.size; have dt := zlM cj
   have hC := zhZ P (.slice Ai mi ci) ivs (wr.alloc (.cells #[.int .u64 ref, .slice Ai mi ci] 151)).drew (aX.fr (HF.out.alloc _).drew (fun _ _ e => e)) bA; have ri := ip.out; clear cj aX; have pb : (wr.alloc (.cells #[.int .u64 ref, .slice Ai mi ci] 151)).drew.heap.size = wr.heap.size + 1 := by simp
   have jw : lo.length <= 1099511627776 := by omega
   go_region_held3 (fun w' => w'.cell? ⟨wr.heap.size, 0, none⟩ = some (.int .u64 ref) /\ w'.cell? ⟨wr.heap.size, 1, none⟩ = some (.slice Ai mi ci))
    ((first | (go_split_ands; refine ⟨?_, ?_⟩ <;> first | exact ej.out.cell 0 | exact ej.out.cell 1) | (go_split_ands; refine ⟨?_, ?_⟩ <;> first | exact (cK.out.alloc _).cell 0 | exact (cK.out.alloc _).cell 1) | (go_split_ands; refine ⟨?_, ?_⟩ <;> first | exact cK.out.cell 0 | exact cK.out.cell 1) | go_keep))
    ((first
      | (go_at_call 169; refine hC.mono ?_; rintro r5 w5 ⟨v5, rfl, am, aq⟩; obtain ⟨a5, k5, rfl⟩ := zaa am; have cK := zlM (dt.out.drew.fr aq (fun e => e)); have F5 := zlM (((zmR (fun _ => False) wr).alloc (.cells #[.int .u64 ref, .slice Ai mi ci] 151)).drew.same aq); have O5 := zlM (HO.out.fr F5.out (fun _ _ _ e => e)); have io := zlM (zah am (base' := w.heap.size) (by rw [pb]; omega)); have lM := F5.out.size)
      | (refine zas _ (by rfl) _ _ 139 139 (by rfl) w.heap.size 147 i0 _ 2 32 underlying139 aB ay ax aA rfl (by decide) (.slice a' n' k') lo.length (lo.flatMap stc) (by rfl) (O5.out.1.alloc _) _ 1 (stc (⟨ref, ivs⟩, .slice a5 ivs.length k5)) (by rfl) (zaF underlying139 (zmS w5 147 (stc (⟨ref, ivs⟩, .slice a5 ivs.length k5)).toArray) rfl (by simp [stc, Value.oneCell'])) (by unfold maxLen; omega) (by omega) (by simp; omega) ?_; intro v' w2 ac ad aw; have ej := zlM ((cK.out.alloc (.cells (stc (⟨ref, ivs⟩, .slice a5 ivs.length k5)).toArray 147)).grown ad (fun e => zmw _ (zar HO.out.1 e.symm))))))
   have aT : OwnS w.heap.size 147 279 w2 v' (lo ++ [(⟨ref, ivs⟩, .slice a5 ivs.length k5)]) :=
    OwnS.push (p := (⟨ref, ivs⟩, .slice a5 ivs.length k5)) (O5.out.fr ((zmR (fun _ => False) w5).alloc (.cells (stc (⟨ref, ivs⟩, .slice a5 ivs.length k5)).toArray 147)) (fun _ _ _ e => e)) (io.out.alloc _) ad ac (by decide)
   have bM : Fr (fun _ => False) w w2 := ((HF.out.same F5.out).alloc _).grown ad (fun g hg => .inr ((HO.out.1.lt g hg).1)); have cg : (lo ++ [((⟨ref, ivs⟩ : Ston), Value.slice a5 ivs.length k5)]).map Prod.fst = (lv.take (k + 1)).map Prod.fst := by
    rw [zmn, HX.out, zmc, zmc, HM.out]; rfl
   have cM : (lo ++ [((⟨ref, ivs⟩ : Ston), Value.slice a5 ivs.length k5)]).length = k + 1 := by rw [zlN, ip.out]; rfl
   have NO := zlM aT; have NF := zlM bM; have NM := zlM cg; have NN := zlM cM; clear aT bM cg cM ac ad aw c0 c1 s0 s1 hC am aq ej O5 io; go_wp2; go_roundw
   case rel => exact ⟨k + 1, _, by omega, by go_num, NM, NN, NO, NF⟩
   case measure => simp [intOf]; omega
  ·go_wp2
   go_ret; obtain rfl : k = n := by omega
   refine ⟨_, lo, rfl, ?_, HO.out, HF.out⟩; rw [HM.out, <- HN.out, zmd]
def zeK (s : Ston) : List Stn := s.ivs.map fun p => ⟨s.ref, p.1, p.2⟩
def zbY (l : List Ston) : List Stn := l.flatMap zeK
def Ston.wf (s : Ston) : Prop := s.ref < 18446744073709551616 /\ ∀ p ∈ s.ivs, (-9223372036854775808 <= p.1 /\ p.1 <= 9223372036854775807) /\ (-9223372036854775808 <= p.2 /\ p.2 <= 9223372036854775807)
def zbC (l : List Ston) : List UInt8 := zj6 (zbY l)
def zfF (r : Nat) (p : Int × Int) : List UInt8 := zcg ⟨r, p.1, p.2⟩
theorem ziU (r : Nat) (p : Int × Int) (h : (-9223372036854775808 <= p.1 /\ p.1 <= 9223372036854775807) /\ (-9223372036854775808 <= p.2 /\ p.2 <= 9223372036854775807)) : (zfF r p).length <= 28 := by
 have h1 := zdY p.1 h.1.1 h.1.2; have h2 := zdY p.2 h.2.1 h.2.2; simp only [zfF, zcg, zlN, zlW]; omega
theorem zgC (s : Ston) : (zeK s).flatMap zcg = s.ivs.flatMap (zfF s.ref) := by
 unfold zeK; rw [List.flatMap_map]; rfl
theorem zdm {α : Type} (f : α -> List UInt8) (m : Nat) : ∀ l : List α, (∀ x ∈ l, (f x).length <= m) -> (l.flatMap f).length <= l.length * m
 | [], _ => by simp
 | x :: l, hf => by
   have h1 := zdm f m l (fun y hy => hf y (by simp [hy])); have h2 := hf x (by simp); rw [zl1, zlN, zl4, Nat.add_mul]; omega
theorem ziO (l : List Ston) (hw : ∀ s ∈ l, s.wf) (hi : ∀ s ∈ l, s.ivs.length <= 4096) : ((zbY l).flatMap zcg).length <= l.length * 114688 := by
 have e : (zbY l).flatMap zcg = l.flatMap (fun s => s.ivs.flatMap (zfF s.ref)) := by
  unfold zbY; rw [List.flatMap_assoc]; congr 1
  funext s
  exact zgC s
 rw [e]; refine zdm _ _ _ (fun s hs => ?_); have h1 := zdm (zfF s.ref) 28 s.ivs (fun p hp => ziU _ _ ((hw s hs).2 p hp)); have h2 := hi s hs; have h3 : s.ivs.length * 28 <= 4096 * 28 := zlZ _ h2; omega
theorem zla (l : List Ston) (k : Nat) (x : Ston) (h : l[k]? = some x) : (zbY (l.take (k + 1))).flatMap zcg = (zbY (l.take k)).flatMap zcg ++ x.ivs.flatMap (zfF x.ref) := by
 rw [zmn, h]; unfold zbY; rw [zml, zml, <- zgC]; simp
theorem zh5 (ep : Value) (sv : Value) (P : Nat -> Prop) (v : Value) (xs : List UInt8) (lv : List (Ston × Value)) (w : World) (h : SlS P w sv lv) (ab : w.ownsRow 0 5 1 v xs.length (bc xs)) (hl : xs.length <= 1073741824)
 (au : lv.length <= 4096) (aQ : ∀ p ∈ lv, p.1.ivs.length <= 4096) (aF : ∀ s ∈ lv.map Prod.fst, s.wf) (hP : ∀ g, P g -> g < w.heap.size /\ some g ≠ v.ownBlock) :
 Calls prog 93 #[ep, sv, v] w (zbT w v.ownBlock (xs ++ zbC (lv.map Prod.fst))) := by
 obtain ⟨⟨A, c, rfl, ai, aR, hr⟩, co⟩ := h; obtain ⟨a', n', k', rfl⟩ := zab ab; obtain ⟨n, hn⟩ := exE lv.length; rw [hn] at aR hr au ⊢; have hE := Enc.made (z := .int .u8 0) ab _ rfl; have hQ := zcs w.heap.size _ xs 3 _ hE (by omega); have e2 : ((3 : UInt8).toNat : Int) = 3 := rfl; rw [e2] at hQ; have HN := zlM hn; have HR := zlM hr; have HP := zlM hP
 have HE := zlM hE; have ry := zlM co
 have gr := zlM aQ; have kp := zlM aF; clear hE hr e2 hn ai hP co aQ aF; go_enter func93, ntmps93; go_wp2_with (go_at_call 180; refine hQ.mono ?_; rintro r1 w1 ⟨rfl, R⟩; refine Hid.out ?_)
 have cY := zlM R; clear R hQ; refine zlM ?_; go_wp2_with fail
 have cS : Fr (fun k => some k = (Value.slice a' n' k').ownBlock) w (w.alloc (.cells #[.slice a' n' k', .int .u8 0, .int .u8 0, .int .u8 0, .int .u8 0, .int .u8 0, .int .u8 0, .int .u8 0, .int .u8 0, .int .u8 0, .int .u8 0] 224)) := (zmR _ w).alloc _; generalize eh : w.alloc _ = WB at HE cY cS; have hB : w.heap.size < WB.heap.size := by rw [<- eh]; simp
 clear eh; have dJ := zlM cS; clear cS; go_loopw [17] (fun i wr => ∃ k : Nat, k <= n /\ i = .int .i64 k /\ Put WB w.heap.size (Value.slice a' n' k').ownBlock xs ([3] ++ (zbY ((lv.map Prod.fst).take k)).flatMap zcg) wr) (fun i _ => n - (intOf i).toNat)
 case atStart => exact ⟨0, zlX _, rfl, by simpa [zbY] using cY.out⟩
 case round =>
  obtain ⟨k, hk, rfl, R⟩ := hrel; by_cases hlt : k < n
  ·obtain ⟨g, off, rfl, fX, aa⟩ := HR.out (by omega)
   have hg := HP.out g fX; obtain ⟨x, hx⟩ : ∃ x, lv[k]? = some x := ⟨_, zlO (by rw [HN.out]; exact hlt)⟩; have aH := zlU hx; have aX := ry.out x aH; have bA := gr.out x aH; have eX : x.1.wf := kp.out _ (zmi.2 ⟨x, aH, rfl⟩); have fJ : (lv.map Prod.fst)[k]? = some x.1 := by rw [zmm, hx]; rfl
   have dP : Fr (fun k => some k = (Value.slice a' n' k').ownBlock) w wr := dJ.out.trans R.fr (fun k hk e => by
    rcases e with e | e
    ·omega
    ·exact e)
   have cc : ∀ j, j < 2 -> ∀ u, (stc x)[j]? = some u -> wr.cell? ⟨g, off + (k * 2 + j), none⟩ = some u := fun j hj u hu => by
    have := aa (k * 2 + j) u (by rw [zbB stc (fun _ => rfl) lv k x hx j hj]; exact hu); rw [dP.cell (p := ⟨g, off + (k * 2 + j), none⟩) hg.1 hg.2]; exact this
   have d0 : wr.cell? ⟨g, off + k * 2, none⟩ = some (.int .u64 x.1.ref) := cc 0 (by omega) _ rfl; have d1 : wr.cell? ⟨g, off + k * 2 + 1, none⟩ = some x.2 := cc 1 (by omega) _ rfl; obtain ⟨⟨ref, ivs⟩, iv⟩ := x; simp only [] at d0 d1 aX bA fJ; obtain ⟨Ai, ci, rfl, _, pU, fL⟩ := aX; obtain ⟨m, hm⟩ := exE ivs.length; rw [hm] at d1 pU fL bA
   have bE : ([(3 : UInt8)] ++ (zbY ((lv.map Prod.fst).take k)).flatMap zcg).length <= 1 + 4096 * 114688 := by
    have h1 := ziO ((lv.map Prod.fst).take k) (fun s hs => kp.out s (zmJ hs)) (fun s hs => by
     obtain ⟨p, hp, rfl⟩ := zmi.1 (zmJ hs)
     exact gr.out p hp)
    have h2 : ((lv.map Prod.fst).take k).length <= 4096 := by
     have := zmM k (lv.map Prod.fst); omega
    have h3 : ((lv.map Prod.fst).take k).length * 114688 <= 4096 * 114688 := zlZ _ h2; rw [zlN, zl3]; omega
   have RA := R.alloc (.cells #[.int .u64 ref, .slice Ai m ci] 147); have dj := zmS wr 147 #[.int .u64 ref, .slice Ai m ci]; have x1 := dj.cell 1; simp at x1; have HX1 := zlM fJ; have cZ := zlM dj; have HL := zlM bE; have nR := zlM fL; have HM := zlM hm; have bU := zlM RA; have pb := dP.size; clear hx dP cc dj bE aa fL hm RA fJ aH; go_wp2_with fail
   generalize hys : [(3 : UInt8)] ++ (zbY ((lv.map Prod.fst).take k)).flatMap zcg = ys at bU HL; clear R x1 d0 d1 pb; generalize wr.alloc (.cells #[.int .u64 ref, .slice Ai m ci] 147) = W9 at bU cZ ⊢; generalize wr.heap.size = b9 at cZ ⊢
   go_loopw [24] (fun i w' => ∃ j : Nat, j <= m /\ i = .int .i64 j /\ Hid (Put WB w.heap.size (Value.slice a' n' k').ownBlock xs (ys ++ (ivs.take j).flatMap (zfF ref)) w') /\ Hid (Blk w' b9 147 #[.int .u64 ref, .slice Ai m ci])) (fun i _ => m - (intOf i).toNat)
   case atStart => exact ⟨0, zlX _, rfl, zlM (by simpa using bU.out), cZ⟩
   case round =>
    obtain ⟨j, hj, rfl, RJ, BJ⟩ := hrel; clear bU cZ; by_cases hlt2 : j < m
    ·obtain ⟨g2, ap, rfl, hPg2, ak⟩ := nR.out (by omega)
     have eo := HP.out g2 hPg2; obtain ⟨y, hy⟩ : ∃ y, ivs[j]? = some y := ⟨_, zlO (by rw [HM.out]; exact hlt2)⟩; have ou := eX.2 y (zlU hy)
     have hFj : Fr (fun k => some k = (Value.slice a' n' k').ownBlock) w wr := dJ.out.trans RJ.out.fr (fun k hk e => by
      rcases e with e | e
      ·omega
      ·exact e)
     have cc : ∀ i, i < 2 -> ∀ u, (ivc y)[i]? = some u -> wr.cell? ⟨g2, ap + (j * 2 + i), none⟩ = some u := fun i hi u hu => by
      have := ak (j * 2 + i) u (by rw [zbB ivc (fun _ => rfl) ivs j y hy i hi]; exact hu); rw [hFj.cell (p := ⟨g2, ap + (j * 2 + i), none⟩) eo.1 eo.2]; exact this
     have d0 : wr.cell? ⟨g2, ap + j * 2, none⟩ = some (.int .i64 y.1) := cc 0 (by omega) _ rfl; have d1 : wr.cell? ⟨g2, ap + j * 2 + 1, none⟩ = some (.int .i64 y.2) := cc 1 (by omega) _ rfl; have hzl : (ys ++ (ivs.take j).flatMap (zfF ref)).length <= 1 + 4096 * 114688 + 114688 := by
      have h1 := zdm (zfF ref) 28 (ivs.take j) (fun p hp => ziU _ _ (eX.2 p (zmJ hp))); have h2 : (ivs.take j).length <= 4096 := by
       have := zmM j ivs; omega
      have h3 : (ivs.take j).length * 28 <= 4096 * 28 := zlZ _ h2; have h4 := HL.out; rw [zlN]; omega
     have RA := RJ.out.alloc (.cells #[.int .i64 y.1, .int .i64 y.2] 279); have B9 := BJ.out.alloc (.cells #[.int .i64 y.1, .int .i64 y.2] 279); have ln := zmS wr 279 #[.int .i64 y.1, .int .i64 y.2]; have z0 := B9.cell 0; simp at z0
     have ei := zaf RA (f := 181) (args := #[.pointer (some ⟨w.heap.size, 0, none⟩), .int .u64 ref]) (zs := Lib.beBytes 8 ref) (fun o2 he => zct _ o2 _ _ eX.1 _ he (by rw [zlN]; omega)); have HY := zlM hy; have HB9 := zlM B9; have oP := zlM ln; have HZL := zlM hzl; have jA := zdY y.1 ou.1.1 ou.1.2; clear hy hFj cc ln ak B9 hzl
     go_wp2_with (go_at_call 181; refine ei.mono ?_; rintro rA wA ⟨rfl, RB, KB⟩; refine Hid.out ?_)
     have HBA := zlM (KB.out _ _ _ (by decide) (by decide) HB9.out); have ln := KB.out _ _ _ (by decide) (by decide) oP.out; have y0 := ln.cell 0; simp at y0; have HBY2 := zlM ln
     have dh := zaf RB (f := 183) (args := #[.pointer (some ⟨w.heap.size, 0, none⟩), .int .i64 y.1]) (zs := Lib.uvarint (Lib.zigzag y.1)) (fun o2 he => zax _ o2 _ _ ou.1.1 ou.1.2 _ he (by have := HZL.out; rw [zlN, zlN, zlW]; omega)); clear ei d0 d1 z0 ln; refine zlM ?_
     go_wp2_with (go_at_call 183; refine dh.mono ?_; rintro rB wB ⟨rfl, RC, KC⟩; refine Hid.out ?_)
     have ot := zlM (KC.out _ _ _ (by decide) (by decide) HBA.out); have ln := KC.out _ _ _ (by decide) (by decide) HBY2.out; have y1 := ln.cell 1; simp at y1
     have ja := zaf RC (f := 183) (args := #[.pointer (some ⟨w.heap.size, 0, none⟩), .int .i64 y.2]) (zs := Lib.uvarint (Lib.zigzag y.2)) (fun o2 he => zax _ o2 _ _ ou.2.1 ou.2.2 _ he (by have := HZL.out; rw [zlN, zlN, zlN, zlW]; omega)); clear dh y0 ln; refine zlM ?_
     go_wp2_with (go_at_call 183; refine ja.mono ?_; rintro rD wD ⟨rfl, RD, KD⟩)
     have mF := zlM (KD.out _ _ _ (by decide) (by decide) ot.out); have RE : Put WB w.heap.size (Value.slice a' n' k').ownBlock xs (ys ++ (ivs.take (j + 1)).flatMap (zfF ref)) wD := by
      rw [zal (zfF ref) ivs j y HY.out]; simpa [zfF, zcg, zlP] using RD
     have cT := zlM RE; clear RE RD RC RB ja y1 KB KC KD RA RJ BJ; go_wp2; go_roundw
     case rel => exact ⟨j + 1, by omega, by go_num, cT, mF⟩
     case measure => simp [intOf]; omega
    ·obtain rfl : j = m := by omega
     have RE : Put WB w.heap.size (Value.slice a' n' k').ownBlock xs ([3] ++ (zbY ((lv.map Prod.fst).take (k + 1))).flatMap zcg) wr := by
      rw [zla _ _ _ HX1.out, <- zlP, hys]; have h := RJ.out; have e1 : ivs.take j = ivs := zlV (by rw [HM.out]; exact zlY _); rw [e1] at h; exact h
     have cT := zlM RE; clear RE RJ; go_wp2; go_roundw
     case rel => exact ⟨k + 1, by omega, by go_num, cT.out⟩
     case measure => simp [intOf]; omega
  ·obtain rfl : k = n := by omega
   obtain ⟨oZ, dD, ee, fP⟩ := R; have hG := zd7 _ _ _ _ dD; have HEZ := zlM dD; have HZ := zlM ee; clear dD ee; go_wp2_with (go_at_call 116; refine hG.mono ?_; rintro rr w2 ⟨v2, rfl, rfl, af, bz⟩)
   go_ret; refine ⟨v2, rfl, ?_, dJ.out.trans HZ.out (fun k hk e => ?_), ?_⟩
   ·have e1 : (lv.map Prod.fst).take k = lv.map Prod.fst := zlV (by rw [zma, HN.out]; exact zlY _)
    rw [e1] at af; simpa [zbC, zj6] using af
   ·rcases e with e | e
    ·omega
    ·exact e
   ·rw [bz]
    rcases fP with h | ⟨k2, h, cR⟩
    ·exact .inl h
    ·exact .inr ⟨k2, h, by omega⟩
def one (s : Stn) : Ston := ⟨s.ref, [(s.lo, s.hi)]⟩
def zbS (w : World) (base : Nat) (o : Option Nat) (pre : List Ston) (xs : List UInt8) (r : Ending) (w' : World) : Prop :=
 Fr (fun k => some k = o) w w' /\ match zaJ xs with
  | some l => ∃ v' lv, r = .returned (.tuple #[v', .nilIface]) /\ lv.map Prod.fst = pre ++ l.map one /\ OwnS base 147 279 w' v' lv
  | none => ∃ t a, r = .returned (.tuple #[.slice none 0 0, .iface t a])
theorem zea {w w' : World} {base : Nat} {o : Option Nat} {pre : List Ston} {xs : List UInt8} {t : TypeId} {a : Value} (hd : zaJ xs = none) (hf : Fr (fun k => some k = o) w w') : zbS w base o pre xs (.returned (.tuple #[.slice none 0 0, .iface t a])) w' := by
 unfold zbS; rw [hd]; exact ⟨hf, _, _, rfl⟩
theorem zf2 {w w' : World} {base : Nat} {o : Option Nat} {pre : List Ston} {xs : List UInt8} {l : List Stn} {v : Value} {lv : List (Ston × Value)} (hd : zaJ xs = some l) (hf : Fr (fun k => some k = o) w w') (hm : lv.map Prod.fst = pre ++ l.map one) (ho : OwnS base 147 279 w' v lv) : zbS w base o pre xs (.returned (.tuple #[v, .nilIface])) w' := by
 unfold zbS; rw [hd]; exact ⟨hf, _, _, rfl, hm, ho⟩
theorem own_one {w : World} {base e : Nat} {a b : Value} (hb : base <= w.heap.size) : (w.alloc (.cells #[a, b] e)).ownsRow base e 2 (.slice (some ⟨w.heap.size, 0, none⟩) 1 1) 1 [a, b] :=
 ⟨rfl, .inr ⟨_, _, _, rfl, hb, zmS w e #[a, b], zlY _, by unfold maxLen; omega, rfl, rfl⟩⟩
theorem zjv {l0 l : List UInt8} (h : (zbz (some l0)).2 = some l) : l.length < l0.length := by
 obtain ⟨l1, h1, qw⟩ := zcc (st := (zaH (zac (some l0)).2).2) h; obtain ⟨l2, h2, qv⟩ := zcc (st := (zac (some l0)).2) h1; obtain ⟨l3, h3, h3'⟩ := zbJ (st := some l0) h2; injection h3 with h3; subst h3; omega
theorem zg7 (te : TypeId) (pe : Value) (dv : Value) (g base : Nat) (cur : Array Value) (pre : List Ston) (xs : List UInt8) (v sv : Value) (w : World) (h : Rec te pe w g cur xs v) (hx : (zaC (some xs)).1 ≠ 3) :
 Calls prog 74 #[dv, v, sv] w (zbS w base sv.ownBlock pre xs) := by
 have hd : zaJ xs = none := by
  rcases xs with _ | ⟨b, r⟩
  ·rfl
  ·have : ¬ b = 3 := by rintro rfl; exact hx rfl
   simp [zaJ, zbq, this]
 unfold zbS; rw [hd]; clear hd; have hD := h.dec; obtain ⟨off, c, rfl, _⟩ := h; have hQ := zbt te pe w.heap.size g cur _ _ hD; have dW : ¬ ((zaC (some xs)).1 : Int) = 3 := by omega
 clear hD hx; generalize (zaC (some xs)).1 = x at hQ dW; generalize (zaC (some xs)).2 = st at hQ; go_enter func74, ntmps74; go_wp2_with (first | (go_at_call 160; refine hQ.mono ?_; rintro r w1 ⟨rfl, cz, ag⟩) | (go_at_call 161; refine (zbR _ _).mono ?_; rintro r w2 ⟨t, a, rfl, ar⟩))
 go_ret2; refine ⟨?_, _, _, rfl⟩; have f1 := (((zmR (fun k => some k = sv.ownBlock) w).alloc (.cells #[.slice (some ⟨g, off, none⟩) xs.length c, .nilIface] 229)).trans ag (fun k hk e => by omega)); exact f1.trans ar (fun _ _ e => e.elim)
theorem OwnS.off {base te ti b t : Nat} {w w' : World} {v : Value} {lv : List (Ston × Value)} {cs : Array Value} (h : OwnS base te ti w v lv) (hb : Blk w b t cs) (h1 : te ≠ t) (h2 : ti ≠ t) (hf : Fr (fun k => k = b) w w') : OwnS base te ti w' v lv :=
 ⟨zai h.1 hf (fun g hg e => zak h.1 hb h1 (by rw [hg, e])), fun p hp => zai (h.2 p hp) hf (fun g hg e => zak (h.2 p hp) hb h2 (by rw [hg, e]))⟩
theorem OwnS.alloc {base te ti : Nat} {w : World} {v : Value} {lv : List (Ston × Value)} (h : OwnS base te ti w v lv) (o : Obj) : OwnS base te ti (w.alloc o) v lv := h.fr ((zmR (fun _ => False) w).alloc o) (fun _ _ _ e => e)
theorem Dec.blk {te : TypeId} {pe : Value} {w : World} {d g : Nat} {cur : Array Value} {st : St} (h : Dec te pe w d g cur st) : ∃ cs, Blk w d 229 cs := by
 rcases st with _ | l
 ·obtain ⟨_, off, c, hb, _⟩ := h; exact ⟨_, hb⟩
 ·obtain ⟨off, c, hb, _⟩ := h; exact ⟨_, hb⟩
theorem zg8 (te : TypeId) (pe : Value) (dv : Value) (g base : Nat) (cur : Array Value) (lp : List (Ston × Value)) (rest : List UInt8) (v sv : Value) (w : World) (h : Rec te pe w g cur (3 :: rest) v) (ho : OwnS base 147 279 w sv lp) (hb : g < base /\ 2 < base /\ base <= w.heap.size) (bj : lp.length <= 1073741824) :
 Calls prog 74 #[dv, v, sv] w (zbS w base sv.ownBlock (lp.map Prod.fst) (3 :: rest)) := by
 obtain ⟨i0, aB, ay, ax, aA⟩ := info_parts info147; have hD := h.dec; obtain ⟨off, c, rfl, _⟩ := h; have hQ := zbt te pe w.heap.size g cur _ _ hD; have e1 : zaC (some (3 :: rest)) = (3, some rest) := rfl; rw [e1] at hQ; have HO := zlM ho; obtain ⟨a', k', rfl⟩ := zaa ho.1; have ox : rest.length <= 1099511627776 := by
  obtain ⟨n, off', c', _, _, hn, aR, _⟩ := hD.open_; have := hn _ rfl; simp at this; omega
 obtain ⟨np, fj⟩ := exE lp.length; have lC := zlM fj; rw [fj] at HO bj ⊢; have nD := hD.blk; clear hD e1 ho fj; go_enter func74, ntmps74
 go_wp2_with (first
  | (go_at_call 160; refine hQ.mono ?_; rintro r w1 ⟨rfl, cz, ag⟩; refine Hid.out ?_))
 obtain ⟨csD, nD⟩ := nD; have F1 : Fr (fun k => some k = (Value.slice a' np k').ownBlock) w w1 := ((zmR (fun k => some k = (Value.slice a' np k').ownBlock) w).alloc _).trans ag (fun k hk e => by omega); have O1 : OwnS base 147 279 w1 (.slice a' np k') lp := (HO.out.alloc _).off nD (by decide) (by decide) ag; have bw := F1.size
 have eP : ∀ k, (Value.slice a' np k').ownBlock = some k -> k < w.heap.size := fun k hk => zar HO.out.1 hk; have cd := zlM F1; have dk := zlM O1; have aI := zlM cz; have hN := zlM eP; clear cz ag hQ F1 O1 eP nD; refine zlM ?_; go_wp2_with fail
 go_loopw [2] (fun sv wr => ∃ (st : St) (acc : List Stn) (lo : List (Ston × Value)) (j : Nat), Hid (Dec te pe wr w.heap.size g cur st) /\ Hid (OwnS base 147 279 wr sv lo) /\ Hid (lo.map Prod.fst = lp.map Prod.fst ++ acc.map one) /\ Hid (lo.length = np + acc.length) /\ Hid (Fr (fun k => some k = (Value.slice a' np k').ownBlock) w wr) /\ Hid (∀ k, sv.ownBlock = some k -> (some k = (Value.slice a' np k').ownBlock ∨ w.heap.size < k)) /\
  Hid (zaj zbz j st acc = zaj zbz rest.length (some rest) []) /\ Hid (∀ l, st = some l -> l.length <= j /\ acc.length + l.length <= rest.length) /\ acc.length <= rest.length + 1) (fun _ wr => zic w.heap.size wr)
 case atStart => exact ⟨some rest, [], lp, rest.length, aI, dk, zlM (by simp), zlM (by simpa using lC.out), cd, zlM (fun k hk => .inl hk.symm), zlM rfl, zlM (fun l hl => by cases hl; simp), by simp⟩
 case round =>
  obtain ⟨st, acc, lo, j, HD, HO, HM, ip, HF, HB, HE, HL, mj⟩ := hrel; obtain ⟨n6, iw, c6, p0, p1, cQ, aR, hd, hg, h2⟩ := HD.out.open_; have hE := zgO te pe _ _ _ _ _ HD.out; have hLn := decLen2 te pe _ _ _ _ _ HD.out; obtain ⟨a6, k6, rfl⟩ := zaa HO.out.1; rcases st with _ | l
  ·clear cQ p1 p0
   have aJ : zaj zbz rest.length (some rest) [] = (acc, none) := by rw [<- HE.out]; unfold zaj; rcases j with _ | j <;> rfl
   have HR := zlM (show zaJ (3 :: rest) = none from zcY aJ); clear aJ; simp only [zjj] at hE; go_wp2_with (go_at_call 118; refine hLn.mono ?_; rintro r w7 ⟨n7, rfl, _, hb7, rfl⟩; refine Hid.out ?_)
   rcases zl9 n7 with rfl | oz
   ·refine zlM ?_
    go_wp2_with (go_at_call 119; refine hE.mono ?_; rintro r w7 ⟨rfl, rfl⟩)
    go_ret2; exact zea HR.out HF.out
   ·have bW : (0 : Int) < (n7 : Int) := by omega
    refine zlM ?_; go_wp2_with (go_at_call 119; refine hE.mono ?_; rintro r w7 ⟨rfl, rfl⟩)
    go_ret2; exact zea HR.out HF.out
  ·obtain rfl : n6 = l.length := cQ l rfl
   simp only [zjj] at hE; rcases l with _ | ⟨x, r⟩
   ·have aJ : zaj zbz rest.length (some rest) [] = (acc, some []) := by rw [<- HE.out]; unfold zaj; rcases j with _ | j <;> rfl
    have HR := zlM (show zaJ (3 :: rest) = some acc from zcX aJ); clear aJ cQ p1; simp only [zmE] at p0; go_wp2_with (go_at_call 118; refine hLn.mono ?_; rintro r w7 ⟨n7, rfl, bW, hb7, rfl⟩; refine Hid.out ?_)
    have lY : n7 = 0 := bW [] rfl; have hn9 : ¬ (0 : Int) < (n7 : Int) := by omega
    clear bW lY; refine zlM ?_; go_wp2_with (go_at_call 119; refine hE.mono ?_; rintro r w7 ⟨rfl, rfl⟩)
    go_ret2; exact zf2 HR.out HF.out HM.out HO.out
   ·obtain ⟨n7, bW⟩ := exE ((x :: r).length)
    have lY : (0 : Int) < (n7 : Int) := by rw [<- bW]; simp
    have gj := HL.out _ rfl; have hM := zbr HD.out; rw [bW] at p0 gj hM; have cV := zcE te pe _ _ _ _ _ HD.out; have eW := zlM bW; clear cQ p1 bW
    go_wp2_with (first
     | (go_at_call 118; refine hLn.mono ?_; rintro r w7 ⟨n9, rfl, hn9, hb7, rfl⟩; have hn9' : n7 = n9 := ((hn9 _ rfl).trans eW.out).symm; subst hn9')
     | (go_at_call 119; refine hE.mono ?_; rintro r w7 ⟨rfl, rfl⟩)
     | (go_at_call 162; refine cV.mono ?_; rintro r w8 ⟨rfl, fE, cJ⟩; refine Hid.out ?_))
    have s8 := cJ.size; have D8 := zlM fE; have il := zcS te pe _ _ _ _ _ fE; have F8 := zlM cJ; clear fE cJ cV p0; refine zlM ?_; go_wp2_with (go_at_call 165; refine il.mono ?_; rintro r w9 ⟨rfl, ff, ef⟩; refine Hid.out ?_)
    have s9 := ef.size; have D9 := zlM ff; have jI := zcS te pe _ _ _ _ _ ff; have F9 := zlM ef; clear ff ef il; refine zlM ?_; go_wp2_with (go_at_call 165; refine jI.mono ?_; rintro r wA ⟨rfl, qp, iE⟩; refine Hid.out ?_)
    have FA : Fr (fun k => k = w.heap.size) wr wA := (F8.out.same F9.out).same iE; have sA := FA.size; have DA := zlM qp; have dS := zlM FA; obtain ⟨csD, nD⟩ := HD.out.blk; have OA : OwnS base 147 279 wA (.slice a6 lo.length k6) lo := HO.out.off nD (by decide) (by decide) FA; have cU := zlM OA; clear qp iE jI FA OA D8 F8 D9 F9 nD; refine zlM ?_
    go_wp2_with (first
     | (at_builtin; refine Hid.out ?_))
    have bX : ∀ l, (zbz (some (x :: r))).2 = some l -> l.length < n7 := fun l hl => eW.out ▸ zjv hl; have im : Dec te pe wA w.heap.size g cur (zbz (some (x :: r))).2 := DA.out
    have dr : Hid (∀ j', j = j' + 1 -> zaj zbz j' (zbz (some (x :: r))).2 (acc ++ [(zbz (some (x :: r))).1]) = zaj zbz rest.length (some rest) []) := zlM (by rintro j' rfl; exact HE.out); have q1 : (zac (some (x :: r))).1 = (zbz (some (x :: r))).1.ref := rfl; have q2 : (zaH (zac (some (x :: r))).2).1 = (zbz (some (x :: r))).1.lo := rfl
    have q3 : (zaH (zaH (zac (some (x :: r))).2).2).1 = (zbz (some (x :: r))).1.hi := rfl; rw [q3, q2, q1]; clear DA hE HE q1 q2 q3; generalize zbz (some (x :: r)) = S at im bX dr ⊢; obtain ⟨s1, jj⟩ := S; simp only [] at im bX dr ⊢; have gQ := zlM im; have b8 := zlM bX; clear im bX; refine zlM ?_; have hbA : base <= wA.heap.size := by omega
    have an := own_one (w := wA) (base := base) (e := 279) (a := .int .i64 s1.lo) (b := .int .i64 s1.hi) hbA; have jw : lo.length <= 1073741824 + 1099511627776 + 1 := by have := ip.out; omega
    refine zae _ rfl _ _ 139 139 rfl base 147 i0 _ 2 32 underlying139 aB ay ax aA rfl (by decide) (.slice a6 lo.length k6) lo.length (lo.flatMap stc) rfl ((cU.out.alloc _).alloc _).1 _ 1 (stc (one s1, .slice (some ⟨wA.heap.size, 0, none⟩) 1 1)) rfl (zaF underlying139 (zaL wA _ 147 (stc (one s1, .slice (some ⟨wA.heap.size, 0, none⟩) 1 1)).toArray) rfl (by simp [stc, Value.oneCell'])) (by unfold maxLen; omega) (by omega) (by simp; omega) ?_
    intro v' w2 ac ad aw
    obtain ⟨a9, k9, rfl⟩ := zaa ac
    have aU : ∀ k, (Value.slice a6 lo.length k6).ownBlock = some k -> base <= k /\ k ≠ w.heap.size := fun k hk => ⟨(cU.out.1.lt k hk).1, by
     rcases HB.out k hk with h | h
     ·have := hN.out k h.symm; omega
     ·omega⟩
    have iy := ad.size; simp at iy; have fG : Fr (fun k => some k = (Value.slice a6 lo.length k6).ownBlock) wA w2 := (((zmR (fun k => some k = (Value.slice a6 lo.length k6).ownBlock) wA).alloc _).alloc _).grown ad (fun k hk => .inl hk.symm)
    have rD : Dec te pe w2 w.heap.size g cur jj := gQ.out.fr fG (fun e => (aU _ e.symm).2 rfl) (fun e => by have := (aU _ e.symm).1; omega) (fun e => by have := (aU _ e.symm).1; omega); have rO : OwnS base 147 279 w2 (.slice a9 (lo.length + 1) k9) (lo ++ [(one s1, .slice (some ⟨wA.heap.size, 0, none⟩) 1 1)]) :=
     OwnS.push (p := (one s1, .slice (some ⟨wA.heap.size, 0, none⟩) 1 1)) ((cU.out.alloc _).alloc _) (an.alloc _) ad ac (by decide)
    have rMM : (lo ++ [(one s1, Value.slice (some ⟨wA.heap.size, 0, none⟩) 1 1)]).map Prod.fst = lp.map Prod.fst ++ (acc ++ [s1]).map one := by
     rw [zmc, zmc, HM.out, zlP]; rfl
    have rL : (lo ++ [(one s1, Value.slice (some ⟨wA.heap.size, 0, none⟩) 1 1)]).length = np + (acc ++ [s1]).length := by
     rw [zlN, zlN, ip.out]; simp [Nat.add_assoc]
    have rF : Fr (fun k => some k = (Value.slice a' np k').ownBlock) w w2 := (HF.out.trans dS.out (fun k hk e => by omega)).trans fG (fun k hk e => by
     rcases HB.out k e.symm with h | h
     ·exact h
     ·omega)
    have rB : ∀ k, (Value.slice a9 (lo.length + 1) k9).ownBlock = some k -> (some k = (Value.slice a' np k').ownBlock ∨ w.heap.size < k) := fun k hk => by
     rcases aw with h | h
     ·exact HB.out k (h ▸ hk)
     ·rw [h] at hk; injection hk with hk; simp at hk; exact .inr (by omega)
    have rM : zic w.heap.size w2 < n7 + 1 := by
     rcases jj with _ | l9
     ·rw [zc8 rD]; omega
     ·rw [zbr rD]; have := b8.out l9 rfl; omega
    have RD := zlM rD; have RO := zlM rO; have RF := zlM rF; have RB := zlM rB; have RMM := zlM rMM; have RL := zlM rL; clear rD rO rF rB rMM rL ac ad aw aU fG an cU; go_wp2; go_roundw
    case rel =>
     obtain ⟨j', rfl⟩ : ∃ j', j = j' + 1 := ⟨j - 1, by have := eW.out; simp at this; omega⟩; have au : ∃ a m c, (Value.slice a9 (lo.length + 1) k9) = .slice a m c := ⟨_, _, _, rfl⟩; refine ⟨jj, acc ++ [s1], _, j', RD, RO, RMM, RL, RF, RB, zlM (dr.out j' rfl), zlM (fun l hl => ?_), by simp; omega⟩; have := b8.out l hl; rw [zlN, zl3]; omega
    case measure => rw [hM]; exact rM
theorem zh9 (te : TypeId) (pe : Value) (dv : Value) (g base : Nat) (cur : Array Value) (lp : List (Ston × Value)) (xs : List UInt8) (v sv : Value) (w : World) (h : Rec te pe w g cur xs v) (ho : OwnS base 147 279 w sv lp) (hb : g < base /\ 2 < base /\ base <= w.heap.size) (bj : lp.length <= 1073741824) :
 Calls prog 74 #[dv, v, sv] w (zbS w base sv.ownBlock (lp.map Prod.fst) xs) := by
 by_cases hx : (zaC (some xs)).1 = 3
 ·rcases xs with _ | ⟨b, rest⟩
  ·exact absurd hx (by decide)
  ·have hb2 : b = 3 := by
    have : b.toNat = (3 : UInt8).toNat := hx; exact UInt8.toNat_inj.1 this
   subst hb2; exact zg8 te pe dv g base cur lp rest v sv w h ho hb bj
 ·exact zg7 te pe dv g base cur (lp.map Prod.fst) xs v sv w h hx
def outS (pre : List Ston) (xs : List UInt8) : List Ston := match zaJ xs with | some l => pre ++ l.map one | none => []
def ReadEndsS (w : World) (bb bp bo : Nat) (pre : List Ston) (xs : List UInt8) (r : Ending) (w' : World) : Prop :=
 r = .returned (.tuple #[]) /\ Fr (fun k => k = bb ∨ k = bp ∨ k = bo) w w' /\ Blk w' bo 4 #[.bool (zaJ xs).isSome] /\
  ∃ v lo, Blk w' bp 54 #[.slice none 0 0, .slice none 0 0, v, .slice none 0 0, .slice none 0 0, .slice none 0 0, .slice none 0 0] /\ lo.map Prod.fst = outS pre xs /\ OwnS w.heap.size 151 281 w' v lo
theorem outS_len (pre : List Ston) (xs : List UInt8) : (outS pre xs).length <= pre.length + xs.length := by
 unfold outS; split
 ·rename_i h
  have := zek h; rw [zlN, zma]; omega
 ·simp
theorem outS_ivs {pre : List Ston} {xs : List UInt8} (h : ∀ s ∈ pre, s.ivs.length <= 1073741824) : ∀ s ∈ outS pre xs, s.ivs.length <= 1073741824 := by
 unfold outS; split
 ·intro s hs
  rcases zms.1 hs with hs | hs
  ·exact h s hs
  ·obtain ⟨t, _, rfl⟩ := zmi.1 hs
   simp [one]
 ·intro s hs; cases hs
theorem zgX {w w' : World} {base : Nat} {o : Option Nat} {pre : List Ston} {xs : List UInt8} {r : Ending} (h : zbS w base o pre xs r w') :
 ∃ v' e lo, r = .returned (.tuple #[v', e]) /\ lo.map Prod.fst = outS pre xs /\ OwnS base 147 279 w' v' lo /\ Fr (fun k => some k = o) w w' /\ ((e = .nilIface /\ (zaJ xs).isSome = true) ∨ (∃ t a, e = .iface t a /\ (zaJ xs).isSome = false)) := by
 unfold zbS at h; unfold outS; rcases hd : zaJ xs with _ | l
 ·rw [hd] at h
  obtain ⟨hf, t, a, rfl⟩ := h; exact ⟨_, _, [], rfl, rfl, OwnS.nil _ _ _ _, hf, .inr ⟨_, _, rfl, rfl⟩⟩
 ·rw [hd] at h
  obtain ⟨hf, v', lo, rfl, hm, ho⟩ := h; exact ⟨_, _, lo, rfl, hm, ho, hf, .inl ⟨rfl, rfl⟩⟩
theorem zfN {W w5 w6 : World} {b t : Nat} {cs : Array Value} {v5 : Value} {lo : List (Ston × Value)} (h : Blk W b t cs) (aq : Fr (fun _ => False) W.drew w5) (ho : OwnS W.drew.heap.size 147 279 w5 v5 lo) (aS : Fr (fun k => some k = v5.ownBlock) w5 w6) : Blk w6 b t cs :=
 (h.drew.fr aq (fun e => e)).fr aS (fun e => by have h1 := (ho.1.lt b e.symm).1; have h2 : b < W.heap.size := h.lt; exact zmw _ (zmb h2 h1))
theorem zix (te : TypeId) (pe : Value) (bb bk bq bp bo : Nat) (P : Nat -> Prop) (q0 q1 q2 q3 q4 q5 q6 v : Value) (xs : List UInt8) (w : World) (hb : Blk w bb 44 #[v]) (hv : Sl P w v 1 xs.length (bc xs)) (hk : Blk w bk 3 #[.int .i64 3]) (hq : Blk w bq 54 #[q0, q1, q2, q3, q4, q5, q6]) (lp : List (Ston × Value)) (hs : SlS P w q2 lp) (bj : lp.length <= 1073741824) (pz : ∀ s ∈ lp.map Prod.fst, s.ivs.length <= 1073741824)
 (hp : Blk w bp 54 #[.slice none 0 0, .slice none 0 0, .slice none 0 0, .slice none 0 0, .slice none 0 0, .slice none 0 0, .slice none 0 0]) (ho : Blk w bo 4 #[.bool false]) (hE : w.cell? ⟨2, 0, none⟩ = some (.iface te pe)) (bg : xs.length <= 1073741824)
 (dX : ∀ g, P g -> g ≠ bb) (dy : bp ≠ bq) (h2 : bb ≠ 2 /\ bp ≠ 2 /\ bo ≠ 2) :
 Calls prog 66 #[.pointer (some ⟨bb, 0, none⟩), .pointer (some ⟨bk, 0, none⟩), .pointer (some ⟨bq, 0, none⟩), .pointer (some ⟨bp, 0, none⟩), .pointer (some ⟨bo, 0, none⟩)] w (ReadEndsS w bb bp bo (lp.map Prod.fst) xs) := by
 obtain ⟨i0, aB, ay, ax, aA⟩ := info_parts zfd; have HB := zlM hb; have HV := zlM hv; have HK := zlM hk; have HQ := zlM hq; have HS := zlM hs; have HP := zlM hp; have HO := zlM ho; have HE := zlM hE; have kr := zlM dX; have bT : ∃ A m c, v = .slice A m c := let ⟨A, c, h, _⟩ := hv; ⟨A, _, c, h⟩
 obtain ⟨A, m, c, rfl⟩ := bT; clear hb hv hk hq hs hp ho hE dX; go_enter func66, ntmps66; go_wp2_with (first | (go_at_call 67; refine (zdz _ _).mono ?_; rintro r w1 ⟨v1, rfl, ⟨a, rfl⟩, ag⟩; refine Hid.out ?_))
 have av := ((HB.out.fr ag (fun e => e)).alloc (.cells #[.slice (some a) 0 0, .string ⟨#[]⟩, .slice none 0 0] 119)).alloc (.cells #[] 5); have b1 := av.cell 0; simp at b1; clear av; refine zlM ?_; go_wp2_with (at_builtin; refine Hid.out ?_)
 have er := zmQ (base := w.heap.size) (e := 5) (size := 1) (w1.alloc (.cells #[.slice (some a) 0 0, .string ⟨#[]⟩, .slice none 0 0] 119)) #[] 0 (by have := ag.size; simp; omega) (zlX _) rfl; have dC : Fr (fun _ => False) w ((w1.alloc (.cells #[.slice (some a) 0 0, .string ⟨#[]⟩, .slice none 0 0] 119)).alloc (.cells #[] 5)) := (ag.alloc _).alloc _; have bw := ag.size
 refine zlM ?_; have kV : (w1.alloc (.cells #[.slice (some a) 0 0, .string ⟨#[]⟩, .slice none 0 0] 119)).heap.size = w1.heap.size + 1 := by simp
 rw [kV] at er; clear b1; generalize World.alloc _ (Obj.cells #[] 5) = WA at er dC ⊢; have hsA := dC.size; have cO := zde underlying44 (HV.out.fr dC (fun _ _ e => e)) (zfx xs)
 refine zae _ rfl _ _ 44 44 rfl w.heap.size 5 i0 (.int .u8 0) 1 1 underlying44 aB ay ax aA rfl (by decide) (.slice (some ⟨w1.heap.size + 1, 0, none⟩) 0 0) 0 [] rfl er (.slice A m c) xs.length (bc xs) rfl cO (by unfold maxLen; omega) (by omega) (by omega) ?_; intro v' w2 ac ad aw
 rw [zmh, zmo] at ac; obtain ⟨a2, k2, rfl⟩ := zaa ac; have eN : ∀ k, (Value.slice (some ⟨w1.heap.size + 1, 0, none⟩) 0 0).ownBlock = some k -> w.heap.size <= k := fun k hk => by
  have hk : w1.heap.size + 1 = k := zmB hk; omega
 have F2 : Fr (fun _ => False) w w2 := dC.grown ad (fun k hk => .inr (eN k hk)); have dx : ∃ g2 aM, a2 = some ⟨g2, 0, none⟩ /\ w.heap.size <= g2 /\ Blk w2 g2 5 aM /\ xs.length <= k2 /\ k2 <= maxLen /\ aM.toList.take xs.length = bc xs := by
  rcases ac.2 with ⟨h, _⟩ | ⟨g2, aP, aM, h, h1, h3, h4, h5, _, h6⟩
  ·rw [h] at aw
   rcases aw with aw | aw <;> exact absurd aw (by simp [Value.ownBlock])
  ·injection h with e1 e2 e3
   subst e3; exact ⟨g2, aM, e1, h1, h3, h4, h5, by simpa using h6⟩
 have cr : ∀ k, (Value.slice a2 xs.length k2).ownBlock = some k -> w.heap.size <= k := fun k hk => (ac.lt k hk).1; have lB := HB.out.lt; have gB := HB.out.fr F2 (fun e => e); have y0 := gB.cell 0; have y1 := gB.frozen 0; simp at y0
 have F3 : Fr (fun k => k = bb) w (w2.setCell ⟨bb, 0, none⟩ (.slice a2 xs.length k2)) := (F2.mono (S' := fun k => k = bb) (fun _ _ e => e.elim)).setCell (p := ⟨bb, 0, none⟩) (.inl rfl) _; have O3 : (w2.setCell ⟨bb, 0, none⟩ (.slice a2 xs.length k2)).ownsRow w.heap.size 5 1 (.slice a2 xs.length k2) xs.length (bc xs) := zai ac (Fr.put_ w2 bb 0 _) (fun k hk e => by have := cr k hk; omega)
 have B3 : Blk (w2.setCell ⟨bb, 0, none⟩ (.slice a2 xs.length k2)) bb 44 #[.slice a2 xs.length k2] := by simpa using gB.set_ 0 (.slice a2 xs.length k2)
 have K3 := (HK.out.fr F3 (fun e => zmT HK.out HB.out (by decide) e)).cell 0; have Q3 := HQ.out.fr F3 (fun e => zmT HQ.out HB.out (by decide) e); have P3 := HP.out.fr F3 (fun e => zmT HP.out HB.out (by decide) e); have O4 := HO.out.fr F3 (fun e => zmT HO.out HB.out (by decide) e)
 have E3 : (w2.setCell ⟨bb, 0, none⟩ (.slice a2 xs.length k2)).cell? ⟨2, 0, none⟩ = some (.iface te pe) := by
  rw [F3.cell (p := ⟨2, 0, none⟩) (zlT w _ HE.out) (fun e => h2.1 e.symm)]; exact HE.out
 simp at K3; have bH := zlM F3; have es := zlM O3; have bI := zlM B3; have c8 := zlM Q3; have eO := zlM P3; have dq := zlM O4; have dK := zlM E3; have o9 := zlM cr; obtain ⟨g2, aM, rfl, eo, ct, cR, dz, dw⟩ := dx
 have R3 : Rec te pe (w2.setCell ⟨bb, 0, none⟩ (.slice (some ⟨g2, 0, none⟩) xs.length k2)) g2 aM xs (.slice (some ⟨g2, 0, none⟩) xs.length k2) := by
  refine ⟨0, k2, rfl, ct.far (p := ⟨bb, 0, none⟩) (by show g2 ≠ bb; omega) _, cR, ⟨by simp [maxLen] at dz; omega, by omega⟩, fun j u hu => ?_, E3⟩; rw [zmh, <- Array.getElem?_toList]; have hj : j < xs.length := by
   rcases zmf j xs.length with h | h
   ·exact h
   ·rw [zmg (by rw [zdF]; exact h)] at hu; cases hu
  rw [<- dw, List.getElem?_take_of_lt hj] at hu; exact hu
 have bC := zlM R3; have kU := ct.lt; clear R3 dz dw ct; clear F2 F3 O3 B3 Q3 P3 O4 E3 gB eN cr ac ad aw cO er dC ag; go_wp2_with fail
 generalize w2.setCell ⟨bb, 0, none⟩ (.slice (some ⟨g2, 0, none⟩) xs.length k2) = W3 at bH es bI c8 eO dq dK bC ⊢; have f9 := bC.out; have gl : g2 < W3.heap.size := let ⟨_, _, _, h, _⟩ := f9; h.lt
 have jc : 2 < W3.heap.size := zlT W3 _ dK.out; clear f9; have hS3 : SlS P W3.drew q2 lp := HS.out.fr bH.out.drew (fun g hg e => kr.out g hg e); have eH := zeT P q2 lp W3.drew hS3 (by omega) (fun p hp => by have := pz p.1 (zmi.2 ⟨p, hp, rfl⟩); omega); have eZ : ∃ A m c, q2 = .slice A m c := let ⟨A, c, h, _⟩ := HS.out.1; ⟨A, _, c, h⟩
 obtain ⟨Aq, mq, cq, rfl⟩ := eZ; have x0 := bI.out.cell 0; have x1 := c8.out.cell 2; have ky : W3.drew.cell? ⟨bb, 0, none⟩ = some (.slice (some ⟨g2, 0, none⟩) xs.length k2) := x0; have ji : W3.drew.cell? ⟨bq, 2, none⟩ = some (.slice Aq mq cq) := x1; simp at x0 x1; clear y0 y1 K3
 go_region_held3 (fun w' => w'.cell? ⟨bb, 0, none⟩ = some (.slice (some ⟨g2, 0, none⟩) xs.length k2) /\ w'.cell? ⟨bq, 2, none⟩ = some (.slice Aq mq cq))
  ((first | (go_split_ands; refine ⟨?_, ?_⟩ <;> first | exact (bI.out.drew.fr aq (fun e => e)).cell 0 | exact (c8.out.drew.fr aq (fun e => e)).cell 2) | (go_split_ands; refine ⟨?_, ?_⟩ <;> first | exact KB.out.cell 0 | exact KQ.out.cell 2) | go_keep))
  ((first
    | (go_at_call 75; refine eH.mono ?_; rintro r5 w5 ⟨v5, l5, rfl, hm5, am, aq⟩; have mc : l5.length <= 1073741824 := by have h := zmC List.length hm5; simp at h; omega)
    | (go_at_call 74; refine (zh9 te pe _ g2 W3.drew.heap.size aM l5 xs _ v5 w5 (bC.out.fr (w := W3) (((zmR (fun _ => False) W3).drew).same aq) (fun e => e) (fun e => e)) am ⟨gl, jc, aq.size⟩ mc).mono ?_; rintro r6 w6 eI; obtain ⟨v6, e6, l6, rfl, hm6, aO, aS, cn⟩ := zgX eI; clear eI; rw [hm5] at hm6; have KB := zlM (zfN bI.out aq am aS); have KQ := zlM (zfN c8.out aq am aS))))
 have T6 : Fr (fun k => k = bb) w w6 := ((bH.out.trans (((zmR (fun _ => False) W3).drew).same aq) (fun _ _ e => e.elim)).trans aS (fun k hk e => by
  have h1 := (am.1.lt k e.symm).1; have h2 := bH.out.size
  simp at h1; omega))
 have P6 := zfN eO.out aq am aS; have O6 := zfN dq.out aq am aS; have kC : w.heap.size <= W3.drew.heap.size := bH.out.size; have V6 := OwnS.mono aO kC; have kq := zlM T6; have jf := zlM P6; have gq := zlM O6; have fy := zlM V6; have ks := zlM cn; have kJ := aq.size; have kI := aS.size
 have gL : ∀ k, v6.ownBlock = some k -> k < w6.heap.size := fun k hk => zar aO.1 hk; clear x0 x1 ky ji eH T6 P6 O6 V6 cn am aq aO aS KB KQ es bI c8 eO dq dK bC bH; have rh := zlM hm6; clear hm6 hm5 mc; have mo : l6.length <= 1073741824 + 1073741824 := by
  have h1 := outS_len (lp.map Prod.fst) xs; have h2 := zmC List.length rh.out; rw [zma] at h2; rw [zma] at h1; omega
 have qu : ∀ p ∈ l6, p.1.ivs.length <= 1073741824 := fun p hp => outS_ivs pz p.1 (by rw [<- rh.out]; exact zmi.2 ⟨p, hp, rfl⟩); have H6L := zlM mo; have H6I := zlM qu; clear mo qu pz; obtain ⟨a6, k6, rfl⟩ := zaa fy.out.1; go_wp2_with fail
 obtain ⟨n, hn⟩ := exE l6.length; have HN := zlM hn; rw [hn] at fy gL ⊢; clear hn; obtain ⟨i1, gD, ek, dZ, fI⟩ := info_parts info151
 go_loopw [113] (fun i wr => ∃ (k : Nat) (lv : Value) (lo : List (Ston × Value)), k <= n /\ i = .int .i64 k /\ Hid (Fr (fun j => j = bb ∨ j = bp) w wr) /\ Hid (OwnS w.heap.size 147 279 wr (.slice a6 n k6) l6) /\ Hid (Blk wr bo 4 #[.bool false]) /\
  Hid (Blk wr bp 54 #[.slice none 0 0, .slice none 0 0, lv, .slice none 0 0, .slice none 0 0, .slice none 0 0, .slice none 0 0]) /\ Hid (OwnS w.heap.size 151 281 wr lv lo) /\ Hid (lo.map Prod.fst = (l6.take k).map Prod.fst) /\ Hid (lo.length = k)) (fun i _ => n - (intOf i).toNat)
 case atStart => exact ⟨0, _, [], zlX _, rfl, zlM (Fr.mono kq.out (fun _ _ e => Or.inl e)), fy, gq, jf, zlM (OwnS.nil _ _ _ _), zlM rfl, zlM rfl⟩
 case round =>
  obtain ⟨k, lv, lo, hk, rfl, RF, RV, RO, RP, RL, RM, RN⟩ := hrel; by_cases hlt : k < n
  ·obtain ⟨A7, c7, e7, _, _, jt⟩ := zmU RV.out.1
   injection e7 with e7 e7n nF; clear e7n; subst e7 nF; obtain ⟨g7, bi, rfl, _, bG⟩ := jt (by have := HN.out; omega); obtain ⟨x, hx⟩ : ∃ x, l6[k]? = some x := ⟨_, zlO (by rw [HN.out]; exact hlt)⟩; have cc : ∀ j, j < 2 -> ∀ u, (stc x)[j]? = some u -> wr.cell? ⟨g7, bi + (k * 2 + j), none⟩ = some u := fun j hj u hu =>
    bG (k * 2 + j) u (by rw [zbB stc (fun _ => rfl) l6 k x hx j hj]; exact hu)
   have c0 : wr.cell? ⟨g7, bi + k * 2, none⟩ = some (.int .u64 x.1.ref) := cc 0 (by omega) _ rfl; have c1 : wr.cell? ⟨g7, bi + k * 2 + 1, none⟩ = some x.2 := cc 1 (by omega) _ rfl; have aH := zlU hx; have aX := RV.out.2 x aH; have bA := H6I.out x aH; obtain ⟨⟨ref, ivs⟩, iv⟩ := x; simp only [] at c0 c1 aX bA; obtain ⟨Ai, ci, rfl⟩ := zaa aX; have HX := zlM hx
   have HIV := zlM aX; obtain ⟨aL, kL, rfl⟩ := zaa RL.out.1; clear bG jt cc hx aH aX; go_wp2_with fail
   have cj := zmS wr 147 #[.int .u64 ref, .slice Ai ivs.length ci]; have s0 := cj.cell 0; have s1 := cj.cell 1; have fc := RP.out.alloc (.cells #[.int .u64 ref, .slice Ai ivs.length ci] 147); have s3 := fc.cell 2; simp only [zl7, zl5, zl6] at s0 s1 s3; have lP := RP.out.lt; have bF := RF.out.size
   have jw : lo.length <= 1073741824 + 1073741824 := by have h1 := RN.out; have h2 := H6L.out; have h3 := HN.out; omega
   have kS : k < 4294967296 := by have h1 := RN.out; omega
   have dt := zlM cj; have mA := zlM fc; have hC := zfY _ (.slice Ai ivs.length ci) ivs (wr.alloc (.cells #[.int .u64 ref, .slice Ai ivs.length ci] 147)).drew (zmU (HIV.out.alloc (.cells #[.int .u64 ref, .slice Ai ivs.length ci] 147)).drew) (by omega); clear cj fc
   refine zaV (fun w' => w'.cell? ⟨bp, 2, none⟩ = some (.slice aL lo.length kL) /\ w'.cell? ⟨wr.heap.size, 0, none⟩ = some (.int .u64 ref) /\ w'.cell? ⟨wr.heap.size, 1, none⟩ = some (.slice Ai ivs.length ci)) 9 (by kernel_rfl) ⟨s3, s0, s1⟩ ?_; intro hS; refine wpT 0 (.pointer (some ⟨bp, 2, none⟩)) rfl (by intro w; go_simp) hS ?_
   try simp only [Act.put, zlQ, zlR, zlS]
   refine wpL 1 [9, 11] (.slice aL lo.length kL) rfl (by rintro w ⟨h1, h2, h3⟩; go_simp) hS ?_; try simp only [Act.put, zlQ, zlR, zlS]
   refine wpT 2 (.pointer (some ⟨wr.heap.size, 0, none⟩)) rfl (by intro w; go_simp) hS ?_; try simp only [Act.put, zlQ, zlR, zlS]
   refine wpL 3 [7, 8, 9, 11] (.int .u64 ref) rfl (by rintro w ⟨h1, h2, h3⟩; go_simp) hS ?_; try simp only [Act.put, zlQ, zlR, zlS]
   refine wpT 4 (.pointer (some ⟨wr.heap.size, 1, none⟩)) rfl (by intro w; go_simp) hS ?_; try simp only [Act.put, zlQ, zlR, zlS]
   refine wpL 5 [6, 7, 8, 9, 11] (.slice Ai ivs.length ci) rfl (by rintro w ⟨h1, h2, h3⟩; go_simp) hS ?_; try simp only [Act.put, zlQ, zlR, zlS]
   refine zap 6 (by kernel_rfl) rfl (by rfl) (fun K hK => ?_); go_simp; go_at_call 76
   refine hC.mono ?_; rintro r w5 ⟨v5, rfl, am, aq⟩; obtain ⟨a5, k5, rfl⟩ := zaa am; have F5 := zlM (((zmR (fun _ => False) wr).alloc (.cells #[.int .u64 ref, .slice Ai ivs.length ci] 147)).drew.same aq); have P5 := zlM (mA.out.drew.fr aq (fun e => e)); have B5 := zlM (dt.out.drew.fr aq (fun e => e))
   have iL : w5.cell? ⟨bp, 2, none⟩ = some (.slice aL lo.length kL) /\ w5.cell? ⟨wr.heap.size, 0, none⟩ = some (.int .u64 ref) /\ w5.cell? ⟨wr.heap.size, 1, none⟩ = some (.slice Ai ivs.length ci) := ⟨P5.out.cell 2, B5.out.cell 0, B5.out.cell 1⟩; have lM := F5.out.size; have N5 := zlM (zah am (base' := w.heap.size) (by simp; omega)); have L5 := zlM (RL.out.fr F5.out (fun _ _ _ e => e))
   refine hK.out _ _ iL ?_; clear hK K hS hC am aq; try simp only [Act.put, zlQ, zlR, zlS]
   refine wpT 7 (.agg #[.int .u64 ref, .slice a5 ivs.length k5]) rfl (by intro w; go_simp) iL ?_; try simp only [Act.put, zlQ, zlR, zlS]
   refine zap 8 (by kernel_rfl) rfl (by rfl) (fun K hK => ?_); go_simp; refine hK.out _ _ ⟨(P5.out.alloc _).cell 2, (B5.out.alloc _).cell 0, (B5.out.alloc _).cell 1⟩ ?_; clear hK K iL; try simp only [Act.put, zlQ, zlR, zlS]
   refine zaA 9 (by kernel_rfl) rfl (by kernel_rfl) (by rfl) (fun K hK => ?_)
   refine zay _ _ _ 48 48 (by rfl) w.heap.size 151 i1 _ 2 32 underlying48 gD ek dZ fI rfl (by decide) (.slice aL lo.length kL) lo.length (lo.flatMap stc) (by rfl) (L5.out.alloc _).1 _ 1 (stc (⟨ref, ivs⟩, .slice a5 ivs.length k5)) (by rfl) (zaF underlying48 (zmS w5 151 (stc (⟨ref, ivs⟩, .slice a5 ivs.length k5)).toArray) rfl (by simp [stc, Value.oneCell'])) (by unfold maxLen; omega) (by omega) (by simp; omega) ?_
   intro v' w2 ac ad aw
   obtain ⟨a9, k9, rfl⟩ := zaa ac; have dQ := zlM ((P5.out.alloc _).grown ad (Ne.symm (zak RL.out.1 RP.out (by decide)))); have p9 := dQ.out.cell 2; have z9 := dQ.out.frozen 2; simp at p9; refine hK.out _ _ ?_; clear hK K; try simp only [Act.put, zlQ, zlR, zlS]
   refine zaA 10 (by kernel_rfl) rfl (by kernel_rfl) (by rfl) (fun K hK => ?_); go_simp; refine hK.out _ _ ?_; clear hK K; refine zaA 11 (by kernel_rfl) rfl (by kernel_rfl) (by rfl) (fun K hK => ?_); go_simp; refine hK.out _ _ ?_; clear hK K; refine zbQ (by kernel_rfl) ?_ _
   have db : Blk (w2.setCell ⟨bp, 2, none⟩ (.slice a9 (lo.length + 1) k9)) bp 54 #[.slice none 0 0, .slice none 0 0, .slice a9 (lo.length + 1) k9, .slice none 0 0, .slice none 0 0, .slice none 0 0, .slice none 0 0] := by simpa using dQ.out.set_ 2 (.slice a9 (lo.length + 1) k9)
   have O5 := (RO.out.fr F5.out (fun e => e)).alloc (.cells (stc (⟨ref, ivs⟩, .slice a5 ivs.length k5)).toArray 151); have aT : Blk (w2.setCell ⟨bp, 2, none⟩ (.slice a9 (lo.length + 1) k9)) bo 4 #[.bool false] := (O5.grown ad (Ne.symm (zak RL.out.1 RO.out (by decide)))).far (p := ⟨bp, 2, none⟩) (zmT RO.out RP.out (by decide)) _
   have dV : OwnS w.heap.size 151 281 w2 (.slice a9 (lo.length + 1) k9) (lo ++ [(⟨ref, ivs⟩, .slice a5 ivs.length k5)]) :=
    OwnS.push (p := (⟨ref, ivs⟩, .slice a5 ivs.length k5)) (L5.out.alloc _) (N5.out.alloc _) ad ac (by decide)
   have cE : OwnS w.heap.size 151 281 (w2.setCell ⟨bp, 2, none⟩ (.slice a9 (lo.length + 1) k9)) (.slice a9 (lo.length + 1) k9) (lo ++ [(⟨ref, ivs⟩, .slice a5 ivs.length k5)]) := dV.off dQ.out (by decide) (by decide) (Fr.put_ w2 bp 2 _); have fG : Fr (fun j => some j = (Value.slice aL lo.length kL).ownBlock ∨ j = bp) wr (w2.setCell ⟨bp, 2, none⟩ (.slice a9 (lo.length + 1) k9)) :=
    (((F5.out.mono (S' := fun j => some j = (Value.slice aL lo.length kL).ownBlock ∨ j = bp) (fun _ _ e => e.elim)).alloc _).grown ad (fun g hg => .inl (.inl hg.symm))).setCell (p := ⟨bp, 2, none⟩) (.inl (.inr rfl)) _
   have du : OwnS w.heap.size 147 279 (w2.setCell ⟨bp, 2, none⟩ (.slice a9 (lo.length + 1) k9)) (.slice (some ⟨g7, bi, none⟩) n k6) l6 := by
    refine ⟨zai RV.out.1 fG (fun g hg e => ?_), fun p hp => zai (RV.out.2 p hp) fG (fun g hg e => ?_)⟩
    ·rcases e with e | e
     ·exact zcb RV.out.1 RL.out.1 (by decide) g hg e.symm
     ·exact zak RV.out.1 RP.out (by decide) (by rw [hg, e])
    ·rcases e with e | e
     ·exact zcb (RV.out.2 p hp) RL.out.1 (by decide) g hg e.symm
     ·exact zak (RV.out.2 p hp) RP.out (by decide) (by rw [hg, e])
   have bM : Fr (fun j => j = bb ∨ j = bp) w (w2.setCell ⟨bp, 2, none⟩ (.slice a9 (lo.length + 1) k9)) := RF.out.trans fG (fun j hj e => by
    rcases e with e | e
    ·have := (RL.out.1.lt j e.symm).1; omega
    ·exact .inr e)
   have cg : (lo ++ [((⟨ref, ivs⟩ : Ston), Value.slice a5 ivs.length k5)]).map Prod.fst = (l6.take (k + 1)).map Prod.fst := by
    rw [zmn, HX.out, zmc, zmc, RM.out]; rfl
   have cM : (lo ++ [((⟨ref, ivs⟩ : Ston), Value.slice a5 ivs.length k5)]).length = k + 1 := by rw [zlN, RN.out]; rfl
   have NP := zlM db; have NO := zlM aT; have NL := zlM cE; have NV := zlM du; have NF := zlM bM; have NM := zlM cg; have NN := zlM cM; clear db aT dV cE du bM cg cM fG ac ad aw p9 z9 c0 c1 s0 s1 s3 O5 L5 N5 F5 P5 B5; go_wp2; go_roundw
   case rel => exact ⟨k + 1, _, _, by omega, by go_num, NF, NV, NO, NP, NL, NM, NN⟩
   case measure => simp [intOf]; omega
  ·obtain rfl : k = n := by omega
   have o0 := RO.out.cell 0; have o1 := RO.out.frozen 0; simp at o0; have W1 : Blk (wr.setCell ⟨bo, 0, none⟩ (.bool (zaJ xs).isSome)) bo 4 #[.bool (zaJ xs).isSome] := by simpa using RO.out.set_ 0 (.bool (zaJ xs).isSome)
   have W2 := RP.out.far (p := ⟨bo, 0, none⟩) (zmT RP.out RO.out (by decide)) (.bool (zaJ xs).isSome); have ga := OwnS.off RL.out RO.out (by decide) (by decide) (Fr.put_ wr bo 0 (.bool (zaJ xs).isSome))
   have W4 : Fr (fun k => k = bb ∨ k = bp ∨ k = bo) w (wr.setCell ⟨bo, 0, none⟩ (.bool (zaJ xs).isSome)) := (Fr.mono (S' := fun k => k = bb ∨ k = bp ∨ k = bo) RF.out (fun _ _ e => e.elim (fun h => Or.inl h) (fun h => Or.inr (Or.inl h)))).setCell (p := ⟨bo, 0, none⟩) (.inl (.inr (.inr rfl))) _; rcases ks.out with ⟨rfl, aD⟩ | ⟨t, ae, rfl, aD⟩; all_goals
    rw [aD] at W1 W2 ga W4; have ik := zlM W1; have jH := zlM W2; have eS := zlM ga; have hW4 := zlM W4; clear W1 W2 ga W4; go_wp2_with fail
    go_end0; refine ⟨rfl, hW4.out, by rw [aD]; exact ik.out, lv, lo, jH.out, ?_, eS.out⟩; have e1 : l6.take k = l6 := zlV (by rw [HN.out]; exact zlY _); rw [RM.out, e1, rh.out]
def StnParts (base : Nat) (l : List Ston) (ps : Array Value) (w : World) : Prop :=
 ∃ v lo, ps = #[.slice none 0 0, .slice none 0 0, v, .slice none 0 0, .slice none 0 0, .slice none 0 0, .slice none 0 0] /\ lo.map Prod.fst = l /\ OwnS base 151 281 w v lo
theorem seven_of2 {lv : Value} (h : ∃ A m c, lv = .slice A m c) : zlH #[.slice none 0 0, .slice none 0 0, lv, .slice none 0 0, .slice none 0 0, .slice none 0 0, .slice none 0 0] := by
 obtain ⟨A, m, c, rfl⟩ := h; exact ⟨_, _, _, _, _, _, _, _, _, _, _, _, _, _, _, _, _, _, _, _, _, rfl⟩
theorem zfa (te : TypeId) (pe : Value) (q0 q1 q2 q3 q4 q5 q6 bv : Value) (lp : List (Ston × Value)) (xs : List UInt8) (P : Nat -> Prop) (w : World) (hb : Sl P w bv 1 xs.length (bc xs)) (bg : xs.length <= 1073741824) (hP : ∀ g, P g -> g < w.heap.size)
 (au : ∀ s ∈ [q0, q1, q2, q3, q4, q5, q6], ∃ A m c, s = .slice A m c) (hs : SlS P w q2 lp) (bj : lp.length <= 1073741824) (pz : ∀ s ∈ lp.map Prod.fst, s.ivs.length <= 1073741824) (hE : w.cell? ⟨2, 0, none⟩ = some (.iface te pe)) :
 Calls prog 29 #[.int .i64 3, bv, .agg #[q0, q1, q2, q3, q4, q5, q6]] w (ReadDone (StnParts w.heap.size (outS (lp.map Prod.fst) xs)) (zaJ xs).isSome w) := by
 have h2 := zlT w _ hE; refine zbm 3 q0 q1 q2 q3 q4 q5 q6 bv xs P _ _ w hb au ?_ ?_
 ·rintro ps W W' ⟨v, lo, rfl, hm, ho⟩ hv
  refine ⟨v, lo, rfl, hm, zai ho.1 hv ?_, fun p hp => zai (ho.2 p hp) hv ?_⟩
  ·rintro g hg ⟨cs, h | h⟩
   ·exact zak ho.1 h (by decide) hg
   ·exact zak ho.1 h (by decide) hg
  ·rintro g hg ⟨cs, h | h⟩
   ·exact zak (ho.2 p hp) h (by decide) hg
   ·exact zak (ho.2 p hp) h (by decide) hg
 ·intro bb bk bq bp bo W hk bK hq hp ho fW nu nv dy hF
  have gP : W.cell? ⟨2, 0, none⟩ = some (.iface te pe) := by rw [hF.cell (p := ⟨2, 0, none⟩) h2 (fun e => e)]; exact hE
  refine (zix te pe bb bk bq bp bo P q0 q1 q2 q3 q4 q5 q6 bv xs W bK (hb.fr hF (fun _ _ e => e)) hk hq lp (hs.fr hF (fun _ _ e => e)) bj pz hp ho gP bg (fun g hg e => by have := hP g hg; omega) dy (by simp only [] at h2; omega)).mono ?_; rintro r w' ⟨rfl, hf, dg, v, lo, df, hm, ab⟩; have hz := hF.size; obtain ⟨a, c, gA⟩ := zaa ab.1
  exact ⟨rfl, hf, dg, _, seven_of2 ⟨_, _, _, gA⟩, df, v, lo, rfl, hm, OwnS.mono ab hz⟩
theorem zgV (bk bp bb br : Nat) (ep lp : Value) (P : Nat -> Prop) (s0 s1 s2 s3 s4 s5 s6 v z : Value) (xs : List UInt8) (l : List Mrk) (w : World) (hk : Blk w bk 3 #[.int .i64 5]) (hp : Blk w bp 54 #[s0, s1, s2, s3, s4, s5, s6]) (hb : Blk w bb 44 #[v]) (hr : Blk w br 44 #[z])
 (ab : w.ownsRow 0 5 1 v xs.length (bc xs)) (hs : Sl P w s5 2 l.length (l.flatMap Mrk.c)) (hl : xs.length <= 1073741824) (au : l.length <= 1073741824) (aF : ∀ s ∈ l, s.wf) (bL : bb ≠ br) :
 Calls prog 90 #[.pointer (some ⟨bk, 0, none⟩), ep, .pointer (some ⟨bp, 0, none⟩), .pointer (some ⟨bb, 0, none⟩), .pointer (some ⟨br, 0, none⟩), lp] w (zcx w br v.ownBlock (xs ++ zbb l)) := by
 have iz : bp ≠ br := zmT hp hr (by decide); have k0 := hk.cell 0; have p1 := hp.cell 5; have b0 := hb.cell 0; simp at k0 p1 b0; obtain ⟨a', n', k', rfl⟩ := zab ab; have bw : ∃ A m c, s5 = .slice A m c := let ⟨A, c, h, _⟩ := hs; ⟨A, _, c, h⟩
 obtain ⟨A, m, c, rfl⟩ := bw; have hQ := zex P (.slice A m c) l w.drew hs (by omega); have HB := zlM hb; have HP := zlM hp; have HR := zlM hr; have HO := zlM ab; have gu : w.drew.cell? ⟨bp, 5, none⟩ = some (.slice A m c) := p1; have gX : w.drew.cell? ⟨bb, 0, none⟩ = some (.slice a' n' k') := b0; clear hk hp hb hr ab hs; go_enter func90, ntmps90
 go_wp2_with fail
 have HW := zlM aF; clear aF; go_region_held3 (fun w' => w'.cell? ⟨bp, 5, none⟩ = some (.slice A m c) /\ w'.cell? ⟨bb, 0, none⟩ = some (.slice a' n' k'))
  ((first | (go_split_ands; refine ⟨?_, ?_⟩ <;> first | exact ((HP.out.drew).fr ag (fun e => e)).cell 5 | exact ((HB.out.drew).fr ag (fun e => e)).cell 0) | (go_split_ands; refine ⟨?_, ?_⟩ <;> first | exact KP.out.cell 5 | exact KB.out.cell 0) | (go_split_ands; refine ⟨?_, ?_⟩ <;> first | exact (KP.out.far (p := ⟨br, 0, none⟩) iz _).cell 5 | exact (KB.out.far (p := ⟨br, 0, none⟩) bL _).cell 0) | go_keep))
  ((first
    | (go_at_call 80; refine hQ.mono ?_; rintro r1 w1 ⟨v1, rfl, an, ag⟩)
    | (go_at_call 95; refine (zg6 ep v1 (fun g => v1.ownBlock = some g) (.slice a' n' k') xs l w1 (zmU an) (zai (World.ownsRow.drew HO.out) ag (fun _ _ e => e)) hl au HW.out (zc0 an HO.out (zlY _))).mono ?_; rintro r2 w2 ⟨v2, rfl, af, ar, bn⟩; obtain ⟨KP, KB, KR⟩ := za8 HP.out HB.out HR.out HO.out ag ar; have q0 := KR.out.cell 0; simp at q0; have q1 := KR.out.frozen 0; obtain ⟨a2, n2, k2, rfl⟩ := zab af)))
 have HE : Fr (fun k => some k = (Value.slice a' n' k').ownBlock ∨ k = br) w (w2.setCell ⟨br, 0, none⟩ (.slice a2 n2 k2)) :=
  ((((zmR (fun k => some k = (Value.slice a' n' k').ownBlock ∨ k = br) w).drew).trans ag (fun _ _ e => e.elim)).trans ar (fun _ _ e => .inl e)).setCell (p := ⟨br, 0, none⟩) (.inl (.inr rfl)) _
 have HV : Blk (w2.setCell ⟨br, 0, none⟩ (.slice a2 n2 k2)) br 44 #[.slice a2 n2 k2] := by simpa using KR.out.set_ 0 (.slice a2 n2 k2)
 have HF := zlM HE; have iS := zlM HV; have eV : (w2.setCell ⟨br, 0, none⟩ (.slice a2 n2 k2)).ownsRow 0 5 1 (.slice a2 n2 k2) (xs ++ zbb l).length (bc (xs ++ zbb l)) := zai af (Fr.put_ w2 br 0 _) (fun g hg e => zak af KR.out (by decide) (by rw [hg, e])); have dR := zlM eV; have bF := ag.size; have gh := zlM bn
 clear HE HV eV an ag af ar bn q0 q1 hQ p1 gu b0 gX; go_wp2; go_end0; refine ⟨rfl, _, iS.out, dR.out, HF.out, ?_⟩; rcases gh.out with h | ⟨k, h, hk⟩
 ·exact .inl h
 ·exact .inr ⟨k, h, by simp at bF; omega⟩
theorem zeH (s0 s1 s2 s3 s4 s5 s6 bv : Value) (xs : List UInt8) (l : List Mrk) (P : Nat -> Prop) (w : World) (hb : Sl P w bv 1 xs.length (bc xs)) (bg : xs.length <= 1073741824)
 (au : ∀ s ∈ [s0, s1, s2, s3, s4, s5, s6], ∃ A m c, s = .slice A m c) (hs : Sl P w s5 2 l.length (l.flatMap Mrk.c)) (dp : l.length <= 1073741824) (aF : ∀ s ∈ l, s.wf) :
 Calls prog 31 #[.int .i64 5, .agg #[s0, s1, s2, s3, s4, s5, s6], bv] w (zbP (fun lv _ => lv = .slice none 0 0) w (xs ++ zbb l)) := by
 refine zaO 5 s0 s1 s2 s3 s4 s5 s6 bv xs _ P _ w hb bg au (by rintro lv W rfl; exact ⟨_, _, _, rfl⟩) (fun _ _ _ h _ => h) ?_; intro bk be bp bb br bl v W hk hp bK hr hl ab bL hF
 exact (zgV bk bp bb br _ _ P s0 s1 s2 s3 s4 s5 s6 v _ xs l W hk hp bK hr (zah ab (zlX _)) (hs.fr hF (fun _ _ e => e)) bg dp aF bL).mono fun r w' h => zdc (zah ab (zlX _)) hr hl h
def MrkParts (base : Nat) (l : List Mrk) (ps : Array Value) (w : World) : Prop :=
 ∃ lv, ps = #[.slice none 0 0, .slice none 0 0, .slice none 0 0, .slice none 0 0, .slice none 0 0, lv, .slice none 0 0] /\ w.ownsRow base 168 2 lv l.length (l.flatMap Mrk.c)
theorem seven_of5 {lv : Value} (h : ∃ A m c, lv = .slice A m c) : zlH #[.slice none 0 0, .slice none 0 0, .slice none 0 0, .slice none 0 0, .slice none 0 0, lv, .slice none 0 0] := by
 obtain ⟨A, m, c, rfl⟩ := h; exact ⟨_, _, _, _, _, _, _, _, _, _, _, _, _, _, _, _, _, _, _, _, _, rfl⟩
theorem zeX (te : TypeId) (pe : Value) (q0 q1 q2 q3 q4 q5 q6 bv : Value) (pre : List Mrk) (xs : List UInt8) (P : Nat -> Prop) (w : World) (hb : Sl P w bv 1 xs.length (bc xs)) (bg : xs.length <= 1073741824) (hP : ∀ g, P g -> g < w.heap.size)
 (au : ∀ s ∈ [q0, q1, q2, q3, q4, q5, q6], ∃ A m c, s = .slice A m c) (hs : Sl P w q5 2 pre.length (pre.flatMap Mrk.c)) (bj : pre.length <= 1073741824) (hE : w.cell? ⟨2, 0, none⟩ = some (.iface te pe)) :
 Calls prog 29 #[.int .i64 5, bv, .agg #[q0, q1, q2, q3, q4, q5, q6]] w (ReadDone (MrkParts w.heap.size (zlK pre xs)) (zaG xs).isSome w) := by
 have h2 := zlT w _ hE; refine zbm 5 q0 q1 q2 q3 q4 q5 q6 bv xs P _ _ w hb au ?_ ?_
 ·rintro ps W W' ⟨lv, rfl, ho⟩ hv
  refine ⟨lv, rfl, zai ho hv ?_⟩; rintro g hg ⟨cs, h | h⟩
  ·exact zak ho h (by decide) hg
  ·exact zak ho h (by decide) hg
 ·intro bb bk bq bp bo W hk bK hq hp ho fW nu nv dy hF
  have gP : W.cell? ⟨2, 0, none⟩ = some (.iface te pe) := by rw [hF.cell (p := ⟨2, 0, none⟩) h2 (fun e => e)]; exact hE
  refine (zhQ te pe bb bk bq bp bo P q0 q1 q2 q3 q4 q5 q6 bv xs W bK (hb.fr hF (fun _ _ e => e)) hk hq pre (hs.fr hF (fun _ _ e => e)) bj hp ho gP bg (fun g hg e => by have := hP g hg; omega) dy (by simp only [] at h2; omega)).mono ?_; rintro r w' ⟨rfl, hf, dg, lv, df, ab⟩; have hz := hF.size; obtain ⟨a, c, gA⟩ := zaa ab
  exact ⟨rfl, hf, dg, _, seven_of5 ⟨_, _, _, gA⟩, df, lv, rfl, zah ab hz⟩
theorem zjF (P Q : Nat -> Prop) (u v : Value) (l : List Mrk) (w : World) (hu : Sl P w u 2 l.length (l.flatMap Mrk.c)) (hv : Sl Q w v 2 l.length (l.flatMap Mrk.c)) (hl : l.length <= 1099511627776) : Calls prog 104 #[u, v] w (zao w) := by
 obtain ⟨A, c, rfl, _, hc, hr⟩ := hu; obtain ⟨B, d, rfl, _, hd, hs⟩ := hv; obtain ⟨n, hn⟩ := exE l.length; rw [hn] at hr hs hc hd hl ⊢; have HN := zlM hn; have HR := zlM hr; have HS := zlM hs; clear hn hr hs; go_enter func104, ntmps104; go_wp2; go_loopw [5] (fun i wr => ∃ k : Nat, k <= n /\ i = .int .i64 k /\ Fr (fun _ => False) w wr) (fun i _ => n - (intOf i).toNat)
 case atStart => exact ⟨0, zlX _, rfl, zmR _ _⟩
 case round =>
  obtain ⟨k, hk, rfl, hf⟩ := hrel; by_cases hlt : k < n
  ·obtain ⟨g, off, rfl, _, aa⟩ := HR.out (by omega)
   obtain ⟨g2, ap, rfl, _, ak⟩ := HS.out (by omega); obtain ⟨x, hx⟩ : ∃ x, l[k]? = some x := ⟨_, zlO (by rw [HN.out]; exact hlt)⟩; have aC : ∀ {g off : Nat}, (∀ j u, (l.flatMap Mrk.c)[j]? = some u -> w.cell? ⟨g, off + j, none⟩ = some u) -> ∀ j, j < 2 -> ∀ u, (Mrk.c x)[j]? = some u -> wr.drew.cell? ⟨g, off + (k * 2 + j), none⟩ = some u := fun {g off} aa j hj u hu => by
    have := aa (k * 2 + j) u (by rw [zbB Mrk.c (fun _ => rfl) l k x hx j hj]; exact hu); rw [hf.drew.cell (p := ⟨g, off + (k * 2 + j), none⟩) (zlT w _ this) (fun e => e)]; exact this
   have c0 : wr.drew.cell? ⟨g, off + k * 2, none⟩ = some (.int .u64 x.ref) := aC aa 0 (by omega) _ rfl; have c1 : wr.drew.cell? ⟨g, off + k * 2 + 1, none⟩ = some (.int .u64 x.mm) := aC aa 1 (by omega) _ rfl; have d0 : wr.drew.cell? ⟨g2, ap + k * 2, none⟩ = some (.int .u64 x.ref) := aC ak 0 (by omega) _ rfl
   have d1 : wr.drew.cell? ⟨g2, ap + k * 2 + 1, none⟩ = some (.int .u64 x.mm) := aC ak 1 (by omega) _ rfl; have ar := zlM hf.drew; clear aa ak aC hf hx; go_wp2; go_region; go_wp2; go_roundw
   case rel => exact ⟨k + 1, by omega, by go_num, ar.out⟩
   case measure => simp [intOf]; omega
  ·obtain rfl : k = n := by omega
   go_wp2; go_ret; exact ⟨rfl, hf⟩
def SmpParts (base : Nat) (l : List Smp) (ps : Array Value) (w : World) : Prop :=
 ∃ lv, ps = #[.slice none 0 0, lv, .slice none 0 0, .slice none 0 0, .slice none 0 0, .slice none 0 0, .slice none 0 0] /\ w.ownsRow base 113 3 lv l.length (l.flatMap Smp.a)
theorem seven_of {lv : Value} (h : ∃ A m c, lv = .slice A m c) : zlH #[.slice none 0 0, lv, .slice none 0 0, .slice none 0 0, .slice none 0 0, .slice none 0 0, .slice none 0 0] := by
 obtain ⟨A, m, c, rfl⟩ := h; exact ⟨_, _, _, _, _, _, _, _, _, _, _, _, _, _, _, _, _, _, _, _, _, rfl⟩
theorem zdg (te : TypeId) (pe : Value) (q0 q1 q2 q3 q4 q5 q6 bv : Value) (xs : List UInt8) (P : Nat -> Prop) (w : World) (hb : Sl P w bv 1 xs.length (bc xs)) (bg : xs.length <= 1073741824) (hP : ∀ g, P g -> g < w.heap.size)
 (au : ∀ s ∈ [q0, q1, q2, q3, q4, q5, q6], ∃ A m c, s = .slice A m c) (hs : Sl P w q1 3 0 []) (hE : w.cell? ⟨2, 0, none⟩ = some (.iface te pe)) :
 Calls prog 29 #[.int .i64 2, bv, .agg #[q0, q1, q2, q3, q4, q5, q6]] w (ReadDone (SmpParts w.heap.size ((zan xs).getD [])) (zan xs).isSome w) := by
 have h2 := zlT w _ hE; refine zbm 2 q0 q1 q2 q3 q4 q5 q6 bv xs P _ _ w hb au ?_ ?_
 ·rintro ps W W' ⟨lv, rfl, ho⟩ hv
  refine ⟨lv, rfl, zai ho hv ?_⟩; rintro g hg ⟨cs, h | h⟩
  ·exact zak ho h (by decide) hg
  ·exact zak ho h (by decide) hg
 ·intro bb bk bq bp bo W hk bK hq hp ho fW nu nv dy hF
  have gP : W.cell? ⟨2, 0, none⟩ = some (.iface te pe) := by rw [hF.cell (p := ⟨2, 0, none⟩) h2 (fun e => e)]; exact hE
  refine (zhP te pe bb bk bq bp bo P q0 q1 q2 q3 q4 q5 q6 bv xs W bK (hb.fr hF (fun _ _ e => e)) hk hq (hs.fr hF (fun _ _ e => e)) hp ho gP bg (fun g hg e => by have := hP g hg; omega) dy (by simp only [] at h2; omega)).mono ?_; rintro r w' ⟨rfl, hf, dg, lv, df, ab⟩; have hz := hF.size; obtain ⟨a, c, gA⟩ := zaa ab
  exact ⟨rfl, hf, dg, _, seven_of ⟨_, _, _, gA⟩, df, lv, rfl, zah ab hz⟩
def aliveS : List Smp := [⟨1, 2, 3⟩]
theorem zje : ∀ s ∈ aliveS, s.wf := by
 intro s hs; simp only [aliveS, zmt] at hs; subst hs; exact ⟨by decide, by decide, by decide, by decide⟩
theorem zlG : zan (zaD aliveS) = some aliveS := dec_enc _ zje
theorem zgg (te : TypeId) (pe : Value) (w : World) (hE : w.cell? ⟨2, 0, none⟩ = some (.iface te pe)) : Calls prog 28 #[] w (zao w) := by
 have HE := zlM hE; clear hE; go_enter func28, ntmps28; go_wp2_with fail
 have hX := (zmS w 113 #[.int .u64 1, .int .i64 2, .int .u64 3]).alloc (.cells #[.slice none 0 0, .slice (some ⟨w.heap.size, 0, none⟩) 1 1, .slice none 0 0, .slice none 0 0, .slice none 0 0, .slice none 0 0, .slice none 0 0] 54)
 have hY := zaL w (.cells #[.int .u64 1, .int .i64 2, .int .u64 3] 113) 54 #[.slice none 0 0, .slice (some ⟨w.heap.size, 0, none⟩) 1 1, .slice none 0 0, .slice none 0 0, .slice none 0 0, .slice none 0 0, .slice none 0 0]
 have gn : Fr (fun _ => False) w ((w.alloc (.cells #[.int .u64 1, .int .i64 2, .int .u64 3] 113)).alloc (.cells #[.slice none 0 0, .slice (some ⟨w.heap.size, 0, none⟩) 1 1, .slice none 0 0, .slice none 0 0, .slice none 0 0, .slice none 0 0, .slice none 0 0] 54)) := ((zmR _ w).alloc _).alloc _
 generalize World.alloc _ (Obj.cells #[.slice none 0 0, .slice (some ⟨w.heap.size, 0, none⟩) 1 1, .slice none 0 0, .slice none 0 0, .slice none 0 0, .slice none 0 0, .slice none 0 0] 54) = W at hX hY gn ⊢; have mV : Sl (fun g => g = w.heap.size) W (.slice (some ⟨w.heap.size, 0, none⟩) 1 1) 3 aliveS.length (aliveS.flatMap Smp.a) := by
  refine ⟨_, _, rfl, rfl, zlY _, fun _ => ⟨_, 0, rfl, rfl, fun j u hu => ?_⟩⟩; rw [zmh, hX.cell, <- hu, <- zl7]; rfl
 have jv : ∀ (P : Nat -> Prop) (W : World) (s : Nat), Sl P W (.slice none 0 0) s 0 [] := fun P W s => ⟨_, _, rfl, by simp, zlY _, fun h => absurd h (by omega)⟩
 have jb := zc2 (.slice none 0 0) (.slice (some ⟨w.heap.size, 0, none⟩) 1 1) (.slice none 0 0) (.slice none 0 0) (.slice none 0 0) (.slice none 0 0) (.slice none 0 0) (.slice none 0 0) [] aliveS (fun g => g = w.heap.size) W (jv _ _ _) (by simp) (by
  intro s hs; simp only [zmq, List.mem_nil_iff, or_false] at hs
  rcases hs with rfl | rfl | rfl | rfl | rfl | rfl | rfl <;> exact ⟨_, _, _, rfl⟩) mV (by decide) zje
 rw [zmo] at jb; have qW := zlM mV; have HY := zlM hY; have jX := zlM gn; have rg := zlM jv; have hWl := gn.size; have hXl := hX.lt; clear mV hX hY gn jv; refine jb.mono ?_; rintro r w1 ⟨v1, lv1, rfl, rfl, an, ag⟩; clear jb; obtain ⟨b1, k1, rfl⟩ := zaa an; have eJ : w1.cell? ⟨2, 0, none⟩ = some (.iface te pe) := by
  have h2 := zlT w _ HE.out; rw [(jX.out.same ag).cell (p := ⟨2, 0, none⟩) h2 (fun e => e)]; exact HE.out
 have ai : (zaD aliveS).length <= 200 := by
  have h1 := zdR (zbu ⟨1, 2, 3⟩) 28 (zfh _) aliveS; have h2 : (zaD aliveS).length = 1 + (16 + (aliveS.flatMap (zbu ⟨1, 2, 3⟩)).length) := by
   show ([2] ++ (zd6 ⟨1, 2, 3⟩ ++ aliveS.flatMap (zbu ⟨1, 2, 3⟩))).length = _; rw [zlN, zlN]; simp only [zd6, zlN, zlW, zl3]
  rw [h2]; have : aliveS.length = 1 := rfl; omega
 have hS1 := zmU an
 have iN := zdg te pe (.slice none 0 0) (.slice none 0 0) (.slice none 0 0) (.slice none 0 0) (.slice none 0 0) (.slice none 0 0) (.slice none 0 0) _ (zaD aliveS) _ w1 hS1 (by omega) (fun g hg => zar an hg) (by
  intro s hs; simp only [zmq, List.mem_nil_iff, or_false] at hs
  rcases hs with rfl | rfl | rfl | rfl | rfl | rfl | rfl <;> exact ⟨_, _, _, rfl⟩) (rg.out (fun g => (Value.slice b1 (zaD aliveS).length k1).ownBlock = some g) w1 3) eJ
 rw [zlG] at iN; have HS1 := zlM hS1; have F1 := zlM ag; have dk := zlM an; have mN : zcp (zaD aliveS) = 2 := rfl; have HTY := zlM mN; clear eJ hS1 ag an mN; generalize zaD aliveS = xs at iN HS1 dk ai HTY ⊢; have kF := F1.out.size; go_wp2_with (go_at_call 29; refine iN.mono ?_; rintro r w2 ⟨ps, rfl, py, hL, _, ar⟩; refine Hid.out ?_)
 obtain ⟨lv, rfl, af⟩ := hL rfl; clear hL py iN; obtain ⟨b2, k2, rfl⟩ := zaa af; have hw2 := ar.size; have F2 := zlM ar; have cL := zlM af; clear ar af; refine zlM ?_
 have hS2 : Sl (fun g => (Value.slice b1 xs.length k1).ownBlock = some g) (w2.alloc (.cells #[.slice none 0 0, .slice b2 aliveS.length k2, .slice none 0 0, .slice none 0 0, .slice none 0 0, .slice none 0 0, .slice none 0 0] 54)) (.slice b1 xs.length k1) 1 xs.length (bc xs) := HS1.out.fr (F2.out.alloc _) (fun _ _ e => e); have hC3 := zgZ _ _ xs _ hS2; rw [HTY.out] at hC3; clear hS2
 go_wp2_with (go_at_call 42; refine hC3.mono ?_; rintro r w3 ⟨v3, rfl, rfl, bJ⟩; refine Hid.out ?_)
 have F12 := jX.out.same (F1.out.same F2.out); have rZ : Fr (fun _ => False) w2 w3 := ((zmR _ w2).alloc _).same bJ; have B3 : Blk w3 w2.heap.size 54 #[.slice none 0 0, .slice b2 aliveS.length k2, .slice none 0 0, .slice none 0 0, .slice none 0 0, .slice none 0 0, .slice none 0 0] := (zmS w2 54 _).fr bJ (fun e => e); have A3 := HY.out.fr ((F1.out.same F2.out).same rZ) (fun e => e)
 have F3 := F12.same rZ; have x0 := A3.cell 0; have x1 := A3.cell 1; have x2 := A3.cell 2; have x3 := A3.cell 3; have x4 := A3.cell 4; have x5 := A3.cell 5; have x6 := A3.cell 6; have y0 := B3.cell 0; have y1 := B3.cell 1; have y2 := B3.cell 2; have y3 := B3.cell 3; have y4 := B3.cell 4; have y5 := B3.cell 5; have y6 := B3.cell 6
 simp only [zl7, zl5, zl6] at x0 x1 x2 x3 x4 x5 x6 y0 y1 y2 y3 y4 y5 y6
 have hC4 := ziu none none none none 0 0 0 0 (.slice (some ⟨w.heap.size, 0, none⟩) 1 1) (.slice none 0 0) (.slice none 0 0) (.slice none 0 0) (.slice none 0 0) (.slice b2 aliveS.length k2) (.slice none 0 0) (.slice none 0 0) (.slice none 0 0) (.slice none 0 0) w3 (by
  intro s hs; simp only [zmq, List.mem_nil_iff, or_false] at hs
  rcases hs with rfl | rfl | rfl | rfl | rfl | rfl | rfl | rfl | rfl | rfl <;> exact ⟨_, _, _, rfl⟩)
  (fun W' hW' => zgb _ _ _ _ aliveS W' (qW.out.fr (((F1.out.same F2.out).same rZ).same hW') (fun _ _ e => e)) ((zmU cL.out).fr (rZ.same hW') (fun _ _ e => e)) (by decide))
  (fun W' _ => zjI _ _ _ _ W') (fun W' _ => zjG _ _ _ _ W') (fun W' _ => zjE _ _ _ _ W') (fun W' _ => zb7 _ _ _ _ W')
 have bI := zlM B3; have bH := zlM F3; have mj : aliveS.length = 1 := rfl; rw [mj] at y1 hC4 bI ⊢; clear B3 A3 F3 F12 rZ bJ hC3 HS1 cL qW HY jX F1 F2 dk rg; refine zlM ?_
 go_wp2_with (go_at_call 32; refine hC4.mono ?_; rintro r w4 ⟨rfl, dA⟩; have y1' := (bI.out.fr dA (fun e => e)).cell 1; simp only [zl7, zl5, zl6] at y1')
 go_ret; exact ⟨rfl, bH.out.same dA⟩
end Go.Proofs.YtbkookiigkckdaaGreatDoor
