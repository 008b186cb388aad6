/- Texts of this seat, merged and shortened. -/
import Derived.Test.YtbkookiigkckdaaGreatDoorKC17
import Derived.Test.YtbkookiigkckdaaGreatDoorKC19
set_option linter.unusedVariables false
set_option linter.unusedSimpArgs false
set_option maxRecDepth 100000
set_option maxHeartbeats 8000000
namespace Go.Proofs.YtbkookiigkckdaaGreatDoor
open Go.RowKit Go.Proofs.Tryz
theorem zb2 {base e z n : Nat} {u : Value} {xs : List Value} {w w' : World} (h : w.ownsRow base e z u n xs) (h1 : e ≠ 4) (h2 : e ≠ 54) (hv : zjC w w') : w'.ownsRow base e z u n xs :=
 zaj h hv (fun g hg => by rintro ⟨cs, k | k⟩; exact zak h k h1 hg; exact zak h k h2 hg)
theorem OwnR.vars {base : Nat} {v : Value} {lo : List (Ser × Value)} {w w' : World} (h : OwnR base w v lo) (hv : zjC w w') : OwnR base w' v lo :=
 ⟨zb2 h.1 (by decide) (by decide) hv, fun p hp => zb2 (h.2 p hp) (by decide) (by decide) hv⟩
theorem OwnX.vars {base : Nat} {v : Value} {lo : List (Exm × Value)} {w w' : World} (h : OwnX base w v lo) (hv : zjC w w') : OwnX base w' v lo :=
 ⟨zb2 h.1 (by decide) (by decide) hv, fun p hp => zb2 (h.2 p hp) (by decide) (by decide) hv⟩
theorem OwnI.varsR {base : Nat} {v : Value} {lo : List (Rhs × Hsl)} {w w' : World} (h : OwnI base w v lo) (hv : zjC w w') : OwnI base w' v lo := by
 refine ⟨zb2 h.1 (by decide) (by decide) hv, fun p hp => ?_⟩; obtain ⟨a1, a2, a3, a4, a5, a6, a7⟩ := h.2 p hp; exact ⟨zb2 a1 (by decide) (by decide) hv, zb2 a2 (by decide) (by decide) hv, zb2 a3 (by decide) (by decide) hv, zb2 a4 (by decide) (by decide) hv, zb2 a5 (by decide) (by decide) hv, zb2 a6 (by decide) (by decide) hv, zb2 a7 (by decide) (by decide) hv⟩
theorem zeh {a0 a1 a2 a3 a4 a5 a6 : Value} (h : ∀ s ∈ [a0, a1, a2, a3, a4, a5, a6], ∃ A m c, s = .slice A m c) : zmf #[a0, a1, a2, a3, a4, a5, a6] := by
 obtain ⟨A0, m0, c0, rfl⟩ := h a0 (by simp); obtain ⟨A1, m1, c1, rfl⟩ := h a1 (by simp); obtain ⟨A2, m2, c2, rfl⟩ := h a2 (by simp); obtain ⟨A3, m3, c3, rfl⟩ := h a3 (by simp); obtain ⟨A4, m4, c4, rfl⟩ := h a4 (by simp); obtain ⟨A5, m5, c5, rfl⟩ := h a5 (by simp); obtain ⟨A6, m6, c6, rfl⟩ := h a6 (by simp); exact ⟨_, _, _, _, _, _, _, _, _, _, _, _, _, _, _, _, _, _, _, _, _, rfl⟩
def SerParts (base : Nat) (l : List Ser) (ps : Array Value) (w : World) : Prop :=
 ∃ v lo, ps = #[v, .slice none 0 0, .slice none 0 0, .slice none 0 0, .slice none 0 0, .slice none 0 0, .slice none 0 0] /\ lo.map Prod.fst = l /\ OwnR base w v lo
theorem zfm (te : TypeId) (pe : Value) (q0 q1 q2 q3 q4 q5 q6 bv : Value) (pre : List (Ser × Value)) (xs : List UInt8) (P : Nat -> Prop) (w : World) (hb : Sl P w bv 1 xs.length (bc xs)) (bh : xs.length <= 1073741824) (hP : ∀ g, P g -> g < w.heap.size)
 (au : ∀ s ∈ [q0, q1, q2, q3, q4, q5, q6], ∃ A m c, s = .slice A m c) (hs : SlR P w q0 pre) (bm : pre.length <= 1024) (ff : ∀ p ∈ pre, LabOk p.1.labs 12 600) (dJ : ∀ x ∈ zjF ((pre.map Prod.fst).map tos) xs, x.labs.length <= 4096 /\ ∀ p ∈ x.labs, p.1.size <= 1048576 /\ p.2.size <= 1048576) (kF : (zjF ((pre.map Prod.fst).map tos) xs).length <= 1048576) (hE : w.cell? ⟨2, 0, none⟩ = some (.iface te pe))
 (aj : St -> Prop) (hG : ∀ l, aj (some l) -> zdd (some l) /\ aj (zbc (some l)).2) (aZ : ∀ r, xs = 1 :: r -> aj (some r)) :
 Calls prog 29 #[.int .i64 1, bv, .agg #[q0, q1, q2, q3, q4, q5, q6]] w (zcQ (SerParts w.heap.size ((zjF ((pre.map Prod.fst).map tos) xs).map zjP)) (za8 xs).isSome w) := by
 have h2 := zmr w _ hE; refine zbs 1 q0 q1 q2 q3 q4 q5 q6 bv xs P _ _ w hb au ?_ ?_
 ·rintro ps W W' ⟨v, lo, rfl, hm, ho⟩ hv
  exact ⟨v, lo, rfl, hm, ho.vars hv⟩
 ·intro bb bk bq bp bo W hk bK hq hp ho fU nr ns dt hF
  have gM : W.cell? ⟨2, 0, none⟩ = some (.iface te pe) := by rw [hF.cell (p := ⟨2, 0, none⟩) h2 (fun e => e)]; exact hE
  refine (ziX te pe bb bk bq bp bo P q0 q1 q2 q3 q4 q5 q6 bv xs W bK (hb.fr hF (fun _ _ e => e)) hk hq pre (hs.fr hF (fun _ _ e => e)) bm ff dJ kF hp ho gM bh (fun g hg e => by have := hP g hg; omega) dt (by simp only [] at h2; omega) aj hG aZ).mono ?_; rintro r w' ⟨rfl, hf, dd, v, lo, dc, ab, hm⟩; have hz := hF.size; obtain ⟨a, c, gz⟩ := zaa ab.1
  refine ⟨rfl, hf, dd, _, zeh ?_, dc, v, lo, rfl, hm, ab.mono hz⟩; intro s hs; simp only [zmY, zmX, or_false] at hs; rcases hs with rfl | rfl | rfl | rfl | rfl | rfl | rfl; all_goals first | exact ⟨_, _, _, rfl⟩ | exact ⟨_, _, _, gz⟩
def ExmParts (base : Nat) (l : List Exm) (ps : Array Value) (w : World) : Prop :=
 ∃ v lo, ps = #[.slice none 0 0, .slice none 0 0, .slice none 0 0, v, .slice none 0 0, .slice none 0 0, .slice none 0 0] /\ lo.map Prod.fst = l /\ OwnX base w v lo
theorem zgy (te : TypeId) (pe : Value) (q0 q1 q2 q3 q4 q5 q6 bv : Value) (pre : List (Exm × Value)) (xs : List UInt8) (P : Nat -> Prop) (w : World) (hb : Sl P w bv 1 xs.length (bc xs)) (bh : xs.length <= 1073741824) (hP : ∀ g, P g -> g < w.heap.size)
 (au : ∀ s ∈ [q0, q1, q2, q3, q4, q5, q6], ∃ A m c, s = .slice A m c) (hs : SlX P w q3 pre) (bm : pre.length <= 1024) (ff : ∀ p ∈ pre, LabOk p.1.labs 12 600) (dJ : ∀ x ∈ zjE ((pre.map Prod.fst).map toe) xs, x.labs.length <= 4096 /\ ∀ p ∈ x.labs, p.1.size <= 1048576 /\ p.2.size <= 1048576) (kF : (zjE ((pre.map Prod.fst).map toe) xs).length <= 1048576) (hE : w.cell? ⟨2, 0, none⟩ = some (.iface te pe))
 (aj : St -> Prop) (hG : ∀ rest, xs = 4 :: rest -> ∀ l, aj (some l) -> zdF (some l) /\ aj (zaR (zab (some rest)).1 (zao (zab (some rest)).2).1 (some l)).2) (aZ : ∀ rest, xs = 4 :: rest -> rest ≠ [] -> aj (zao (zab (some rest)).2).2) :
 Calls prog 29 #[.int .i64 4, bv, .agg #[q0, q1, q2, q3, q4, q5, q6]] w (zcQ (ExmParts w.heap.size ((zjE ((pre.map Prod.fst).map toe) xs).map zjQ)) (zbl xs).isSome w) := by
 have h2 := zmr w _ hE; refine zbs 4 q0 q1 q2 q3 q4 q5 q6 bv xs P _ _ w hb au ?_ ?_
 ·rintro ps W W' ⟨v, lo, rfl, hm, ho⟩ hv
  exact ⟨v, lo, rfl, hm, ho.vars hv⟩
 ·intro bb bk bq bp bo W hk bK hq hp ho fU nr ns dt hF
  have gM : W.cell? ⟨2, 0, none⟩ = some (.iface te pe) := by rw [hF.cell (p := ⟨2, 0, none⟩) h2 (fun e => e)]; exact hE
  refine (zlo te pe bb bk bq bp bo P q0 q1 q2 q3 q4 q5 q6 bv xs W bK (hb.fr hF (fun _ _ e => e)) hk hq pre (hs.fr hF (fun _ _ e => e)) bm ff dJ kF hp ho gM bh (fun g hg e => by have := hP g hg; omega) dt (by simp only [] at h2; omega) aj hG aZ).mono ?_; rintro r w' ⟨rfl, hf, dd, v, lo, dc, ab, hm⟩; have hz := hF.size; obtain ⟨a, c, gz⟩ := zaa ab.1
  refine ⟨rfl, hf, dd, _, zeh ?_, dc, v, lo, rfl, hm, ab.mono hz⟩; intro s hs; simp only [zmY, zmX, or_false] at hs; rcases hs with rfl | rfl | rfl | rfl | rfl | rfl | rfl; all_goals first | exact ⟨_, _, _, rfl⟩ | exact ⟨_, _, _, gz⟩
def MtaParts (base : Nat) (l : List Mta) (ps : Array Value) (w : World) : Prop :=
 ∃ v, ps = #[.slice none 0 0, .slice none 0 0, .slice none 0 0, .slice none 0 0, v, .slice none 0 0, .slice none 0 0] /\ w.ownsRow base 176 4 v l.length (l.flatMap Mta.c)
theorem zfS (te : TypeId) (pe : Value) (q0 q1 q2 q3 q4 q5 q6 bv : Value) (pre : List Mta) (xs : List UInt8) (P : Nat -> Prop) (w : World) (hb : Sl P w bv 1 xs.length (bc xs)) (bh : xs.length <= 1073741824) (hP : ∀ g, P g -> g < w.heap.size)
 (au : ∀ s ∈ [q0, q1, q2, q3, q4, q5, q6], ∃ A m c, s = .slice A m c) (hs : Sl P w q4 4 pre.length (pre.flatMap Mta.c)) (bm : pre.length <= 1073741824) (hE : w.cell? ⟨2, 0, none⟩ = some (.iface te pe))
 (aj : St -> Prop) (hG : ∀ l, aj (some l) -> zdW (some l) /\ aj (zbd (some l)).2) (aZ : ∀ r, xs = 6 :: r -> aj (some r)) :
 Calls prog 29 #[.int .i64 6, bv, .agg #[q0, q1, q2, q3, q4, q5, q6]] w (zcQ (MtaParts w.heap.size (zmh pre xs)) (zaM xs).isSome w) := by
 have h2 := zmr w _ hE; refine zbs 6 q0 q1 q2 q3 q4 q5 q6 bv xs P _ _ w hb au ?_ ?_
 ·rintro ps W W' ⟨v, rfl, ho⟩ hv
  exact ⟨v, rfl, zb2 ho (by decide) (by decide) hv⟩
 ·intro bb bk bq bp bo W hk bK hq hp ho fU nr ns dt hF
  have gM : W.cell? ⟨2, 0, none⟩ = some (.iface te pe) := by rw [hF.cell (p := ⟨2, 0, none⟩) h2 (fun e => e)]; exact hE
  refine (zj8 te pe bb bk bq bp bo P q0 q1 q2 q3 q4 q5 q6 bv xs W bK (hb.fr hF (fun _ _ e => e)) hk hq pre (hs.fr hF (fun _ _ e => e)) bm hp ho gM bh (fun g hg e => by have := hP g hg; omega) dt (by simp only [] at h2; omega) aj hG aZ).mono ?_; rintro r w' ⟨rfl, hf, dd, v, dc, ab⟩; have hz := hF.size; obtain ⟨a, c, gz⟩ := zaa ab
  refine ⟨rfl, hf, dd, _, zeh ?_, dc, v, rfl, zai ab hz⟩; intro s hs; simp only [zmY, zmX, or_false] at hs; rcases hs with rfl | rfl | rfl | rfl | rfl | rfl | rfl; all_goals first | exact ⟨_, _, _, rfl⟩ | exact ⟨_, _, _, gz⟩
def HstParts (base : Nat) (l : List Rhs) (ps : Array Value) (w : World) : Prop :=
 ∃ v lo, ps = #[.slice none 0 0, .slice none 0 0, .slice none 0 0, .slice none 0 0, .slice none 0 0, .slice none 0 0, v] /\ lo.map Prod.fst = l /\ OwnI base w v lo
theorem zhi (te : TypeId) (pe : Value) (q0 q1 q2 q3 q4 q5 q6 bv : Value) (kz : Nat) (kh : kz = 7 ∨ kz = 9) (pre : List (Rhs × Hsl)) (xs : List UInt8) (P : Nat -> Prop) (w : World) (hb : Sl P w bv 1 xs.length (bc xs)) (bh : xs.length <= 1073741824) (hP : ∀ g, P g -> g < w.heap.size)
 (au : ∀ s ∈ [q0, q1, q2, q3, q4, q5, q6], ∃ A m c, s = .slice A m c) (hs : SlH P w q6 pre) (bm : pre.length <= 1024) (ff : ∀ p ∈ pre, p.1.h.few 1099511627776) (dJ : ∀ l, zci xs = some l -> l.length <= 1024 /\ ∀ x ∈ l, x.h.few 1099511627776) (hE : w.cell? ⟨2, 0, none⟩ = some (.iface te pe))
 (aj : St -> Prop) (hG : ∀ kd rest, xs = kd :: rest -> (kd = 7 ∨ kd = 9) -> ∀ l, aj (some l) -> zcG (some l) /\ aj (zaN (zab (some rest)).1 (zao (zab (some rest)).2).1 (some l)).2) (aZ : ∀ kd rest, xs = kd :: rest -> (kd = 7 ∨ kd = 9) -> rest ≠ [] -> aj (zao (zab (some rest)).2).2) :
 Calls prog 29 #[.int .i64 (kz : Int), bv, .agg #[q0, q1, q2, q3, q4, q5, q6]] w (zcQ (HstParts w.heap.size (zfD (pre.map Prod.fst) xs)) (zci xs).isSome w) := by
 have h2 := zmr w _ hE; refine zbs (kz : Int) q0 q1 q2 q3 q4 q5 q6 bv xs P _ _ w hb au ?_ ?_
 ·rintro ps W W' ⟨v, lo, rfl, hm, ho⟩ hv
  exact ⟨v, lo, rfl, hm, ho.varsR hv⟩
 ·intro bb bk bq bp bo W hk bK hq hp ho fU nr ns dt hF
  have gM : W.cell? ⟨2, 0, none⟩ = some (.iface te pe) := by rw [hF.cell (p := ⟨2, 0, none⟩) h2 (fun e => e)]; exact hE
  refine (read1_hsW te pe bb bk bq bp bo P q0 q1 q2 q3 q4 q5 q6 bv xs kz kh W bK (hb.fr hF (fun _ _ e => e)) hk hq pre (hs.fr hF (fun _ _ e => e)) bm ff dJ hp ho gM bh (fun g hg e => by have := hP g hg; omega) dt (by simp only [] at h2; omega) aj hG aZ).mono ?_; rintro r w' ⟨rfl, hf, dd, v, lo, dc, ab, hm⟩; have hz := hF.size; obtain ⟨a, c, gz⟩ := zaa ab.1
  refine ⟨rfl, hf, dd, _, zeh ?_, dc, v, lo, rfl, hm, ab.mono hz⟩; intro s hs; simp only [zmY, zmX, or_false] at hs; rcases hs with rfl | rfl | rfl | rfl | rfl | rfl | rfl; all_goals first | exact ⟨_, _, _, rfl⟩ | exact ⟨_, _, _, gz⟩
theorem zhj (te : TypeId) (pe : Value) (q0 q1 q2 q3 q4 q5 q6 bv : Value) (kz : Nat) (kh : kz = 8 ∨ kz = 10) (pre : List (Rhs × Hsl)) (xs : List UInt8) (P : Nat -> Prop) (w : World) (hb : Sl P w bv 1 xs.length (bc xs)) (bh : xs.length <= 1073741824) (hP : ∀ g, P g -> g < w.heap.size)
 (au : ∀ s ∈ [q0, q1, q2, q3, q4, q5, q6], ∃ A m c, s = .slice A m c) (hs : SlH P w q6 pre) (bm : pre.length <= 1024) (ff : ∀ p ∈ pre, p.1.h.few 1099511627776) (dJ : ∀ l, zcj xs = some l -> l.length <= 1024 /\ ∀ x ∈ l, x.h.few 1099511627776) (hE : w.cell? ⟨2, 0, none⟩ = some (.iface te pe))
 (aj : St -> Prop) (hG : ∀ kd rest, xs = kd :: rest -> (kd = 8 ∨ kd = 10) -> ∀ l, aj (some l) -> zcH (some l) /\ aj (zaO (zab (some rest)).1 (zao (zab (some rest)).2).1 (some l)).2) (aZ : ∀ kd rest, xs = kd :: rest -> (kd = 8 ∨ kd = 10) -> rest ≠ [] -> aj (zao (zab (some rest)).2).2) :
 Calls prog 29 #[.int .i64 (kz : Int), bv, .agg #[q0, q1, q2, q3, q4, q5, q6]] w (zcQ (HstParts w.heap.size (zfE (pre.map Prod.fst) xs)) (zcj xs).isSome w) := by
 have h2 := zmr w _ hE; refine zbs (kz : Int) q0 q1 q2 q3 q4 q5 q6 bv xs P _ _ w hb au ?_ ?_
 ·rintro ps W W' ⟨v, lo, rfl, hm, ho⟩ hv
  exact ⟨v, lo, rfl, hm, ho.varsR hv⟩
 ·intro bb bk bq bp bo W hk bK hq hp ho fU nr ns dt hF
  have gM : W.cell? ⟨2, 0, none⟩ = some (.iface te pe) := by rw [hF.cell (p := ⟨2, 0, none⟩) h2 (fun e => e)]; exact hE
  refine (read1_hsF te pe bb bk bq bp bo P q0 q1 q2 q3 q4 q5 q6 bv xs kz kh W bK (hb.fr hF (fun _ _ e => e)) hk hq pre (hs.fr hF (fun _ _ e => e)) bm ff dJ hp ho gM bh (fun g hg e => by have := hP g hg; omega) dt (by simp only [] at h2; omega) aj hG aZ).mono ?_; rintro r w' ⟨rfl, hf, dd, v, lo, dc, ab, hm⟩; have hz := hF.size; obtain ⟨a, c, gz⟩ := zaa ab.1
  refine ⟨rfl, hf, dd, _, zeh ?_, dc, v, lo, rfl, hm, ab.mono hz⟩; intro s hs; simp only [zmY, zmX, or_false] at hs; rcases hs with rfl | rfl | rfl | rfl | rfl | rfl | rfl; all_goals first | exact ⟨_, _, _, rfl⟩ | exact ⟨_, _, _, gz⟩
def outS (pre : List Ston) (xs : List UInt8) : List Ston := match zaF xs with | some l => pre ++ l.map one | none => []
def ReadEndsS (w : World) (bb bp bo : Nat) (pre : List Ston) (xs : List UInt8) (r : Ending) (w' : World) : Prop :=
 r = .returned (.tuple #[]) /\ Fr (fun k => k = bb ∨ k = bp ∨ k = bo) w w' /\ Blk w' bo 4 #[.bool (zaF xs).isSome] /\
  ∃ v lo, Blk w' bp 54 #[.slice none 0 0, .slice none 0 0, v, .slice none 0 0, .slice none 0 0, .slice none 0 0, .slice none 0 0] /\ lo.map Prod.fst = outS pre xs /\ OwnS w.heap.size 151 281 w' v lo
theorem outS_len (pre : List Ston) (xs : List UInt8) : (outS pre xs).length <= pre.length + xs.length := by
 unfold outS; split
 ·rename_i h
  have := zer h; rw [zml, zmI]; omega
 ·simp
theorem outS_ivs {pre : List Ston} {xs : List UInt8} (h : ∀ s ∈ pre, s.ivs.length <= 1073741824) : ∀ s ∈ outS pre xs, s.ivs.length <= 1073741824 := by
 unfold outS; split
 ·intro s hs
  rcases zm0.1 hs with hs | hs
  ·exact h s hs
  ·obtain ⟨t, _, rfl⟩ := zmQ.1 hs
   simp [one]
 ·intro s hs; cases hs
theorem zhf {w w' : World} {base : Nat} {o : Option Nat} {pre : List Ston} {xs : List UInt8} {r : Ending} (h : zbQ w base o pre xs r w') :
 ∃ v' e lo, r = .returned (.tuple #[v', e]) /\ lo.map Prod.fst = outS pre xs /\ OwnS base 147 279 w' v' lo /\ Fr (fun k => some k = o) w w' /\ ((e = .nilIface /\ (zaF xs).isSome = true) ∨ (∃ t a, e = .iface t a /\ (zaF xs).isSome = false)) := by
 unfold zbQ at h; unfold outS; rcases hd : zaF xs with _ | l
 ·rw [hd] at h
  obtain ⟨hf, t, a, rfl⟩ := h; exact ⟨_, _, [], rfl, rfl, OwnS.nil _ _ _ _, hf, .inr ⟨_, _, rfl, rfl⟩⟩
 ·rw [hd] at h
  obtain ⟨hf, v', lo, rfl, hm, ho⟩ := h; exact ⟨_, _, lo, rfl, hm, ho, hf, .inl ⟨rfl, rfl⟩⟩
theorem zf3 {W w5 w6 : World} {b t : Nat} {cs : Array Value} {v5 : Value} {lo : List (Ston × Value)} (h : Blk W b t cs) (aq : Fr (fun _ => False) W.drew w5) (ho : OwnS W.drew.heap.size 147 279 w5 v5 lo) (aR : Fr (fun k => some k = v5.ownBlock) w5 w6) : Blk w6 b t cs :=
 (h.drew.fr aq (fun e => e)).fr aR (fun e => by have h1 := (ho.1.lt b e.symm).1; have h2 : b < W.heap.size := h.lt; exact zm4 _ (zmJ h2 h1))
theorem ziW (te : TypeId) (pe : Value) (bb bk bq bp bo : Nat) (P : Nat -> Prop) (q0 q1 q2 q3 q4 q5 q6 v : Value) (xs : List UInt8) (w : World) (hb : Blk w bb 44 #[v]) (hv : Sl P w v 1 xs.length (bc xs)) (hk : Blk w bk 3 #[.int .i64 3]) (hq : Blk w bq 54 #[q0, q1, q2, q3, q4, q5, q6]) (lp : List (Ston × Value)) (hs : SlS P w q2 lp) (bm : lp.length <= 1073741824) (po : ∀ s ∈ lp.map Prod.fst, s.ivs.length <= 1073741824)
 (hp : Blk w bp 54 #[.slice none 0 0, .slice none 0 0, .slice none 0 0, .slice none 0 0, .slice none 0 0, .slice none 0 0, .slice none 0 0]) (ho : Blk w bo 4 #[.bool false]) (hE : w.cell? ⟨2, 0, none⟩ = some (.iface te pe)) (bh : xs.length <= 1073741824)
 (dU : ∀ g, P g -> g ≠ bb) (dt : bp ≠ bq) (h2 : bb ≠ 2 /\ bp ≠ 2 /\ bo ≠ 2) :
 Calls prog 66 #[.pointer (some ⟨bb, 0, none⟩), .pointer (some ⟨bk, 0, none⟩), .pointer (some ⟨bq, 0, none⟩), .pointer (some ⟨bp, 0, none⟩), .pointer (some ⟨bo, 0, none⟩)] w (ReadEndsS w bb bp bo (lp.map Prod.fst) xs) := by
 obtain ⟨i0, aD, aA, az, aC⟩ := info_parts zfp; have HB := zmk hb; have HV := zmk hv; have HK := zmk hk; have HQ := zmk hq; have HS := zmk hs; have HP := zmk hp; have HO := zmk ho; have HE := zmk hE; have kt := zmk dU; have cE : ∃ A m c, v = .slice A m c := let ⟨A, c, h, _⟩ := hv; ⟨A, _, c, h⟩
 obtain ⟨A, m, c, rfl⟩ := cE; clear hb hv hk hq hs hp ho hE dU; go_enter func66, ntmps66; go_wp2_with (first | (go_at_call 67; refine (zdx _ _).mono ?_; rintro r w1 ⟨v1, rfl, ⟨a, rfl⟩, ai⟩; refine Hid.out ?_))
 have aw := ((HB.out.fr ai (fun e => e)).alloc (.cells #[.slice (some a) 0 0, .string ⟨#[]⟩, .slice none 0 0] 119)).alloc (.cells #[] 5); have b1 := aw.cell 0; simp at b1; clear aw; refine zmk ?_; go_wp2_with (at_builtin; refine Hid.out ?_)
 have eo := znp (base := w.heap.size) (e := 5) (size := 1) (w1.alloc (.cells #[.slice (some a) 0 0, .string ⟨#[]⟩, .slice none 0 0] 119)) #[] 0 (by have := ai.size; simp; omega) (zmv _) rfl; have dx : Fr (fun _ => False) w ((w1.alloc (.cells #[.slice (some a) 0 0, .string ⟨#[]⟩, .slice none 0 0] 119)).alloc (.cells #[] 5)) := (ai.alloc _).alloc _; have bA := ai.size
 refine zmk ?_; have kV : (w1.alloc (.cells #[.slice (some a) 0 0, .string ⟨#[]⟩, .slice none 0 0] 119)).heap.size = w1.heap.size + 1 := by simp
 rw [kV] at eo; clear b1; generalize World.alloc _ (Obj.cells #[] 5) = WA at eo dx ⊢; have hsA := dx.size; have cK := zdh underlying44 (HV.out.fr dx (fun _ _ e => e)) (zfN xs)
 refine zaf _ rfl _ _ 44 44 rfl w.heap.size 5 i0 (.int .u8 0) 1 1 underlying44 aD aA az aC rfl (by decide) (.slice (some ⟨w1.heap.size + 1, 0, none⟩) 0 0) 0 [] rfl eo (.slice A m c) xs.length (bc xs) rfl cK (by unfold maxLen; omega) (by omega) (by omega) ?_; intro v' w2 ac ad ax
 rw [zmP, zmW] at ac; obtain ⟨a2, k2, rfl⟩ := zaa ac; have eK : ∀ k, (Value.slice (some ⟨w1.heap.size + 1, 0, none⟩) 0 0).ownBlock = some k -> w.heap.size <= k := fun k hk => by
  have hk : w1.heap.size + 1 = k := zna hk; omega
 have F2 : Fr (fun _ => False) w w2 := dx.grown ad (fun k hk => .inr (eK k hk)); have dr : ∃ g2 aK, a2 = some ⟨g2, 0, none⟩ /\ w.heap.size <= g2 /\ Blk w2 g2 5 aK /\ xs.length <= k2 /\ k2 <= maxLen /\ aK.toList.take xs.length = bc xs := by
  rcases ac.2 with ⟨h, _⟩ | ⟨g2, aO, aK, h, h1, h3, h4, h5, _, h6⟩
  ·rw [h] at ax
   rcases ax with ax | ax <;> exact absurd ax (by simp [Value.ownBlock])
  ·injection h with e1 e2 e3
   subst e3; exact ⟨g2, aK, e1, h1, h3, h4, h5, by simpa using h6⟩
 have cn : ∀ k, (Value.slice a2 xs.length k2).ownBlock = some k -> w.heap.size <= k := fun k hk => (ac.lt k hk).1; have lB := HB.out.lt; have gB := HB.out.fr F2 (fun e => e); have y0 := gB.cell 0; have y1 := gB.frozen 0; simp at y0
 have F3 : Fr (fun k => k = bb) w (w2.setCell ⟨bb, 0, none⟩ (.slice a2 xs.length k2)) := (F2.mono (S' := fun k => k = bb) (fun _ _ e => e.elim)).setCell (p := ⟨bb, 0, none⟩) (.inl rfl) _; have O3 : (w2.setCell ⟨bb, 0, none⟩ (.slice a2 xs.length k2)).ownsRow w.heap.size 5 1 (.slice a2 xs.length k2) xs.length (bc xs) := zaj ac (Fr.put_ w2 bb 0 _) (fun k hk e => by have := cn k hk; omega)
 have B3 : Blk (w2.setCell ⟨bb, 0, none⟩ (.slice a2 xs.length k2)) bb 44 #[.slice a2 xs.length k2] := by simpa using gB.set_ 0 (.slice a2 xs.length k2)
 have K3 := (HK.out.fr F3 (fun e => zns HK.out HB.out (by decide) e)).cell 0; have Q3 := HQ.out.fr F3 (fun e => zns HQ.out HB.out (by decide) e); have P3 := HP.out.fr F3 (fun e => zns HP.out HB.out (by decide) e); have O4 := HO.out.fr F3 (fun e => zns HO.out HB.out (by decide) e)
 have E3 : (w2.setCell ⟨bb, 0, none⟩ (.slice a2 xs.length k2)).cell? ⟨2, 0, none⟩ = some (.iface te pe) := by
  rw [F3.cell (p := ⟨2, 0, none⟩) (zmr w _ HE.out) (fun e => h2.1 e.symm)]; exact HE.out
 simp at K3; have bx := zmk F3; have eq := zmk O3; have bE := zmk B3; have bZ := zmk Q3; have eL := zmk P3; have dj := zmk O4; have dG := zmk E3; have nX := zmk cn; obtain ⟨g2, aK, rfl, el, co, cO, du, dq⟩ := dr
 have R3 : Rec te pe (w2.setCell ⟨bb, 0, none⟩ (.slice (some ⟨g2, 0, none⟩) xs.length k2)) g2 aK xs (.slice (some ⟨g2, 0, none⟩) xs.length k2) := by
  refine ⟨0, k2, rfl, co.far (p := ⟨bb, 0, none⟩) (by show g2 ≠ bb; omega) _, cO, ⟨by simp [maxLen] at du; omega, by omega⟩, fun j u hu => ?_, E3⟩; rw [zmP, <- Array.getElem?_toList]; have hj : j < xs.length := by
   rcases zmN j xs.length with h | h
   ·exact h
   ·rw [zmO (by rw [zdE]; exact h)] at hu; cases hu
  rw [<- dq, List.getElem?_take_of_lt hj] at hu; exact hu
 have aS := zmk R3; have kU := co.lt; clear R3 du dq co; clear F2 F3 O3 B3 Q3 P3 O4 E3 gB eK cn ac ad ax cK eo dx ai; go_wp2_with fail
 generalize w2.setCell ⟨bb, 0, none⟩ (.slice (some ⟨g2, 0, none⟩) xs.length k2) = W3 at bx eq bE bZ eL dj dG aS ⊢; have eZ := aS.out; have gi : g2 < W3.heap.size := let ⟨_, _, _, h, _⟩ := eZ; h.lt
 have ja : 2 < W3.heap.size := zmr W3 _ dG.out; clear eZ; have hS3 : SlS P W3.drew q2 lp := HS.out.fr bx.out.drew (fun g hg e => kt.out g hg e); have eE := ze1 P q2 lp W3.drew hS3 (by omega) (fun p hp => by have := po p.1 (zmQ.2 ⟨p, hp, rfl⟩); omega); have eY : ∃ A m c, q2 = .slice A m c := let ⟨A, c, h, _⟩ := HS.out.1; ⟨A, _, c, h⟩
 obtain ⟨Aq, mq, cq, rfl⟩ := eY; have x0 := bE.out.cell 0; have x1 := bZ.out.cell 2; have kA : W3.drew.cell? ⟨bb, 0, none⟩ = some (.slice (some ⟨g2, 0, none⟩) xs.length k2) := x0; have jh : W3.drew.cell? ⟨bq, 2, none⟩ = some (.slice Aq mq cq) := x1; simp at x0 x1; clear y0 y1 K3
 go_region_held3 (fun w' => w'.cell? ⟨bb, 0, none⟩ = some (.slice (some ⟨g2, 0, none⟩) xs.length k2) /\ w'.cell? ⟨bq, 2, none⟩ = some (.slice Aq mq cq))
  ((first | (go_split_ands; refine ⟨?_, ?_⟩ <;> first | exact (bE.out.drew.fr aq (fun e => e)).cell 0 | exact (bZ.out.drew.fr aq (fun e => e)).cell 2) | (go_split_ands; refine ⟨?_, ?_⟩ <;> first | exact KB.out.cell 0 | exact KQ.out.cell 2) | go_keep))
  ((first
    | (go_at_call 75; refine eE.mono ?_; rintro r5 w5 ⟨v5, l5, rfl, hm5, am, aq⟩; have pF : l5.length <= 1073741824 := by have h := znb List.length hm5; simp at h; omega)
    | (go_at_call 74; refine (ziu te pe _ g2 W3.drew.heap.size aK l5 xs _ v5 w5 (aS.out.fr (w := W3) (((znq (fun _ => False) W3).drew).same aq) (fun e => e) (fun e => e)) am ⟨gi, ja, aq.size⟩ pF).mono ?_; rintro r6 w6 eF; obtain ⟨v6, e6, l6, rfl, hm6, aM, aR, cj⟩ := zhf eF; clear eF; rw [hm5] at hm6; have KB := zmk (zf3 bE.out aq am aR); have KQ := zmk (zf3 bZ.out aq am aR))))
 have T6 : Fr (fun k => k = bb) w w6 := ((bx.out.trans (((znq (fun _ => False) W3).drew).same aq) (fun _ _ e => e.elim)).trans aR (fun k hk e => by
  have h1 := (am.1.lt k e.symm).1; have h2 := bx.out.size
  simp at h1; omega))
 have P6 := zf3 eL.out aq am aR; have O6 := zf3 dj.out aq am aR; have kD : w.heap.size <= W3.drew.heap.size := bx.out.size; have V6 := OwnS.mono aM kD; have kr := zmk T6; have je := zmk P6; have gp := zmk O6; have fw := zmk V6; have ku := zmk cj; have kM := aq.size; have kK := aR.size
 have gJ : ∀ k, v6.ownBlock = some k -> k < w6.heap.size := fun k hk => zas aM.1 hk; clear x0 x1 kA jh eE T6 P6 O6 V6 cj am aq aM aR KB KQ eq bE bZ eL dj dG aS bx; have qX := zmk hm6; clear hm6 hm5 pF; have ms : l6.length <= 1073741824 + 1073741824 := by
  have h1 := outS_len (lp.map Prod.fst) xs; have h2 := znb List.length qX.out; rw [zmI] at h2; rw [zmI] at h1; omega
 have ql : ∀ p ∈ l6, p.1.ivs.length <= 1073741824 := fun p hp => outS_ivs po p.1 (by rw [<- qX.out]; exact zmQ.2 ⟨p, hp, rfl⟩); have H6L := zmk ms; have H6I := zmk ql; clear ms ql po; obtain ⟨a6, k6, rfl⟩ := zaa fw.out.1; go_wp2_with fail
 obtain ⟨n, hn⟩ := exE l6.length; have HN := zmk hn; rw [hn] at fw gJ ⊢; clear hn; obtain ⟨i1, gC, ei, dW, fF⟩ := info_parts info151
 go_loopw [113] (fun i wr => ∃ (k : Nat) (lv : Value) (lo : List (Ston × Value)), k <= n /\ i = .int .i64 k /\ Hid (Fr (fun j => j = bb ∨ j = bp) w wr) /\ Hid (OwnS w.heap.size 147 279 wr (.slice a6 n k6) l6) /\ Hid (Blk wr bo 4 #[.bool false]) /\
  Hid (Blk wr bp 54 #[.slice none 0 0, .slice none 0 0, lv, .slice none 0 0, .slice none 0 0, .slice none 0 0, .slice none 0 0]) /\ Hid (OwnS w.heap.size 151 281 wr lv lo) /\ Hid (lo.map Prod.fst = (l6.take k).map Prod.fst) /\ Hid (lo.length = k)) (fun i _ => n - (intOf i).toNat)
 case atStart => exact ⟨0, _, [], zmv _, rfl, zmk (Fr.mono kr.out (fun _ _ e => Or.inl e)), fw, gp, je, zmk (OwnS.nil _ _ _ _), zmk rfl, zmk rfl⟩
 case round =>
  obtain ⟨k, lv, lo, hk, rfl, RF, RV, RO, RP, RL, RM, RN⟩ := hrel; by_cases hlt : k < n
  ·obtain ⟨A7, c7, e7, _, _, js⟩ := znt RV.out.1
   injection e7 with e7 e7n nB; clear e7n; subst e7 nB; obtain ⟨g7, bj, rfl, _, bH⟩ := js (by have := HN.out; omega); obtain ⟨x, hx⟩ : ∃ x, l6[k]? = some x := ⟨_, zmm (by rw [HN.out]; exact hlt)⟩; have cc : ∀ j, j < 2 -> ∀ u, (stc x)[j]? = some u -> wr.cell? ⟨g7, bj + (k * 2 + j), none⟩ = some u := fun j hj u hu =>
    bH (k * 2 + j) u (by rw [zbE stc (fun _ => rfl) l6 k x hx j hj]; exact hu)
   have c0 : wr.cell? ⟨g7, bj + k * 2, none⟩ = some (.int .u64 x.1.ref) := cc 0 (by omega) _ rfl; have c1 : wr.cell? ⟨g7, bj + k * 2 + 1, none⟩ = some x.2 := cc 1 (by omega) _ rfl; have aH := zms hx; have b8 := RV.out.2 x aH; have bC := H6I.out x aH; obtain ⟨⟨ref, ivs⟩, iv⟩ := x; simp only [] at c0 c1 b8 bC; obtain ⟨Ai, ci, rfl⟩ := zaa b8; have HX := zmk hx
   have HIV := zmk b8; obtain ⟨aL, kL, rfl⟩ := zaa RL.out.1; clear bH js cc hx aH b8; go_wp2_with fail
   have ch := znr wr 147 #[.int .u64 ref, .slice Ai ivs.length ci]; have s0 := ch.cell 0; have s1 := ch.cell 1; have fb := RP.out.alloc (.cells #[.int .u64 ref, .slice Ai ivs.length ci] 147); have s3 := fb.cell 2; simp only [zmF, zmD, zmE] at s0 s1 s3; have lP := RP.out.lt; have bG := RF.out.size
   have jw : lo.length <= 1073741824 + 1073741824 := by have h1 := RN.out; have h2 := H6L.out; have h3 := HN.out; omega
   have kS : k < 4294967296 := by have h1 := RN.out; omega
   have dn := zmk ch; have mA := zmk fb; have hC := zgh _ (.slice Ai ivs.length ci) ivs (wr.alloc (.cells #[.int .u64 ref, .slice Ai ivs.length ci] 147)).drew (znt (HIV.out.alloc (.cells #[.int .u64 ref, .slice Ai ivs.length ci] 147)).drew) (by omega); clear ch fb
   refine zaT (fun w' => w'.cell? ⟨bp, 2, none⟩ = some (.slice aL lo.length kL) /\ w'.cell? ⟨wr.heap.size, 0, none⟩ = some (.int .u64 ref) /\ w'.cell? ⟨wr.heap.size, 1, none⟩ = some (.slice Ai ivs.length ci)) 9 (by kernel_rfl) ⟨s3, s0, s1⟩ ?_; intro hS; refine wpT 0 (.pointer (some ⟨bp, 2, none⟩)) rfl (by intro w; go_simp) hS ?_
   try simp only [Act.put, zmo, zmp, zmq]
   refine wpL 1 [9, 11] (.slice aL lo.length kL) rfl (by rintro w ⟨h1, h2, h3⟩; go_simp) hS ?_; try simp only [Act.put, zmo, zmp, zmq]
   refine wpT 2 (.pointer (some ⟨wr.heap.size, 0, none⟩)) rfl (by intro w; go_simp) hS ?_; try simp only [Act.put, zmo, zmp, zmq]
   refine wpL 3 [7, 8, 9, 11] (.int .u64 ref) rfl (by rintro w ⟨h1, h2, h3⟩; go_simp) hS ?_; try simp only [Act.put, zmo, zmp, zmq]
   refine wpT 4 (.pointer (some ⟨wr.heap.size, 1, none⟩)) rfl (by intro w; go_simp) hS ?_; try simp only [Act.put, zmo, zmp, zmq]
   refine wpL 5 [6, 7, 8, 9, 11] (.slice Ai ivs.length ci) rfl (by rintro w ⟨h1, h2, h3⟩; go_simp) hS ?_; try simp only [Act.put, zmo, zmp, zmq]
   refine zaq 6 (by kernel_rfl) rfl (by rfl) (fun K hK => ?_); go_simp; go_at_call 76
   refine hC.mono ?_; rintro r w5 ⟨v5, rfl, am, aq⟩; obtain ⟨a5, k5, rfl⟩ := zaa am; have F5 := zmk (((znq (fun _ => False) wr).alloc (.cells #[.int .u64 ref, .slice Ai ivs.length ci] 147)).drew.same aq); have P5 := zmk (mA.out.drew.fr aq (fun e => e)); have B5 := zmk (dn.out.drew.fr aq (fun e => e))
   have iG : w5.cell? ⟨bp, 2, none⟩ = some (.slice aL lo.length kL) /\ w5.cell? ⟨wr.heap.size, 0, none⟩ = some (.int .u64 ref) /\ w5.cell? ⟨wr.heap.size, 1, none⟩ = some (.slice Ai ivs.length ci) := ⟨P5.out.cell 2, B5.out.cell 0, B5.out.cell 1⟩; have lO := F5.out.size; have N5 := zmk (zai am (base' := w.heap.size) (by simp; omega)); have L5 := zmk (RL.out.fr F5.out (fun _ _ _ e => e))
   refine hK.out _ _ iG ?_; clear hK K hS hC am aq; try simp only [Act.put, zmo, zmp, zmq]
   refine wpT 7 (.agg #[.int .u64 ref, .slice a5 ivs.length k5]) rfl (by intro w; go_simp) iG ?_; try simp only [Act.put, zmo, zmp, zmq]
   refine zaq 8 (by kernel_rfl) rfl (by rfl) (fun K hK => ?_); go_simp; refine hK.out _ _ ⟨(P5.out.alloc _).cell 2, (B5.out.alloc _).cell 0, (B5.out.alloc _).cell 1⟩ ?_; clear hK K iG; try simp only [Act.put, zmo, zmp, zmq]
   refine zay 9 (by kernel_rfl) rfl (by kernel_rfl) (by rfl) (fun K hK => ?_)
   refine zaA _ _ _ 48 48 (by rfl) w.heap.size 151 i1 _ 2 32 underlying48 gC ei dW fF rfl (by decide) (.slice aL lo.length kL) lo.length (lo.flatMap stc) (by rfl) (L5.out.alloc _).1 _ 1 (stc (⟨ref, ivs⟩, .slice a5 ivs.length k5)) (by rfl) (zaH underlying48 (znr w5 151 (stc (⟨ref, ivs⟩, .slice a5 ivs.length k5)).toArray) rfl (by simp [stc, Value.oneCell'])) (by unfold maxLen; omega) (by omega) (by simp; omega) ?_
   intro v' w2 ac ad ax
   obtain ⟨a9, k9, rfl⟩ := zaa ac; have dN := zmk ((P5.out.alloc _).grown ad (Ne.symm (zak RL.out.1 RP.out (by decide)))); have p9 := dN.out.cell 2; have z9 := dN.out.frozen 2; simp at p9; refine hK.out _ _ ?_; clear hK K; try simp only [Act.put, zmo, zmp, zmq]
   refine zay 10 (by kernel_rfl) rfl (by kernel_rfl) (by rfl) (fun K hK => ?_); go_simp; refine hK.out _ _ ?_; clear hK K; refine zay 11 (by kernel_rfl) rfl (by kernel_rfl) (by rfl) (fun K hK => ?_); go_simp; refine hK.out _ _ ?_; clear hK K; refine zbC (by kernel_rfl) ?_ _
   have cY : Blk (w2.setCell ⟨bp, 2, none⟩ (.slice a9 (lo.length + 1) k9)) bp 54 #[.slice none 0 0, .slice none 0 0, .slice a9 (lo.length + 1) k9, .slice none 0 0, .slice none 0 0, .slice none 0 0, .slice none 0 0] := by simpa using dN.out.set_ 2 (.slice a9 (lo.length + 1) k9)
   have O5 := (RO.out.fr F5.out (fun e => e)).alloc (.cells (stc (⟨ref, ivs⟩, .slice a5 ivs.length k5)).toArray 151); have aU : Blk (w2.setCell ⟨bp, 2, none⟩ (.slice a9 (lo.length + 1) k9)) bo 4 #[.bool false] := (O5.grown ad (Ne.symm (zak RL.out.1 RO.out (by decide)))).far (p := ⟨bp, 2, none⟩) (zns RO.out RP.out (by decide)) _
   have dR : OwnS w.heap.size 151 281 w2 (.slice a9 (lo.length + 1) k9) (lo ++ [(⟨ref, ivs⟩, .slice a5 ivs.length k5)]) :=
    OwnS.push (p := (⟨ref, ivs⟩, .slice a5 ivs.length k5)) (L5.out.alloc _) (N5.out.alloc _) ad ac (by decide)
   have cC : OwnS w.heap.size 151 281 (w2.setCell ⟨bp, 2, none⟩ (.slice a9 (lo.length + 1) k9)) (.slice a9 (lo.length + 1) k9) (lo ++ [(⟨ref, ivs⟩, .slice a5 ivs.length k5)]) := dR.off dN.out (by decide) (by decide) (Fr.put_ w2 bp 2 _); have fG : Fr (fun j => some j = (Value.slice aL lo.length kL).ownBlock ∨ j = bp) wr (w2.setCell ⟨bp, 2, none⟩ (.slice a9 (lo.length + 1) k9)) :=
    (((F5.out.mono (S' := fun j => some j = (Value.slice aL lo.length kL).ownBlock ∨ j = bp) (fun _ _ e => e.elim)).alloc _).grown ad (fun g hg => .inl (.inl hg.symm))).setCell (p := ⟨bp, 2, none⟩) (.inl (.inr rfl)) _
   have dp : OwnS w.heap.size 147 279 (w2.setCell ⟨bp, 2, none⟩ (.slice a9 (lo.length + 1) k9)) (.slice (some ⟨g7, bj, none⟩) n k6) l6 := by
    refine ⟨zaj RV.out.1 fG (fun g hg e => ?_), fun p hp => zaj (RV.out.2 p hp) fG (fun g hg e => ?_)⟩
    ·rcases e with e | e
     ·exact zb6 RV.out.1 RL.out.1 (by decide) g hg e.symm
     ·exact zak RV.out.1 RP.out (by decide) (by rw [hg, e])
    ·rcases e with e | e
     ·exact zb6 (RV.out.2 p hp) RL.out.1 (by decide) g hg e.symm
     ·exact zak (RV.out.2 p hp) RP.out (by decide) (by rw [hg, e])
   have bM : Fr (fun j => j = bb ∨ j = bp) w (w2.setCell ⟨bp, 2, none⟩ (.slice a9 (lo.length + 1) k9)) := RF.out.trans fG (fun j hj e => by
    rcases e with e | e
    ·have := (RL.out.1.lt j e.symm).1; omega
    ·exact .inr e)
   have cf : (lo ++ [((⟨ref, ivs⟩ : Ston), Value.slice a5 ivs.length k5)]).map Prod.fst = (l6.take (k + 1)).map Prod.fst := by
    rw [zmV, HX.out, zmK, zmK, RM.out]; rfl
   have cI : (lo ++ [((⟨ref, ivs⟩ : Ston), Value.slice a5 ivs.length k5)]).length = k + 1 := by rw [zml, RN.out]; rfl
   have NP := zmk cY; have NO := zmk aU; have NL := zmk cC; have NV := zmk dp; have NF := zmk bM; have NM := zmk cf; have NN := zmk cI; clear cY aU dR cC dp bM cf cI fG ac ad ax p9 z9 c0 c1 s0 s1 s3 O5 L5 N5 F5 P5 B5; go_wp2; go_roundw
   case rel => exact ⟨k + 1, _, _, by omega, by go_num, NF, NV, NO, NP, NL, NM, NN⟩
   case measure => simp [intOf]; omega
  ·obtain rfl : k = n := by omega
   have o0 := RO.out.cell 0; have o1 := RO.out.frozen 0; simp at o0; have W1 : Blk (wr.setCell ⟨bo, 0, none⟩ (.bool (zaF xs).isSome)) bo 4 #[.bool (zaF xs).isSome] := by simpa using RO.out.set_ 0 (.bool (zaF xs).isSome)
   have W2 := RP.out.far (p := ⟨bo, 0, none⟩) (zns RP.out RO.out (by decide)) (.bool (zaF xs).isSome); have fZ := OwnS.off RL.out RO.out (by decide) (by decide) (Fr.put_ wr bo 0 (.bool (zaF xs).isSome))
   have W4 : Fr (fun k => k = bb ∨ k = bp ∨ k = bo) w (wr.setCell ⟨bo, 0, none⟩ (.bool (zaF xs).isSome)) := (Fr.mono (S' := fun k => k = bb ∨ k = bp ∨ k = bo) RF.out (fun _ _ e => e.elim (fun h => Or.inl h) (fun h => Or.inr (Or.inl h)))).setCell (p := ⟨bo, 0, none⟩) (.inl (.inr (.inr rfl))) _; rcases ku.out with ⟨rfl, aB⟩ | ⟨t, ae, rfl, aB⟩; all_goals
    rw [aB] at W1 W2 fZ W4; have ib := zmk W1; have jI := zmk W2; have eQ := zmk fZ; have hW4 := zmk W4; clear W1 W2 fZ W4; go_wp2_with fail
    go_end0; refine ⟨rfl, hW4.out, by rw [aB]; exact ib.out, lv, lo, jI.out, ?_, eQ.out⟩; have e1 : l6.take k = l6 := zmt (by rw [HN.out]; exact zmw _); rw [RM.out, e1, qX.out]
def StnParts (base : Nat) (l : List Ston) (ps : Array Value) (w : World) : Prop :=
 ∃ v lo, ps = #[.slice none 0 0, .slice none 0 0, v, .slice none 0 0, .slice none 0 0, .slice none 0 0, .slice none 0 0] /\ lo.map Prod.fst = l /\ OwnS base 151 281 w v lo
theorem seven_of2 {lv : Value} (h : ∃ A m c, lv = .slice A m c) : zmf #[.slice none 0 0, .slice none 0 0, lv, .slice none 0 0, .slice none 0 0, .slice none 0 0, .slice none 0 0] := by
 obtain ⟨A, m, c, rfl⟩ := h; exact ⟨_, _, _, _, _, _, _, _, _, _, _, _, _, _, _, _, _, _, _, _, _, rfl⟩
theorem zfl (te : TypeId) (pe : Value) (q0 q1 q2 q3 q4 q5 q6 bv : Value) (lp : List (Ston × Value)) (xs : List UInt8) (P : Nat -> Prop) (w : World) (hb : Sl P w bv 1 xs.length (bc xs)) (bh : xs.length <= 1073741824) (hP : ∀ g, P g -> g < w.heap.size)
 (au : ∀ s ∈ [q0, q1, q2, q3, q4, q5, q6], ∃ A m c, s = .slice A m c) (hs : SlS P w q2 lp) (bm : lp.length <= 1073741824) (po : ∀ s ∈ lp.map Prod.fst, s.ivs.length <= 1073741824) (hE : w.cell? ⟨2, 0, none⟩ = some (.iface te pe)) :
 Calls prog 29 #[.int .i64 3, bv, .agg #[q0, q1, q2, q3, q4, q5, q6]] w (zcQ (StnParts w.heap.size (outS (lp.map Prod.fst) xs)) (zaF xs).isSome w) := by
 have h2 := zmr w _ hE; refine zbs 3 q0 q1 q2 q3 q4 q5 q6 bv xs P _ _ w hb au ?_ ?_
 ·rintro ps W W' ⟨v, lo, rfl, hm, ho⟩ hv
  refine ⟨v, lo, rfl, hm, zaj ho.1 hv ?_, fun p hp => zaj (ho.2 p hp) hv ?_⟩
  ·rintro g hg ⟨cs, h | h⟩
   ·exact zak ho.1 h (by decide) hg
   ·exact zak ho.1 h (by decide) hg
  ·rintro g hg ⟨cs, h | h⟩
   ·exact zak (ho.2 p hp) h (by decide) hg
   ·exact zak (ho.2 p hp) h (by decide) hg
 ·intro bb bk bq bp bo W hk bK hq hp ho fU nr ns dt hF
  have gM : W.cell? ⟨2, 0, none⟩ = some (.iface te pe) := by rw [hF.cell (p := ⟨2, 0, none⟩) h2 (fun e => e)]; exact hE
  refine (ziW te pe bb bk bq bp bo P q0 q1 q2 q3 q4 q5 q6 bv xs W bK (hb.fr hF (fun _ _ e => e)) hk hq lp (hs.fr hF (fun _ _ e => e)) bm po hp ho gM bh (fun g hg e => by have := hP g hg; omega) dt (by simp only [] at h2; omega)).mono ?_; rintro r w' ⟨rfl, hf, dd, v, lo, dc, hm, ab⟩; have hz := hF.size; obtain ⟨a, c, gz⟩ := zaa ab.1
  exact ⟨rfl, hf, dd, _, seven_of2 ⟨_, _, _, gz⟩, dc, v, lo, rfl, hm, OwnS.mono ab hz⟩
theorem zhd (bk bp bb br : Nat) (ep lp : Value) (P : Nat -> Prop) (s0 s1 s2 s3 s4 s5 s6 v z : Value) (xs : List UInt8) (l : List Mrk) (w : World) (hk : Blk w bk 3 #[.int .i64 5]) (hp : Blk w bp 54 #[s0, s1, s2, s3, s4, s5, s6]) (hb : Blk w bb 44 #[v]) (hr : Blk w br 44 #[z])
 (ab : w.ownsRow 0 5 1 v xs.length (bc xs)) (hs : Sl P w s5 2 l.length (l.flatMap Mrk.c)) (hl : xs.length <= 1073741824) (au : l.length <= 1073741824) (aG : ∀ s ∈ l, s.wf) (bL : bb ≠ br) :
 Calls prog 90 #[.pointer (some ⟨bk, 0, none⟩), ep, .pointer (some ⟨bp, 0, none⟩), .pointer (some ⟨bb, 0, none⟩), .pointer (some ⟨br, 0, none⟩), lp] w (zcu w br v.ownBlock (xs ++ zaU l)) := by
 have iq : bp ≠ br := zns hp hr (by decide); have k0 := hk.cell 0; have p1 := hp.cell 5; have b0 := hb.cell 0; simp at k0 p1 b0; obtain ⟨a', n', k', rfl⟩ := zac ab; have bA : ∃ A m c, s5 = .slice A m c := let ⟨A, c, h, _⟩ := hs; ⟨A, _, c, h⟩
 obtain ⟨A, m, c, rfl⟩ := bA; have hQ := zeF P (.slice A m c) l w.drew hs (by omega); have HB := zmk hb; have HP := zmk hp; have HR := zmk hr; have HO := zmk ab; have gr : w.drew.cell? ⟨bp, 5, none⟩ = some (.slice A m c) := p1; have gV : w.drew.cell? ⟨bb, 0, none⟩ = some (.slice a' n' k') := b0; clear hk hp hb hr ab hs; go_enter func90, ntmps90
 go_wp2_with fail
 have HW := zmk aG; clear aG; go_region_held3 (fun w' => w'.cell? ⟨bp, 5, none⟩ = some (.slice A m c) /\ w'.cell? ⟨bb, 0, none⟩ = some (.slice a' n' k'))
  ((first | (go_split_ands; refine ⟨?_, ?_⟩ <;> first | exact ((HP.out.drew).fr ai (fun e => e)).cell 5 | exact ((HB.out.drew).fr ai (fun e => e)).cell 0) | (go_split_ands; refine ⟨?_, ?_⟩ <;> first | exact KP.out.cell 5 | exact KB.out.cell 0) | (go_split_ands; refine ⟨?_, ?_⟩ <;> first | exact (KP.out.far (p := ⟨br, 0, none⟩) iq _).cell 5 | exact (KB.out.far (p := ⟨br, 0, none⟩) bL _).cell 0) | go_keep))
  ((first
    | (go_at_call 80; refine hQ.mono ?_; rintro r1 w1 ⟨v1, rfl, an, ai⟩)
    | (go_at_call 95; refine (zhp ep v1 (fun g => v1.ownBlock = some g) (.slice a' n' k') xs l w1 (znt an) (zaj (World.ownsRow.drew HO.out) ai (fun _ _ e => e)) hl au HW.out (zc4 an HO.out (zmw _))).mono ?_; rintro r2 w2 ⟨v2, rfl, af, ar, bu⟩; obtain ⟨KP, KB, KR⟩ := zbj HP.out HB.out HR.out HO.out ai ar; have q0 := KR.out.cell 0; simp at q0; have q1 := KR.out.frozen 0; obtain ⟨a2, n2, k2, rfl⟩ := zac af)))
 have HE : Fr (fun k => some k = (Value.slice a' n' k').ownBlock ∨ k = br) w (w2.setCell ⟨br, 0, none⟩ (.slice a2 n2 k2)) :=
  ((((znq (fun k => some k = (Value.slice a' n' k').ownBlock ∨ k = br) w).drew).trans ai (fun _ _ e => e.elim)).trans ar (fun _ _ e => .inl e)).setCell (p := ⟨br, 0, none⟩) (.inl (.inr rfl)) _
 have HV : Blk (w2.setCell ⟨br, 0, none⟩ (.slice a2 n2 k2)) br 44 #[.slice a2 n2 k2] := by simpa using KR.out.set_ 0 (.slice a2 n2 k2)
 have HF := zmk HE; have iN := zmk HV; have eT : (w2.setCell ⟨br, 0, none⟩ (.slice a2 n2 k2)).ownsRow 0 5 1 (.slice a2 n2 k2) (xs ++ zaU l).length (bc (xs ++ zaU l)) := zaj af (Fr.put_ w2 br 0 _) (fun g hg e => zak af KR.out (by decide) (by rw [hg, e])); have dO := zmk eT; have bG := ai.size; have gd := zmk bu
 clear HE HV eT an ai af ar bu q0 q1 hQ p1 gr b0 gV; go_wp2; go_end0; refine ⟨rfl, _, iN.out, dO.out, HF.out, ?_⟩; rcases gd.out with h | ⟨k, h, hk⟩
 ·exact .inl h
 ·exact .inr ⟨k, h, by simp at bG; omega⟩
theorem zeN (s0 s1 s2 s3 s4 s5 s6 bv : Value) (xs : List UInt8) (l : List Mrk) (P : Nat -> Prop) (w : World) (hb : Sl P w bv 1 xs.length (bc xs)) (bh : xs.length <= 1073741824)
 (au : ∀ s ∈ [s0, s1, s2, s3, s4, s5, s6], ∃ A m c, s = .slice A m c) (hs : Sl P w s5 2 l.length (l.flatMap Mrk.c)) (dh : l.length <= 1073741824) (aG : ∀ s ∈ l, s.wf) :
 Calls prog 31 #[.int .i64 5, .agg #[s0, s1, s2, s3, s4, s5, s6], bv] w (zbO (fun lv _ => lv = .slice none 0 0) w (xs ++ zaU l)) := by
 refine zaS 5 s0 s1 s2 s3 s4 s5 s6 bv xs _ P _ w hb bh au (by rintro lv W rfl; exact ⟨_, _, _, rfl⟩) (fun _ _ _ h _ => h) ?_; intro bk be bp bb br bl v W hk hp bK hr hl ab bL hF
 exact (zhd bk bp bb br _ _ P s0 s1 s2 s3 s4 s5 s6 v _ xs l W hk hp bK hr (zai ab (zmv _)) (hs.fr hF (fun _ _ e => e)) bh dh aG bL).mono fun r w' h => zde (zai ab (zmv _)) hr hl h
def MrkParts (base : Nat) (l : List Mrk) (ps : Array Value) (w : World) : Prop :=
 ∃ lv, ps = #[.slice none 0 0, .slice none 0 0, .slice none 0 0, .slice none 0 0, .slice none 0 0, lv, .slice none 0 0] /\ w.ownsRow base 168 2 lv l.length (l.flatMap Mrk.c)
theorem seven_of5 {lv : Value} (h : ∃ A m c, lv = .slice A m c) : zmf #[.slice none 0 0, .slice none 0 0, .slice none 0 0, .slice none 0 0, .slice none 0 0, lv, .slice none 0 0] := by
 obtain ⟨A, m, c, rfl⟩ := h; exact ⟨_, _, _, _, _, _, _, _, _, _, _, _, _, _, _, _, _, _, _, _, _, rfl⟩
theorem ze5 (te : TypeId) (pe : Value) (q0 q1 q2 q3 q4 q5 q6 bv : Value) (pre : List Mrk) (xs : List UInt8) (P : Nat -> Prop) (w : World) (hb : Sl P w bv 1 xs.length (bc xs)) (bh : xs.length <= 1073741824) (hP : ∀ g, P g -> g < w.heap.size)
 (au : ∀ s ∈ [q0, q1, q2, q3, q4, q5, q6], ∃ A m c, s = .slice A m c) (hs : Sl P w q5 2 pre.length (pre.flatMap Mrk.c)) (bm : pre.length <= 1073741824) (hE : w.cell? ⟨2, 0, none⟩ = some (.iface te pe)) :
 Calls prog 29 #[.int .i64 5, bv, .agg #[q0, q1, q2, q3, q4, q5, q6]] w (zcQ (MrkParts w.heap.size (zmi pre xs)) (zaz xs).isSome w) := by
 have h2 := zmr w _ hE; refine zbs 5 q0 q1 q2 q3 q4 q5 q6 bv xs P _ _ w hb au ?_ ?_
 ·rintro ps W W' ⟨lv, rfl, ho⟩ hv
  refine ⟨lv, rfl, zaj ho hv ?_⟩; rintro g hg ⟨cs, h | h⟩
  ·exact zak ho h (by decide) hg
  ·exact zak ho h (by decide) hg
 ·intro bb bk bq bp bo W hk bK hq hp ho fU nr ns dt hF
  have gM : W.cell? ⟨2, 0, none⟩ = some (.iface te pe) := by rw [hF.cell (p := ⟨2, 0, none⟩) h2 (fun e => e)]; exact hE
  refine (zh8 te pe bb bk bq bp bo P q0 q1 q2 q3 q4 q5 q6 bv xs W bK (hb.fr hF (fun _ _ e => e)) hk hq pre (hs.fr hF (fun _ _ e => e)) bm hp ho gM bh (fun g hg e => by have := hP g hg; omega) dt (by simp only [] at h2; omega)).mono ?_; rintro r w' ⟨rfl, hf, dd, lv, dc, ab⟩; have hz := hF.size; obtain ⟨a, c, gz⟩ := zaa ab
  exact ⟨rfl, hf, dd, _, seven_of5 ⟨_, _, _, gz⟩, dc, lv, rfl, zai ab hz⟩
theorem zj3 (P Q : Nat -> Prop) (u v : Value) (l : List Mrk) (w : World) (hu : Sl P w u 2 l.length (l.flatMap Mrk.c)) (hv : Sl Q w v 2 l.length (l.flatMap Mrk.c)) (hl : l.length <= 1099511627776) : Calls prog 104 #[u, v] w (zap w) := by
 obtain ⟨A, c, rfl, _, hc, hr⟩ := hu; obtain ⟨B, d, rfl, _, hd, hs⟩ := hv; obtain ⟨n, hn⟩ := exE l.length; rw [hn] at hr hs hc hd hl ⊢; have HN := zmk hn; have HR := zmk hr; have HS := zmk hs; clear hn hr hs; go_enter func104, ntmps104; go_wp2; go_loopw [5] (fun i wr => ∃ k : Nat, k <= n /\ i = .int .i64 k /\ Fr (fun _ => False) w wr) (fun i _ => n - (intOf i).toNat)
 case atStart => exact ⟨0, zmv _, rfl, znq _ _⟩
 case round =>
  obtain ⟨k, hk, rfl, hf⟩ := hrel; by_cases hlt : k < n
  ·obtain ⟨g, off, rfl, _, aa⟩ := HR.out (by omega)
   obtain ⟨g2, ap, rfl, _, al⟩ := HS.out (by omega); obtain ⟨x, hx⟩ : ∃ x, l[k]? = some x := ⟨_, zmm (by rw [HN.out]; exact hlt)⟩; have ay : ∀ {g off : Nat}, (∀ j u, (l.flatMap Mrk.c)[j]? = some u -> w.cell? ⟨g, off + j, none⟩ = some u) -> ∀ j, j < 2 -> ∀ u, (Mrk.c x)[j]? = some u -> wr.drew.cell? ⟨g, off + (k * 2 + j), none⟩ = some u := fun {g off} aa j hj u hu => by
    have := aa (k * 2 + j) u (by rw [zbE Mrk.c (fun _ => rfl) l k x hx j hj]; exact hu); rw [hf.drew.cell (p := ⟨g, off + (k * 2 + j), none⟩) (zmr w _ this) (fun e => e)]; exact this
   have c0 : wr.drew.cell? ⟨g, off + k * 2, none⟩ = some (.int .u64 x.ref) := ay aa 0 (by omega) _ rfl; have c1 : wr.drew.cell? ⟨g, off + k * 2 + 1, none⟩ = some (.int .u64 x.mm) := ay aa 1 (by omega) _ rfl; have d0 : wr.drew.cell? ⟨g2, ap + k * 2, none⟩ = some (.int .u64 x.ref) := ay al 0 (by omega) _ rfl
   have d1 : wr.drew.cell? ⟨g2, ap + k * 2 + 1, none⟩ = some (.int .u64 x.mm) := ay al 1 (by omega) _ rfl; have ar := zmk hf.drew; clear aa al ay hf hx; go_wp2; go_region; go_wp2; go_roundw
   case rel => exact ⟨k + 1, by omega, by go_num, ar.out⟩
   case measure => simp [intOf]; omega
  ·obtain rfl : k = n := by omega
   go_wp2; go_ret; exact ⟨rfl, hf⟩
def SmpParts (base : Nat) (l : List Smp) (ps : Array Value) (w : World) : Prop :=
 ∃ lv, ps = #[.slice none 0 0, lv, .slice none 0 0, .slice none 0 0, .slice none 0 0, .slice none 0 0, .slice none 0 0] /\ w.ownsRow base 113 3 lv l.length (l.flatMap Smp.a)
theorem seven_of {lv : Value} (h : ∃ A m c, lv = .slice A m c) : zmf #[.slice none 0 0, lv, .slice none 0 0, .slice none 0 0, .slice none 0 0, .slice none 0 0, .slice none 0 0] := by
 obtain ⟨A, m, c, rfl⟩ := h; exact ⟨_, _, _, _, _, _, _, _, _, _, _, _, _, _, _, _, _, _, _, _, _, rfl⟩
theorem zdj (te : TypeId) (pe : Value) (q0 q1 q2 q3 q4 q5 q6 bv : Value) (xs : List UInt8) (P : Nat -> Prop) (w : World) (hb : Sl P w bv 1 xs.length (bc xs)) (bh : xs.length <= 1073741824) (hP : ∀ g, P g -> g < w.heap.size)
 (au : ∀ s ∈ [q0, q1, q2, q3, q4, q5, q6], ∃ A m c, s = .slice A m c) (hs : Sl P w q1 3 0 []) (hE : w.cell? ⟨2, 0, none⟩ = some (.iface te pe)) :
 Calls prog 29 #[.int .i64 2, bv, .agg #[q0, q1, q2, q3, q4, q5, q6]] w (zcQ (SmpParts w.heap.size ((zal xs).getD [])) (zal xs).isSome w) := by
 have h2 := zmr w _ hE; refine zbs 2 q0 q1 q2 q3 q4 q5 q6 bv xs P _ _ w hb au ?_ ?_
 ·rintro ps W W' ⟨lv, rfl, ho⟩ hv
  refine ⟨lv, rfl, zaj ho hv ?_⟩; rintro g hg ⟨cs, h | h⟩
  ·exact zak ho h (by decide) hg
  ·exact zak ho h (by decide) hg
 ·intro bb bk bq bp bo W hk bK hq hp ho fU nr ns dt hF
  have gM : W.cell? ⟨2, 0, none⟩ = some (.iface te pe) := by rw [hF.cell (p := ⟨2, 0, none⟩) h2 (fun e => e)]; exact hE
  refine (zh7 te pe bb bk bq bp bo P q0 q1 q2 q3 q4 q5 q6 bv xs W bK (hb.fr hF (fun _ _ e => e)) hk hq (hs.fr hF (fun _ _ e => e)) hp ho gM bh (fun g hg e => by have := hP g hg; omega) dt (by simp only [] at h2; omega)).mono ?_; rintro r w' ⟨rfl, hf, dd, lv, dc, ab⟩; have hz := hF.size; obtain ⟨a, c, gz⟩ := zaa ab
  exact ⟨rfl, hf, dd, _, seven_of ⟨_, _, _, gz⟩, dc, lv, rfl, zai ab hz⟩
def aliveS : List Smp := [⟨1, 2, 3⟩]
theorem zjB : ∀ s ∈ aliveS, s.wf := by
 intro s hs; simp only [aliveS, zm1] at hs; subst hs; exact ⟨by decide, by decide, by decide, by decide⟩
theorem zme : zal (zaC aliveS) = some aliveS := dec_enc _ zjB
theorem zgz (te : TypeId) (pe : Value) (w : World) (hE : w.cell? ⟨2, 0, none⟩ = some (.iface te pe)) : Calls prog 28 #[] w (zap w) := by
 have HE := zmk hE; clear hE; go_enter func28, ntmps28; go_wp2_with fail
 have hX := (znr w 113 #[.int .u64 1, .int .i64 2, .int .u64 3]).alloc (.cells #[.slice none 0 0, .slice (some ⟨w.heap.size, 0, none⟩) 1 1, .slice none 0 0, .slice none 0 0, .slice none 0 0, .slice none 0 0, .slice none 0 0] 54)
 have hY := zaK w (.cells #[.int .u64 1, .int .i64 2, .int .u64 3] 113) 54 #[.slice none 0 0, .slice (some ⟨w.heap.size, 0, none⟩) 1 1, .slice none 0 0, .slice none 0 0, .slice none 0 0, .slice none 0 0, .slice none 0 0]
 have gl : Fr (fun _ => False) w ((w.alloc (.cells #[.int .u64 1, .int .i64 2, .int .u64 3] 113)).alloc (.cells #[.slice none 0 0, .slice (some ⟨w.heap.size, 0, none⟩) 1 1, .slice none 0 0, .slice none 0 0, .slice none 0 0, .slice none 0 0, .slice none 0 0] 54)) := ((znq _ w).alloc _).alloc _
 generalize World.alloc _ (Obj.cells #[.slice none 0 0, .slice (some ⟨w.heap.size, 0, none⟩) 1 1, .slice none 0 0, .slice none 0 0, .slice none 0 0, .slice none 0 0, .slice none 0 0] 54) = W at hX hY gl ⊢; have mT : Sl (fun g => g = w.heap.size) W (.slice (some ⟨w.heap.size, 0, none⟩) 1 1) 3 aliveS.length (aliveS.flatMap Smp.a) := by
  refine ⟨_, _, rfl, rfl, zmw _, fun _ => ⟨_, 0, rfl, rfl, fun j u hu => ?_⟩⟩; rw [zmP, hX.cell, <- hu, <- zmF]; rfl
 have ju : ∀ (P : Nat -> Prop) (W : World) (s : Nat), Sl P W (.slice none 0 0) s 0 [] := fun P W s => ⟨_, _, rfl, by simp, zmw _, fun h => absurd h (by omega)⟩
 have iZ := zc5 (.slice none 0 0) (.slice (some ⟨w.heap.size, 0, none⟩) 1 1) (.slice none 0 0) (.slice none 0 0) (.slice none 0 0) (.slice none 0 0) (.slice none 0 0) (.slice none 0 0) [] aliveS (fun g => g = w.heap.size) W (ju _ _ _) (by simp) (by
  intro s hs; simp only [zmY, List.mem_nil_iff, or_false] at hs
  rcases hs with rfl | rfl | rfl | rfl | rfl | rfl | rfl <;> exact ⟨_, _, _, rfl⟩) mT (by decide) zjB
 rw [zmW] at iZ; have qM := zmk mT; have HY := zmk hY; have jX := zmk gl; have qW := zmk ju; have hWl := gl.size; have hXl := hX.lt; clear mT hX hY gl ju; refine iZ.mono ?_; rintro r w1 ⟨v1, lv1, rfl, rfl, an, ai⟩; clear iZ; obtain ⟨b1, k1, rfl⟩ := zaa an; have eG : w1.cell? ⟨2, 0, none⟩ = some (.iface te pe) := by
  have h2 := zmr w _ HE.out; rw [(jX.out.same ai).cell (p := ⟨2, 0, none⟩) h2 (fun e => e)]; exact HE.out
 have ak : (zaC aliveS).length <= 200 := by
  have h1 := zdR (zbx ⟨1, 2, 3⟩) 28 (zfu _) aliveS; have h2 : (zaC aliveS).length = 1 + (16 + (aliveS.flatMap (zbx ⟨1, 2, 3⟩)).length) := by
   show ([2] ++ (zd8 ⟨1, 2, 3⟩ ++ aliveS.flatMap (zbx ⟨1, 2, 3⟩))).length = _; rw [zml, zml]; simp only [zd8, zml, zmu, zmB]
  rw [h2]; have : aliveS.length = 1 := rfl; omega
 have hS1 := znt an
 have iI := zdj te pe (.slice none 0 0) (.slice none 0 0) (.slice none 0 0) (.slice none 0 0) (.slice none 0 0) (.slice none 0 0) (.slice none 0 0) _ (zaC aliveS) _ w1 hS1 (by omega) (fun g hg => zas an hg) (by
  intro s hs; simp only [zmY, List.mem_nil_iff, or_false] at hs
  rcases hs with rfl | rfl | rfl | rfl | rfl | rfl | rfl <;> exact ⟨_, _, _, rfl⟩) (qW.out (fun g => (Value.slice b1 (zaC aliveS).length k1).ownBlock = some g) w1 3) eG
 rw [zme] at iI; have HS1 := zmk hS1; have F1 := zmk ai; have dg := zmk an; have mL : zcg (zaC aliveS) = 2 := rfl; have HTY := zmk mL; clear eG hS1 ai an mL; generalize zaC aliveS = xs at iI HS1 dg ak HTY ⊢; have kG := F1.out.size; go_wp2_with (go_at_call 29; refine iI.mono ?_; rintro r w2 ⟨ps, rfl, pn, hL, _, ar⟩; refine Hid.out ?_)
 obtain ⟨lv, rfl, af⟩ := hL rfl; clear hL pn iI; obtain ⟨b2, k2, rfl⟩ := zaa af; have hw2 := ar.size; have F2 := zmk ar; have cH := zmk af; clear ar af; refine zmk ?_
 have hS2 : Sl (fun g => (Value.slice b1 xs.length k1).ownBlock = some g) (w2.alloc (.cells #[.slice none 0 0, .slice b2 aliveS.length k2, .slice none 0 0, .slice none 0 0, .slice none 0 0, .slice none 0 0, .slice none 0 0] 54)) (.slice b1 xs.length k1) 1 xs.length (bc xs) := HS1.out.fr (F2.out.alloc _) (fun _ _ e => e); have hC3 := zhh _ _ xs _ hS2; rw [HTY.out] at hC3; clear hS2
 go_wp2_with (go_at_call 42; refine hC3.mono ?_; rintro r w3 ⟨v3, rfl, rfl, bJ⟩; refine Hid.out ?_)
 have F12 := jX.out.same (F1.out.same F2.out); have rQ : Fr (fun _ => False) w2 w3 := ((znq _ w2).alloc _).same bJ; have B3 : Blk w3 w2.heap.size 54 #[.slice none 0 0, .slice b2 aliveS.length k2, .slice none 0 0, .slice none 0 0, .slice none 0 0, .slice none 0 0, .slice none 0 0] := (znr w2 54 _).fr bJ (fun e => e); have A3 := HY.out.fr ((F1.out.same F2.out).same rQ) (fun e => e)
 have F3 := F12.same rQ; have x0 := A3.cell 0; have x1 := A3.cell 1; have x2 := A3.cell 2; have x3 := A3.cell 3; have x4 := A3.cell 4; have x5 := A3.cell 5; have x6 := A3.cell 6; have y0 := B3.cell 0; have y1 := B3.cell 1; have y2 := B3.cell 2; have y3 := B3.cell 3; have y4 := B3.cell 4; have y5 := B3.cell 5; have y6 := B3.cell 6
 simp only [zmF, zmD, zmE] at x0 x1 x2 x3 x4 x5 x6 y0 y1 y2 y3 y4 y5 y6
 have hC4 := ziS none none none none 0 0 0 0 (.slice (some ⟨w.heap.size, 0, none⟩) 1 1) (.slice none 0 0) (.slice none 0 0) (.slice none 0 0) (.slice none 0 0) (.slice b2 aliveS.length k2) (.slice none 0 0) (.slice none 0 0) (.slice none 0 0) (.slice none 0 0) w3 (by
  intro s hs; simp only [zmY, List.mem_nil_iff, or_false] at hs
  rcases hs with rfl | rfl | rfl | rfl | rfl | rfl | rfl | rfl | rfl | rfl <;> exact ⟨_, _, _, rfl⟩)
  (fun W' hW' => zgu _ _ _ _ aliveS W' (qM.out.fr (((F1.out.same F2.out).same rQ).same hW') (fun _ _ e => e)) ((znt cH.out).fr (rQ.same hW') (fun _ _ e => e)) (by decide))
  (fun W' _ => zj6 _ _ _ _ W') (fun W' _ => zj4 _ _ _ _ W') (fun W' _ => zj2 _ _ _ _ W') (fun W' _ => zlk _ _ _ _ W')
 have bE := zmk B3; have bx := zmk F3; have mn : aliveS.length = 1 := rfl; rw [mn] at y1 hC4 bE ⊢; clear B3 A3 F3 F12 rQ bJ hC3 HS1 cH qM HY jX F1 F2 dg qW; refine zmk ?_
 go_wp2_with (go_at_call 32; refine hC4.mono ?_; rintro r w4 ⟨rfl, dw⟩; have y1' := (bE.out.fr dw (fun e => e)).cell 1; simp only [zmF, zmD, zmE] at y1')
 go_ret; exact ⟨rfl, bx.out.same dw⟩
def SerR (s : Ser) : Prop := s.ref < 18446744073709551616 /\ LabOk s.labs 12 600
def ExmR (s : Exm) : Prop := (s.ref < 18446744073709551616 /\ -9223372036854775808 <= s.t /\ s.t <= 9223372036854775807 /\ s.v < 18446744073709551616) /\ LabOk s.labs 12 600
theorem SerR.lab {s : Ser} (h : SerR s) : LabOk s.labs 12 600 := h.2
theorem ExmR.lab {s : Exm} (h : ExmR s) : LabOk s.labs 12 600 := h.2
theorem SerR.ok {s : Ser} (h : SerR s) : zhw s := ⟨h.1, h.2.1, fun p hp => (h.2.2.1 p hp).2, h.2.2.2⟩
theorem ExmR.ok {s : Exm} (h : ExmR s) : zfZ s := ⟨h.1.1, h.1.2.1, h.1.2.2.1, h.1.2.2.2, h.2.1, fun p hp => (h.2.2.1 p hp).2, h.2.2.2⟩
theorem zh0 (bk bp bb br : Nat) (ep lp : Value) (P : Nat -> Prop) (s0 s1 s2 s3 s4 s5 s6 v z : Value) (xs : List UInt8) (lv : List (Ser × Value)) (w : World) (hk : Blk w bk 3 #[.int .i64 1]) (hp : Blk w bp 54 #[s0, s1, s2, s3, s4, s5, s6]) (hb : Blk w bb 44 #[v]) (hr : Blk w br 44 #[z])
 (ab : w.ownsRow 0 5 1 v xs.length (bc xs)) (hs : SlR P w s0 lv) (hl : xs.length <= 536870912) (au : (lv.map Prod.fst).length <= 12) (aG : ∀ s ∈ (lv.map Prod.fst), SerR s) (bL : bb ≠ br) :
 Calls prog 90 #[.pointer (some ⟨bk, 0, none⟩), ep, .pointer (some ⟨bp, 0, none⟩), .pointer (some ⟨bb, 0, none⟩), .pointer (some ⟨br, 0, none⟩), lp] w (zcu w br v.ownBlock (xs ++ zbF (lv.map Prod.fst))) := by
 have iq : bp ≠ br := zns hp hr (by decide); have k0 := hk.cell 0; have p1 := hp.cell 0; have b0 := hb.cell 0; simp at k0 p1 b0; obtain ⟨a', n', k', rfl⟩ := zac ab; have bA : ∃ A m c, s0 = .slice A m c := let ⟨A, c, h, _⟩ := hs.1; ⟨A, _, c, h⟩
 obtain ⟨A, m, c, rfl⟩ := bA; have hQ := ze2 P (.slice A m c) lv w.drew hs (by rw [zmI] at au; omega) (fun p hp => (aG p.1 (zmQ.2 ⟨p, hp, rfl⟩)).lab); have HB := zmk hb; have HP := zmk hp; have HR := zmk hr; have HO := zmk ab; have gr : w.drew.cell? ⟨bp, 0, none⟩ = some (.slice A m c) := p1
 have gV : w.drew.cell? ⟨bb, 0, none⟩ = some (.slice a' n' k') := b0; clear hk hp hb hr ab hs; go_enter func90, ntmps90; go_wp2_with fail
 have HW := zmk aG; clear aG; go_region_held3 (fun w' => w'.cell? ⟨bp, 0, none⟩ = some (.slice A m c) /\ w'.cell? ⟨bb, 0, none⟩ = some (.slice a' n' k'))
  ((first | (go_split_ands; refine ⟨?_, ?_⟩ <;> first | exact ((HP.out.drew).fr ai (fun e => e)).cell 0 | exact ((HB.out.drew).fr ai (fun e => e)).cell 0) | (go_split_ands; refine ⟨?_, ?_⟩ <;> first | exact KP.out.cell 0 | exact KB.out.cell 0) | (go_split_ands; refine ⟨?_, ?_⟩ <;> first | exact (KP.out.far (p := ⟨br, 0, none⟩) iq _).cell 0 | exact (KB.out.far (p := ⟨br, 0, none⟩) bL _).cell 0) | go_keep))
  ((first
    | (go_at_call 69; refine hQ.mono ?_; rintro r1 w1 ⟨v1, rfl, an, ai⟩)
    | (go_at_call 91; refine (zkx ep v1 (fun g => v1.ownBlock = some g) (.slice a' n' k') xs (lv.map Prod.fst) w1 (znt an) (zaj (World.ownsRow.drew HO.out) ai (fun _ _ e => e)) hl au (fun s hs => (HW.out s hs).ok) (zc4 an HO.out (zmw _))).mono ?_; rintro r2 w2 ⟨v2, rfl, af, ar, bu⟩; obtain ⟨KP, KB, KR⟩ := zbj HP.out HB.out HR.out HO.out ai ar; have q0 := KR.out.cell 0; simp at q0; have q1 := KR.out.frozen 0; obtain ⟨a2, n2, k2, rfl⟩ := zac af)))
 have HE : Fr (fun k => some k = (Value.slice a' n' k').ownBlock ∨ k = br) w (w2.setCell ⟨br, 0, none⟩ (.slice a2 n2 k2)) :=
  ((((znq (fun k => some k = (Value.slice a' n' k').ownBlock ∨ k = br) w).drew).trans ai (fun _ _ e => e.elim)).trans ar (fun _ _ e => .inl e)).setCell (p := ⟨br, 0, none⟩) (.inl (.inr rfl)) _
 have HV : Blk (w2.setCell ⟨br, 0, none⟩ (.slice a2 n2 k2)) br 44 #[.slice a2 n2 k2] := by simpa using KR.out.set_ 0 (.slice a2 n2 k2)
 have HF := zmk HE; have iN := zmk HV; have eT : (w2.setCell ⟨br, 0, none⟩ (.slice a2 n2 k2)).ownsRow 0 5 1 (.slice a2 n2 k2) (xs ++ zbF (lv.map Prod.fst)).length (bc (xs ++ zbF (lv.map Prod.fst))) := zaj af (Fr.put_ w2 br 0 _) (fun g hg e => zak af KR.out (by decide) (by rw [hg, e])); have dO := zmk eT; have bG := ai.size; have gd := zmk bu
 clear HE HV eT an ai af ar bu q0 q1 hQ p1 gr b0 gV; go_wp2; go_end0; refine ⟨rfl, _, iN.out, dO.out, HF.out, ?_⟩; rcases gd.out with h | ⟨k, h, hk⟩
 ·exact .inl h
 ·exact .inr ⟨k, h, by simp at bG; omega⟩
theorem ze4 (s0 s1 s2 s3 s4 s5 s6 bv : Value) (xs : List UInt8) (lv : List (Ser × Value)) (P : Nat -> Prop) (w : World) (hb : Sl P w bv 1 xs.length (bc xs)) (bh : xs.length <= 536870912)
 (au : ∀ s ∈ [s0, s1, s2, s3, s4, s5, s6], ∃ A m c, s = .slice A m c) (hs : SlR P w s0 lv) (dh : (lv.map Prod.fst).length <= 12) (aG : ∀ s ∈ (lv.map Prod.fst), SerR s) :
 Calls prog 31 #[.int .i64 1, .agg #[s0, s1, s2, s3, s4, s5, s6], bv] w (zbO (fun lv _ => lv = .slice none 0 0) w (xs ++ zbF (lv.map Prod.fst))) := by
 refine zaS 1 s0 s1 s2 s3 s4 s5 s6 bv xs _ P _ w hb (by omega) au (by rintro lv W rfl; exact ⟨_, _, _, rfl⟩) (fun _ _ _ h _ => h) ?_; intro bk be bp bb br bl v W hk hp bK hr hl ab bL hF
 exact (zh0 bk bp bb br _ _ P s0 s1 s2 s3 s4 s5 s6 v _ xs lv W hk hp bK hr (zai ab (zmv _)) (hs.fr hF (fun _ _ e => e)) bh dh aG bL).mono fun r w' h => zde (zai ab (zmv _)) hr hl h
theorem zfO (bk bp bb br : Nat) (ep lp : Value) (P : Nat -> Prop) (s0 s1 s2 s3 s4 s5 s6 v z : Value) (xs : List UInt8) (lv : List (Exm × Value)) (w : World) (hk : Blk w bk 3 #[.int .i64 4]) (hp : Blk w bp 54 #[s0, s1, s2, s3, s4, s5, s6]) (hb : Blk w bb 44 #[v]) (hr : Blk w br 44 #[z])
 (ab : w.ownsRow 0 5 1 v xs.length (bc xs)) (hs : SlX P w s3 lv) (hl : xs.length <= 536870912) (au : (lv.map Prod.fst).length <= 12) (aG : ∀ s ∈ (lv.map Prod.fst), ExmR s) (bL : bb ≠ br) :
 Calls prog 90 #[.pointer (some ⟨bk, 0, none⟩), ep, .pointer (some ⟨bp, 0, none⟩), .pointer (some ⟨bb, 0, none⟩), .pointer (some ⟨br, 0, none⟩), lp] w (zcu w br v.ownBlock (xs ++ zbh (lv.map Prod.fst))) := by
 have iq : bp ≠ br := zns hp hr (by decide); have k0 := hk.cell 0; have p1 := hp.cell 3; have b0 := hb.cell 0; simp at k0 p1 b0; obtain ⟨a', n', k', rfl⟩ := zac ab; have bA : ∃ A m c, s3 = .slice A m c := let ⟨A, c, h, _⟩ := hs.1; ⟨A, _, c, h⟩
 obtain ⟨A, m, c, rfl⟩ := bA; have hQ := zd3 P (.slice A m c) lv w.drew hs (by rw [zmI] at au; omega) (fun p hp => (aG p.1 (zmQ.2 ⟨p, hp, rfl⟩)).lab); have HB := zmk hb; have HP := zmk hp; have HR := zmk hr; have HO := zmk ab; have gr : w.drew.cell? ⟨bp, 3, none⟩ = some (.slice A m c) := p1
 have gV : w.drew.cell? ⟨bb, 0, none⟩ = some (.slice a' n' k') := b0; clear hk hp hb hr ab hs; go_enter func90, ntmps90; go_wp2_with fail
 have HW := zmk aG; clear aG; go_region_held3 (fun w' => w'.cell? ⟨bp, 3, none⟩ = some (.slice A m c) /\ w'.cell? ⟨bb, 0, none⟩ = some (.slice a' n' k'))
  ((first | (go_split_ands; refine ⟨?_, ?_⟩ <;> first | exact ((HP.out.drew).fr ai (fun e => e)).cell 3 | exact ((HB.out.drew).fr ai (fun e => e)).cell 0) | (go_split_ands; refine ⟨?_, ?_⟩ <;> first | exact KP.out.cell 3 | exact KB.out.cell 0) | (go_split_ands; refine ⟨?_, ?_⟩ <;> first | exact (KP.out.far (p := ⟨br, 0, none⟩) iq _).cell 3 | exact (KB.out.far (p := ⟨br, 0, none⟩) bL _).cell 0) | go_keep))
  ((first
    | (go_at_call 78; refine hQ.mono ?_; rintro r1 w1 ⟨v1, rfl, an, ai⟩)
    | (go_at_call 94; refine (zkz ep v1 (fun g => v1.ownBlock = some g) (.slice a' n' k') xs (lv.map Prod.fst) w1 (znt an) (zaj (World.ownsRow.drew HO.out) ai (fun _ _ e => e)) hl au (fun s hs => (HW.out s hs).ok) (zc4 an HO.out (zmw _))).mono ?_; rintro r2 w2 ⟨v2, rfl, af, ar, bu⟩; obtain ⟨KP, KB, KR⟩ := zbj HP.out HB.out HR.out HO.out ai ar; have q0 := KR.out.cell 0; simp at q0; have q1 := KR.out.frozen 0; obtain ⟨a2, n2, k2, rfl⟩ := zac af)))
 have HE : Fr (fun k => some k = (Value.slice a' n' k').ownBlock ∨ k = br) w (w2.setCell ⟨br, 0, none⟩ (.slice a2 n2 k2)) :=
  ((((znq (fun k => some k = (Value.slice a' n' k').ownBlock ∨ k = br) w).drew).trans ai (fun _ _ e => e.elim)).trans ar (fun _ _ e => .inl e)).setCell (p := ⟨br, 0, none⟩) (.inl (.inr rfl)) _
 have HV : Blk (w2.setCell ⟨br, 0, none⟩ (.slice a2 n2 k2)) br 44 #[.slice a2 n2 k2] := by simpa using KR.out.set_ 0 (.slice a2 n2 k2)
 have HF := zmk HE; have iN := zmk HV; have eT : (w2.setCell ⟨br, 0, none⟩ (.slice a2 n2 k2)).ownsRow 0 5 1 (.slice a2 n2 k2) (xs ++ zbh (lv.map Prod.fst)).length (bc (xs ++ zbh (lv.map Prod.fst))) := zaj af (Fr.put_ w2 br 0 _) (fun g hg e => zak af KR.out (by decide) (by rw [hg, e])); have dO := zmk eT; have bG := ai.size; have gd := zmk bu
 clear HE HV eT an ai af ar bu q0 q1 hQ p1 gr b0 gV; go_wp2; go_end0; refine ⟨rfl, _, iN.out, dO.out, HF.out, ?_⟩; rcases gd.out with h | ⟨k, h, hk⟩
 ·exact .inl h
 ·exact .inr ⟨k, h, by simp at bG; omega⟩
theorem zej (s0 s1 s2 s3 s4 s5 s6 bv : Value) (xs : List UInt8) (lv : List (Exm × Value)) (P : Nat -> Prop) (w : World) (hb : Sl P w bv 1 xs.length (bc xs)) (bh : xs.length <= 536870912)
 (au : ∀ s ∈ [s0, s1, s2, s3, s4, s5, s6], ∃ A m c, s = .slice A m c) (hs : SlX P w s3 lv) (dh : (lv.map Prod.fst).length <= 12) (aG : ∀ s ∈ (lv.map Prod.fst), ExmR s) :
 Calls prog 31 #[.int .i64 4, .agg #[s0, s1, s2, s3, s4, s5, s6], bv] w (zbO (fun lv _ => lv = .slice none 0 0) w (xs ++ zbh (lv.map Prod.fst))) := by
 refine zaS 4 s0 s1 s2 s3 s4 s5 s6 bv xs _ P _ w hb (by omega) au (by rintro lv W rfl; exact ⟨_, _, _, rfl⟩) (fun _ _ _ h _ => h) ?_; intro bk be bp bb br bl v W hk hp bK hr hl ab bL hF
 exact (zfO bk bp bb br _ _ P s0 s1 s2 s3 s4 s5 s6 v _ xs lv W hk hp bK hr (zai ab (zmv _)) (hs.fr hF (fun _ _ e => e)) bh dh aG bL).mono fun r w' h => zde (zai ab (zmv _)) hr hl h
theorem zgd (bk bp bb br : Nat) (ep lp : Value) (P : Nat -> Prop) (s0 s1 s2 s3 s4 s5 s6 v z : Value) (xs : List UInt8) (l : List Mta) (w : World) (hk : Blk w bk 3 #[.int .i64 6]) (hp : Blk w bp 54 #[s0, s1, s2, s3, s4, s5, s6]) (hb : Blk w bb 44 #[v]) (hr : Blk w br 44 #[z])
 (ab : w.ownsRow 0 5 1 v xs.length (bc xs)) (hs : Sl P w s4 4 l.length (l.flatMap Mta.c)) (hl : xs.length <= 536870912) (au : l.length <= 1048576) (aG : ∀ s ∈ l, s.wf) (bL : bb ≠ br) :
 Calls prog 90 #[.pointer (some ⟨bk, 0, none⟩), ep, .pointer (some ⟨bp, 0, none⟩), .pointer (some ⟨bb, 0, none⟩), .pointer (some ⟨br, 0, none⟩), lp] w (zcu w br v.ownBlock (xs ++ zbp l)) := by
 have iq : bp ≠ br := zns hp hr (by decide); have k0 := hk.cell 0; have p1 := hp.cell 4; have b0 := hb.cell 0; simp at k0 p1 b0; obtain ⟨a', n', k', rfl⟩ := zac ab; have bA : ∃ A m c, s4 = .slice A m c := let ⟨A, c, h, _⟩ := hs; ⟨A, _, c, h⟩
 obtain ⟨A, m, c, rfl⟩ := bA; have hQ := zei P (.slice A m c) l w.drew hs (by omega); have HB := zmk hb; have HP := zmk hp; have HR := zmk hr; have HO := zmk ab; have gr : w.drew.cell? ⟨bp, 4, none⟩ = some (.slice A m c) := p1; have gV : w.drew.cell? ⟨bb, 0, none⟩ = some (.slice a' n' k') := b0; clear hk hp hb hr ab hs; go_enter func90, ntmps90
 go_wp2_with fail
 have HW := zmk aG; clear aG; go_region_held3 (fun w' => w'.cell? ⟨bp, 4, none⟩ = some (.slice A m c) /\ w'.cell? ⟨bb, 0, none⟩ = some (.slice a' n' k'))
  ((first | (go_split_ands; refine ⟨?_, ?_⟩ <;> first | exact ((HP.out.drew).fr ai (fun e => e)).cell 4 | exact ((HB.out.drew).fr ai (fun e => e)).cell 0) | (go_split_ands; refine ⟨?_, ?_⟩ <;> first | exact KP.out.cell 4 | exact KB.out.cell 0) | (go_split_ands; refine ⟨?_, ?_⟩ <;> first | exact (KP.out.far (p := ⟨br, 0, none⟩) iq _).cell 4 | exact (KB.out.far (p := ⟨br, 0, none⟩) bL _).cell 0) | go_keep))
  ((first
    | (go_at_call 82; refine hQ.mono ?_; rintro r1 w1 ⟨v1, rfl, an, ai⟩)
    | (go_at_call 96; refine (zji ep v1 (fun g => v1.ownBlock = some g) (.slice a' n' k') xs l w1 (znt an) (zaj (World.ownsRow.drew HO.out) ai (fun _ _ e => e)) (by omega) au HW.out (zc4 an HO.out (zmw _))).mono ?_; rintro r2 w2 ⟨v2, rfl, af, ar, bu⟩; obtain ⟨KP, KB, KR⟩ := zbj HP.out HB.out HR.out HO.out ai ar; have q0 := KR.out.cell 0; simp at q0; have q1 := KR.out.frozen 0; obtain ⟨a2, n2, k2, rfl⟩ := zac af)))
 have HE : Fr (fun k => some k = (Value.slice a' n' k').ownBlock ∨ k = br) w (w2.setCell ⟨br, 0, none⟩ (.slice a2 n2 k2)) :=
  ((((znq (fun k => some k = (Value.slice a' n' k').ownBlock ∨ k = br) w).drew).trans ai (fun _ _ e => e.elim)).trans ar (fun _ _ e => .inl e)).setCell (p := ⟨br, 0, none⟩) (.inl (.inr rfl)) _
 have HV : Blk (w2.setCell ⟨br, 0, none⟩ (.slice a2 n2 k2)) br 44 #[.slice a2 n2 k2] := by simpa using KR.out.set_ 0 (.slice a2 n2 k2)
 have HF := zmk HE; have iN := zmk HV; have eT : (w2.setCell ⟨br, 0, none⟩ (.slice a2 n2 k2)).ownsRow 0 5 1 (.slice a2 n2 k2) (xs ++ zbp l).length (bc (xs ++ zbp l)) := zaj af (Fr.put_ w2 br 0 _) (fun g hg e => zak af KR.out (by decide) (by rw [hg, e])); have dO := zmk eT; have bG := ai.size; have gd := zmk bu
 clear HE HV eT an ai af ar bu q0 q1 hQ p1 gr b0 gV; go_wp2; go_end0; refine ⟨rfl, _, iN.out, dO.out, HF.out, ?_⟩; rcases gd.out with h | ⟨k, h, hk⟩
 ·exact .inl h
 ·exact .inr ⟨k, h, by simp at bG; omega⟩
theorem zez (s0 s1 s2 s3 s4 s5 s6 bv : Value) (xs : List UInt8) (l : List Mta) (P : Nat -> Prop) (w : World) (hb : Sl P w bv 1 xs.length (bc xs)) (bh : xs.length <= 536870912)
 (au : ∀ s ∈ [s0, s1, s2, s3, s4, s5, s6], ∃ A m c, s = .slice A m c) (hs : Sl P w s4 4 l.length (l.flatMap Mta.c)) (dh : l.length <= 1048576) (aG : ∀ s ∈ l, s.wf) :
 Calls prog 31 #[.int .i64 6, .agg #[s0, s1, s2, s3, s4, s5, s6], bv] w (zbO (fun lv _ => lv = .slice none 0 0) w (xs ++ zbp l)) := by
 refine zaS 6 s0 s1 s2 s3 s4 s5 s6 bv xs _ P _ w hb (by omega) au (by rintro lv W rfl; exact ⟨_, _, _, rfl⟩) (fun _ _ _ h _ => h) ?_; intro bk be bp bb br bl v W hk hp bK hr hl ab bL hF
 exact (zgd bk bp bb br _ _ P s0 s1 s2 s3 s4 s5 s6 v _ xs l W hk hp bK hr (zai ab (zmv _)) (hs.fr hF (fun _ _ e => e)) bh dh aG bL).mono fun r w' h => zde (zai ab (zmv _)) hr hl h
theorem zaX (P : Nat -> Prop) (W : World) (s : Nat) : Sl P W (.slice none 0 0) s 0 [] := ⟨none, 0, rfl, by simp, zmw _, fun h => absurd h (by omega)⟩
theorem zem : ∀ s ∈ [Value.slice none 0 0, .slice none 0 0, .slice none 0 0, .slice none 0 0, .slice none 0 0, .slice none 0 0, .slice none 0 0], ∃ A m c, s = .slice A m c := by
 intro s hs; simp only [zmY, zmX, or_false] at hs; rcases hs with rfl | rfl | rfl | rfl | rfl | rfl | rfl <;> exact ⟨_, _, _, rfl⟩
theorem noR (P : Nat -> Prop) (W : World) : SlR P W (.slice none 0 0) [] := ⟨zaX _ _ _, fun p hp => by cases hp⟩
theorem noX (P : Nat -> Prop) (W : World) : SlX P W (.slice none 0 0) [] := ⟨zaX _ _ _, fun p hp => by cases hp⟩
theorem noS (P : Nat -> Prop) (W : World) : SlS P W (.slice none 0 0) [] := ⟨zaX _ _ _, fun p hp => by cases hp⟩
theorem noH (P : Nat -> Prop) (W : World) : SlH P W (.slice none 0 0) [] := ⟨zaX _ _ _, fun p hp => by cases hp⟩
theorem len_ser (l : List Ser) (hl : ∀ s ∈ l, zhw s) (hn : l.length <= 12) : (zbF l).length <= 1073741824 := by
 have h1 := za3 zbT 20000 l (fun x hx => zhR x (hl x hx)); show (_ :: l.flatMap zbT).length <= _; rw [zmC]; omega
theorem len_smp (l : List Smp) (hl : ∀ s ∈ l, s.wf) (hn : l.length <= 12) : (zaC l).length <= 1073741824 := by
 rcases l with _ | ⟨f, r⟩
 ·decide
 ·have h1 := za3 (zbx f) 28 (f :: r) (fun x _ => zfu f x)
  show ([2] ++ (zd8 f ++ (f :: r).flatMap (zbx f))).length <= _; rw [zml, zml]; simp only [zd8, zml, zmu, zmB]; omega
theorem len_sto (l : List Ston) (hl : ∀ s ∈ l, s.wf) (hn : l.length <= 12) (hi : ∀ s ∈ l, s.ivs.length <= 4096) : (za9 l).length <= 1073741824 := by
 have h1 := zjd l hl hi; show (_ :: (zbY l).flatMap zb9).length <= _; rw [zmC]; omega
theorem len_exm (l : List Exm) (hl : ∀ s ∈ l, zfZ s) (hn : l.length <= 12) : (zbh l).length <= 1073741824 := by
 rcases l with _ | ⟨f, r⟩
 ·decide
 ·have h1 := za3 (zbt f) 20000 (f :: r) (fun x hx => zhX f x (hl x hx))
  show (4 :: (zbL f ++ (f :: r).flatMap (zbt f))).length <= _; rw [zmC, zml]; simp only [zbL, zml, zmu]; omega
theorem len_mrk (l : List Mrk) (hl : ∀ s ∈ l, s.wf) (hn : l.length <= 12) : (zaU l).length <= 1073741824 := by
 have h1 := za3 zcx 16 l (fun x hx => Nat.le_of_eq (zhV x)); show (_ :: l.flatMap zcx).length <= _; rw [zmC]; omega
theorem len_mta (l : List Mta) (hl : ∀ s ∈ l, s.wf) (hn : l.length <= 12) : (zbp l).length <= 1073741824 := by
 have h1 := za3 zb4 8300 l (fun x hx => zhU x (hl x hx)); show (_ :: l.flatMap zb4).length <= _; rw [zmC]; omega
theorem few_readW {h : Hst} (k : h.ok) : (h.readW).few 1099511627776 := by
 obtain ⟨a, b, c, d, e, f, g⟩ := k.few; refine ⟨by show h.pos.length <= _; omega, by show h.neg.length <= _; omega, by show h.ups.length <= _; omega, by show h.downs.length <= _; omega, zmv _, zmv _, ?_⟩; show (if h.schema = -53 then h.cus else []).length <= _; split
 ·omega
 ·exact zmv _
theorem zkf (k : Nat) (q : Rhs -> Bool) (l : List Rhs) (hl : ∀ s ∈ l, s.ok) (hn : l.length <= 12) : (zbf (UInt8.ofNat k) q l).length <= 1073741824 := by
 rcases l with _ | ⟨f, r⟩
 ·show 1 <= 1073741824
  omega
 ·have h1 := za3 (za4 f) 5020 ((f :: r).filter q) (fun x hx => zfv f x (hl x (zmZ.1 hx).1))
  have h2 := znj q (f :: r); show ([UInt8.ofNat k] ++ (zar f ++ ((f :: r).filter q).flatMap (za4 f))).length <= _; rw [zml, zml]; simp only [zar, zml, zmu, zmB]; omega
theorem few_readF {h : Hst} (k : h.ok) : (h.readF).few 1099511627776 := by
 obtain ⟨a, b, c, d, e, f, g⟩ := k.few; refine ⟨by show h.pos.length <= _; omega, by show h.neg.length <= _; omega, zmv _, zmv _, by show h.fups.length <= _; omega, by show h.fdowns.length <= _; omega, ?_⟩; show (if h.schema = -53 then h.cus else []).length <= _; split
 ·omega
 ·exact zmv _
theorem zkg (k : Nat) (q : Rhs -> Bool) (l : List Rhs) (hl : ∀ s ∈ l, s.ok) (hn : l.length <= 12) : (zbg (UInt8.ofNat k) q l).length <= 1073741824 := by
 rcases l with _ | ⟨f, r⟩
 ·show 1 <= 1073741824
  omega
 ·have h1 := za3 (za5 f) 5020 ((f :: r).filter q) (fun x hx => zfw f x (hl x (zmZ.1 hx).1))
  have h2 := znj q (f :: r); show ([UInt8.ofNat k] ++ (zar f ++ ((f :: r).filter q).flatMap (za5 f))).length <= _; rw [zml, zml]; simp only [zar, zml, zmu, zmB]; omega
def Fit (p : Lab) : Prop := p.1.size <= 2147483647 /\ p.2.size <= 2147483647
def zav (p : Prop) (w : World) (r : Ending) (w' : World) : Prop := ∃ b : Bool, r = .returned (.bool b) /\ (b = true ↔ p) /\ Fr (fun _ => False) w w'
theorem bool_yes {p : Prop} (h : p) {w : World} {f : FuncId} {args : Array Value} (hc : Calls prog f args w (zav p w)) : Calls prog f args w fun r w' => r = .returned (.bool true) /\ Fr (fun _ => False) w w' :=
 hc.mono fun r w' ⟨b, hr, hb, hf⟩ => ⟨by rw [hr, hb.2 h], hf⟩
theorem bool_no {p : Prop} (h : ¬ p) {w : World} {f : FuncId} {args : Array Value} (hc : Calls prog f args w (zav p w)) : Calls prog f args w fun r w' => r = .returned (.bool false) /\ Fr (fun _ => False) w w' :=
 hc.mono fun r w' ⟨b, hr, hb, hf⟩ => ⟨by rw [hr, Bool.eq_false_iff.2 (fun e => h (hb.1 e))], hf⟩
theorem zlT (x : Lab) (h1 : x.1.size <= 9223372036854775807) (h2 : x.2.size <= 9223372036854775807) (w : World) : Calls prog 52 #[.agg #[.string x.1, .string x.2]] w (zav (Fit x) w) := by
 obtain ⟨a, b⟩ := x; dsimp only at h1 h2; unfold Fit; by_cases ha : 2147483647 < a.size
 ·have ha' : (2147483647 : Int) < a.size := by omega
  go_enter func52, ntmps52; go_wp2; go_ret; exact ⟨false, rfl, ⟨fun h => (by cases h), fun h => absurd h.1 (by show ¬ a.size <= _; omega)⟩, (znq _ w).alloc _⟩
 ·have ha' : ¬ (2147483647 : Int) < a.size := by omega
  by_cases hb : 2147483647 < b.size
  ·have bK : (2147483647 : Int) < b.size := by omega
   go_enter func52, ntmps52; go_wp2; go_ret; exact ⟨false, rfl, ⟨fun h => (by cases h), fun h => absurd h.2 (by show ¬ b.size <= _; omega)⟩, (znq _ w).alloc _⟩
  ·have bK : ¬ (2147483647 : Int) < b.size := by omega
   go_enter func52, ntmps52; go_wp2; go_ret; exact ⟨true, rfl, ⟨fun _ => ⟨by show a.size <= _; omega, by show b.size <= _; omega⟩, fun _ => rfl⟩, (znq _ w).alloc _⟩
theorem zhM (P : Nat -> Prop) (v : Value) (l : List Lab) (w : World) (h : Sl P w v 2 l.length (l.flatMap zaJ)) (hl : l.length <= 9223372036854775807) (hs : ∀ p ∈ l, p.1.size <= 9223372036854775807 /\ p.2.size <= 9223372036854775807) :
 Calls prog 21 #[v] w (zav (l.length <= 2147483647 /\ ∀ p ∈ l, Fit p) w) := by
 obtain ⟨A, c, rfl, _, hc, hr⟩ := h; obtain ⟨n, hn⟩ := exE l.length; rw [hn] at hr hc hl ⊢; have HN := zmk hn; have HR := zmk hr; have HS := zmk hs; clear hn hr hs; by_cases hbig : 2147483647 < n
 ·have cL : (2147483647 : Int) < n := by omega
  go_enter func21, ntmps21; go_wp2; go_ret; exact ⟨false, rfl, ⟨fun h => (by cases h), fun h => absurd h.1 (by omega)⟩, znq _ _⟩
 ·have cL : ¬ (2147483647 : Int) < n := by omega
  go_enter func21, ntmps21; go_wp2; go_loopw [10] (fun vi wr => ∃ k : Nat, k <= n /\ vi = .int .i64 k /\ Hid (∀ p ∈ l.take k, Fit p) /\ Hid (Fr (fun _ => False) w wr)) (fun vi _ => n - (intOf vi).toNat)
  case atStart => exact ⟨0, zmv _, rfl, zmk (fun p hp => by simp at hp), zmk (znq _ _)⟩
  case round =>
   obtain ⟨k, hk, rfl, HP, HF⟩ := hrel; by_cases hlt : k < n
   ·obtain ⟨g, off, rfl, _, aa⟩ := HR.out (by omega)
    obtain ⟨x, hx⟩ : ∃ x, l[k]? = some x := ⟨_, zmm (by rw [HN.out]; exact hlt)⟩; have cc : ∀ j, j < 2 -> ∀ u, (zaJ x)[j]? = some u -> wr.cell? ⟨g, off + (k * 2 + j), none⟩ = some u := fun j hj u hu => by
     have := aa (k * 2 + j) u (by rw [zbE zaJ (fun _ => rfl) l k x hx j hj]; exact hu); rw [HF.out.cell (p := ⟨g, off + (k * 2 + j), none⟩) (zmr w _ this) (fun e => e)]; exact this
    have c0 : wr.cell? ⟨g, off + k * 2, none⟩ = some (.string x.1) := cc 0 (by omega) _ rfl; have c1 : wr.cell? ⟨g, off + k * 2 + 1, none⟩ = some (.string x.2) := cc 1 (by omega) _ rfl; have aH := zms hx; have hq := fun W => zlT x (HS.out x aH).1 (HS.out x aH).2 W; have HX := zmk hx; clear aa cc hx; by_cases hfit : Fit x
    ·have gc := zmk hfit
     clear hfit; go_wp2_with (go_at_call 52; refine (bool_yes gc.out (hq _)).mono ?_; rintro r w1 ⟨rfl, ai⟩)
     go_roundw
     case rel =>
      refine ⟨k + 1, by omega, by go_num, zmk ?_, zmk ((HF.out.alloc _).same ai)⟩; intro p hp; rw [zmV, HX.out, zm0] at hp; rcases hp with hp | hp
      ·exact HP.out p hp
      ·simp at hp; rw [hp]; exact gc.out
     case measure => simp [intOf]; omega
    ·have gc := zmk hfit
     clear hfit; go_wp2_with (go_at_call 52; refine (bool_no gc.out (hq _)).mono ?_; rintro r w1 ⟨rfl, ai⟩)
     go_ret; exact ⟨false, rfl, ⟨fun h => (by cases h), fun h => absurd (h.2 x aH) gc.out⟩, (HF.out.alloc _).same ai⟩
   ·obtain rfl : k = n := by omega
    go_wp2; go_ret; have e : l.take k = l := zmt (by rw [HN.out]; exact zmw _); have hp := HP.out; rw [e] at hp; exact ⟨true, rfl, ⟨fun _ => ⟨by omega, hp⟩, fun _ => rfl⟩, HF.out⟩
end Go.Proofs.YtbkookiigkckdaaGreatDoor
