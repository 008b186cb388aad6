/- Texts of this seat, merged and shortened. -/
import Derived.Test.YtbkookiigkckdaaGreatDoorK25
set_option linter.unusedVariables false
set_option linter.unusedSimpArgs false
set_option maxRecDepth 100000
set_option maxHeartbeats 8000000
namespace Go.Proofs.YtbkookiigkckdaaGreatDoor
open Go.RowKit Go.Proofs.Tryz
theorem flat_take (l : List Ston) (k : Nat) (x : Ston) (h : l[k]? = some x) : zbY (l.take (k + 1)) = zbY (l.take k) ++ zeK x := by
 unfold zbY; rw [zmn, h, zml]; simp
def FlatEnds (w : World) (l : List Ston) (r : Ending) (w' : World) : Prop :=
 ∃ v lo, r = .returned v /\ lo.map Prod.fst = (zbY l).map one /\ OwnS w.heap.size 151 281 w' v lo /\ Fr (fun _ => False) w w'
theorem flat_any (P : Nat -> Prop) (v : Value) (lv : List (Ston × Value)) (w : World) (h : SlS P w v lv) (hl : lv.length <= 4096) (aQ : ∀ p ∈ lv, p.1.ivs.length <= 4096) :
 Calls prog 105 #[v] w (FlatEnds w (lv.map Prod.fst)) := by
 obtain ⟨⟨A, c, rfl, ai, aR, hr⟩, co⟩ := h; obtain ⟨n, hn⟩ := exE lv.length; rw [hn] at hr aR hl ⊢; have HN := zlM hn; have HR := zlM hr; have HI := zlM co
 have gr := zlM aQ; obtain ⟨i0, aB, ay, ax, aA⟩ := info_parts info151; clear hn hr ai co aQ; go_enter func105, ntmps105; go_wp2
 go_loopw [3, 4] (fun v i wr => ∃ (k : Nat) (lo : List (Ston × Value)), k <= n /\ i = .int .i64 k /\ Hid (lo.map Prod.fst = (zbY ((lv.take k).map Prod.fst)).map one) /\ Hid (lo.length <= k * 4096) /\ Hid (OwnS w.heap.size 151 281 wr v lo) /\ Hid (Fr (fun _ => False) w wr)) (fun _ i _ => n - (intOf i).toNat)
 case atStart => exact ⟨0, [], zlX _, rfl, zlM rfl, zlM (by simp), zlM (OwnS.nil _ _ _ _), zlM (zmR _ _)⟩
 case round =>
  obtain ⟨k, lo, hk, rfl, HM, ip, HO, HF⟩ := hrel; by_cases hlt : k < n
  ·obtain ⟨g, off, rfl, _, aa⟩ := HR.out (by omega)
   obtain ⟨x, hx⟩ : ∃ x, lv[k]? = some x := ⟨_, zlO (by rw [HN.out]; exact hlt)⟩; have cw : ∀ j, j < 2 -> ∀ u, (stc x)[j]? = some u -> w.cell? ⟨g, off + (k * 2 + j), none⟩ = some u := fun j hj u hu =>
    aa (k * 2 + j) u (by rw [zbB stc (fun _ => rfl) lv k x hx j hj]; exact hu)
   have aH := zlU hx; have aX := HI.out x aH; have bA := gr.out x aH; have fJ : (lv.map Prod.fst)[k]? = some x.1 := by rw [zmm, hx]; rfl
   obtain ⟨⟨ref, ivs⟩, iv⟩ := x; simp only [] at aX bA fJ; obtain ⟨Ai, ci, rfl, _, pU, fL⟩ := aX; have C0 : Hid (w.cell? ⟨g, off + k * 2, none⟩ = some (.int .u64 ref)) := zlM (cw 0 (by omega) _ rfl); have C1 : Hid (w.cell? ⟨g, off + k * 2 + 1, none⟩ = some (.slice Ai ivs.length ci)) := zlM (cw 1 (by omega) _ rfl); obtain ⟨m, hm⟩ := exE ivs.length; rw [hm] at C1 pU fL bA
   have HX1 := zlM fJ; have nR := zlM fL; have HMM := zlM hm; clear hx cw aH fJ fL hm aa; have bF := HF.out.size; go_wp2_with fail
   obtain ⟨f0, fm⟩ := exE (zbY ((lv.take k).map Prod.fst)); rw [fm] at HM; have jX := zlM fm; clear fm
   go_loopw [3, 5] (fun v i w' => ∃ (j : Nat) (iZ : List (Ston × Value)), j <= m /\ i = .int .i64 j /\ Hid (iZ.map Prod.fst = (f0 ++ (ivs.take j).map (fun p => (⟨ref, p.1, p.2⟩ : Stn))).map one) /\ Hid (iZ.length <= k * 4096 + j) /\ Hid (OwnS w.heap.size 151 281 w' v iZ) /\ Hid (Fr (fun _ => False) w w')) (fun _ i _ => m - (intOf i).toNat)
   case atStart => exact ⟨0, lo, zlX _, rfl, zlM (by rw [HM.out]; simp), zlM (by have := ip.out; omega), HO, HF⟩
   case round =>
    obtain ⟨j, iZ, hj, rfl, HM2, HL2, cL, bx⟩ := hrel; have c1 : wr.cell? ⟨g, off + k * 2 + 1, none⟩ = some (.slice Ai m ci) := by
     rw [bx.out.cell (p := ⟨g, off + k * 2 + 1, none⟩) (zlT w _ C1.out) (fun e => e)]; exact C1.out
    by_cases hlt2 : j < m
    ·obtain ⟨g2, ap, rfl, _, ak⟩ := nR.out (by omega)
     obtain ⟨y, hy⟩ : ∃ y, ivs[j]? = some y := ⟨_, zlO (by rw [HMM.out]; exact hlt2)⟩; have cw : ∀ i, i < 2 -> ∀ u, (ivc y)[i]? = some u -> w.cell? ⟨g2, ap + (j * 2 + i), none⟩ = some u := fun i hi u hu =>
      ak (j * 2 + i) u (by rw [zbB ivc (fun _ => rfl) ivs j y hy i hi]; exact hu)
     have D0 : w.cell? ⟨g2, ap + j * 2, none⟩ = some (.int .i64 y.1) := cw 0 (by omega) _ rfl; have D1 : w.cell? ⟨g2, ap + j * 2 + 1, none⟩ = some (.int .i64 y.2) := cw 1 (by omega) _ rfl
     have HC : Hid (∀ W', Fr (fun _ => False) w W' -> W'.cell? ⟨g, off + k * 2, none⟩ = some (.int .u64 ref) /\ W'.cell? ⟨g, off + k * 2 + 1, none⟩ = some (.slice (some ⟨g2, ap, none⟩) m ci) /\ W'.cell? ⟨g2, ap + j * 2, none⟩ = some (.int .i64 y.1) /\ W'.cell? ⟨g2, ap + j * 2 + 1, none⟩ = some (.int .i64 y.2)) := zlM (fun W' hF => by
      refine ⟨?_, ?_, ?_, ?_⟩
      ·rw [hF.cell (p := ⟨g, off + k * 2, none⟩) (zlT w _ C0.out) (fun e => e)]; exact C0.out
      ·rw [hF.cell (p := ⟨g, off + k * 2 + 1, none⟩) (zlT w _ C1.out) (fun e => e)]; exact C1.out
      ·rw [hF.cell (p := ⟨g2, ap + j * 2, none⟩) (zlT w _ D0) (fun e => e)]; exact D0
      ·rw [hF.cell (p := ⟨g2, ap + j * 2 + 1, none⟩) (zlT w _ D1) (fun e => e)]; exact D1)
     have HY := zlM hy; obtain ⟨a6, k6, rfl⟩ := zaa cL.out.1; have pn := bx.out.size; have jz : iZ.length <= 4096 * 4096 + 4096 := by
      have h1 := HL2.out; have h2 : k * 4096 <= 4096 * 4096 := zlZ _ (by omega); omega
     clear hy cw D0 D1 ak; go_wp2_with fail
     go_region_held3 (fun w' => w'.cell? ⟨g, off + k * 2, none⟩ = some (.int .u64 ref) /\ w'.cell? ⟨g, off + k * 2 + 1, none⟩ = some (.slice (some ⟨g2, ap, none⟩) m ci) /\ w'.cell? ⟨g2, ap + j * 2, none⟩ = some (.int .i64 y.1) /\ w'.cell? ⟨g2, ap + j * 2 + 1, none⟩ = some (.int .i64 y.2))
      ((first | exact HC.out _ F9.out | exact HC.out _ bx.out.drew | exact HC.out _ (bx.out.drew.alloc _) | exact HC.out _ (bx.out.alloc _).drew | exact HC.out _ ((bx.out.drew.alloc _).alloc _) | exact HC.out _ ((bx.out.alloc _).alloc _).drew | go_keep))
      ((first
        | (refine zas _ (by rfl) _ _ 48 48 (by rfl) w.heap.size 151 i0 _ 2 32 underlying48 aB ay ax aA rfl (by decide) (.slice a6 iZ.length k6) iZ.length (iZ.flatMap stc) (by rfl) ((cL.out.alloc (.cells (ivc y).toArray 281)).alloc (.cells (stc (⟨ref, [(y.1, y.2)]⟩, .slice (some ⟨wr.heap.size, 0, none⟩) 1 1)).toArray 151)).1 _ 1 (stc (⟨ref, [(y.1, y.2)]⟩, .slice (some ⟨wr.heap.size, 0, none⟩) 1 1)) (by rfl) (zaF underlying48 (zaL wr (.cells (ivc y).toArray 281) 151 (stc (⟨ref, [(y.1, y.2)]⟩, .slice (some ⟨wr.heap.size, 0, none⟩) 1 1)).toArray).drew rfl (by simp [stc, Value.oneCell'])) (by unfold maxLen; omega) (by omega) (by simp; omega) ?_; intro v' w2 ac ad aw; have F9 := zlM (((bx.out.alloc (.cells (ivc y).toArray 281)).alloc (.cells (stc (⟨ref, [(y.1, y.2)]⟩, .slice (some ⟨wr.heap.size, 0, none⟩) 1 1)).toArray 151)).drew.grown ad (fun g hg => .inr ((cL.out.1.lt g hg).1))))))
     all_goals
      have an := own_one (w := wr) (base := w.heap.size) (e := 281) (a := .int .i64 y.1) (b := .int .i64 y.2) pn; have aT : OwnS w.heap.size 151 281 w2 v' (iZ ++ [(⟨ref, [(y.1, y.2)]⟩, .slice (some ⟨wr.heap.size, 0, none⟩) 1 1)]) :=
       OwnS.push (p := (⟨ref, [(y.1, y.2)]⟩, .slice (some ⟨wr.heap.size, 0, none⟩) 1 1)) (cL.out.fr ((((zmR (fun _ => False) wr).alloc (.cells (ivc y).toArray 281)).alloc (.cells (stc (⟨ref, [(y.1, y.2)]⟩, .slice (some ⟨wr.heap.size, 0, none⟩) 1 1)).toArray 151)).drew) (fun _ _ _ e => e)) ((World.ownsRow.alloc an _).drew) ad ac (by decide)
      have cg : (iZ ++ [((⟨ref, [(y.1, y.2)]⟩ : Ston), Value.slice (some ⟨wr.heap.size, 0, none⟩) 1 1)]).map Prod.fst = (f0 ++ (ivs.take (j + 1)).map (fun p => (⟨ref, p.1, p.2⟩ : Stn))).map one := by
       rw [zmc, HM2.out, zmn, HY.out]; simp [one]
      have cE : (iZ ++ [((⟨ref, [(y.1, y.2)]⟩ : Ston), Value.slice (some ⟨wr.heap.size, 0, none⟩) 1 1)]).length <= k * 4096 + (j + 1) := by
       have := HL2.out; rw [zlN, zl3]; omega
      have NO := zlM aT; have NM := zlM cg; have NL := zlM cE; clear aT cg cE ac ad aw an HC; go_wp2; go_roundw
      case rel => exact ⟨j + 1, _, by omega, by go_num, NM, NL, NO, F9⟩
      case measure => simp [intOf]; omega
    ·obtain rfl : j = m := by omega
     go_wp2; go_roundw
     case rel =>
      refine ⟨k + 1, iZ, by omega, by go_num, zlM ?_, zlM ?_, cL, bx⟩
      ·have e1 : ivs.take j = ivs := zlV (by rw [HMM.out]; exact zlY _)
       have e2 : (lv.take (k + 1)).map Prod.fst = (lv.map Prod.fst).take (k + 1) := by simp [List.map_take]
       have e3 : (lv.take k).map Prod.fst = (lv.map Prod.fst).take k := by simp [List.map_take]
       have e4 := jX.out; rw [e3] at e4; rw [HM2.out, e1, e2, flat_take _ _ _ HX1.out, e4]; rfl
      ·have := HL2.out; omega
     case measure => simp [intOf]; omega
  ·go_wp2
   go_ret; obtain rfl : k = n := by omega
   refine ⟨_, lo, rfl, ?_, HO.out, HF.out⟩; rw [HM.out, <- HN.out, zmd]
theorem zjJ (P Q : Nat -> Prop) (u v : Value) (la lb : List (Ston × Value)) (w : World) (hu : SlS P w u la) (hv : SlS Q w v lb) (hm : la.map Prod.fst = lb.map Prod.fst) (hl : la.length <= 1099511627776) (aQ : ∀ p ∈ la, p.1.ivs.length <= 1099511627776) : Calls prog 102 #[u, v] w (zao w) := by
 have kR : lb.length = la.length := by have := zmC List.length hm; simpa using this.symm
 obtain ⟨⟨A, c, rfl, _, hc, hr⟩, fL⟩ := hu; obtain ⟨⟨B, d, rfl, _, hd, hs⟩, kf⟩ := hv; obtain ⟨n, hn⟩ := exE la.length; rw [kR] at hs hd ⊢; rw [hn] at hr hs hc hd hl ⊢; rw [hn] at kR; have HN := zlM hn; have oM := zlM kR; have HR := zlM hr; have HS := zlM hs; have nR := zlM fL; have HSI := zlM kf; have HM := zlM hm; have gr := zlM aQ
 clear hn hr hs fL kf hm aQ kR; go_enter func102, ntmps102; go_wp2; go_loopw [5] (fun i wr => ∃ k : Nat, k <= n /\ i = .int .i64 k /\ Hid (Fr (fun _ => False) w wr)) (fun i _ => n - (intOf i).toNat)
 case atStart => exact ⟨0, zlX _, rfl, zlM (zmR _ _)⟩
 case round =>
  obtain ⟨k, hk, rfl, HF⟩ := hrel; by_cases hlt : k < n
  ·obtain ⟨g, off, rfl, _, aa⟩ := HR.out (by omega)
   obtain ⟨g2, ap, rfl, _, ak⟩ := HS.out (by omega); obtain ⟨x, hx⟩ : ∃ x, la[k]? = some x := ⟨_, zlO (by rw [HN.out]; exact hlt)⟩; obtain ⟨y, hy⟩ : ∃ y, lb[k]? = some y := ⟨_, zlO (by rw [oM.out]; exact hlt)⟩; have hxy : x.1 = y.1 := by
    have h1 : (la.map Prod.fst)[k]? = some x.1 := by rw [zmm, hx]; rfl
    have h2 : (lb.map Prod.fst)[k]? = some y.1 := by rw [zmm, hy]; rfl
    rw [HM.out, h2] at h1; exact (zmB h1).symm
   have gC := nR.out x (zlU hx); have gk := HSI.out y (zlU hy); have aQ := gr.out x (zlU hx); obtain ⟨⟨ref, ivs⟩, iv⟩ := x; obtain ⟨sy, iv2⟩ := y; simp only [] at hxy gC gk aQ; subst hxy; obtain ⟨Ai, ci, rfl, _, pU, fL⟩ := gC; obtain ⟨Bi, di, rfl, _, hdi, kf⟩ := gk; simp only [] at hdi kf; obtain ⟨m, hm⟩ := exE ivs.length
   rw [hm] at pU fL hdi kf aQ; have aC : ∀ {l : List (Ston × Value)} {g off : Nat} {z : Ston × Value}, l[k]? = some z -> (∀ j u, (l.flatMap stc)[j]? = some u -> w.cell? ⟨g, off + j, none⟩ = some u) -> ∀ W', Fr (fun _ => False) w W' -> ∀ j, j < 2 -> ∀ u, (stc z)[j]? = some u -> W'.cell? ⟨g, off + (k * 2 + j), none⟩ = some u := fun {l g off z} hz aa W' hF j hj u hu => by
    have := aa (k * 2 + j) u (by rw [zbB stc (fun _ => rfl) l k z hz j hj]; exact hu); rw [hF.cell (p := ⟨g, off + (k * 2 + j), none⟩) (zlT w _ this) (fun e => e)]; exact this
   have HC : Hid (∀ W', Fr (fun _ => False) w W' -> (W'.cell? ⟨g, off + k * 2, none⟩ = some (.int .u64 ref) /\ W'.cell? ⟨g, off + k * 2 + 1, none⟩ = some (.slice Ai m ci)) /\ (W'.cell? ⟨g2, ap + k * 2, none⟩ = some (.int .u64 ref) /\ W'.cell? ⟨g2, ap + k * 2 + 1, none⟩ = some (.slice Bi m di))) := zlM (fun W' hF =>
    ⟨⟨aC hx aa W' hF 0 (by omega) _ rfl, aC hx aa W' hF 1 (by omega) _ (by rw [<- hm]; rfl)⟩, ⟨aC hy ak W' hF 0 (by omega) _ rfl, aC hy ak W' hF 1 (by omega) _ (by rw [<- hm]; rfl)⟩⟩)
   obtain ⟨⟨c0, c1⟩, ⟨d0, d1⟩⟩ := HC.out wr.drew HF.out.drew; have HMM := zlM hm; have HRI2 := zlM fL; have HSI2 := zlM kf; clear aC hx hy aa ak hm fL kf; go_wp2; go_region; go_wp2; clear c0 c1 d0 d1; have iX := zlM HF.out.drew; generalize wr.drew = W6 at iX ⊢; clear HF
   go_loopw [6] (fun i w' => ∃ j : Nat, j <= m /\ i = .int .i64 j /\ Hid (Fr (fun _ => False) w w')) (fun i _ => m - (intOf i).toNat)
   case atStart => exact ⟨0, zlX _, rfl, iX⟩
   case round =>
    obtain ⟨j, hj, rfl, bx⟩ := hrel; obtain ⟨⟨c0, c1⟩, ⟨d0, d1⟩⟩ := HC.out _ bx.out; by_cases hlt2 : j < m
    ·obtain ⟨g3, off3, rfl, _, gI⟩ := HRI2.out (by omega)
     obtain ⟨g4, oV, rfl, _, gH⟩ := HSI2.out (by omega); obtain ⟨y, hy⟩ : ∃ y, ivs[j]? = some y := ⟨_, zlO (by rw [HMM.out]; exact hlt2)⟩
     have aC : ∀ {g off : Nat}, (∀ j u, (ivs.flatMap ivc)[j]? = some u -> w.cell? ⟨g, off + j, none⟩ = some u) -> ∀ W', Fr (fun _ => False) w W' -> ∀ i, i < 2 -> ∀ u, (ivc y)[i]? = some u -> W'.cell? ⟨g, off + (j * 2 + i), none⟩ = some u := fun {g off} aa W' hF i hi u hu => by
      have := aa (j * 2 + i) u (by rw [zbB ivc (fun _ => rfl) ivs j y hy i hi]; exact hu); rw [hF.cell (p := ⟨g, off + (j * 2 + i), none⟩) (zlT w _ this) (fun e => e)]; exact this
     obtain ⟨⟨c0', c1'⟩, ⟨d0', d1'⟩⟩ := HC.out _ bx.out.drew; have e0 := aC gI _ bx.out.drew 0 (by omega) _ rfl; have e1 : wr.drew.cell? ⟨g3, off3 + j * 2 + 1, none⟩ = some (.int .i64 y.2) := aC gI _ bx.out.drew 1 (by omega) _ rfl; have f0 := aC gH _ bx.out.drew 0 (by omega) _ rfl
     have f1 : wr.drew.cell? ⟨g4, oV + j * 2 + 1, none⟩ = some (.int .i64 y.2) := aC gH _ bx.out.drew 1 (by omega) _ rfl; simp only [zmO] at e0 f0; have bH := zlM bx.out.drew; clear aC gI gH hy; go_wp2; go_region; go_wp2; go_roundw
     case rel => exact ⟨j + 1, by omega, by go_num, bH⟩
     case measure => simp [intOf]; omega
    ·obtain rfl : j = m := by omega
     go_wp2; go_roundw
     case rel => exact ⟨k + 1, by omega, by go_num, bx⟩
     case measure => simp [intOf]; omega
  ·obtain rfl : k = n := by omega
   go_wp2; go_ret; exact ⟨rfl, HF.out⟩
def zeM (L : Value -> World -> Prop) (p0 p1 p3 p4 p5 p6 : Value) (w : World) (r : Ending) (w' : World) : Prop :=
 ∃ v, r = .returned (.agg #[p0, p1, v, p3, p4, p5, p6]) /\ (∃ A m c, v = .slice A m c) /\ L v w' /\ Fr (fun _ => False) w w'
theorem zcT : (∀ (_ : True) (kind : Int) (hk : kind = 2 ∨ kind = 3 ∨ kind = 5) (p0 p1 p2 p3 p4 p5 p6 : Value) (L : Value -> World -> Prop) (w : World)
 (au : ∀ s ∈ [p0, p1, p2, p3, p4, p5, p6], ∃ A m c, s = .slice A m c)
 (hL : ∀ v W W', L v W -> Fr (fun k => ∃ cs, Blk W k 54 cs) W W' -> L v W')
 (hc : ∀ W, Fr (fun _ => False) w W -> Calls prog 105 #[p2] W (fun r w' => ∃ v, r = .returned v /\ (∃ A m c, v = .slice A m c) /\ L v w' /\ Fr (fun _ => False) W w')),
 Calls prog 33 #[.int .i64 kind, .agg #[p0, p1, p2, p3, p4, p5, p6]] w (zeM L p0 p1 p3 p4 p5 p6 w)) /\ (∀ (_ : True) (kind : Int) (hk : kind = 1 ∨ kind = 4 ∨ kind = 6 ∨ kind = 9 ∨ kind = 10) (p0 p1 p2 p3 p4 p5 p6 : Value) (L : Value -> World -> Prop) (w : World)
 (au : ∀ s ∈ [p0, p1, p2, p3, p4, p5, p6], ∃ A m c, s = .slice A m c)
 (hL : ∀ v W W', L v W -> Fr (fun k => ∃ cs, Blk W k 54 cs) W W' -> L v W')
 (hc : ∀ W, Fr (fun _ => False) w W -> Calls prog 105 #[p2] W (fun r w' => ∃ v, r = .returned v /\ (∃ A m c, v = .slice A m c) /\ L v w' /\ Fr (fun _ => False) W w')),
 Calls prog 33 #[.int .i64 kind, .agg #[p0, p1, p2, p3, p4, p5, p6]] w (zeM L p0 p1 p3 p4 p5 p6 w)) := by
 refine ⟨fun aj kind hk p0 p1 p2 p3 p4 p5 p6 L w au hL hc => ?_, fun cf kind hk p0 p1 p2 p3 p4 p5 p6 L w au hL hc => ?_⟩; all_goals
  obtain ⟨A0, m0, c0, rfl⟩ := au p0 (by simp); obtain ⟨A1, m1, c1, rfl⟩ := au p1 (by simp); obtain ⟨A2, m2, c2, rfl⟩ := au p2 (by simp); obtain ⟨A3, m3, c3, rfl⟩ := au p3 (by simp); obtain ⟨A4, m4, c4, rfl⟩ := au p4 (by simp); obtain ⟨A5, m5, c5, rfl⟩ := au p5 (by simp); obtain ⟨A6, m6, c6, rfl⟩ := au p6 (by simp); have HC := zlM hc; have HL := zlM hL; clear au hc hL
  first | (guard_hyp aj; rcases hk with rfl | rfl | rfl) | (rcases hk with rfl | rfl | rfl | rfl | rfl)
  all_goals
   go_enter func33, ntmps33; go_wp2_with (go_at_call 105; refine Hid.out ?_)
   have lr := (zmS w 54 #[.slice A0 m0 c0, .slice A1 m1 c1, .slice A2 m2 c2, .slice A3 m3 c3, .slice A4 m4 c4, .slice A5 m5 c5, .slice A6 m6 c6]).alloc (.cells zin 54); have av := zaL w (.cells #[.slice A0 m0 c0, .slice A1 m1 c1, .slice A2 m2 c2, .slice A3 m3 c3, .slice A4 m4 c4, .slice A5 m5 c5, .slice A6 m6 c6] 54) 54 zin
   have gn : Fr (fun _ => False) w ((w.alloc (.cells #[.slice A0 m0 c0, .slice A1 m1 c1, .slice A2 m2 c2, .slice A3 m3 c3, .slice A4 m4 c4, .slice A5 m5 c5, .slice A6 m6 c6] 54)).alloc (.cells zin 54)) := ((zmR _ w).alloc _).alloc _; unfold zin at lr av gn
   generalize World.alloc _ (Obj.cells #[.slice none 0 0, .slice none 0 0, .slice none 0 0, .slice none 0 0, .slice none 0 0, .slice none 0 0, .slice none 0 0] 54) = W at lr av gn ⊢; refine zlM ?_; refine (HC.out W gn).mono ?_; rintro r w1 ⟨v, rfl, ⟨Av, mv, cv, rfl⟩, qi, ag⟩; have fg := lr.fr ag (fun e => e); have jb := av.fr ag (fun e => e); have dI := gn.same ag
   have D0 := fg.set_ 2 (.slice Av mv cv); have ke : Blk (w1.setCell ⟨w.heap.size, 2, none⟩ (.slice Av mv cv)) w.heap.size 54 #[.slice A0 m0 c0, .slice A1 m1 c1, .slice Av mv cv, .slice A3 m3 c3, .slice A4 m4 c4, .slice A5 m5 c5, .slice A6 m6 c6] := by simpa using D0
   have D1 := jb.far (p := ⟨w.heap.size, 2, none⟩) (by show w.heap.size + 1 ≠ w.heap.size; omega) (.slice Av mv cv); have y2 := fg.cell 2; have z2 := fg.frozen 2; simp at y2; have FD := dI.setCell (p := ⟨w.heap.size, 2, none⟩) (.inr (zlY _)) (.slice Av mv cv)
   have LD := HL.out _ _ (w1.setCell ⟨w.heap.size, 2, none⟩ (.slice Av mv cv)) qi ((zmR _ w1).setCell (p := ⟨w.heap.size, 2, none⟩) (.inl ⟨_, fg⟩) _); have ir := zlM ke; have aI := zlM D1; have iX := zlM FD; have rj := zlM LD; obtain ⟨x0, x1, x2, x3, x4, x5, x6⟩ := zag ke; obtain ⟨u0, u1, u2, u3, u4, u5, u6⟩ := zag D1; have t0 := D1.frozen 0
   have t1 := D1.frozen 1; have t2 := D1.frozen 2; have t3 := D1.frozen 3; have t4 := D1.frozen 4; have t5 := D1.frozen 5; have t6 := D1.frozen 6; clear lr av gn ag fg jb dI D0 ke D1 FD LD qi; go_wp2_with fail
   have g7 := zfU (.slice A0 m0 c0) (.slice A1 m1 c1) (.slice Av mv cv) (.slice A3 m3 c3) (.slice A4 m4 c4) (.slice A5 m5 c5) (.slice A6 m6 c6) aI.out; have F7 := zei (.slice A0 m0 c0) (.slice A1 m1 c1) (.slice Av mv cv) (.slice A3 m3 c3) (.slice A4 m4 c4) (.slice A5 m5 c5) (.slice A6 m6 c6) iX.out (b := w.heap.size + 1) (.inr (by omega))
   have V7 := zei (.slice A0 m0 c0) (.slice A1 m1 c1) (.slice Av mv cv) (.slice A3 m3 c3) (.slice A4 m4 c4) (.slice A5 m5 c5) (.slice A6 m6 c6) (zmR (fun k => ∃ cs, Blk (w1.setCell ⟨w.heap.size, 2, none⟩ (.slice Av mv cv)) k 54 cs) (w1.setCell ⟨w.heap.size, 2, none⟩ (.slice Av mv cv))) (b := w.heap.size + 1) (.inl ⟨_, aI.out⟩); have L7 := HL.out _ _ _ rj.out V7
   generalize (World.setCell (World.setCell _ _ _) ⟨w.heap.size + 1, 6, none⟩ _) = w7 at g7 F7 L7 ⊢; obtain ⟨q0, q1, q2, q3, q4, q5, q6⟩ := zag g7; have oc := zlM F7; have rl := zlM L7; clear F7 L7 V7 g7 x0 x1 x2 x3 x4 x5 x6 u0 u1 u2 u3 u4 u5 u6 t0 t1 t2 t3 t4 t5 t6; simp [Exit.then, bodyPost, results, results33, go_sem, q0, q1, q2, q3, q4, q5, q6]
   exact ⟨_, rfl, ⟨_, _, _, rfl⟩, rl.out, oc.out⟩
theorem ze9 : type_of% (zcT.1 trivial) := zcT.1 trivial
theorem zcZ : type_of% (zcT.2 trivial) := zcT.2 trivial
theorem slices7 {A0 A1 A2 A3 A4 A5 A6 : Option Addr} {m0 m1 m2 m3 m4 m5 m6 c0 c1 c2 c3 c4 c5 c6 : Nat} : ∀ s ∈ [Value.slice A0 m0 c0, .slice A1 m1 c1, .slice A2 m2 c2, .slice A3 m3 c3, .slice A4 m4 c4, .slice A5 m5 c5, .slice A6 m6 c6], ∃ A m c, s = .slice A m c := by
 intro s hs; simp only [zmq, List.mem_nil_iff, or_false] at hs; rcases hs with rfl | rfl | rfl | rfl | rfl | rfl | rfl <;> exact ⟨_, _, _, rfl⟩
theorem zjl (kind : Int) (hk : kind = 7 ∨ kind = 8) (p0 p1 p2 p3 p4 p5 p6 : Value) (L L6 : Value -> World -> Prop) (w : World)
 (au : ∀ s ∈ [p0, p1, p2, p3, p4, p5, p6], ∃ A m c, s = .slice A m c)
 (hL : ∀ v W W', L v W -> Fr (fun k => ∃ cs, Blk W k 54 cs) W W' -> L v W')
 (hc : ∀ W, Fr (fun _ => False) w W -> Calls prog 105 #[p2] W (fun r w' => ∃ v, r = .returned v /\ (∃ A m c, v = .slice A m c) /\ L v w' /\ Fr (fun _ => False) W w'))
 (kl : ∀ v W W', L6 v W -> Fr (fun k => ∃ cs, Blk W k 54 cs) W W' -> L6 v W')
 (nE : ∀ W, Fr (fun _ => False) w W -> Calls prog 36 #[p6, .bool false] W (fun r w' => ∃ v, r = .returned v /\ (∃ A m c, v = .slice A m c) /\ L6 v w' /\ Fr (fun _ => False) W w')) :
 Calls prog 33 #[.int .i64 kind, .agg #[p0, p1, p2, p3, p4, p5, p6]] w (fun r w' => ∃ v v6, r = .returned (.agg #[p0, p1, v, p3, p4, p5, v6]) /\ (∃ A m c, v = .slice A m c) /\ (∃ A m c, v6 = .slice A m c) /\ L v w' /\ L6 v6 w' /\ Fr (fun _ => False) w w') := by
 obtain ⟨A0, m0, c0, rfl⟩ := au p0 (by simp); obtain ⟨A1, m1, c1, rfl⟩ := au p1 (by simp); obtain ⟨A2, m2, c2, rfl⟩ := au p2 (by simp); obtain ⟨A3, m3, c3, rfl⟩ := au p3 (by simp); obtain ⟨A4, m4, c4, rfl⟩ := au p4 (by simp); obtain ⟨A5, m5, c5, rfl⟩ := au p5 (by simp); obtain ⟨A6, m6, c6, rfl⟩ := au p6 (by simp); have HC := zlM hc; have HL := zlM hL; have jT := zlM kl
 have H36 := zlM nE; clear au hc hL kl nE; rcases hk with rfl | rfl; all_goals
  go_enter func33, ntmps33; go_wp2_with (go_at_call 105; refine Hid.out ?_)
  have lr := (zmS w 54 #[.slice A0 m0 c0, .slice A1 m1 c1, .slice A2 m2 c2, .slice A3 m3 c3, .slice A4 m4 c4, .slice A5 m5 c5, .slice A6 m6 c6]).alloc (.cells zin 54); have av := zaL w (.cells #[.slice A0 m0 c0, .slice A1 m1 c1, .slice A2 m2 c2, .slice A3 m3 c3, .slice A4 m4 c4, .slice A5 m5 c5, .slice A6 m6 c6] 54) 54 zin
  have gn : Fr (fun _ => False) w ((w.alloc (.cells #[.slice A0 m0 c0, .slice A1 m1 c1, .slice A2 m2 c2, .slice A3 m3 c3, .slice A4 m4 c4, .slice A5 m5 c5, .slice A6 m6 c6] 54)).alloc (.cells zin 54)) := ((zmR _ w).alloc _).alloc _; unfold zin at lr av gn
  generalize World.alloc _ (Obj.cells #[.slice none 0 0, .slice none 0 0, .slice none 0 0, .slice none 0 0, .slice none 0 0, .slice none 0 0, .slice none 0 0] 54) = W at lr av gn ⊢; refine zlM ?_; refine (HC.out W gn).mono ?_; rintro r w1 ⟨v, rfl, ⟨Av, mv, cv, rfl⟩, qi, ag⟩; have fg := lr.fr ag (fun e => e); have jb := av.fr ag (fun e => e); have dI := gn.same ag
  have D0 := fg.set_ 2 (.slice Av mv cv); have ke : Blk (w1.setCell ⟨w.heap.size, 2, none⟩ (.slice Av mv cv)) w.heap.size 54 #[.slice A0 m0 c0, .slice A1 m1 c1, .slice Av mv cv, .slice A3 m3 c3, .slice A4 m4 c4, .slice A5 m5 c5, .slice A6 m6 c6] := by simpa using D0
  have D1 := jb.far (p := ⟨w.heap.size, 2, none⟩) (by show w.heap.size + 1 ≠ w.heap.size; omega) (.slice Av mv cv); have y2 := fg.cell 2; have z2 := fg.frozen 2; simp at y2; have FD := dI.setCell (p := ⟨w.heap.size, 2, none⟩) (.inr (zlY _)) (.slice Av mv cv)
  have LD := HL.out _ _ (w1.setCell ⟨w.heap.size, 2, none⟩ (.slice Av mv cv)) qi ((zmR _ w1).setCell (p := ⟨w.heap.size, 2, none⟩) (.inl ⟨_, fg⟩) _); have ir := zlM ke; have aI := zlM D1; have iX := zlM FD; have rj := zlM LD; obtain ⟨x0, x1, x2, x3, x4, x5, x6⟩ := zag ke; clear lr av gn ag fg jb dI D0 ke D1 FD LD qi
  go_wp2_with (go_at_call 36; refine Hid.out ?_)
  clear x0 x1 x2 x3 x4 x5 x6 y2 z2; generalize World.setCell w1 ⟨w.heap.size, 2, none⟩ (.slice Av mv cv) = W2 at ir aI iX rj ⊢; refine zlM ?_; refine (H36.out W2 iX.out).mono ?_; rintro r w3 ⟨v6, rfl, ⟨Aw, mw, cw, rfl⟩, ql, bJ⟩; have fg := ir.out.fr bJ (fun e => e); have jb := aI.out.fr bJ (fun e => e); have iM := iX.out.same bJ
  have qh := HL.out _ _ _ rj.out (bJ.mono (S' := fun k => ∃ cs, Blk W2 k 54 cs) (fun _ _ e => e.elim)); have D0 := fg.set_ 6 (.slice Aw mw cw); have ke : Blk (w3.setCell ⟨w.heap.size, 6, none⟩ (.slice Aw mw cw)) w.heap.size 54 #[.slice A0 m0 c0, .slice A1 m1 c1, .slice Av mv cv, .slice A3 m3 c3, .slice A4 m4 c4, .slice A5 m5 c5, .slice Aw mw cw] := by simpa using D0
  have D1 := jb.far (p := ⟨w.heap.size, 6, none⟩) (by show w.heap.size + 1 ≠ w.heap.size; omega) (.slice Aw mw cw); have y6 := fg.cell 6; have z6 := fg.frozen 6; simp at y6; have VS : Fr (fun k => ∃ cs, Blk w3 k 54 cs) w3 (w3.setCell ⟨w.heap.size, 6, none⟩ (.slice Aw mw cw)) := (zmR _ w3).setCell (p := ⟨w.heap.size, 6, none⟩) (.inl ⟨_, fg⟩) _; have GD0 := zlM ke; have GD1 := zlM D1
  have GF := zlM (iM.setCell (p := ⟨w.heap.size, 6, none⟩) (.inr (zlY _)) (.slice Aw mw cw)); have GL := zlM (HL.out _ _ _ qh VS); have GL6 := zlM (jT.out _ _ _ ql VS); obtain ⟨x0, x1, x2, x3, x4, x5, x6⟩ := zag ke; obtain ⟨u0, u1, u2, u3, u4, u5, u6⟩ := zag D1; have t0 := D1.frozen 0; have t1 := D1.frozen 1; have t2 := D1.frozen 2; have t3 := D1.frozen 3
  have t4 := D1.frozen 4; have t5 := D1.frozen 5; have t6 := D1.frozen 6; clear bJ fg jb iM D0 ke D1 VS qh ql ir aI iX rj; go_wp2_with fail
  have g7 := zfU (.slice A0 m0 c0) (.slice A1 m1 c1) (.slice Av mv cv) (.slice A3 m3 c3) (.slice A4 m4 c4) (.slice A5 m5 c5) (.slice Aw mw cw) GD1.out; have F7 := zei (.slice A0 m0 c0) (.slice A1 m1 c1) (.slice Av mv cv) (.slice A3 m3 c3) (.slice A4 m4 c4) (.slice A5 m5 c5) (.slice Aw mw cw) GF.out (b := w.heap.size + 1) (.inr (by omega))
  have V7 := zei (.slice A0 m0 c0) (.slice A1 m1 c1) (.slice Av mv cv) (.slice A3 m3 c3) (.slice A4 m4 c4) (.slice A5 m5 c5) (.slice Aw mw cw) (zmR (fun k => ∃ cs, Blk (w3.setCell ⟨w.heap.size, 6, none⟩ (.slice Aw mw cw)) k 54 cs) (w3.setCell ⟨w.heap.size, 6, none⟩ (.slice Aw mw cw))) (b := w.heap.size + 1) (.inl ⟨_, GD1.out⟩); have L7 := HL.out _ _ _ GL.out V7
  have L76 := jT.out _ _ _ GL6.out V7; generalize (World.setCell (World.setCell _ _ _) ⟨w.heap.size + 1, 6, none⟩ _) = w7 at g7 F7 L7 L76 ⊢; obtain ⟨q0, q1, q2, q3, q4, q5, q6⟩ := zag g7; have oc := zlM F7; have rl := zlM L7; have HL76 := zlM L76; clear F7 L7 L76 V7 g7 x0 x1 x2 x3 x4 x5 x6 u0 u1 u2 u3 u4 u5 u6 t0 t1 t2 t3 t4 t5 t6
  simp [Exit.then, bodyPost, results, results33, go_sem, q0, q1, q2, q3, q4, q5, q6]; exact ⟨_, _, ⟨rfl, rfl⟩, ⟨_, _, _, rfl⟩, ⟨_, _, _, rfl⟩, rl.out, HL76.out, oc.out⟩
def wrD (k : Nat) (D : Dat) : Dat := { D with sto := (zbY D.sto).map one, his := if k = 7 ∨ k = 8 then D.his.filter (fun s => !zaP s) else D.his }
theorem zds (c : Bool) (l : List (Rhs × Hsl)) : (l.filter (za0 c)).map Prod.fst = (l.map Prod.fst).filter (fun s => zaP s == c) := by
 rw [List.filter_map]; rfl
theorem zhS : (fun s => zaP s == false) = (fun s => !zaP s) := by funext s; cases zaP s <;> rfl
theorem zbs (k : Nat) (hk : k = 1 ∨ k = 2 ∨ k = 3 ∨ k = 4 ∨ k = 5 ∨ k = 6 ∨ k = 7 ∨ k = 8 ∨ k = 9 ∨ k = 10) (q : Prt) (s0 s1 s2 s3 s4 s5 s6 : Value) (w : World) (hq : q.At Yes w s0 s1 s2 s3 s4 s5 s6) (hl : q.sto.length <= 4096) (aQ : ∀ p ∈ q.sto, p.1.ivs.length <= 4096) (hh : q.his.length <= 1048576) :
 Calls prog 33 #[.int .i64 k, .agg #[s0, s1, s2, s3, s4, s5, s6]] w (fun r w' => ∃ ps, r = .returned (.agg ps) /\ RP (wrD k q.dat) ps w' /\ Fr (fun _ => False) w w') := by
 have au : ∀ s ∈ [s0, s1, s2, s3, s4, s5, s6], ∃ A m c, s = .slice A m c := by
  obtain ⟨A0, c0, rfl⟩ := hq.ser.1.shape; obtain ⟨A1, c1, rfl⟩ := hq.smp.shape; obtain ⟨A2, c2, rfl⟩ := hq.sto.1.shape; obtain ⟨A3, c3, rfl⟩ := hq.exm.1.shape; obtain ⟨A4, c4, rfl⟩ := hq.mta.shape; obtain ⟨A5, c5, rfl⟩ := hq.mrk.shape; obtain ⟨A6, c6, rfl⟩ := hq.his.1.shape; exact slices7
 have hL : ∀ v W W', (∃ lo, lo.map Prod.fst = (zbY (q.sto.map Prod.fst)).map one /\ OwnS w.heap.size 151 281 W v lo) -> Fr (fun k => ∃ cs, Blk W k 54 cs) W W' -> (∃ lo, lo.map Prod.fst = (zbY (q.sto.map Prod.fst)).map one /\ OwnS w.heap.size 151 281 W' v lo) := by
  rintro v W W' ⟨lo, hm, ho⟩ hf; refine ⟨lo, hm, zai ho.1 hf ?_, fun p hp => zai (ho.2 p hp) hf ?_⟩
  ·rintro g hg ⟨cs, hb⟩; exact zak ho.1 hb (by decide) hg
  ·rintro g hg ⟨cs, hb⟩; exact zak (ho.2 p hp) hb (by decide) hg
 have ft : ∀ W, Fr (fun _ => False) w W -> Calls prog 105 #[s2] W (fun r w' => ∃ v, r = .returned v /\ (∃ A m c, v = .slice A m c) /\ (∃ lo, lo.map Prod.fst = (zbY (q.sto.map Prod.fst)).map one /\ OwnS w.heap.size 151 281 w' v lo) /\ Fr (fun _ => False) W w') := by
  intro W hF; refine (flat_any Yes _ q.sto W (hq.sto.fr hF (fun _ _ e => e)) hl aQ).mono ?_; rintro r w' ⟨v, lo, rfl, hm, ho, hf⟩; obtain ⟨a, k, rfl⟩ := zaa ho.1; exact ⟨_, rfl, ⟨_, _, _, rfl⟩, ⟨lo, hm, OwnS.mono ho hF.size⟩, hf⟩
 have fin : ∀ {k : Nat} (hk7 : ¬ (k = 7 ∨ k = 8)) (r : Ending) (w' : World), zeM (fun v W => ∃ lo, lo.map Prod.fst = (zbY (q.sto.map Prod.fst)).map one /\ OwnS w.heap.size 151 281 W v lo) s0 s1 s3 s4 s5 s6 w r w' -> ∃ ps, r = .returned (.agg ps) /\ RP (wrD k q.dat) ps w' /\ Fr (fun _ => False) w w' := by
  rintro k hk7 r w' ⟨v, rfl, _, ⟨lo, hm, ho⟩, hf⟩; have dH := hq.fr hf (fun _ _ e => e); refine ⟨_, rfl, ⟨⟨q.ser, q.smp, lo, q.exm, q.mta, q.mrk, q.his⟩, _, _, _, _, _, _, _, rfl, ?_, dH.ser, dH.smp, ho.sl.yes, dH.exm, dH.mta, dH.mrk, dH.his⟩, hf⟩; simp only [Prt.dat, wrD, hm, zmI hk7]
 by_cases h7 : k = 7 ∨ k = 8
 ·have nE : ∀ W, Fr (fun _ => False) w W -> Calls prog 36 #[s6, .bool false] W (fun r w' => ∃ v, r = .returned v /\ (∃ A m c, v = .slice A m c) /\ (w'.ownsRow w.heap.size 194 15 v (q.his.filter (za0 false)).length ((q.his.filter (za0 false)).flatMap hsc)) /\ Fr (fun _ => False) W w') := by
   intro W hF; refine (zdD false Yes _ q.his W (hq.his.fr hF (fun _ _ e => e)) hh).mono ?_; rintro r w' ⟨v, rfl, ho, hf⟩; obtain ⟨a, k, rfl⟩ := zaa ho; exact ⟨_, rfl, ⟨_, _, _, rfl⟩, zah ho hF.size, hf⟩
  refine (zjl k (by rcases h7 with rfl | rfl <;> decide) s0 s1 s2 s3 s4 s5 s6 _ (fun v W => W.ownsRow w.heap.size 194 15 v (q.his.filter (za0 false)).length ((q.his.filter (za0 false)).flatMap hsc)) w au hL ft (fun v W W' ho hf => zai ho hf (fun g hg => by rintro ⟨cs, hb⟩; exact zak ho hb (by decide) hg)) nE).mono ?_; rintro r w' ⟨v, v6, rfl, _, _, ⟨lo, hm, ho⟩, ho6, hf⟩
  have dH := hq.fr hf (fun _ _ e => e); refine ⟨_, rfl, ⟨⟨q.ser, q.smp, lo, q.exm, q.mta, q.mrk, q.his.filter (za0 false)⟩, _, _, _, _, _, _, _, rfl, ?_, dH.ser, dH.smp, ho.sl.yes, dH.exm, dH.mta, dH.mrk, (zmU ho6).yes, fun p hp => dH.his.2 p (zmr.1 hp).1⟩, hf⟩; simp only [Prt.dat, wrD, hm, if_pos h7, zds, zhS]
 ·rcases hk with rfl | rfl | rfl | rfl | rfl | rfl | rfl | rfl | rfl | rfl
  ·exact (zcZ 1 (by decide) s0 s1 s2 s3 s4 s5 s6 _ w au hL ft).mono (fin h7)
  ·exact (ze9 2 (by decide) s0 s1 s2 s3 s4 s5 s6 _ w au hL ft).mono (fin h7)
  ·exact (ze9 3 (by decide) s0 s1 s2 s3 s4 s5 s6 _ w au hL ft).mono (fin h7)
  ·exact (zcZ 4 (by decide) s0 s1 s2 s3 s4 s5 s6 _ w au hL ft).mono (fin h7)
  ·exact (ze9 5 (by decide) s0 s1 s2 s3 s4 s5 s6 _ w au hL ft).mono (fin h7)
  ·exact (zcZ 6 (by decide) s0 s1 s2 s3 s4 s5 s6 _ w au hL ft).mono (fin h7)
  ·exact absurd (.inl rfl) h7
  ·exact absurd (.inr rfl) h7
  ·exact (zcZ 9 (by decide) s0 s1 s2 s3 s4 s5 s6 _ w au hL ft).mono (fin h7)
  ·exact (zcZ 10 (by decide) s0 s1 s2 s3 s4 s5 s6 _ w au hL ft).mono (fin h7)
theorem zjH (P Q : Nat -> Prop) (u v : Value) (l : List Mta) (w : World) (hu : Sl P w u 4 l.length (l.flatMap Mta.c)) (hv : Sl Q w v 4 l.length (l.flatMap Mta.c)) (hl : l.length <= 1099511627776) : Calls prog 103 #[u, v] w (zao w) := by
 obtain ⟨A, c, rfl, _, hc, hr⟩ := hu; obtain ⟨B, d, rfl, _, hd, hs⟩ := hv; obtain ⟨n, hn⟩ := exE l.length; rw [hn] at hr hs hc hd hl ⊢; have HN := zlM hn; have HR := zlM hr; have HS := zlM hs; clear hn hr hs; go_enter func103, ntmps103; go_wp2; go_loopw [5] (fun i wr => ∃ k : Nat, k <= n /\ i = .int .i64 k /\ Fr (fun _ => False) w wr) (fun i _ => n - (intOf i).toNat)
 case atStart => exact ⟨0, zlX _, rfl, zmR _ _⟩
 case round =>
  obtain ⟨k, hk, rfl, hf⟩ := hrel; by_cases hlt : k < n
  ·obtain ⟨g, off, rfl, _, aa⟩ := HR.out (by omega)
   obtain ⟨g2, ap, rfl, _, ak⟩ := HS.out (by omega); obtain ⟨x, hx⟩ : ∃ x, l[k]? = some x := ⟨_, zlO (by rw [HN.out]; exact hlt)⟩; have aC : ∀ {g off : Nat}, (∀ j u, (l.flatMap Mta.c)[j]? = some u -> w.cell? ⟨g, off + j, none⟩ = some u) -> ∀ j, j < 4 -> ∀ u, (Mta.c x)[j]? = some u -> wr.drew.cell? ⟨g, off + (k * 4 + j), none⟩ = some u := fun {g off} aa j hj u hu => by
    have := aa (k * 4 + j) u (by rw [zdB Mta.c (fun _ => rfl) l k x hx j hj]; exact hu); rw [hf.drew.cell (p := ⟨g, off + (k * 4 + j), none⟩) (zlT w _ this) (fun e => e)]; exact this
   have c0 : wr.drew.cell? ⟨g, off + k * 4, none⟩ = some (.int .u64 x.ref) := aC aa 0 (by omega) _ rfl; have c1 : wr.drew.cell? ⟨g, off + k * 4 + 1, none⟩ = some (.int .u8 x.ty.toNat) := aC aa 1 (by omega) _ rfl; have c2 : wr.drew.cell? ⟨g, off + k * 4 + 2, none⟩ = some (.string x.unit) := aC aa 2 (by omega) _ rfl
   have c3 : wr.drew.cell? ⟨g, off + k * 4 + 3, none⟩ = some (.string x.help) := aC aa 3 (by omega) _ rfl; have d0 : wr.drew.cell? ⟨g2, ap + k * 4, none⟩ = some (.int .u64 x.ref) := aC ak 0 (by omega) _ rfl; have d1 : wr.drew.cell? ⟨g2, ap + k * 4 + 1, none⟩ = some (.int .u8 x.ty.toNat) := aC ak 1 (by omega) _ rfl
   have d2 : wr.drew.cell? ⟨g2, ap + k * 4 + 2, none⟩ = some (.string x.unit) := aC ak 2 (by omega) _ rfl; have d3 : wr.drew.cell? ⟨g2, ap + k * 4 + 3, none⟩ = some (.string x.help) := aC ak 3 (by omega) _ rfl; have ar := zlM hf.drew; clear aa ak aC hf hx; go_wp2; go_region; go_wp2; go_roundw
   case rel => exact ⟨k + 1, by omega, by go_num, ar.out⟩
   case measure => simp [intOf]; omega
  ·obtain rfl : k = n := by omega
   go_wp2; go_ret; exact ⟨rfl, hf⟩
theorem zga (P Q : Nat -> Prop) (u v : Value) (l : List (Int × Nat)) (w : World) (hu : Sl P w u 2 l.length (l.flatMap spc)) (hv : Sl Q w v 2 l.length (l.flatMap spc)) (hl : l.length <= 1099511627776) : Calls prog 198 #[u, v] w (zao w) := by
 obtain ⟨A, c, rfl, _, hc, hr⟩ := hu; obtain ⟨B, d, rfl, _, hd, hs⟩ := hv; obtain ⟨n, hn⟩ := exE l.length; rw [hn] at hr hs hc hd hl ⊢; have HN := zlM hn; have HR := zlM hr; have HS := zlM hs; clear hn hr hs; go_enter func198, ntmps198; go_wp2; go_loopw [5] (fun i wr => ∃ k : Nat, k <= n /\ i = .int .i64 k /\ Fr (fun _ => False) w wr) (fun i _ => n - (intOf i).toNat)
 case atStart => exact ⟨0, zlX _, rfl, zmR _ _⟩
 case round =>
  obtain ⟨k, hk, rfl, hf⟩ := hrel; by_cases hlt : k < n
  ·obtain ⟨g, off, rfl, _, aa⟩ := HR.out (by omega)
   obtain ⟨g2, ap, rfl, _, ak⟩ := HS.out (by omega); obtain ⟨x, hx⟩ : ∃ x, l[k]? = some x := ⟨_, zlO (by rw [HN.out]; exact hlt)⟩; have aC : ∀ {g off : Nat}, (∀ j u, (l.flatMap spc)[j]? = some u -> w.cell? ⟨g, off + j, none⟩ = some u) -> ∀ j, j < 2 -> ∀ u, (spc x)[j]? = some u -> wr.drew.cell? ⟨g, off + (k * 2 + j), none⟩ = some u := fun {g off} aa j hj u hu => by
    have := aa (k * 2 + j) u (by rw [zbB spc (fun _ => rfl) l k x hx j hj]; exact hu); rw [hf.drew.cell (p := ⟨g, off + (k * 2 + j), none⟩) (zlT w _ this) (fun e => e)]; exact this
   have c0 : wr.drew.cell? ⟨g, off + k * 2, none⟩ = some (.int .i32 x.1) := aC aa 0 (by omega) _ rfl; have c1 : wr.drew.cell? ⟨g, off + k * 2 + 1, none⟩ = some (.int .u32 x.2) := aC aa 1 (by omega) _ rfl; have d0 : wr.drew.cell? ⟨g2, ap + k * 2, none⟩ = some (.int .i32 x.1) := aC ak 0 (by omega) _ rfl
   have d1 : wr.drew.cell? ⟨g2, ap + k * 2 + 1, none⟩ = some (.int .u32 x.2) := aC ak 1 (by omega) _ rfl; have ar := zlM hf.drew; clear aa ak aC hf hx; go_wp2; go_region; go_wp2; go_roundw
   case rel => exact ⟨k + 1, by omega, by go_num, ar.out⟩
   case measure => simp [intOf]; omega
  ·obtain rfl : k = n := by omega
   go_wp2; go_ret; exact ⟨rfl, hf⟩
theorem zf9 (P Q : Nat -> Prop) (u v : Value) (l : List Int) (w : World) (hu : Sl P w u 1 l.length (l.flatMap i1)) (hv : Sl Q w v 1 l.length (l.flatMap i1)) (hl : l.length <= 1099511627776) : Calls prog 199 #[u, v] w (zao w) := by
 obtain ⟨A, c, rfl, _, hc, hr⟩ := hu; obtain ⟨B, d, rfl, _, hd, hs⟩ := hv; obtain ⟨n, hn⟩ := exE l.length; rw [hn] at hr hs hc hd hl ⊢; have HN := zlM hn; have HR := zlM hr; have HS := zlM hs; clear hn hr hs; go_enter func199, ntmps199; go_wp2; go_loopw [5] (fun i wr => ∃ k : Nat, k <= n /\ i = .int .i64 k /\ Fr (fun _ => False) w wr) (fun i _ => n - (intOf i).toNat)
 case atStart => exact ⟨0, zlX _, rfl, zmR _ _⟩
 case round =>
  obtain ⟨k, hk, rfl, hf⟩ := hrel; by_cases hlt : k < n
  ·obtain ⟨g, off, rfl, _, aa⟩ := HR.out (by omega)
   obtain ⟨g2, ap, rfl, _, ak⟩ := HS.out (by omega); obtain ⟨x, hx⟩ : ∃ x, l[k]? = some x := ⟨_, zlO (by rw [HN.out]; exact hlt)⟩; have aC : ∀ {g off : Nat}, (∀ j u, (l.flatMap i1)[j]? = some u -> w.cell? ⟨g, off + j, none⟩ = some u) -> ∀ j, j < 1 -> ∀ u, (i1 x)[j]? = some u -> wr.drew.cell? ⟨g, off + (k * 1 + j), none⟩ = some u := fun {g off} aa j hj u hu => by
    have := aa (k * 1 + j) u (by rw [zgA 1 i1 (fun _ => rfl) l k x hx j hj]; exact hu); rw [hf.drew.cell (p := ⟨g, off + (k * 1 + j), none⟩) (zlT w _ this) (fun e => e)]; exact this
   have c0 : wr.drew.cell? ⟨g, off + k, none⟩ = some (.int .i64 x) := by have := aC aa 0 (by omega) _ rfl; simpa using this
   have d0 : wr.drew.cell? ⟨g2, ap + k, none⟩ = some (.int .i64 x) := by have := aC ak 0 (by omega) _ rfl; simpa using this
   have ar := zlM hf.drew; clear aa ak aC hf hx; go_wp2; go_region; go_wp2; go_roundw
   case rel => exact ⟨k + 1, by omega, by go_num, ar.out⟩
   case measure => simp [intOf]; omega
  ·obtain rfl : k = n := by omega
   go_wp2; go_ret; exact ⟨rfl, hf⟩
theorem zeG (P Q : Nat -> Prop) (u v : Value) (l : List Nat) (w : World) (hu : Sl P w u 1 l.length (l.flatMap u1)) (hv : Sl Q w v 1 l.length (l.flatMap u1)) (hl : l.length <= 1099511627776) : Calls prog 200 #[u, v] w (zao w) := by
 obtain ⟨A, c, rfl, _, hc, hr⟩ := hu; obtain ⟨B, d, rfl, _, hd, hs⟩ := hv; obtain ⟨n, hn⟩ := exE l.length; rw [hn] at hr hs hc hd hl ⊢; have HN := zlM hn; have HR := zlM hr; have HS := zlM hs; clear hn hr hs; go_enter func200, ntmps200; go_wp2; go_loopw [5] (fun i wr => ∃ k : Nat, k <= n /\ i = .int .i64 k /\ Fr (fun _ => False) w wr) (fun i _ => n - (intOf i).toNat)
 case atStart => exact ⟨0, zlX _, rfl, zmR _ _⟩
 case round =>
  obtain ⟨k, hk, rfl, hf⟩ := hrel; by_cases hlt : k < n
  ·obtain ⟨g, off, rfl, _, aa⟩ := HR.out (by omega)
   obtain ⟨g2, ap, rfl, _, ak⟩ := HS.out (by omega); obtain ⟨x, hx⟩ : ∃ x, l[k]? = some x := ⟨_, zlO (by rw [HN.out]; exact hlt)⟩; have aC : ∀ {g off : Nat}, (∀ j u, (l.flatMap u1)[j]? = some u -> w.cell? ⟨g, off + j, none⟩ = some u) -> ∀ j, j < 1 -> ∀ u, (u1 x)[j]? = some u -> wr.drew.cell? ⟨g, off + (k * 1 + j), none⟩ = some u := fun {g off} aa j hj u hu => by
    have := aa (k * 1 + j) u (by rw [zgA 1 u1 (fun _ => rfl) l k x hx j hj]; exact hu); rw [hf.drew.cell (p := ⟨g, off + (k * 1 + j), none⟩) (zlT w _ this) (fun e => e)]; exact this
   have c0 : wr.drew.cell? ⟨g, off + k, none⟩ = some (.int .u64 x) := by have := aC aa 0 (by omega) _ rfl; simpa using this
   have d0 : wr.drew.cell? ⟨g2, ap + k, none⟩ = some (.int .u64 x) := by have := aC ak 0 (by omega) _ rfl; simpa using this
   have ar := zlM hf.drew; clear aa ak aC hf hx; go_wp2; go_region; go_wp2; go_roundw
   case rel => exact ⟨k + 1, by omega, by go_num, ar.out⟩
   case measure => simp [intOf]; omega
  ·obtain rfl : k = n := by omega
   go_wp2; go_ret; exact ⟨rfl, hf⟩
theorem zjC (hint : UInt8) (schema : Int) (thr sum zc cnt : Nat) (A1 A2 A3 A4 A5 A6 A7 B1 B2 B3 B4 B5 B6 B7 : Option Addr) (n1 n2 n3 n4 n5 n6 n7 c1 c2 c3 c4 c5 c6 c7 d1 d2 d3 d4 d5 d6 d7 : Nat) (w : World)
 (h1 : ∀ W, Fr (fun _ => False) w W -> Calls prog 198 #[.slice A1 n1 c1, .slice B1 n1 d1] W (zao W))
 (h2 : ∀ W, Fr (fun _ => False) w W -> Calls prog 198 #[.slice A2 n2 c2, .slice B2 n2 d2] W (zao W))
 (h3 : ∀ W, Fr (fun _ => False) w W -> Calls prog 199 #[.slice A3 n3 c3, .slice B3 n3 d3] W (zao W))
 (h4 : ∀ W, Fr (fun _ => False) w W -> Calls prog 199 #[.slice A4 n4 c4, .slice B4 n4 d4] W (zao W))
 (h5 : ∀ W, Fr (fun _ => False) w W -> Calls prog 200 #[.slice A5 n5 c5, .slice B5 n5 d5] W (zao W))
 (h6 : ∀ W, Fr (fun _ => False) w W -> Calls prog 200 #[.slice A6 n6 c6, .slice B6 n6 d6] W (zao W))
 (h7 : ∀ W, Fr (fun _ => False) w W -> Calls prog 200 #[.slice A7 n7 c7, .slice B7 n7 d7] W (zao W)) :
 Calls prog 111 #[.agg #[.int .u8 hint.toNat, .int .i32 schema, .int .u64 thr, .int .u64 sum, .int .u64 zc, .int .u64 cnt, .slice A1 n1 c1, .slice A2 n2 c2, .slice A3 n3 c3, .slice A4 n4 c4, .slice A5 n5 c5, .slice A6 n6 c6, .slice A7 n7 c7], .agg #[.int .u8 hint.toNat, .int .i32 schema, .int .u64 thr, .int .u64 sum, .int .u64 zc, .int .u64 cnt, .slice B1 n1 d1, .slice B2 n2 d2, .slice B3 n3 d3, .slice B4 n4 d4, .slice B5 n5 d5, .slice B6 n6 d6, .slice B7 n7 d7]] w (zao w) := by
 have H1 := zlM h1; have H2 := zlM h2; have H3 := zlM h3; have H4 := zlM h4; have H5 := zlM h5; have H6 := zlM h6; have H7 := zlM h7; clear h1 h2 h3 h4 h5 h6 h7; go_enter func111, ntmps111
 have P0 := zlM ((zmS w 192 #[.int .u8 hint.toNat, .int .i32 schema, .int .u64 thr, .int .u64 sum, .int .u64 zc, .int .u64 cnt, .slice A1 n1 c1, .slice A2 n2 c2, .slice A3 n3 c3, .slice A4 n4 c4, .slice A5 n5 c5, .slice A6 n6 c6, .slice A7 n7 c7]).alloc (.cells #[.int .u8 hint.toNat, .int .i32 schema, .int .u64 thr, .int .u64 sum, .int .u64 zc, .int .u64 cnt, .slice B1 n1 d1, .slice B2 n2 d2, .slice B3 n3 d3, .slice B4 n4 d4, .slice B5 n5 d5, .slice B6 n6 d6, .slice B7 n7 d7] 192))
 have Q0 := zlM (zaL w (.cells #[.int .u8 hint.toNat, .int .i32 schema, .int .u64 thr, .int .u64 sum, .int .u64 zc, .int .u64 cnt, .slice A1 n1 c1, .slice A2 n2 c2, .slice A3 n3 c3, .slice A4 n4 c4, .slice A5 n5 c5, .slice A6 n6 c6, .slice A7 n7 c7] 192) 192 #[.int .u8 hint.toNat, .int .i32 schema, .int .u64 thr, .int .u64 sum, .int .u64 zc, .int .u64 cnt, .slice B1 n1 d1, .slice B2 n2 d2, .slice B3 n3 d3, .slice B4 n4 d4, .slice B5 n5 d5, .slice B6 n6 d6, .slice B7 n7 d7])
 have F0 := zlM (((zmR (fun _ => False) w).alloc (.cells #[.int .u8 hint.toNat, .int .i32 schema, .int .u64 thr, .int .u64 sum, .int .u64 zc, .int .u64 cnt, .slice A1 n1 c1, .slice A2 n2 c2, .slice A3 n3 c3, .slice A4 n4 c4, .slice A5 n5 c5, .slice A6 n6 c6, .slice A7 n7 c7] 192)).alloc (.cells #[.int .u8 hint.toNat, .int .i32 schema, .int .u64 thr, .int .u64 sum, .int .u64 zc, .int .u64 cnt, .slice B1 n1 d1, .slice B2 n2 d2, .slice B3 n3 d3, .slice B4 n4 d4, .slice B5 n5 d5, .slice B6 n6 d6, .slice B7 n7 d7] 192))
 go_wp2_with (go_at_call 198; refine (H1.out _ F0.out).mono ?_; rintro r W1 ⟨rfl, hf⟩; refine Hid.out ?_)
 have F1 := zlM (F0.out.same hf); have hP := P0.out.fr hf (fun e => e); have hQ := Q0.out.fr hf (fun e => e); have P1 := zlM hP; have Q1 := zlM hQ; have u1 := hP.cell 7; have v1 := hQ.cell 7; simp only [zl7, zl5, zl6] at u1 v1; clear hf hP hQ; refine zlM ?_
 go_wp2_with (go_at_call 198; refine (H2.out _ F1.out).mono ?_; rintro r W2 ⟨rfl, hf⟩; refine Hid.out ?_)
 have F2 := zlM (F1.out.same hf); have hP := P1.out.fr hf (fun e => e); have hQ := Q1.out.fr hf (fun e => e); have P2 := zlM hP; have Q2 := zlM hQ; have u2 := hP.cell 8; have v2 := hQ.cell 8; simp only [zl7, zl5, zl6] at u2 v2; clear hf hP hQ u1 v1; refine zlM ?_
 go_wp2_with (go_at_call 199; refine (H3.out _ F2.out).mono ?_; rintro r W3 ⟨rfl, hf⟩; refine Hid.out ?_)
 have F3 := zlM (F2.out.same hf); have hP := P2.out.fr hf (fun e => e); have hQ := Q2.out.fr hf (fun e => e); have P3 := zlM hP; have Q3 := zlM hQ; have u3 := hP.cell 9; have v3 := hQ.cell 9; simp only [zl7, zl5, zl6] at u3 v3; clear hf hP hQ u2 v2; refine zlM ?_
 go_wp2_with (go_at_call 199; refine (H4.out _ F3.out).mono ?_; rintro r W4 ⟨rfl, hf⟩; refine Hid.out ?_)
 have F4 := zlM (F3.out.same hf); have hP := P3.out.fr hf (fun e => e); have hQ := Q3.out.fr hf (fun e => e); have P4 := zlM hP; have Q4 := zlM hQ; have u4 := hP.cell 10; have v4 := hQ.cell 10; simp only [zl7, zl5, zl6] at u4 v4; clear hf hP hQ u3 v3; refine zlM ?_
 go_wp2_with (go_at_call 200; refine (H5.out _ F4.out).mono ?_; rintro r W5 ⟨rfl, hf⟩; refine Hid.out ?_)
 have F5 := zlM (F4.out.same hf); have hP := P4.out.fr hf (fun e => e); have hQ := Q4.out.fr hf (fun e => e); have P5 := zlM hP; have Q5 := zlM hQ; have u5 := hP.cell 11; have v5 := hQ.cell 11; simp only [zl7, zl5, zl6] at u5 v5; clear hf hP hQ u4 v4; refine zlM ?_
 go_wp2_with (go_at_call 200; refine (H6.out _ F5.out).mono ?_; rintro r W6 ⟨rfl, hf⟩; refine Hid.out ?_)
 have F6 := zlM (F5.out.same hf); have hP := P5.out.fr hf (fun e => e); have hQ := Q5.out.fr hf (fun e => e); have P6 := zlM hP; have Q6 := zlM hQ; have u6 := hP.cell 12; have v6 := hQ.cell 12; simp only [zl7, zl5, zl6] at u6 v6; clear hf hP hQ u5 v5; refine zlM ?_
 go_wp2_with (go_at_call 200; refine (H7.out _ F6.out).mono ?_; rintro r W7 ⟨rfl, hf⟩; refine Hid.out ?_)
 have F7 := zlM (F6.out.same hf); clear hf; refine zlM ?_; go_wp2; go_ret; exact ⟨rfl, F7.out⟩
theorem zjD (P Q : Nat -> Prop) (h : Hst) (s t : Hsl) (w : World) (hs : SlHs P w h s) (ht : SlHs Q w h t) (hf : h.few 1099511627776) :
 Calls prog 111 #[.agg (hic h s).toArray, .agg (hic h t).toArray] w (zao w) := by
 obtain ⟨f1, f2, f3, f4, f5, f6, f7⟩ := hf; obtain ⟨hint, schema, thr, sum, zc, cnt, pos, neg, ups, downs, fups, fdowns, cus⟩ := h; obtain ⟨s1, s2, s3, s4, s5, s6, s7⟩ := s; obtain ⟨t1, t2, t3, t4, t5, t6, t7⟩ := t; obtain ⟨y1, y2, y3, y4, y5, y6, y7⟩ := hs; obtain ⟨z1, z2, z3, z4, z5, z6, z7⟩ := ht; simp only [] at f1 f2 f3 f4 f5 f6 f7 y1 y2 y3 y4 y5 y6 y7 z1 z2 z3 z4 z5 z6 z7
 have C1 := fun (W : World) (hF : Fr (fun _ => False) w W) => zga P Q s1 t1 pos W (y1.fr hF (fun _ _ e => e)) (z1.fr hF (fun _ _ e => e)) f1; have C2 := fun (W : World) (hF : Fr (fun _ => False) w W) => zga P Q s2 t2 neg W (y2.fr hF (fun _ _ e => e)) (z2.fr hF (fun _ _ e => e)) f2
 have C3 := fun (W : World) (hF : Fr (fun _ => False) w W) => zf9 P Q s3 t3 ups W (y3.fr hF (fun _ _ e => e)) (z3.fr hF (fun _ _ e => e)) f3; have C4 := fun (W : World) (hF : Fr (fun _ => False) w W) => zf9 P Q s4 t4 downs W (y4.fr hF (fun _ _ e => e)) (z4.fr hF (fun _ _ e => e)) f4
 have C5 := fun (W : World) (hF : Fr (fun _ => False) w W) => zeG P Q s5 t5 fups W (y5.fr hF (fun _ _ e => e)) (z5.fr hF (fun _ _ e => e)) f5; have C6 := fun (W : World) (hF : Fr (fun _ => False) w W) => zeG P Q s6 t6 fdowns W (y6.fr hF (fun _ _ e => e)) (z6.fr hF (fun _ _ e => e)) f6
 have C7 := fun (W : World) (hF : Fr (fun _ => False) w W) => zeG P Q s7 t7 cus W (y7.fr hF (fun _ _ e => e)) (z7.fr hF (fun _ _ e => e)) f7; obtain ⟨A1, c1, rfl⟩ := y1.shape; obtain ⟨B1, d1, rfl⟩ := z1.shape; obtain ⟨A2, c2, rfl⟩ := y2.shape; obtain ⟨B2, d2, rfl⟩ := z2.shape; obtain ⟨A3, c3, rfl⟩ := y3.shape; obtain ⟨B3, d3, rfl⟩ := z3.shape; obtain ⟨A4, c4, rfl⟩ := y4.shape
 obtain ⟨B4, d4, rfl⟩ := z4.shape; obtain ⟨A5, c5, rfl⟩ := y5.shape; obtain ⟨B5, d5, rfl⟩ := z5.shape; obtain ⟨A6, c6, rfl⟩ := y6.shape; obtain ⟨B6, d6, rfl⟩ := z6.shape; obtain ⟨A7, c7, rfl⟩ := y7.shape; obtain ⟨B7, d7, rfl⟩ := z7.shape; exact zjC hint schema thr sum zc cnt _ _ _ _ _ _ _ _ _ _ _ _ _ _ _ _ _ _ _ _ _ _ _ _ _ _ _ _ _ _ _ _ _ _ _ w C1 C2 C3 C4 C5 C6 C7
theorem zhi (P Q : Nat -> Prop) (u v : Value) (la lb : List (Rhs × Hsl)) (w : World) (hu : SlH P w u la) (hv : SlH Q w v lb) (hm : la.map Prod.fst = lb.map Prod.fst) (hl : la.length <= 1099511627776) (hfw : ∀ p ∈ la, p.1.h.few 1099511627776) : Calls prog 37 #[u, v] w (zao w) := by
 have kR : lb.length = la.length := by have := zmC List.length hm; simpa using this.symm
 obtain ⟨⟨A, c, rfl, _, hc, hr⟩, fL⟩ := hu; obtain ⟨⟨B, d, rfl, _, hd, hs⟩, kf⟩ := hv; obtain ⟨n, hn⟩ := exE la.length; rw [kR] at hs hd ⊢; rw [hn] at hr hs hc hd hl ⊢; rw [hn] at kR; have HN := zlM hn; have oM := zlM kR; have HR := zlM hr; have HS := zlM hs; have nR := zlM fL; have HSI := zlM kf; have HM := zlM hm; have dJ := zlM hfw
 clear hn hr hs fL kf hm hfw kR; go_enter func37, ntmps37; go_wp2; go_loopw [5] (fun i wr => ∃ k : Nat, k <= n /\ i = .int .i64 k /\ Hid (Fr (fun _ => False) w wr)) (fun i _ => n - (intOf i).toNat)
 case atStart => exact ⟨0, zlX _, rfl, zlM (zmR _ _)⟩
 case round =>
  obtain ⟨k, hk, rfl, HF⟩ := hrel; by_cases hlt : k < n
  ·obtain ⟨g, off, rfl, _, aa⟩ := HR.out (by omega)
   obtain ⟨g2, ap, rfl, _, ak⟩ := HS.out (by omega); obtain ⟨x, hx⟩ : ∃ x, la[k]? = some x := ⟨_, zlO (by rw [HN.out]; exact hlt)⟩; obtain ⟨y, hy⟩ : ∃ y, lb[k]? = some y := ⟨_, zlO (by rw [oM.out]; exact hlt)⟩; have hxy : x.1 = y.1 := by
    have h1 : (la.map Prod.fst)[k]? = some x.1 := by rw [zmm, hx]; rfl
    have h2 : (lb.map Prod.fst)[k]? = some y.1 := by rw [zmm, hy]; rfl
    rw [HM.out, h2] at h1; exact (zmB h1).symm
   have gC := nR.out x (zlU hx); have gk := HSI.out y (zlU hy); have hfx := dJ.out x (zlU hx); obtain ⟨⟨ref, t, hh⟩, sx⟩ := x; obtain ⟨rz, sy⟩ := y; simp only [] at hxy gC gk hfx; subst hxy; simp only [] at gk
   have HC : Hid (∀ W, Fr (fun _ => False) w W -> Calls prog 111 #[.agg (hic hh sx).toArray, .agg (hic hh sy).toArray] W (zao W)) := zlM (fun W hF => zjD P Q hh sx sy W (gC.fr hF (fun _ _ e => e)) (gk.fr hF (fun _ _ e => e)) hfx)
   have aC : ∀ {l : List (Rhs × Hsl)} {g off : Nat} {z : Rhs × Hsl}, l[k]? = some z -> (∀ j u, (l.flatMap hsc)[j]? = some u -> w.cell? ⟨g, off + j, none⟩ = some u) -> ∀ W', Fr (fun _ => False) w W' -> ∀ j, j < 15 -> ∀ u, (hsc z)[j]? = some u -> W'.cell? ⟨g, off + (k * 15 + j), none⟩ = some u := fun {l g off z} hz aa W' hF j hj u hu => by
    have := aa (k * 15 + j) u (by rw [zgA 15 hsc (fun _ => rfl) l k z hz j hj]; exact hu); rw [hF.cell (p := ⟨g, off + (k * 15 + j), none⟩) (zlT w _ this) (fun e => e)]; exact this
   obtain ⟨hint, schema, thr, sum, zc, cnt, pos, neg, ups, downs, fups, fdowns, cus⟩ := hh; obtain ⟨s1, s2, s3, s4, s5, s6, s7⟩ := sx; obtain ⟨t1, t2, t3, t4, t5, t6, t7⟩ := sy
   have lH : Hid (∀ W, Fr (fun _ => False) w W -> Calls prog 111 #[.agg #[.int .u8 hint.toNat, .int .i32 schema, .int .u64 thr, .int .u64 sum, .int .u64 zc, .int .u64 cnt, s1, s2, s3, s4, s5, s6, s7], .agg #[.int .u8 hint.toNat, .int .i32 schema, .int .u64 thr, .int .u64 sum, .int .u64 zc, .int .u64 cnt, t1, t2, t3, t4, t5, t6, t7]] W (zao W)) := zlM HC.out
   have HK : Hid (∀ w', Fr (fun _ => False) w w' -> (w'.cell? ⟨g, off + k * 15, none⟩ = some (.int .u64 ref) /\ w'.cell? ⟨g, off + k * 15 + 1, none⟩ = some (.int .i64 t) /\ w'.cell? ⟨g, off + k * 15 + 2, none⟩ = some (.int .u8 hint.toNat) /\ w'.cell? ⟨g, off + k * 15 + 3, none⟩ = some (.int .i32 schema) /\ w'.cell? ⟨g, off + k * 15 + 4, none⟩ = some (.int .u64 thr) /\ w'.cell? ⟨g, off + k * 15 + 5, none⟩ = some (.int .u64 sum) /\ w'.cell? ⟨g, off + k * 15 + 6, none⟩ = some (.int .u64 zc) /\ w'.cell? ⟨g, off + k * 15 + 7, none⟩ = some (.int .u64 cnt) /\ w'.cell? ⟨g, off + k * 15 + 8, none⟩ = some s1 /\ w'.cell? ⟨g, off + k * 15 + 9, none⟩ = some s2 /\ w'.cell? ⟨g, off + k * 15 + 10, none⟩ = some s3 /\ w'.cell? ⟨g, off + k * 15 + 11, none⟩ = some s4 /\ w'.cell? ⟨g, off + k * 15 + 12, none⟩ = some s5 /\ w'.cell? ⟨g, off + k * 15 + 13, none⟩ = some s6 /\ w'.cell? ⟨g, off + k * 15 + 14, none⟩ = some s7 /\ w'.cell? ⟨g2, ap + k * 15, none⟩ = some (.int .u64 ref) /\ w'.cell? ⟨g2, ap + k * 15 + 1, none⟩ = some (.int .i64 t) /\ w'.cell? ⟨g2, ap + k * 15 + 2, none⟩ = some (.int .u8 hint.toNat) /\ w'.cell? ⟨g2, ap + k * 15 + 3, none⟩ = some (.int .i32 schema) /\ w'.cell? ⟨g2, ap + k * 15 + 4, none⟩ = some (.int .u64 thr) /\ w'.cell? ⟨g2, ap + k * 15 + 5, none⟩ = some (.int .u64 sum) /\ w'.cell? ⟨g2, ap + k * 15 + 6, none⟩ = some (.int .u64 zc) /\ w'.cell? ⟨g2, ap + k * 15 + 7, none⟩ = some (.int .u64 cnt) /\ w'.cell? ⟨g2, ap + k * 15 + 8, none⟩ = some t1 /\ w'.cell? ⟨g2, ap + k * 15 + 9, none⟩ = some t2 /\ w'.cell? ⟨g2, ap + k * 15 + 10, none⟩ = some t3 /\ w'.cell? ⟨g2, ap + k * 15 + 11, none⟩ = some t4 /\ w'.cell? ⟨g2, ap + k * 15 + 12, none⟩ = some t5 /\ w'.cell? ⟨g2, ap + k * 15 + 13, none⟩ = some t6 /\ w'.cell? ⟨g2, ap + k * 15 + 14, none⟩ = some t7)) := zlM (fun w' hF => ⟨aC hx aa _ hF 0 (by omega) _ rfl, aC hx aa _ hF 1 (by omega) _ rfl, aC hx aa _ hF 2 (by omega) _ rfl, aC hx aa _ hF 3 (by omega) _ rfl, aC hx aa _ hF 4 (by omega) _ rfl, aC hx aa _ hF 5 (by omega) _ rfl, aC hx aa _ hF 6 (by omega) _ rfl, aC hx aa _ hF 7 (by omega) _ rfl, aC hx aa _ hF 8 (by omega) _ rfl, aC hx aa _ hF 9 (by omega) _ rfl, aC hx aa _ hF 10 (by omega) _ rfl, aC hx aa _ hF 11 (by omega) _ rfl, aC hx aa _ hF 12 (by omega) _ rfl, aC hx aa _ hF 13 (by omega) _ rfl, aC hx aa _ hF 14 (by omega) _ rfl, aC hy ak _ hF 0 (by omega) _ rfl, aC hy ak _ hF 1 (by omega) _ rfl, aC hy ak _ hF 2 (by omega) _ rfl, aC hy ak _ hF 3 (by omega) _ rfl, aC hy ak _ hF 4 (by omega) _ rfl, aC hy ak _ hF 5 (by omega) _ rfl, aC hy ak _ hF 6 (by omega) _ rfl, aC hy ak _ hF 7 (by omega) _ rfl, aC hy ak _ hF 8 (by omega) _ rfl, aC hy ak _ hF 9 (by omega) _ rfl, aC hy ak _ hF 10 (by omega) _ rfl, aC hy ak _ hF 11 (by omega) _ rfl, aC hy ak _ hF 12 (by omega) _ rfl, aC hy ak _ hF 13 (by omega) _ rfl, aC hy ak _ hF 14 (by omega) _ rfl⟩)
   clear gC gk hfx HC aC hx hy aa ak; have iX := zlM HF.out.drew; go_wp2
   go_region_held3 (fun w' => w'.cell? ⟨g, off + k * 15, none⟩ = some (.int .u64 ref) /\ w'.cell? ⟨g, off + k * 15 + 1, none⟩ = some (.int .i64 t) /\ w'.cell? ⟨g, off + k * 15 + 2, none⟩ = some (.int .u8 hint.toNat) /\ w'.cell? ⟨g, off + k * 15 + 3, none⟩ = some (.int .i32 schema) /\ w'.cell? ⟨g, off + k * 15 + 4, none⟩ = some (.int .u64 thr) /\ w'.cell? ⟨g, off + k * 15 + 5, none⟩ = some (.int .u64 sum) /\ w'.cell? ⟨g, off + k * 15 + 6, none⟩ = some (.int .u64 zc) /\ w'.cell? ⟨g, off + k * 15 + 7, none⟩ = some (.int .u64 cnt) /\ w'.cell? ⟨g, off + k * 15 + 8, none⟩ = some s1 /\ w'.cell? ⟨g, off + k * 15 + 9, none⟩ = some s2 /\ w'.cell? ⟨g, off + k * 15 + 10, none⟩ = some s3 /\ w'.cell? ⟨g, off + k * 15 + 11, none⟩ = some s4 /\ w'.cell? ⟨g, off + k * 15 + 12, none⟩ = some s5 /\ w'.cell? ⟨g, off + k * 15 + 13, none⟩ = some s6 /\ w'.cell? ⟨g, off + k * 15 + 14, none⟩ = some s7 /\ w'.cell? ⟨g2, ap + k * 15, none⟩ = some (.int .u64 ref) /\ w'.cell? ⟨g2, ap + k * 15 + 1, none⟩ = some (.int .i64 t) /\ w'.cell? ⟨g2, ap + k * 15 + 2, none⟩ = some (.int .u8 hint.toNat) /\ w'.cell? ⟨g2, ap + k * 15 + 3, none⟩ = some (.int .i32 schema) /\ w'.cell? ⟨g2, ap + k * 15 + 4, none⟩ = some (.int .u64 thr) /\ w'.cell? ⟨g2, ap + k * 15 + 5, none⟩ = some (.int .u64 sum) /\ w'.cell? ⟨g2, ap + k * 15 + 6, none⟩ = some (.int .u64 zc) /\ w'.cell? ⟨g2, ap + k * 15 + 7, none⟩ = some (.int .u64 cnt) /\ w'.cell? ⟨g2, ap + k * 15 + 8, none⟩ = some t1 /\ w'.cell? ⟨g2, ap + k * 15 + 9, none⟩ = some t2 /\ w'.cell? ⟨g2, ap + k * 15 + 10, none⟩ = some t3 /\ w'.cell? ⟨g2, ap + k * 15 + 11, none⟩ = some t4 /\ w'.cell? ⟨g2, ap + k * 15 + 12, none⟩ = some t5 /\ w'.cell? ⟨g2, ap + k * 15 + 13, none⟩ = some t6 /\ w'.cell? ⟨g2, ap + k * 15 + 14, none⟩ = some t7)
    ((first | exact HK.out _ iX.out | exact HK.out _ cd.out | go_keep))
    ((first | (go_at_call 111; refine (lH.out _ iX.out).mono ?_; rintro r W1 ⟨rfl, hf⟩; have cd := zlM (iX.out.same hf); clear hf)))
   go_wp2; go_roundw
   case rel => exact ⟨k + 1, by omega, by go_num, cd⟩
   case measure => simp [intOf]; omega
  ·obtain rfl : k = n := by omega
   go_wp2; go_ret; exact ⟨rfl, HF.out⟩
end Go.Proofs.YtbkookiigkckdaaGreatDoor
