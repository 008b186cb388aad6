/- Texts of this seat, merged and shortened. -/
import Derived.Test.YtbkookiigkckdaaGreatDoorKC25
set_option linter.unusedVariables false
set_option linter.unusedSimpArgs false
set_option maxRecDepth 100000
set_option maxHeartbeats 8000000
namespace Go.Proofs.YtbkookiigkckdaaGreatDoor
open Go.RowKit Go.Proofs.Tryz
theorem zh6 (la lb : List (Ser × Value)) (xa xb : List (Exm × Value)) (A0 A1 A2 A3 A4 A5 A6 B0 B1 B2 B3 B4 B5 B6 : Option Addr) (c0 c1 c2 c3 c4 c5 c6 d0 d1 d2 d3 d4 d5 d6 n m n1 n2 n4 n5 n6 m1 m2 m4 m5 m6 : Nat) (w : World)
 (jq : SlR Yes w (.slice A0 n c0) la) (ht0 : SlR Yes w (.slice B0 n d0) lb) (hm0 : (la.map Prod.fst).map tos = (lb.map Prod.fst).map tos) (hn : la.length = n) (hn40 : n <= 1048576) (hla : ∀ p ∈ la, p.1.labs.length <= 1048576) (gg : ∀ p ∈ lb, p.1.labs.length <= 1048576)
 (hs3 : SlX Yes w (.slice A3 m c3) xa) (ht3 : SlX Yes w (.slice B3 m d3) xb) (hm3 : (xa.map Prod.fst).map toe = (xb.map Prod.fst).map toe) (hm : xa.length = m) (hm40 : m <= 1048576) (hxa : ∀ p ∈ xa, p.1.labs.length <= 1048576) (hxb : ∀ p ∈ xb, p.1.labs.length <= 1048576)
 (h1 : ∀ W, Fr (fun _ => False) w W -> Calls prog 101 #[.slice A1 n1 c1, .slice B1 m1 d1] W (zap W))
 (h2 : ∀ W, Fr (fun _ => False) w W -> Calls prog 102 #[.slice A2 n2 c2, .slice B2 m2 d2] W (zap W))
 (h4 : ∀ W, Fr (fun _ => False) w W -> Calls prog 103 #[.slice A4 n4 c4, .slice B4 m4 d4] W (zap W))
 (h5 : ∀ W, Fr (fun _ => False) w W -> Calls prog 104 #[.slice A5 n5 c5, .slice B5 m5 d5] W (zap W))
 (h6 : ∀ W, Fr (fun _ => False) w W -> Calls prog 37 #[.slice A6 n6 c6, .slice B6 m6 d6] W (zap W)) :
 Calls prog 32 #[.agg #[.slice A0 n c0, .slice A1 n1 c1, .slice A2 n2 c2, .slice A3 m c3, .slice A4 n4 c4, .slice A5 n5 c5, .slice A6 n6 c6], .agg #[.slice B0 n d0, .slice B1 m1 d1, .slice B2 m2 d2, .slice B3 m d3, .slice B4 m4 d4, .slice B5 m5 d5, .slice B6 m6 d6]] w (zap w) := by
 have gW := zmk jq; have HT0 := zmk ht0; have HM0 := zmk hm0; have HN := zmk hn; have HLA := zmk hla; have ra := zmk gg; have HS3 := zmk hs3; have HT3 := zmk ht3; have HM3 := zmk hm3; have HM := zmk hm; have HXA := zmk hxa; have HXB := zmk hxb
 have oC : Hid (lb.length = n) := zmk (by have := znb List.length hm0; simp only [zmI] at this; omega); have HMB : Hid (xb.length = m) := zmk (by have := znb List.length hm3; simp only [zmI] at this; omega); have H1 := zmk h1; have H2 := zmk h2; have H4 := zmk h4; have H5 := zmk h5; have H6 := zmk h6
 clear jq ht0 hm0 hn hla gg hs3 ht3 hm3 hm hxa hxb h1 h2 h4 h5 h6; go_enter func32, ntmps32; go_wp2_with fail
 have hP := (znr w 54 #[.slice A0 n c0, .slice A1 n1 c1, .slice A2 n2 c2, .slice A3 m c3, .slice A4 n4 c4, .slice A5 n5 c5, .slice A6 n6 c6]).alloc (.cells #[.slice B0 n d0, .slice B1 m1 d1, .slice B2 m2 d2, .slice B3 m d3, .slice B4 m4 d4, .slice B5 m5 d5, .slice B6 m6 d6] 54)
 have hQ := zaK w (.cells #[.slice A0 n c0, .slice A1 n1 c1, .slice A2 n2 c2, .slice A3 m c3, .slice A4 n4 c4, .slice A5 n5 c5, .slice A6 n6 c6] 54) 54 #[.slice B0 n d0, .slice B1 m1 d1, .slice B2 m2 d2, .slice B3 m d3, .slice B4 m4 d4, .slice B5 m5 d5, .slice B6 m6 d6]
 obtain ⟨W, hW⟩ := exE ((w.alloc (.cells #[.slice A0 n c0, .slice A1 n1 c1, .slice A2 n2 c2, .slice A3 m c3, .slice A4 n4 c4, .slice A5 n5 c5, .slice A6 n6 c6] 54)).alloc (.cells #[.slice B0 n d0, .slice B1 m1 d1, .slice B2 m2 d2, .slice B3 m d3, .slice B4 m4 d4, .slice B5 m5 d5, .slice B6 m6 d6] 54)); have hF : Fr (fun _ => False) w W := hW ▸ ((znq _ w).alloc _).alloc _; rw [hW] at hP hQ ⊢
 have bG : w.heap.size + 2 <= W.heap.size := by rw [<- hW]; simp
 have HP := zmk hP; have HQ := zmk hQ; have HF := zmk hF; clear hW hP hQ hF; go_loopw [5] (fun i wr => ∃ k : Nat, k <= n /\ i = .int .i64 k /\ Hid (Fr (fun _ => False) W wr)) (fun i _ => n - (intOf i).toNat)
 case atStart => exact ⟨0, zmv _, rfl, zmk (znq _ _)⟩
 case round =>
  obtain ⟨k, hk, rfl, HR⟩ := hrel; obtain ⟨p0, p1, p2, p3, p4, p5, p6⟩ := zah (HP.out.fr HR.out (fun e => e)); obtain ⟨q0, q1, q2, q3, q4, q5, q6⟩ := zah (HQ.out.fr HR.out (fun e => e)); by_cases hlt : k < n
  ·obtain ⟨g, off, rfl, _, aa⟩ := gW.out.1.at (by have := HN.out; omega)
   obtain ⟨g2, ap, rfl, _, al⟩ := HT0.out.1.at (by have := oC.out; omega); obtain ⟨x, hx⟩ : ∃ x, la[k]? = some x := ⟨_, zmm (by rw [HN.out]; exact hlt)⟩; obtain ⟨y, hy⟩ : ∃ y, lb[k]? = some y := ⟨_, zmm (by rw [oC.out]; exact hlt)⟩; have hxy : tos x.1 = tos y.1 := by
    have h1 : ((la.map Prod.fst).map tos)[k]? = some (tos x.1) := by rw [zmU, zmU, hx]; rfl
    have h2 : ((lb.map Prod.fst).map tos)[k]? = some (tos y.1) := by rw [zmU, zmU, hy]; rfl
    rw [HM0.out, h2] at h1; exact (zna h1).symm
   have gA := gW.out.2 x (zms hx); have gh := HT0.out.2 y (zms hy); have kQ := HLA.out x (zms hx); have pB := ra.out y (zms hy); obtain ⟨⟨ref, lx⟩, xv⟩ := x; obtain ⟨⟨rf2, ly⟩, yv⟩ := y; simp only [] at gA gh kQ pB; have e1 : ref = rf2 := znb SerD.ref hxy; have e2 : zaG lx = zaG ly := znb SerD.labs hxy
   subst e1; have qQ : Hid (∀ W', Fr (fun _ => False) W W' -> Calls prog 24 #[xv] W' (zew 40 W' (zaG lx))) := zmk (fun W' hF => zex Yes xv lx W' (gA.fr (HF.out.same hF) (fun _ _ e => e)) (by omega))
   have qN : Hid (∀ W', Fr (fun _ => False) W W' -> Calls prog 24 #[yv] W' (zew 40 W' (zaG lx))) := zmk (fun W' hF => by rw [e2]; exact zex Yes yv ly W' (gh.fr (HF.out.same hF) (fun _ _ e => e)) (by omega)); have qd : (zaG lx).length <= 1048576 := by rw [za2]; exact kQ
   obtain ⟨L, hL⟩ := exE (zaG lx); rw [hL] at qQ qN qd; have jR : Hid (∀ u v W', Sl Yes W' u 2 L.length (L.flatMap zaJ) -> Sl Yes W' v 2 L.length (L.flatMap zaJ) -> Calls prog 25 #[u, v] W' (zap W')) := zmk (fun u v W' hu hv => zeD Yes Yes u v L W' hu hv (by omega))
   have ay : ∀ {l : List (Ser × Value)} {g off : Nat} {z : Ser × Value}, l[k]? = some z -> (∀ j u, (l.flatMap ziL)[j]? = some u -> w.cell? ⟨g, off + j, none⟩ = some u) -> ∀ W', Fr (fun _ => False) W W' -> ∀ j, j < 2 -> ∀ u, (ziL z)[j]? = some u -> W'.cell? ⟨g, off + (k * 2 + j), none⟩ = some u := fun {l g off z} hz aa W' hF j hj u hu => by
    have := aa (k * 2 + j) u (by rw [zbE ziL (fun _ => rfl) l k z hz j hj]; exact hu); rw [(HF.out.same hF).cell (p := ⟨g, off + (k * 2 + j), none⟩) (zmr w _ this) (fun e => e)]; exact this
   have HC : Hid (∀ w', Fr (fun _ => False) W w' -> w'.cell? ⟨w.heap.size, 0, none⟩ = some (.slice (some ⟨g, off, none⟩) n c0) /\ w'.cell? ⟨w.heap.size + 1, 0, none⟩ = some (.slice (some ⟨g2, ap, none⟩) n d0) /\ w'.cell? ⟨g, off + k * 2, none⟩ = some (.int .u64 ref) /\ w'.cell? ⟨g, off + k * 2 + 1, none⟩ = some xv /\ w'.cell? ⟨g2, ap + k * 2, none⟩ = some (.int .u64 ref) /\ w'.cell? ⟨g2, ap + k * 2 + 1, none⟩ = some yv) := zmk (fun w' hF => ⟨(HP.out.fr hF (fun e => e)).cell 0, (HQ.out.fr hF (fun e => e)).cell 0, ay hx aa w' hF 0 (by omega) _ rfl, ay hx aa w' hF 1 (by omega) _ rfl, ay hy al w' hF 0 (by omega) _ rfl, ay hy al w' hF 1 (by omega) _ rfl⟩)
   have FD := zmk HR.out.drew; clear ay hx hy hxy gA gh kQ pB e2 hL aa al qd; clear p0 p1 p2 p3 p4 p5 p6 q0 q1 q2 q3 q4 q5 q6; obtain ⟨p0, q0, r0, r1, r2, r3⟩ := HC.out _ HR.out; go_wp2; clear p0 q0 r0 r1 r2 r3
   refine zaT (fun w' => w'.cell? ⟨w.heap.size, 0, none⟩ = some (.slice (some ⟨g, off, none⟩) n c0) /\ w'.cell? ⟨w.heap.size + 1, 0, none⟩ = some (.slice (some ⟨g2, ap, none⟩) n d0) /\ w'.cell? ⟨g, off + k * 2, none⟩ = some (.int .u64 ref) /\ w'.cell? ⟨g, off + k * 2 + 1, none⟩ = some xv /\ w'.cell? ⟨g2, ap + k * 2, none⟩ = some (.int .u64 ref) /\ w'.cell? ⟨g2, ap + k * 2 + 1, none⟩ = some yv) 30 (by kernel_rfl) (HC.out _ FD.out) ?_
   intro hS; refine wpT 0 (.pointer (some ⟨w.heap.size, 0, none⟩)) rfl (by intro w; go_simp) hS ?_; try simp only [Act.put, zmo, zmp, zmq]
   refine wpT 2 (.int .i64 k) rfl (by intro w; go_simp) hS ?_; try simp only [Act.put, zmo, zmp, zmq]
   refine wpT 6 (.pointer (some ⟨w.heap.size + 1, 0, none⟩)) rfl (by intro w; go_simp) hS ?_; try simp only [Act.put, zmo, zmp, zmq]
   refine wpT 8 (.int .i64 k) rfl (by intro w; go_simp) hS ?_; try simp only [Act.put, zmo, zmp, zmq]
   refine wpL 1 [3, 4, 5, 12, 13, 30] (.slice (some ⟨g, off, none⟩) n c0) rfl (by rintro w ⟨h1, h2, h3, h4, h5, h6⟩; go_simp) hS ?_; try simp only [Act.put, zmo, zmp, zmq]
   refine wpT 3 (.pointer (some ⟨g, off + k * 2, none⟩)) rfl (by intro w; go_simp) hS ?_; try simp only [Act.put, zmo, zmp, zmq]
   refine wpT 4 (.pointer (some ⟨g, off + k * 2, none⟩)) rfl (by intro w; go_simp) hS ?_; try simp only [Act.put, zmo, zmp, zmq]
   refine wpL 5 [12, 13, 30] (.int .u64 ref) rfl (by rintro w ⟨h1, h2, h3, h4, h5, h6⟩; go_simp) hS ?_; try simp only [Act.put, zmo, zmp, zmq]
   refine wpL 7 [9, 10, 11, 12, 13, 30] (.slice (some ⟨g2, ap, none⟩) n d0) rfl (by rintro w ⟨h1, h2, h3, h4, h5, h6⟩; go_simp) hS ?_; try simp only [Act.put, zmo, zmp, zmq]
   refine wpT 9 (.pointer (some ⟨g2, ap + k * 2, none⟩)) rfl (by intro w; go_simp) hS ?_; try simp only [Act.put, zmo, zmp, zmq]
   refine wpT 10 (.pointer (some ⟨g2, ap + k * 2, none⟩)) rfl (by intro w; go_simp) hS ?_; try simp only [Act.put, zmo, zmp, zmq]
   refine wpL 11 [12, 13, 30] (.int .u64 ref) rfl (by rintro w ⟨h1, h2, h3, h4, h5, h6⟩; go_simp) hS ?_; try simp only [Act.put, zmo, zmp, zmq]
   refine wpT 12 (.bool false) rfl (by intro w; go_simp) hS ?_; try simp only [Act.put, zmo, zmp, zmq]
   refine wpT 13 (.bool false) rfl (by intro w; go_simp) hS ?_; try simp only [Act.put, zmo, zmp, zmq]
   refine wpT 14 (.pointer (some ⟨w.heap.size, 0, none⟩)) rfl (by intro w; go_simp) hS ?_; try simp only [Act.put, zmo, zmp, zmq]
   refine wpT 16 (.int .i64 k) rfl (by intro w; go_simp) hS ?_; try simp only [Act.put, zmo, zmp, zmq]
   refine wpT 21 (.pointer (some ⟨w.heap.size + 1, 0, none⟩)) rfl (by intro w; go_simp) hS ?_; try simp only [Act.put, zmo, zmp, zmq]
   refine wpT 23 (.int .i64 k) rfl (by intro w; go_simp) hS ?_; try simp only [Act.put, zmo, zmp, zmq]
   refine wpL 15 [17, 18, 19, 20, 28, 29, 30] (.slice (some ⟨g, off, none⟩) n c0) rfl (by rintro w ⟨h1, h2, h3, h4, h5, h6⟩; go_simp) hS ?_; try simp only [Act.put, zmo, zmp, zmq]
   refine wpT 17 (.pointer (some ⟨g, off + k * 2, none⟩)) rfl (by intro w; go_simp) hS ?_; try simp only [Act.put, zmo, zmp, zmq]
   refine wpT 18 (.pointer (some ⟨g, off + k * 2 + 1, none⟩)) rfl (by intro w; go_simp) hS ?_; try simp only [Act.put, zmo, zmp, zmq]
   refine wpL 22 [24, 25, 26, 27, 28, 29, 30] (.slice (some ⟨g2, ap, none⟩) n d0) rfl (by rintro w ⟨h1, h2, h3, h4, h5, h6⟩; go_simp) hS ?_; try simp only [Act.put, zmo, zmp, zmq]
   refine wpT 24 (.pointer (some ⟨g2, ap + k * 2, none⟩)) rfl (by intro w; go_simp) hS ?_; try simp only [Act.put, zmo, zmp, zmq]
   refine wpT 25 (.pointer (some ⟨g2, ap + k * 2 + 1, none⟩)) rfl (by intro w; go_simp) hS ?_; try simp only [Act.put, zmo, zmp, zmq]
   refine wpL 19 [20, 28, 29, 30] (xv) rfl (by rintro w ⟨h1, h2, h3, h4, h5, h6⟩; go_simp) hS ?_; try simp only [Act.put, zmo, zmp, zmq]
   refine wpL 26 [27, 28, 29, 30] (yv) rfl (by rintro w ⟨h1, h2, h3, h4, h5, h6⟩; go_simp) hS ?_; try simp only [Act.put, zmo, zmp, zmq]
   clear hS; refine zaq 20 (by kernel_rfl) rfl (by kernel_rfl) (fun K hK => ?_); go_simp; go_at_call 24
   refine (qQ.out _ FD.out).mono ?_; rintro rA wA ⟨v1, rfl, px, iz⟩; have FA := zmk (FD.out.same iz); have SA := zmk (znt px).yes; have GA := zmk iz; refine hK.out _ _ (HC.out _ FA.out) ?_; clear hK K px iz; try simp only [Act.put, zmo, zmp, zmq]
   refine zaq 27 (by kernel_rfl) rfl (by kernel_rfl) (fun K hK => ?_); go_simp; go_at_call 24
   refine (qN.out _ FA.out).mono ?_; rintro rB wB ⟨v2, rfl, pw, nh⟩; have FB := zmk (FA.out.same nh); have SB := zmk (znt pw).yes; have GB := zmk nh; refine hK.out _ _ (HC.out _ FB.out) ?_; clear hK K pw nh; try simp only [Act.put, zmo, zmp, zmq]
   refine zaq 28 (by kernel_rfl) rfl (by kernel_rfl) (fun K hK => ?_); go_simp; go_at_call 25
   refine (jR.out _ _ _ (SA.out.fr GB.out (fun _ _ e => e)) SB.out).mono ?_; rintro r9 w9 ⟨rfl, dY⟩; have F9 := zmk (FB.out.same dY); refine hK.out _ _ (HC.out _ F9.out) ?_; clear hK K dY; try simp only [Act.put, zmo, zmp, zmq]
   refine zaq 29 (by kernel_rfl) rfl (by kernel_rfl) (fun K hK => ?_); go_simp; refine hK.out _ _ (HC.out _ F9.out) ?_; clear hK K; try simp only [Act.put, zmo, zmp, zmq]
   refine zay 30 (by kernel_rfl) rfl (by kernel_rfl) (by kernel_rfl) (fun K hK => ?_); go_simp; refine hK.out _ _ ?_; clear hK K; refine zbC (by kernel_rfl) ?_ _; go_wp2; go_roundw
   case rel => exact ⟨k + 1, by omega, by go_num, F9⟩
   case measure => simp [intOf]; omega
  ·clear p0 p1 p2 p3 p4 p5 p6 q0 q1 q2 q3 q4 q5 q6
   obtain ⟨p0, p1, p2, p3, p4, p5, p6⟩ := zah (HP.out.fr HR.out (fun e => e)); obtain ⟨q0, q1, q2, q3, q4, q5, q6⟩ := zah (HQ.out.fr HR.out (fun e => e)); go_wp2_with fail
   clear p0 p1 p2 p3 p4 p5 p6 q0 q1 q2 q3 q4 q5 q6; go_loopw [6] (fun i wr2 => ∃ k2 : Nat, k2 <= m /\ i = .int .i64 k2 /\ Hid (Fr (fun _ => False) W wr2)) (fun i _ => m - (intOf i).toNat)
   case atStart => exact ⟨0, zmv _, rfl, HR⟩
   case round =>
    obtain ⟨k2, cO, rfl, aW⟩ := hrel; obtain ⟨p0, p1, p2, p3, p4, p5, p6⟩ := zah (HP.out.fr aW.out (fun e => e)); obtain ⟨q0, q1, q2, q3, q4, q5, q6⟩ := zah (HQ.out.fr aW.out (fun e => e)); by_cases hlt2 : k2 < m
    ·obtain ⟨g, off, rfl, _, aa⟩ := HS3.out.1.at (by have := HM.out; omega)
     obtain ⟨g2, ap, rfl, _, al⟩ := HT3.out.1.at (by have := HMB.out; omega); obtain ⟨x, hx⟩ : ∃ x, xa[k2]? = some x := ⟨_, zmm (by rw [HM.out]; exact hlt2)⟩; obtain ⟨y, hy⟩ : ∃ y, xb[k2]? = some y := ⟨_, zmm (by rw [HMB.out]; exact hlt2)⟩; have hxy : toe x.1 = toe y.1 := by
      have h1 : ((xa.map Prod.fst).map toe)[k2]? = some (toe x.1) := by rw [zmU, zmU, hx]; rfl
      have h2 : ((xb.map Prod.fst).map toe)[k2]? = some (toe y.1) := by rw [zmU, zmU, hy]; rfl
      rw [HM3.out, h2] at h1; exact (zna h1).symm
     have gA := HS3.out.2 x (zms hx); have gh := HT3.out.2 y (zms hy); have kQ := HXA.out x (zms hx); have pB := HXB.out y (zms hy); obtain ⟨⟨ref, tt, vv, lx⟩, xv⟩ := x; obtain ⟨⟨rf2, tt2, vv2, ly⟩, yv⟩ := y; simp only [] at gA gh kQ pB
     obtain ⟨xA, xn, xc, rfl⟩ : ∃ A n c, xv = .slice A n c := let ⟨A, c, h⟩ := gA.shape; ⟨A, _, c, h⟩
     obtain ⟨yA, yn, yc, rfl⟩ : ∃ A n c, yv = .slice A n c := let ⟨A, c, h⟩ := gh.shape; ⟨A, _, c, h⟩
     have e1 : ref = rf2 := znb ExD.ref hxy; have e3 : tt = tt2 := znb ExD.t hxy; have e4 : vv = vv2 := znb ExD.v hxy; have e2 : zaG lx = zaG ly := znb ExD.labs hxy; subst e1 e3 e4
     have qQ : Hid (∀ W', Fr (fun _ => False) W W' -> Calls prog 24 #[(.slice xA xn xc)] W' (zew 40 W' (zaG lx))) := zmk (fun W' hF => zex Yes (.slice xA xn xc) lx W' (gA.fr (HF.out.same hF) (fun _ _ e => e)) (by omega))
     have qN : Hid (∀ W', Fr (fun _ => False) W W' -> Calls prog 24 #[(.slice yA yn yc)] W' (zew 40 W' (zaG lx))) := zmk (fun W' hF => by rw [e2]; exact zex Yes (.slice yA yn yc) ly W' (gh.fr (HF.out.same hF) (fun _ _ e => e)) (by omega)); have qd : (zaG lx).length <= 1048576 := by rw [za2]; exact kQ
     obtain ⟨L, hL⟩ := exE (zaG lx); rw [hL] at qQ qN qd; have jR : Hid (∀ u v W', Sl Yes W' u 2 L.length (L.flatMap zaJ) -> Sl Yes W' v 2 L.length (L.flatMap zaJ) -> Calls prog 25 #[u, v] W' (zap W')) := zmk (fun u v W' hu hv => zeD Yes Yes u v L W' hu hv (by omega))
     have ay : ∀ {l : List (Exm × Value)} {g off : Nat} {z : Exm × Value}, l[k2]? = some z -> (∀ j u, (l.flatMap exc)[j]? = some u -> w.cell? ⟨g, off + j, none⟩ = some u) -> ∀ W', Fr (fun _ => False) W W' -> ∀ j, j < 4 -> ∀ u, (exc z)[j]? = some u -> W'.cell? ⟨g, off + (k2 * 4 + j), none⟩ = some u := fun {l g off z} hz aa W' hF j hj u hu => by
      have := aa (k2 * 4 + j) u (by rw [zdA exc (fun _ => rfl) l k2 z hz j hj]; exact hu); rw [(HF.out.same hF).cell (p := ⟨g, off + (k2 * 4 + j), none⟩) (zmr w _ this) (fun e => e)]; exact this
     have HC : Hid (∀ w', Fr (fun _ => False) W w' -> w'.cell? ⟨w.heap.size, 3, none⟩ = some (.slice (some ⟨g, off, none⟩) m c3) /\ w'.cell? ⟨w.heap.size + 1, 3, none⟩ = some (.slice (some ⟨g2, ap, none⟩) m d3) /\ w'.cell? ⟨g, off + k2 * 4, none⟩ = some (.int .u64 ref) /\ w'.cell? ⟨g, off + k2 * 4 + 1, none⟩ = some (.int .i64 tt) /\ w'.cell? ⟨g, off + k2 * 4 + 2, none⟩ = some (.int .u64 vv) /\ w'.cell? ⟨g, off + k2 * 4 + 3, none⟩ = some (.slice xA xn xc) /\ w'.cell? ⟨g2, ap + k2 * 4, none⟩ = some (.int .u64 ref) /\ w'.cell? ⟨g2, ap + k2 * 4 + 1, none⟩ = some (.int .i64 tt) /\ w'.cell? ⟨g2, ap + k2 * 4 + 2, none⟩ = some (.int .u64 vv) /\ w'.cell? ⟨g2, ap + k2 * 4 + 3, none⟩ = some (.slice yA yn yc)) := zmk (fun w' hF => ⟨(HP.out.fr hF (fun e => e)).cell 3, (HQ.out.fr hF (fun e => e)).cell 3, ay hx aa w' hF 0 (by omega) _ rfl, ay hx aa w' hF 1 (by omega) _ rfl, ay hx aa w' hF 2 (by omega) _ rfl, ay hx aa w' hF 3 (by omega) _ rfl, ay hy al w' hF 0 (by omega) _ rfl, ay hy al w' hF 1 (by omega) _ rfl, ay hy al w' hF 2 (by omega) _ rfl, ay hy al w' hF 3 (by omega) _ rfl⟩)
     have FD := zmk aW.out.drew; have pg := aW.out.size; clear ay hx hy hxy gA gh kQ pB e2 hL aa al qd; clear p0 p1 p2 p4 p5 p6 q0 q1 q2 q4 q5 q6; go_wp2
     refine zaT (fun w' => w'.cell? ⟨w.heap.size, 3, none⟩ = some (.slice (some ⟨g, off, none⟩) m c3) /\ w'.cell? ⟨w.heap.size + 1, 3, none⟩ = some (.slice (some ⟨g2, ap, none⟩) m d3) /\ w'.cell? ⟨g, off + k2 * 4, none⟩ = some (.int .u64 ref) /\ w'.cell? ⟨g, off + k2 * 4 + 1, none⟩ = some (.int .i64 tt) /\ w'.cell? ⟨g, off + k2 * 4 + 2, none⟩ = some (.int .u64 vv) /\ w'.cell? ⟨g, off + k2 * 4 + 3, none⟩ = some (.slice xA xn xc) /\ w'.cell? ⟨g2, ap + k2 * 4, none⟩ = some (.int .u64 ref) /\ w'.cell? ⟨g2, ap + k2 * 4 + 1, none⟩ = some (.int .i64 tt) /\ w'.cell? ⟨g2, ap + k2 * 4 + 2, none⟩ = some (.int .u64 vv) /\ w'.cell? ⟨g2, ap + k2 * 4 + 3, none⟩ = some (.slice yA yn yc)) 13 (by kernel_rfl) (HC.out _ FD.out) ?_
     intro hS; refine wpT 0 (.pointer (some ⟨w.heap.size, 3, none⟩)) rfl (by intro w; go_simp) hS ?_; try simp only [Act.put, zmo, zmp, zmq]
     refine wpT 2 (.int .i64 k2) rfl (by intro w; go_simp) hS ?_; try simp only [Act.put, zmo, zmp, zmq]
     refine wpT 5 (.pointer (some ⟨w.heap.size + 1, 3, none⟩)) rfl (by intro w; go_simp) hS ?_; try simp only [Act.put, zmo, zmp, zmq]
     refine wpT 7 (.int .i64 k2) rfl (by intro w; go_simp) hS ?_; try simp only [Act.put, zmo, zmp, zmq]
     refine wpL 1 [3, 4, 12, 13] (.slice (some ⟨g, off, none⟩) m c3) rfl (by rintro w ⟨h1, h2, h3, h4, h5, h6, h7, h8, h9, h10⟩; go_simp) hS ?_; try simp only [Act.put, zmo, zmp, zmq]
     refine wpT 3 (.pointer (some ⟨g, off + k2 * 4, none⟩)) rfl (by intro w; go_simp) hS ?_; try simp only [Act.put, zmo, zmp, zmq]
     refine wpL 4 [12, 13] (.agg #[.int .u64 ref, .int .i64 tt, .int .u64 vv, .slice xA xn xc]) rfl (by rintro w ⟨h1, h2, h3, h4, h5, h6, h7, h8, h9, h10⟩; go_simp) hS ?_; try simp only [Act.put, zmo, zmp, zmq]
     refine wpL 6 [8, 9, 13] (.slice (some ⟨g2, ap, none⟩) m d3) rfl (by rintro w ⟨h1, h2, h3, h4, h5, h6, h7, h8, h9, h10⟩; go_simp) hS ?_; try simp only [Act.put, zmo, zmp, zmq]
     refine wpT 8 (.pointer (some ⟨g2, ap + k2 * 4, none⟩)) rfl (by intro w; go_simp) hS ?_; try simp only [Act.put, zmo, zmp, zmq]
     refine wpL 9 [13] (.agg #[.int .u64 ref, .int .i64 tt, .int .u64 vv, .slice yA yn yc]) rfl (by rintro w ⟨h1, h2, h3, h4, h5, h6, h7, h8, h9, h10⟩; go_simp) hS ?_; try simp only [Act.put, zmo, zmp, zmq]
     clear hS; refine zee 10 11 (by kernel_rfl) rfl rfl (by kernel_rfl) (by kernel_rfl) (fun K hK => ?_) (fun K hK => ?_); go_simp; refine hK.out _ _ (HC.out _ (aW.out.alloc (.cells #[.int .u64 0, .int .i64 0, .int .u64 0, .slice none 0 0] 159)).drew) ?_; clear hK K; try simp only [Act.put, zmo, zmp, zmq]
     refine zaq 11 (by kernel_rfl) rfl (by kernel_rfl) (fun K hK => ?_); go_simp; refine hK.out _ _ (HC.out _ ((aW.out.alloc (.cells #[.int .u64 0, .int .i64 0, .int .u64 0, .slice none 0 0] 159)).alloc (.cells #[.int .u64 0, .int .i64 0, .int .u64 0, .slice none 0 0] 159)).drew) ?_; clear hK K; try simp only [Act.put, zmo, zmp, zmq]
     refine zaq 12 (by kernel_rfl) rfl (by kernel_rfl) (fun K hK => ?_); go_simp; refine hK.out _ _ (HC.out _ ((aW.out.alloc (.cells #[.int .u64 ref, .int .i64 tt, .int .u64 vv, .slice xA xn xc] 159)).alloc (.cells #[.int .u64 0, .int .i64 0, .int .u64 0, .slice none 0 0] 159)).drew) ?_; clear hK K; try simp only [Act.put, zmo, zmp, zmq]
     refine zay 13 (by kernel_rfl) rfl (by kernel_rfl) (by kernel_rfl) (fun K hK => ?_); go_simp; refine hK.out _ _ ?_; clear hK K; refine zbC (by kernel_rfl) ?_ _
     have d7 : Blk (((wr.alloc (.cells #[.int .u64 ref, .int .i64 tt, .int .u64 vv, .slice xA xn xc] 159)).alloc (.cells #[.int .u64 ref, .int .i64 tt, .int .u64 vv, .slice yA yn yc] 159)).drew) (wr.heap.size) 159 #[.int .u64 ref, .int .i64 tt, .int .u64 vv, .slice xA xn xc] := ((znr wr 159 #[.int .u64 ref, .int .i64 tt, .int .u64 vv, .slice xA xn xc]).alloc (.cells #[.int .u64 ref, .int .i64 tt, .int .u64 vv, .slice yA yn yc] 159)).drew
     have d8 : Blk (((wr.alloc (.cells #[.int .u64 ref, .int .i64 tt, .int .u64 vv, .slice xA xn xc] 159)).alloc (.cells #[.int .u64 ref, .int .i64 tt, .int .u64 vv, .slice yA yn yc] 159)).drew) (wr.heap.size + 1) 159 #[.int .u64 ref, .int .i64 tt, .int .u64 vv, .slice yA yn yc] := (zaK wr (.cells #[.int .u64 ref, .int .i64 tt, .int .u64 vv, .slice xA xn xc] 159) 159 #[.int .u64 ref, .int .i64 tt, .int .u64 vv, .slice yA yn yc]).drew
     have rR : Fr (fun _ => False) W (((wr.alloc (.cells #[.int .u64 ref, .int .i64 tt, .int .u64 vv, .slice xA xn xc] 159)).alloc (.cells #[.int .u64 ref, .int .i64 tt, .int .u64 vv, .slice yA yn yc] 159)).drew) := ((aW.out.alloc (.cells #[.int .u64 ref, .int .i64 tt, .int .u64 vv, .slice xA xn xc] 159)).alloc (.cells #[.int .u64 ref, .int .i64 tt, .int .u64 vv, .slice yA yn yc] 159)).drew
     generalize ((wr.alloc (.cells #[.int .u64 ref, .int .i64 tt, .int .u64 vv, .slice xA xn xc] 159)).alloc (.cells #[.int .u64 ref, .int .i64 tt, .int .u64 vv, .slice yA yn yc] 159)).drew = V at d7 d8 rR ⊢; generalize wr.heap.size + 1 = a8 at d8 ⊢; generalize wr.heap.size = a7 at d7 ⊢
     rotate_left
     go_simp; refine hK.out _ _ (HC.out _ (aW.out.alloc (.cells #[.int .u64 0, .int .i64 0, .int .u64 0, .slice none 0 0] 159)).drew) ?_; clear hK K; try simp only [Act.put, zmo, zmp, zmq]
     refine zaq 10 (by kernel_rfl) rfl (by kernel_rfl) (fun K hK => ?_); go_simp; refine hK.out _ _ (HC.out _ ((aW.out.alloc (.cells #[.int .u64 0, .int .i64 0, .int .u64 0, .slice none 0 0] 159)).alloc (.cells #[.int .u64 0, .int .i64 0, .int .u64 0, .slice none 0 0] 159)).drew) ?_; clear hK K; try simp only [Act.put, zmo, zmp, zmq]
     refine zaq 12 (by kernel_rfl) rfl (by kernel_rfl) (fun K hK => ?_); go_simp; refine hK.out _ _ (HC.out _ ((aW.out.alloc (.cells #[.int .u64 0, .int .i64 0, .int .u64 0, .slice none 0 0] 159)).alloc (.cells #[.int .u64 ref, .int .i64 tt, .int .u64 vv, .slice xA xn xc] 159)).drew) ?_; clear hK K; try simp only [Act.put, zmo, zmp, zmq]
     refine zay 13 (by kernel_rfl) rfl (by kernel_rfl) (by kernel_rfl) (fun K hK => ?_); go_simp; refine hK.out _ _ ?_; clear hK K; refine zbC (by kernel_rfl) ?_ _
     have d7 : Blk (((wr.alloc (.cells #[.int .u64 ref, .int .i64 tt, .int .u64 vv, .slice yA yn yc] 159)).alloc (.cells #[.int .u64 ref, .int .i64 tt, .int .u64 vv, .slice xA xn xc] 159)).drew) (wr.heap.size + 1) 159 #[.int .u64 ref, .int .i64 tt, .int .u64 vv, .slice xA xn xc] := (zaK wr (.cells #[.int .u64 ref, .int .i64 tt, .int .u64 vv, .slice yA yn yc] 159) 159 #[.int .u64 ref, .int .i64 tt, .int .u64 vv, .slice xA xn xc]).drew
     have d8 : Blk (((wr.alloc (.cells #[.int .u64 ref, .int .i64 tt, .int .u64 vv, .slice yA yn yc] 159)).alloc (.cells #[.int .u64 ref, .int .i64 tt, .int .u64 vv, .slice xA xn xc] 159)).drew) (wr.heap.size) 159 #[.int .u64 ref, .int .i64 tt, .int .u64 vv, .slice yA yn yc] := ((znr wr 159 #[.int .u64 ref, .int .i64 tt, .int .u64 vv, .slice yA yn yc]).alloc (.cells #[.int .u64 ref, .int .i64 tt, .int .u64 vv, .slice xA xn xc] 159)).drew
     have rR : Fr (fun _ => False) W (((wr.alloc (.cells #[.int .u64 ref, .int .i64 tt, .int .u64 vv, .slice yA yn yc] 159)).alloc (.cells #[.int .u64 ref, .int .i64 tt, .int .u64 vv, .slice xA xn xc] 159)).drew) := ((aW.out.alloc (.cells #[.int .u64 ref, .int .i64 tt, .int .u64 vv, .slice yA yn yc] 159)).alloc (.cells #[.int .u64 ref, .int .i64 tt, .int .u64 vv, .slice xA xn xc] 159)).drew
     generalize ((wr.alloc (.cells #[.int .u64 ref, .int .i64 tt, .int .u64 vv, .slice yA yn yc] 159)).alloc (.cells #[.int .u64 ref, .int .i64 tt, .int .u64 vv, .slice xA xn xc] 159)).drew = V at d7 d8 rR ⊢; generalize wr.heap.size + 1 = a7 at d7 ⊢; generalize wr.heap.size = a8 at d8 ⊢; all_goals
      have B7 := zmk d7; have B8 := zmk d8; have FV := zmk rR; clear d7 d8 rR FD HC
      have lJ : Hid (∀ w', Fr (fun _ => False) V w' -> (w'.cell? ⟨a7, 0, none⟩ = some (.int .u64 ref) /\ w'.cell? ⟨a7, 1, none⟩ = some (.int .i64 tt) /\ w'.cell? ⟨a7, 2, none⟩ = some (.int .u64 vv) /\ w'.cell? ⟨a7, 3, none⟩ = some (.slice xA xn xc) /\ w'.cell? ⟨a8, 0, none⟩ = some (.int .u64 ref) /\ w'.cell? ⟨a8, 1, none⟩ = some (.int .i64 tt) /\ w'.cell? ⟨a8, 2, none⟩ = some (.int .u64 vv) /\ w'.cell? ⟨a8, 3, none⟩ = some (.slice yA yn yc))) := zmk (fun w' hF => ⟨(B7.out.fr hF (fun e => e)).cell 0, (B7.out.fr hF (fun e => e)).cell 1, (B7.out.fr hF (fun e => e)).cell 2, (B7.out.fr hF (fun e => e)).cell 3, (B8.out.fr hF (fun e => e)).cell 0, (B8.out.fr hF (fun e => e)).cell 1, (B8.out.fr hF (fun e => e)).cell 2, (B8.out.fr hF (fun e => e)).cell 3⟩)
      have FD : Hid (Fr (fun _ => False) V V.drew) := zmk (znq _ V).drew; go_wp2
      refine zaT (fun w' => w'.cell? ⟨a7, 0, none⟩ = some (.int .u64 ref) /\ w'.cell? ⟨a7, 1, none⟩ = some (.int .i64 tt) /\ w'.cell? ⟨a7, 2, none⟩ = some (.int .u64 vv) /\ w'.cell? ⟨a7, 3, none⟩ = some (.slice xA xn xc) /\ w'.cell? ⟨a8, 0, none⟩ = some (.int .u64 ref) /\ w'.cell? ⟨a8, 1, none⟩ = some (.int .i64 tt) /\ w'.cell? ⟨a8, 2, none⟩ = some (.int .u64 vv) /\ w'.cell? ⟨a8, 3, none⟩ = some (.slice yA yn yc)) 28 (by kernel_rfl) (lJ.out _ FD.out) ?_
      intro hS; refine wpT 0 (.pointer (some ⟨a7, 0, none⟩)) rfl (by intro w; go_simp) hS ?_; try simp only [Act.put, zmo, zmp, zmq]
      refine wpT 2 (.pointer (some ⟨a8, 0, none⟩)) rfl (by intro w; go_simp) hS ?_; try simp only [Act.put, zmo, zmp, zmq]
      refine wpL 1 [4, 5, 11, 12, 18, 19, 28] (.int .u64 ref) rfl (by rintro w ⟨h1, h2, h3, h4, h5, h6, h7, h8⟩; go_simp) hS ?_; try simp only [Act.put, zmo, zmp, zmq]
      refine wpL 3 [4, 5, 11, 12, 18, 19, 28] (.int .u64 ref) rfl (by rintro w ⟨h1, h2, h3, h4, h5, h6, h7, h8⟩; go_simp) hS ?_; try simp only [Act.put, zmo, zmp, zmq]
      refine wpT 4 (.bool false) rfl (by intro w; go_simp) hS ?_; try simp only [Act.put, zmo, zmp, zmq]
      refine wpT 5 (.bool false) rfl (by intro w; go_simp) hS ?_; try simp only [Act.put, zmo, zmp, zmq]
      refine wpT 6 (.pointer (some ⟨a7, 1, none⟩)) rfl (by intro w; go_simp) hS ?_; try simp only [Act.put, zmo, zmp, zmq]
      refine wpT 8 (.pointer (some ⟨a8, 1, none⟩)) rfl (by intro w; go_simp) hS ?_; try simp only [Act.put, zmo, zmp, zmq]
      refine wpL 7 [10, 11, 12, 18, 19, 28] (.int .i64 tt) rfl (by rintro w ⟨h1, h2, h3, h4, h5, h6, h7, h8⟩; go_simp) hS ?_; try simp only [Act.put, zmo, zmp, zmq]
      refine wpL 9 [10, 11, 12, 18, 19, 28] (.int .i64 tt) rfl (by rintro w ⟨h1, h2, h3, h4, h5, h6, h7, h8⟩; go_simp) hS ?_; try simp only [Act.put, zmo, zmp, zmq]
      refine wpT 10 (.bool false) rfl (by intro w; go_simp) hS ?_; try simp only [Act.put, zmo, zmp, zmq]
      refine wpT 11 (.bool false) rfl (by intro w; go_simp) hS ?_; try simp only [Act.put, zmo, zmp, zmq]
      refine wpT 12 (.bool false) rfl (by intro w; go_simp) hS ?_; try simp only [Act.put, zmo, zmp, zmq]
      refine wpT 13 (.pointer (some ⟨a7, 2, none⟩)) rfl (by intro w; go_simp) hS ?_; try simp only [Act.put, zmo, zmp, zmq]
      refine wpT 15 (.pointer (some ⟨a8, 2, none⟩)) rfl (by intro w; go_simp) hS ?_; try simp only [Act.put, zmo, zmp, zmq]
      refine wpL 14 [17, 18, 19, 28] (.int .u64 vv) rfl (by rintro w ⟨h1, h2, h3, h4, h5, h6, h7, h8⟩; go_simp) hS ?_; try simp only [Act.put, zmo, zmp, zmq]
      refine wpL 16 [17, 18, 19, 28] (.int .u64 vv) rfl (by rintro w ⟨h1, h2, h3, h4, h5, h6, h7, h8⟩; go_simp) hS ?_; try simp only [Act.put, zmo, zmp, zmq]
      refine wpT 17 (.bool false) rfl (by intro w; go_simp) hS ?_; try simp only [Act.put, zmo, zmp, zmq]
      refine wpT 18 (.bool false) rfl (by intro w; go_simp) hS ?_; try simp only [Act.put, zmo, zmp, zmq]
      refine wpT 19 (.bool false) rfl (by intro w; go_simp) hS ?_; try simp only [Act.put, zmo, zmp, zmq]
      refine wpT 20 (.pointer (some ⟨a7, 3, none⟩)) rfl (by intro w; go_simp) hS ?_; try simp only [Act.put, zmo, zmp, zmq]
      refine wpT 23 (.pointer (some ⟨a8, 3, none⟩)) rfl (by intro w; go_simp) hS ?_; try simp only [Act.put, zmo, zmp, zmq]
      refine wpL 21 [22, 26, 27, 28] (.slice xA xn xc) rfl (by rintro w ⟨h1, h2, h3, h4, h5, h6, h7, h8⟩; go_simp) hS ?_; try simp only [Act.put, zmo, zmp, zmq]
      refine wpL 24 [25, 26, 27, 28] (.slice yA yn yc) rfl (by rintro w ⟨h1, h2, h3, h4, h5, h6, h7, h8⟩; go_simp) hS ?_; try simp only [Act.put, zmo, zmp, zmq]
      clear hS; refine zaq 22 (by kernel_rfl) rfl (by kernel_rfl) (fun K hK => ?_); go_simp; go_at_call 24
      refine (qQ.out _ (FV.out.same FD.out)).mono ?_; rintro rA wA ⟨v1, rfl, px, iz⟩; have FA := zmk (FD.out.same iz); have SA := zmk (znt px).yes; have GA := zmk iz; refine hK.out _ _ (lJ.out _ FA.out) ?_; clear hK K px iz; try simp only [Act.put, zmo, zmp, zmq]
      refine zaq 25 (by kernel_rfl) rfl (by kernel_rfl) (fun K hK => ?_); go_simp; go_at_call 24
      refine (qN.out _ (FV.out.same FA.out)).mono ?_; rintro rB wB ⟨v2, rfl, pw, nh⟩; have FB := zmk (FA.out.same nh); have SB := zmk (znt pw).yes; have GB := zmk nh; refine hK.out _ _ (lJ.out _ FB.out) ?_; clear hK K pw nh; try simp only [Act.put, zmo, zmp, zmq]
      refine zaq 26 (by kernel_rfl) rfl (by kernel_rfl) (fun K hK => ?_); go_simp; go_at_call 25
      refine (jR.out _ _ _ (SA.out.fr GB.out (fun _ _ e => e)) SB.out).mono ?_; rintro r9 w9 ⟨rfl, dY⟩; have F9 := zmk (FB.out.same dY); refine hK.out _ _ (lJ.out _ F9.out) ?_; clear hK K dY; try simp only [Act.put, zmo, zmp, zmq]
      refine zaq 27 (by kernel_rfl) rfl (by kernel_rfl) (fun K hK => ?_); go_simp; refine hK.out _ _ (lJ.out _ F9.out) ?_; clear hK K; try simp only [Act.put, zmo, zmp, zmq]
      refine zay 28 (by kernel_rfl) rfl (by kernel_rfl) (by kernel_rfl) (fun K hK => ?_); go_simp; refine hK.out _ _ ?_; clear hK K; refine zbC (by kernel_rfl) ?_ _; go_wp2; go_roundw
      case rel => exact ⟨k2 + 1, by omega, by go_num, zmk (FV.out.same F9.out)⟩
      case measure => simp [intOf]; omega
    ·go_wp2_with (go_at_call 101; refine (H1.out _ (HF.out.same aW.out)).mono ?_; rintro r W1 ⟨rfl, hf⟩; refine Hid.out ?_)
     have F1 := zmk (aW.out.same hf); clear hf p0 p1 p2 p3 p4 p5 p6 q0 q1 q2 q3 q4 q5 q6; obtain ⟨p0, p1, p2, p3, p4, p5, p6⟩ := zah (HP.out.fr F1.out (fun e => e)); obtain ⟨q0, q1, q2, q3, q4, q5, q6⟩ := zah (HQ.out.fr F1.out (fun e => e)); refine zmk ?_; go_wp2_with (go_at_call 102; refine (H2.out _ (HF.out.same F1.out)).mono ?_; rintro r W2 ⟨rfl, hf⟩; refine Hid.out ?_)
     have F2 := zmk (F1.out.same hf); clear hf p0 p1 p2 p3 p4 p5 p6 q0 q1 q2 q3 q4 q5 q6; obtain ⟨p0, p1, p2, p3, p4, p5, p6⟩ := zah (HP.out.fr F2.out (fun e => e)); obtain ⟨q0, q1, q2, q3, q4, q5, q6⟩ := zah (HQ.out.fr F2.out (fun e => e)); refine zmk ?_; go_wp2_with (go_at_call 103; refine (H4.out _ (HF.out.same F2.out)).mono ?_; rintro r W3 ⟨rfl, hf⟩; refine Hid.out ?_)
     have F3 := zmk (F2.out.same hf); clear hf p0 p1 p2 p3 p4 p5 p6 q0 q1 q2 q3 q4 q5 q6; obtain ⟨p0, p1, p2, p3, p4, p5, p6⟩ := zah (HP.out.fr F3.out (fun e => e)); obtain ⟨q0, q1, q2, q3, q4, q5, q6⟩ := zah (HQ.out.fr F3.out (fun e => e)); refine zmk ?_; go_wp2_with (go_at_call 104; refine (H5.out _ (HF.out.same F3.out)).mono ?_; rintro r W4 ⟨rfl, hf⟩; refine Hid.out ?_)
     have F4 := zmk (F3.out.same hf); clear hf p0 p1 p2 p3 p4 p5 p6 q0 q1 q2 q3 q4 q5 q6; obtain ⟨p0, p1, p2, p3, p4, p5, p6⟩ := zah (HP.out.fr F4.out (fun e => e)); obtain ⟨q0, q1, q2, q3, q4, q5, q6⟩ := zah (HQ.out.fr F4.out (fun e => e)); refine zmk ?_; go_wp2_with (go_at_call 37; refine (H6.out _ (HF.out.same F4.out)).mono ?_; rintro r W5 ⟨rfl, hf⟩; refine Hid.out ?_)
     have F5 := zmk (F4.out.same hf); clear hf p0 p1 p2 p3 p4 p5 p6 q0 q1 q2 q3 q4 q5 q6; refine zmk ?_; go_wp2; go_ret; exact ⟨rfl, HF.out.same F5.out⟩
def SameD (D E : Dat) : Prop := D.ser.map tos = E.ser.map tos /\ D.smp = E.smp /\ D.sto = E.sto /\ D.exm.map toe = E.exm.map toe /\ D.mta = E.mta /\ D.mrk = E.mrk /\ D.his = E.his
structure SmallD (D : Dat) : Prop where
 ser : D.ser.length <= 1048576 /\ ∀ s ∈ D.ser, s.labs.length <= 1048576
 smp : D.smp.length <= 1099511627776
 sto : D.sto.length <= 1099511627776 /\ ∀ s ∈ D.sto, s.ivs.length <= 1099511627776
 exm : D.exm.length <= 1048576 /\ ∀ s ∈ D.exm, s.labs.length <= 1048576
 mta : D.mta.length <= 1099511627776
 mrk : D.mrk.length <= 1099511627776
 his : D.his.length <= 1099511627776 /\ ∀ s ∈ D.his, s.h.few 1099511627776
theorem zaZ {D E : Dat} {ps qs : Array Value} {w : World} (h1 : RP D ps w) (h2 : RP E qs w) (hs : SameD D E) (hD : SmallD D) (hE : SmallD E) : Calls prog 32 #[.agg ps, .agg qs] w (zap w) := by
 obtain ⟨q, s0, s1, s2, s3, s4, s5, s6, rfl, rfl, hq⟩ := h1; obtain ⟨q', t0, t1, t2, t3, t4, t5, t6, rfl, rfl, dD⟩ := h2; obtain ⟨e0, e1, e2, e3, e4, e5, e6⟩ := hs; have e0 : (q.ser.map Prod.fst).map tos = (q'.ser.map Prod.fst).map tos := e0; have e1 : q.smp = q'.smp := e1; have e2 : q.sto.map Prod.fst = q'.sto.map Prod.fst := e2
 have e3 : (q.exm.map Prod.fst).map toe = (q'.exm.map Prod.fst).map toe := e3; have e4 : q.mta = q'.mta := e4; have e5 : q.mrk = q'.mrk := e5; have e6 : q.his.map Prod.fst = q'.his.map Prod.fst := e6; have l0 : q'.ser.length = q.ser.length := by have := znb List.length e0; simp only [zmI] at this; exact this.symm
 have l3 : q'.exm.length = q.exm.length := by have := znb List.length e3; simp only [zmI] at this; exact this.symm
 have y1 : Sl Yes w t1 3 q.smp.length (q.smp.flatMap Smp.a) := by rw [e1]; exact dD.smp
 have y4 : Sl Yes w t4 4 q.mta.length (q.mta.flatMap Mta.c) := by rw [e4]; exact dD.mta
 have y5 : Sl Yes w t5 2 q.mrk.length (q.mrk.flatMap Mrk.c) := by rw [e5]; exact dD.mrk
 have n0 : q.ser.length <= 1048576 := by have := hD.ser.1; simpa [Prt.dat] using this
 have n3 : q.exm.length <= 1048576 := by have := hD.exm.1; simpa [Prt.dat] using this
 have n2 : q.sto.length <= 1099511627776 := by have := hD.sto.1; simpa [Prt.dat] using this
 have n6 : q.his.length <= 1099511627776 := by have := hD.his.1; simpa [Prt.dat] using this
 have C1 := fun (W : World) (hF : Fr (fun _ => False) w W) => zgu Yes Yes s1 t1 q.smp W (hq.smp.fr hF (fun _ _ e => e)) (y1.fr hF (fun _ _ e => e)) hD.smp; have C2 := fun (W : World) (hF : Fr (fun _ => False) w W) => zj7 Yes Yes s2 t2 q.sto q'.sto W (hq.sto.fr hF (fun _ _ e => e)) (dD.sto.fr hF (fun _ _ e => e)) e2 n2 (fun p hp => hD.sto.2 p.1 (zmQ.2 ⟨p, hp, rfl⟩))
 have C4 := fun (W : World) (hF : Fr (fun _ => False) w W) => zj5 Yes Yes s4 t4 q.mta W (hq.mta.fr hF (fun _ _ e => e)) (y4.fr hF (fun _ _ e => e)) hD.mta; have C5 := fun (W : World) (hF : Fr (fun _ => False) w W) => zj3 Yes Yes s5 t5 q.mrk W (hq.mrk.fr hF (fun _ _ e => e)) (y5.fr hF (fun _ _ e => e)) hD.mrk
 have C6 := fun (W : World) (hF : Fr (fun _ => False) w W) => zll Yes Yes s6 t6 q.his q'.his W (hq.his.fr hF (fun _ _ e => e)) (dD.his.fr hF (fun _ _ e => e)) e6 n6 (fun p hp => hD.his.2 p.1 (zmQ.2 ⟨p, hp, rfl⟩)); have z0 := hq.ser; have z3 := hq.exm; have v0 := dD.ser; have v3 := dD.exm; obtain ⟨A0, c0, rfl⟩ := hq.ser.1.shape; obtain ⟨A1, c1, rfl⟩ := hq.smp.shape
 obtain ⟨A2, c2, rfl⟩ := hq.sto.1.shape; obtain ⟨A3, c3, rfl⟩ := hq.exm.1.shape; obtain ⟨A4, c4, rfl⟩ := hq.mta.shape; obtain ⟨A5, c5, rfl⟩ := hq.mrk.shape; obtain ⟨A6, c6, rfl⟩ := hq.his.1.shape; obtain ⟨B0, d0, rfl⟩ := dD.ser.1.shape; obtain ⟨B1, d1, rfl⟩ := dD.smp.shape; obtain ⟨B2, d2, rfl⟩ := dD.sto.1.shape; obtain ⟨B3, d3, rfl⟩ := dD.exm.1.shape; obtain ⟨B4, d4, rfl⟩ := dD.mta.shape
 obtain ⟨B5, d5, rfl⟩ := dD.mrk.shape; obtain ⟨B6, d6, rfl⟩ := dD.his.1.shape; rw [l0] at v0 ⊢; rw [l3] at v3 ⊢
 exact zh6 q.ser q'.ser q.exm q'.exm A0 A1 A2 A3 A4 A5 A6 B0 B1 B2 B3 B4 B5 B6 c0 c1 c2 c3 c4 c5 c6 d0 d1 d2 d3 d4 d5 d6 _ _ _ _ _ _ _ _ _ _ _ _ w z0 v0 e0 rfl n0 (fun p hp => hD.ser.2 p.1 (zmQ.2 ⟨p, hp, rfl⟩)) (fun p hp => hE.ser.2 p.1 (zmQ.2 ⟨p, hp, rfl⟩)) z3 v3 e3 rfl n3 (fun p hp => hD.exm.2 p.1 (zmQ.2 ⟨p, hp, rfl⟩)) (fun p hp => hE.exm.2 p.1 (zmQ.2 ⟨p, hp, rfl⟩)) C1 C2 C4 C5 C6
end Go.Proofs.YtbkookiigkckdaaGreatDoor
