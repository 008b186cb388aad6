/- Texts of this seat, merged and shortened. -/
import Derived.Test.YtbkookiigkckdaaGreatDoorKC24
import Derived.StillTailTactics
set_option linter.unusedVariables false
set_option linter.unusedSimpArgs false
set_option maxRecDepth 100000
set_option maxHeartbeats 8000000
namespace Go.Proofs.YtbkookiigkckdaaGreatDoor
open Go.RowKit Go.Proofs.Tryz
theorem first_go (A0 A1 A2 A3 A4 A5 A6 : Option Addr) (n n0 n1 n2 n3 n4 n5 n6 c0 c1 c2 c3 c4 c5 c6 : Nat) (m0 m1 m2 m3 m4 m5 m6 : Nat) (e0 : min (n : Int) (n0 : Int) = (m0 : Int)) (h0 : m0 <= c0) (e1 : min (n : Int) (n1 : Int) = (m1 : Int)) (h1 : m1 <= c1) (e2 : min (n : Int) (n2 : Int) = (m2 : Int)) (h2 : m2 <= c2) (e3 : min (n : Int) (n3 : Int) = (m3 : Int)) (h3 : m3 <= c3) (e4 : min (n : Int) (n4 : Int) = (m4 : Int)) (h4 : m4 <= c4) (e5 : min (n : Int) (n5 : Int) = (m5 : Int)) (h5 : m5 <= c5) (e6 : min (n : Int) (n6 : Int) = (m6 : Int)) (h6 : m6 <= c6) (w : World) :
 Calls prog 39 #[.agg #[.slice A0 n0 c0, .slice A1 n1 c1, .slice A2 n2 c2, .slice A3 n3 c3, .slice A4 n4 c4, .slice A5 n5 c5, .slice A6 n6 c6], .int .i64 n] w (fun r w' => r = .returned (.agg #[.slice A0 m0 c0, .slice A1 m1 c1, .slice A2 m2 c2, .slice A3 m3 c3, .slice A4 m4 c4, .slice A5 m5 c5, .slice A6 m6 c6]) /\ Fr (fun _ => False) w w') := by
 go_enter func39, ntmps39; have HB := zmk (znr w 54 #[.slice A0 n0 c0, .slice A1 n1 c1, .slice A2 n2 c2, .slice A3 n3 c3, .slice A4 n4 c4, .slice A5 n5 c5, .slice A6 n6 c6]); go_wp2; have cM := zmk (HB.out.alloc (.cells #[.slice none 0 0, .slice none 0 0, .slice none 0 0, .slice none 0 0, .slice none 0 0, .slice none 0 0, .slice none 0 0] 54))
 have aW := zmk (zaK w (.cells #[.slice A0 n0 c0, .slice A1 n1 c1, .slice A2 n2 c2, .slice A3 n3 c3, .slice A4 n4 c4, .slice A5 n5 c5, .slice A6 n6 c6] 54) 54 #[.slice none 0 0, .slice none 0 0, .slice none 0 0, .slice none 0 0, .slice none 0 0, .slice none 0 0, .slice none 0 0])
 have bg := zmk (((znq (fun _ => False) w).alloc (.cells #[.slice A0 n0 c0, .slice A1 n1 c1, .slice A2 n2 c2, .slice A3 n3 c3, .slice A4 n4 c4, .slice A5 n5 c5, .slice A6 n6 c6] 54)).alloc (.cells #[.slice none 0 0, .slice none 0 0, .slice none 0 0, .slice none 0 0, .slice none 0 0, .slice none 0 0, .slice none 0 0] 54)); clear HB
 generalize (w.alloc (.cells #[.slice A0 n0 c0, .slice A1 n1 c1, .slice A2 n2 c2, .slice A3 n3 c3, .slice A4 n4 c4, .slice A5 n5 c5, .slice A6 n6 c6] 54)).alloc (.cells #[.slice none 0 0, .slice none 0 0, .slice none 0 0, .slice none 0 0, .slice none 0 0, .slice none 0 0, .slice none 0 0] 54) = W at cM aW bg ⊢; refine wp_region_still_tail 57 (by kernel_rfl) (by kernel_rfl) ?_
 have bE := zmk cM.out.drew; have aS := zmk aW.out.drew; have bx := zmk bg.out.drew; clear cM aW bg; change wpStill _ _ W.drew (fun a => wpList _ _ _ _ a W.drew) _ _; generalize W.drew = V at bE aS bx ⊢; obtain ⟨y0, y1, y2, y3, y4, y5, y6⟩ := zah bE.out; simp only [List.take_succ_cons, List.take_zero, List.drop_succ_cons, List.drop_zero]
 repeat still_step
 try refine wpStill_nil ?_
 obtain ⟨z0, z1, z2, z3, z4, z5, z6⟩ := zah aS.out; have f0 := aS.out.frozen 0; have f1 := aS.out.frozen 1; have f2 := aS.out.frozen 2; have f3 := aS.out.frozen 3; have f4 := aS.out.frozen 4; have f5 := aS.out.frozen 5; have f6 := aS.out.frozen 6; go_wp2
 have g7 := zfi (.slice A0 m0 c0) (.slice A1 m1 c1) (.slice A2 m2 c2) (.slice A3 m3 c3) (.slice A4 m4 c4) (.slice A5 m5 c5) (.slice A6 m6 c6) aS.out; have F7 := zdQ (.slice A0 m0 c0) (.slice A1 m1 c1) (.slice A2 m2 c2) (.slice A3 m3 c3) (.slice A4 m4 c4) (.slice A5 m5 c5) (.slice A6 m6 c6) bx.out (b := w.heap.size + 1) (.inr (by omega))
 generalize World.setCell (World.setCell _ _ _) ⟨w.heap.size + 1, 6, none⟩ _ = w7 at g7 F7 ⊢; obtain ⟨q0, q1, q2, q3, q4, q5, q6⟩ := zah g7; have lF := zmk F7; clear F7 g7 y0 y1 y2 y3 y4 y5 y6 z0 z1 z2 z3 z4 z5 z6 f0 f1 f2 f3 f4 f5 f6 bE aS bx; simp [Exit.then, bodyPost, results, results39, go_sem, q0, q1, q2, q3, q4, q5, q6]; exact lF.out
theorem zhK {α : Type} (f : α -> List Value) (z : Nat) (hf : ∀ x, (f x).length = z) : ∀ (l : List α) (m : Nat), (l.flatMap f).take (m * z) = (l.take m).flatMap f
 | [], m => by simp
 | x :: l, 0 => by simp
 | x :: l, m + 1 => by
   rw [zmz, List.take_succ_cons, zmz, show (m + 1) * z = (f x).length + m * z by rw [hf, Nat.succ_mul]; omega, List.take_append, <- zhK f z hf l m, zmt (by omega), Nat.add_sub_cancel_left]
theorem zjc {α : Type} (f : α -> List Value) (z : Nat) (hf : ∀ x, (f x).length = z) : ∀ l : List α, (l.flatMap f).length = l.length * z
 | [] => by simp
 | x :: l => by rw [zmz, zml, hf, zjc f z hf l, zmC, Nat.succ_mul]; omega
theorem Sl.first {P : Nat -> Prop} {w : World} {A : Option Addr} {k c z : Nat} {α : Type} {f : α -> List Value} {l : List α} (h : Sl P w (.slice A k c) z l.length (l.flatMap f)) (hf : ∀ x, (f x).length = z) (n : Nat) : Sl P w (.slice A (l.take n).length c) z (l.take n).length ((l.take n).flatMap f) /\ k = l.length /\ k <= c := by
 obtain ⟨A', c', e, hl, hc, hr⟩ := h; injection e with e1 e2 e3; subst e1 e2 e3; refine ⟨⟨A, c, rfl, ?_, by rw [zm7]; omega, fun h0 => ?_⟩, rfl, hc⟩
 ·exact zjc f z hf _
 ·rw [zm7] at h0
  obtain ⟨g, off, hA, hP, aa⟩ := hr (by omega); refine ⟨g, off, hA, hP, fun i u hu => aa i u ?_⟩; rw [<- zhK f z hf, List.getElem?_take] at hu; split at hu
  ·exact hu
  ·cases hu
theorem first_rp (D : Dat) (ps : Array Value) (n : Nat) (w : World) (h : RP D ps w) : Calls prog 39 #[.agg ps, .int .i64 n] w (fun r w' => ∃ qs, r = .returned (.agg qs) /\ RP (D.first n) qs w' /\ Fr (fun _ => False) w w') := by
 obtain ⟨A0, A1, A2, A3, A4, A5, A6, n0, n1, n2, n3, n4, n5, n6, c0, c1, c2, c3, c4, c5, c6, rfl⟩ := h.slices; obtain ⟨q, s0, s1, s2, s3, s4, s5, s6, e, rfl, hq⟩ := h; injection e with e; simp only [List.cons.injEq, and_true] at e; obtain ⟨rfl, rfl, rfl, rfl, rfl, rfl, rfl⟩ := e; obtain ⟨g0, rfl, b0⟩ := hq.ser.1.first (fun x => rfl) n
 obtain ⟨g1, rfl, b1⟩ := hq.smp.first (fun x => rfl) n
 obtain ⟨g2, rfl, b2⟩ := hq.sto.1.first (fun x => rfl) n
 obtain ⟨g3, rfl, b3⟩ := hq.exm.1.first (fun x => rfl) n
 obtain ⟨g4, rfl, b4⟩ := hq.mta.first (fun x => rfl) n
 obtain ⟨g5, rfl, b5⟩ := hq.mrk.first (fun x => rfl) n
 obtain ⟨g6, rfl, b6⟩ := hq.his.1.first (fun x => rfl) n
 refine (first_go A0 A1 A2 A3 A4 A5 A6 n _ _ _ _ _ _ _ c0 c1 c2 c3 c4 c5 c6 (q.ser.take n).length (q.smp.take n).length (q.sto.take n).length (q.exm.take n).length (q.mta.take n).length (q.mrk.take n).length (q.his.take n).length
  (by rw [zm7]; omega) (by rw [zm7]; omega) (by rw [zm7]; omega) (by rw [zm7]; omega) (by rw [zm7]; omega) (by rw [zm7]; omega) (by rw [zm7]; omega) (by rw [zm7]; omega) (by rw [zm7]; omega) (by rw [zm7]; omega) (by rw [zm7]; omega) (by rw [zm7]; omega) (by rw [zm7]; omega) (by rw [zm7]; omega) w).mono ?_
 rintro r w' ⟨rfl, hf⟩; refine ⟨_, rfl, ⟨⟨q.ser.take n, q.smp.take n, q.sto.take n, q.exm.take n, q.mta.take n, q.mrk.take n, q.his.take n⟩, _, _, _, _, _, _, _, rfl, ?_, ?_⟩, hf⟩
 ·simp [Prt.dat, Dat.first, List.map_take]
 ·have k : Prt.At Yes w ⟨q.ser.take n, q.smp.take n, q.sto.take n, q.exm.take n, q.mta.take n, q.mrk.take n, q.his.take n⟩ _ _ _ _ _ _ _ := ⟨⟨g0, fun p hp => hq.ser.2 p (zni hp)⟩, g1, ⟨g2, fun p hp => hq.sto.2 p (zni hp)⟩, ⟨g3, fun p hp => hq.exm.2 p (zni hp)⟩, g4, g5, ⟨g6, fun p hp => hq.his.2 p (zni hp)⟩⟩
  exact k.fr hf (fun _ _ e => e)
theorem zj5 (P Q : Nat -> Prop) (u v : Value) (l : List Mta) (w : World) (hu : Sl P w u 4 l.length (l.flatMap Mta.c)) (hv : Sl Q w v 4 l.length (l.flatMap Mta.c)) (hl : l.length <= 1099511627776) : Calls prog 103 #[u, v] w (zap w) := by
 obtain ⟨A, c, rfl, _, hc, hr⟩ := hu; obtain ⟨B, d, rfl, _, hd, hs⟩ := hv; obtain ⟨n, hn⟩ := exE l.length; rw [hn] at hr hs hc hd hl ⊢; have HN := zmk hn; have HR := zmk hr; have HS := zmk hs; clear hn hr hs; go_enter func103, ntmps103; go_wp2; go_loopw [5] (fun i wr => ∃ k : Nat, k <= n /\ i = .int .i64 k /\ Fr (fun _ => False) w wr) (fun i _ => n - (intOf i).toNat)
 case atStart => exact ⟨0, zmv _, rfl, znq _ _⟩
 case round =>
  obtain ⟨k, hk, rfl, hf⟩ := hrel; by_cases hlt : k < n
  ·obtain ⟨g, off, rfl, _, aa⟩ := HR.out (by omega)
   obtain ⟨g2, ap, rfl, _, al⟩ := HS.out (by omega); obtain ⟨x, hx⟩ : ∃ x, l[k]? = some x := ⟨_, zmm (by rw [HN.out]; exact hlt)⟩; have ay : ∀ {g off : Nat}, (∀ j u, (l.flatMap Mta.c)[j]? = some u -> w.cell? ⟨g, off + j, none⟩ = some u) -> ∀ j, j < 4 -> ∀ u, (Mta.c x)[j]? = some u -> wr.drew.cell? ⟨g, off + (k * 4 + j), none⟩ = some u := fun {g off} aa j hj u hu => by
    have := aa (k * 4 + j) u (by rw [zdA Mta.c (fun _ => rfl) l k x hx j hj]; exact hu); rw [hf.drew.cell (p := ⟨g, off + (k * 4 + j), none⟩) (zmr w _ this) (fun e => e)]; exact this
   have c0 : wr.drew.cell? ⟨g, off + k * 4, none⟩ = some (.int .u64 x.ref) := ay aa 0 (by omega) _ rfl; have c1 : wr.drew.cell? ⟨g, off + k * 4 + 1, none⟩ = some (.int .u8 x.ty.toNat) := ay aa 1 (by omega) _ rfl; have c2 : wr.drew.cell? ⟨g, off + k * 4 + 2, none⟩ = some (.string x.unit) := ay aa 2 (by omega) _ rfl
   have c3 : wr.drew.cell? ⟨g, off + k * 4 + 3, none⟩ = some (.string x.help) := ay aa 3 (by omega) _ rfl; have d0 : wr.drew.cell? ⟨g2, ap + k * 4, none⟩ = some (.int .u64 x.ref) := ay al 0 (by omega) _ rfl; have d1 : wr.drew.cell? ⟨g2, ap + k * 4 + 1, none⟩ = some (.int .u8 x.ty.toNat) := ay al 1 (by omega) _ rfl
   have d2 : wr.drew.cell? ⟨g2, ap + k * 4 + 2, none⟩ = some (.string x.unit) := ay al 2 (by omega) _ rfl; have d3 : wr.drew.cell? ⟨g2, ap + k * 4 + 3, none⟩ = some (.string x.help) := ay al 3 (by omega) _ rfl; have ar := zmk hf.drew; clear aa al ay hf hx; go_wp2; go_region; go_wp2; go_roundw
   case rel => exact ⟨k + 1, by omega, by go_num, ar.out⟩
   case measure => simp [intOf]; omega
  ·obtain rfl : k = n := by omega
   go_wp2; go_ret; exact ⟨rfl, hf⟩
theorem zgt (P Q : Nat -> Prop) (u v : Value) (l : List (Int × Nat)) (w : World) (hu : Sl P w u 2 l.length (l.flatMap spc)) (hv : Sl Q w v 2 l.length (l.flatMap spc)) (hl : l.length <= 1099511627776) : Calls prog 198 #[u, v] w (zap w) := by
 obtain ⟨A, c, rfl, _, hc, hr⟩ := hu; obtain ⟨B, d, rfl, _, hd, hs⟩ := hv; obtain ⟨n, hn⟩ := exE l.length; rw [hn] at hr hs hc hd hl ⊢; have HN := zmk hn; have HR := zmk hr; have HS := zmk hs; clear hn hr hs; go_enter func198, ntmps198; go_wp2; go_loopw [5] (fun i wr => ∃ k : Nat, k <= n /\ i = .int .i64 k /\ Fr (fun _ => False) w wr) (fun i _ => n - (intOf i).toNat)
 case atStart => exact ⟨0, zmv _, rfl, znq _ _⟩
 case round =>
  obtain ⟨k, hk, rfl, hf⟩ := hrel; by_cases hlt : k < n
  ·obtain ⟨g, off, rfl, _, aa⟩ := HR.out (by omega)
   obtain ⟨g2, ap, rfl, _, al⟩ := HS.out (by omega); obtain ⟨x, hx⟩ : ∃ x, l[k]? = some x := ⟨_, zmm (by rw [HN.out]; exact hlt)⟩; have ay : ∀ {g off : Nat}, (∀ j u, (l.flatMap spc)[j]? = some u -> w.cell? ⟨g, off + j, none⟩ = some u) -> ∀ j, j < 2 -> ∀ u, (spc x)[j]? = some u -> wr.drew.cell? ⟨g, off + (k * 2 + j), none⟩ = some u := fun {g off} aa j hj u hu => by
    have := aa (k * 2 + j) u (by rw [zbE spc (fun _ => rfl) l k x hx j hj]; exact hu); rw [hf.drew.cell (p := ⟨g, off + (k * 2 + j), none⟩) (zmr w _ this) (fun e => e)]; exact this
   have c0 : wr.drew.cell? ⟨g, off + k * 2, none⟩ = some (.int .i32 x.1) := ay aa 0 (by omega) _ rfl; have c1 : wr.drew.cell? ⟨g, off + k * 2 + 1, none⟩ = some (.int .u32 x.2) := ay aa 1 (by omega) _ rfl; have d0 : wr.drew.cell? ⟨g2, ap + k * 2, none⟩ = some (.int .i32 x.1) := ay al 0 (by omega) _ rfl
   have d1 : wr.drew.cell? ⟨g2, ap + k * 2 + 1, none⟩ = some (.int .u32 x.2) := ay al 1 (by omega) _ rfl; have ar := zmk hf.drew; clear aa al ay hf hx; go_wp2; go_region; go_wp2; go_roundw
   case rel => exact ⟨k + 1, by omega, by go_num, ar.out⟩
   case measure => simp [intOf]; omega
  ·obtain rfl : k = n := by omega
   go_wp2; go_ret; exact ⟨rfl, hf⟩
theorem zgs (P Q : Nat -> Prop) (u v : Value) (l : List Int) (w : World) (hu : Sl P w u 1 l.length (l.flatMap i1)) (hv : Sl Q w v 1 l.length (l.flatMap i1)) (hl : l.length <= 1099511627776) : Calls prog 199 #[u, v] w (zap w) := by
 obtain ⟨A, c, rfl, _, hc, hr⟩ := hu; obtain ⟨B, d, rfl, _, hd, hs⟩ := hv; obtain ⟨n, hn⟩ := exE l.length; rw [hn] at hr hs hc hd hl ⊢; have HN := zmk hn; have HR := zmk hr; have HS := zmk hs; clear hn hr hs; go_enter func199, ntmps199; go_wp2; go_loopw [5] (fun i wr => ∃ k : Nat, k <= n /\ i = .int .i64 k /\ Fr (fun _ => False) w wr) (fun i _ => n - (intOf i).toNat)
 case atStart => exact ⟨0, zmv _, rfl, znq _ _⟩
 case round =>
  obtain ⟨k, hk, rfl, hf⟩ := hrel; by_cases hlt : k < n
  ·obtain ⟨g, off, rfl, _, aa⟩ := HR.out (by omega)
   obtain ⟨g2, ap, rfl, _, al⟩ := HS.out (by omega); obtain ⟨x, hx⟩ : ∃ x, l[k]? = some x := ⟨_, zmm (by rw [HN.out]; exact hlt)⟩; have ay : ∀ {g off : Nat}, (∀ j u, (l.flatMap i1)[j]? = some u -> w.cell? ⟨g, off + j, none⟩ = some u) -> ∀ j, j < 1 -> ∀ u, (i1 x)[j]? = some u -> wr.drew.cell? ⟨g, off + (k * 1 + j), none⟩ = some u := fun {g off} aa j hj u hu => by
    have := aa (k * 1 + j) u (by rw [zgS 1 i1 (fun _ => rfl) l k x hx j hj]; exact hu); rw [hf.drew.cell (p := ⟨g, off + (k * 1 + j), none⟩) (zmr w _ this) (fun e => e)]; exact this
   have c0 : wr.drew.cell? ⟨g, off + k, none⟩ = some (.int .i64 x) := by have := ay aa 0 (by omega) _ rfl; simpa using this
   have d0 : wr.drew.cell? ⟨g2, ap + k, none⟩ = some (.int .i64 x) := by have := ay al 0 (by omega) _ rfl; simpa using this
   have ar := zmk hf.drew; clear aa al ay hf hx; go_wp2; go_region; go_wp2; go_roundw
   case rel => exact ⟨k + 1, by omega, by go_num, ar.out⟩
   case measure => simp [intOf]; omega
  ·obtain rfl : k = n := by omega
   go_wp2; go_ret; exact ⟨rfl, hf⟩
theorem zeM (P Q : Nat -> Prop) (u v : Value) (l : List Nat) (w : World) (hu : Sl P w u 1 l.length (l.flatMap u1)) (hv : Sl Q w v 1 l.length (l.flatMap u1)) (hl : l.length <= 1099511627776) : Calls prog 200 #[u, v] w (zap w) := by
 obtain ⟨A, c, rfl, _, hc, hr⟩ := hu; obtain ⟨B, d, rfl, _, hd, hs⟩ := hv; obtain ⟨n, hn⟩ := exE l.length; rw [hn] at hr hs hc hd hl ⊢; have HN := zmk hn; have HR := zmk hr; have HS := zmk hs; clear hn hr hs; go_enter func200, ntmps200; go_wp2; go_loopw [5] (fun i wr => ∃ k : Nat, k <= n /\ i = .int .i64 k /\ Fr (fun _ => False) w wr) (fun i _ => n - (intOf i).toNat)
 case atStart => exact ⟨0, zmv _, rfl, znq _ _⟩
 case round =>
  obtain ⟨k, hk, rfl, hf⟩ := hrel; by_cases hlt : k < n
  ·obtain ⟨g, off, rfl, _, aa⟩ := HR.out (by omega)
   obtain ⟨g2, ap, rfl, _, al⟩ := HS.out (by omega); obtain ⟨x, hx⟩ : ∃ x, l[k]? = some x := ⟨_, zmm (by rw [HN.out]; exact hlt)⟩; have ay : ∀ {g off : Nat}, (∀ j u, (l.flatMap u1)[j]? = some u -> w.cell? ⟨g, off + j, none⟩ = some u) -> ∀ j, j < 1 -> ∀ u, (u1 x)[j]? = some u -> wr.drew.cell? ⟨g, off + (k * 1 + j), none⟩ = some u := fun {g off} aa j hj u hu => by
    have := aa (k * 1 + j) u (by rw [zgS 1 u1 (fun _ => rfl) l k x hx j hj]; exact hu); rw [hf.drew.cell (p := ⟨g, off + (k * 1 + j), none⟩) (zmr w _ this) (fun e => e)]; exact this
   have c0 : wr.drew.cell? ⟨g, off + k, none⟩ = some (.int .u64 x) := by have := ay aa 0 (by omega) _ rfl; simpa using this
   have d0 : wr.drew.cell? ⟨g2, ap + k, none⟩ = some (.int .u64 x) := by have := ay al 0 (by omega) _ rfl; simpa using this
   have ar := zmk hf.drew; clear aa al ay hf hx; go_wp2; go_region; go_wp2; go_roundw
   case rel => exact ⟨k + 1, by omega, by go_num, ar.out⟩
   case measure => simp [intOf]; omega
  ·obtain rfl : k = n := by omega
   go_wp2; go_ret; exact ⟨rfl, hf⟩
theorem zj0 (hint : UInt8) (schema : Int) (thr sum zc cnt : Nat) (A1 A2 A3 A4 A5 A6 A7 B1 B2 B3 B4 B5 B6 B7 : Option Addr) (n1 n2 n3 n4 n5 n6 n7 c1 c2 c3 c4 c5 c6 c7 d1 d2 d3 d4 d5 d6 d7 : Nat) (w : World)
 (h1 : ∀ W, Fr (fun _ => False) w W -> Calls prog 198 #[.slice A1 n1 c1, .slice B1 n1 d1] W (zap W))
 (h2 : ∀ W, Fr (fun _ => False) w W -> Calls prog 198 #[.slice A2 n2 c2, .slice B2 n2 d2] W (zap W))
 (h3 : ∀ W, Fr (fun _ => False) w W -> Calls prog 199 #[.slice A3 n3 c3, .slice B3 n3 d3] W (zap W))
 (h4 : ∀ W, Fr (fun _ => False) w W -> Calls prog 199 #[.slice A4 n4 c4, .slice B4 n4 d4] W (zap W))
 (h5 : ∀ W, Fr (fun _ => False) w W -> Calls prog 200 #[.slice A5 n5 c5, .slice B5 n5 d5] W (zap W))
 (h6 : ∀ W, Fr (fun _ => False) w W -> Calls prog 200 #[.slice A6 n6 c6, .slice B6 n6 d6] W (zap W))
 (h7 : ∀ W, Fr (fun _ => False) w W -> Calls prog 200 #[.slice A7 n7 c7, .slice B7 n7 d7] W (zap W)) :
 Calls prog 111 #[.agg #[.int .u8 hint.toNat, .int .i32 schema, .int .u64 thr, .int .u64 sum, .int .u64 zc, .int .u64 cnt, .slice A1 n1 c1, .slice A2 n2 c2, .slice A3 n3 c3, .slice A4 n4 c4, .slice A5 n5 c5, .slice A6 n6 c6, .slice A7 n7 c7], .agg #[.int .u8 hint.toNat, .int .i32 schema, .int .u64 thr, .int .u64 sum, .int .u64 zc, .int .u64 cnt, .slice B1 n1 d1, .slice B2 n2 d2, .slice B3 n3 d3, .slice B4 n4 d4, .slice B5 n5 d5, .slice B6 n6 d6, .slice B7 n7 d7]] w (zap w) := by
 have H1 := zmk h1; have H2 := zmk h2; have H3 := zmk h3; have H4 := zmk h4; have H5 := zmk h5; have H6 := zmk h6; have H7 := zmk h7; clear h1 h2 h3 h4 h5 h6 h7; go_enter func111, ntmps111
 have P0 := zmk ((znr w 192 #[.int .u8 hint.toNat, .int .i32 schema, .int .u64 thr, .int .u64 sum, .int .u64 zc, .int .u64 cnt, .slice A1 n1 c1, .slice A2 n2 c2, .slice A3 n3 c3, .slice A4 n4 c4, .slice A5 n5 c5, .slice A6 n6 c6, .slice A7 n7 c7]).alloc (.cells #[.int .u8 hint.toNat, .int .i32 schema, .int .u64 thr, .int .u64 sum, .int .u64 zc, .int .u64 cnt, .slice B1 n1 d1, .slice B2 n2 d2, .slice B3 n3 d3, .slice B4 n4 d4, .slice B5 n5 d5, .slice B6 n6 d6, .slice B7 n7 d7] 192))
 have Q0 := zmk (zaK w (.cells #[.int .u8 hint.toNat, .int .i32 schema, .int .u64 thr, .int .u64 sum, .int .u64 zc, .int .u64 cnt, .slice A1 n1 c1, .slice A2 n2 c2, .slice A3 n3 c3, .slice A4 n4 c4, .slice A5 n5 c5, .slice A6 n6 c6, .slice A7 n7 c7] 192) 192 #[.int .u8 hint.toNat, .int .i32 schema, .int .u64 thr, .int .u64 sum, .int .u64 zc, .int .u64 cnt, .slice B1 n1 d1, .slice B2 n2 d2, .slice B3 n3 d3, .slice B4 n4 d4, .slice B5 n5 d5, .slice B6 n6 d6, .slice B7 n7 d7])
 have F0 := zmk (((znq (fun _ => False) w).alloc (.cells #[.int .u8 hint.toNat, .int .i32 schema, .int .u64 thr, .int .u64 sum, .int .u64 zc, .int .u64 cnt, .slice A1 n1 c1, .slice A2 n2 c2, .slice A3 n3 c3, .slice A4 n4 c4, .slice A5 n5 c5, .slice A6 n6 c6, .slice A7 n7 c7] 192)).alloc (.cells #[.int .u8 hint.toNat, .int .i32 schema, .int .u64 thr, .int .u64 sum, .int .u64 zc, .int .u64 cnt, .slice B1 n1 d1, .slice B2 n2 d2, .slice B3 n3 d3, .slice B4 n4 d4, .slice B5 n5 d5, .slice B6 n6 d6, .slice B7 n7 d7] 192))
 go_wp2_with (go_at_call 198; refine (H1.out _ F0.out).mono ?_; rintro r W1 ⟨rfl, hf⟩; refine Hid.out ?_)
 have F1 := zmk (F0.out.same hf); have hP := P0.out.fr hf (fun e => e); have hQ := Q0.out.fr hf (fun e => e); have P1 := zmk hP; have Q1 := zmk hQ; have u1 := hP.cell 7; have v1 := hQ.cell 7; simp only [zmF, zmD, zmE] at u1 v1; clear hf hP hQ; refine zmk ?_
 go_wp2_with (go_at_call 198; refine (H2.out _ F1.out).mono ?_; rintro r W2 ⟨rfl, hf⟩; refine Hid.out ?_)
 have F2 := zmk (F1.out.same hf); have hP := P1.out.fr hf (fun e => e); have hQ := Q1.out.fr hf (fun e => e); have P2 := zmk hP; have Q2 := zmk hQ; have u2 := hP.cell 8; have v2 := hQ.cell 8; simp only [zmF, zmD, zmE] at u2 v2; clear hf hP hQ u1 v1; refine zmk ?_
 go_wp2_with (go_at_call 199; refine (H3.out _ F2.out).mono ?_; rintro r W3 ⟨rfl, hf⟩; refine Hid.out ?_)
 have F3 := zmk (F2.out.same hf); have hP := P2.out.fr hf (fun e => e); have hQ := Q2.out.fr hf (fun e => e); have P3 := zmk hP; have Q3 := zmk hQ; have u3 := hP.cell 9; have v3 := hQ.cell 9; simp only [zmF, zmD, zmE] at u3 v3; clear hf hP hQ u2 v2; refine zmk ?_
 go_wp2_with (go_at_call 199; refine (H4.out _ F3.out).mono ?_; rintro r W4 ⟨rfl, hf⟩; refine Hid.out ?_)
 have F4 := zmk (F3.out.same hf); have hP := P3.out.fr hf (fun e => e); have hQ := Q3.out.fr hf (fun e => e); have P4 := zmk hP; have Q4 := zmk hQ; have u4 := hP.cell 10; have v4 := hQ.cell 10; simp only [zmF, zmD, zmE] at u4 v4; clear hf hP hQ u3 v3; refine zmk ?_
 go_wp2_with (go_at_call 200; refine (H5.out _ F4.out).mono ?_; rintro r W5 ⟨rfl, hf⟩; refine Hid.out ?_)
 have F5 := zmk (F4.out.same hf); have hP := P4.out.fr hf (fun e => e); have hQ := Q4.out.fr hf (fun e => e); have P5 := zmk hP; have Q5 := zmk hQ; have u5 := hP.cell 11; have v5 := hQ.cell 11; simp only [zmF, zmD, zmE] at u5 v5; clear hf hP hQ u4 v4; refine zmk ?_
 go_wp2_with (go_at_call 200; refine (H6.out _ F5.out).mono ?_; rintro r W6 ⟨rfl, hf⟩; refine Hid.out ?_)
 have F6 := zmk (F5.out.same hf); have hP := P5.out.fr hf (fun e => e); have hQ := Q5.out.fr hf (fun e => e); have P6 := zmk hP; have Q6 := zmk hQ; have u6 := hP.cell 12; have v6 := hQ.cell 12; simp only [zmF, zmD, zmE] at u6 v6; clear hf hP hQ u5 v5; refine zmk ?_
 go_wp2_with (go_at_call 200; refine (H7.out _ F6.out).mono ?_; rintro r W7 ⟨rfl, hf⟩; refine Hid.out ?_)
 have F7 := zmk (F6.out.same hf); clear hf; refine zmk ?_; go_wp2; go_ret; exact ⟨rfl, F7.out⟩
theorem zj1 (P Q : Nat -> Prop) (h : Hst) (s t : Hsl) (w : World) (hs : SlHs P w h s) (ht : SlHs Q w h t) (hf : h.few 1099511627776) :
 Calls prog 111 #[.agg (hic h s).toArray, .agg (hic h t).toArray] w (zap w) := by
 obtain ⟨f1, f2, f3, f4, f5, f6, f7⟩ := hf; obtain ⟨hint, schema, thr, sum, zc, cnt, pos, neg, ups, downs, fups, fdowns, cus⟩ := h; obtain ⟨s1, s2, s3, s4, s5, s6, s7⟩ := s; obtain ⟨t1, t2, t3, t4, t5, t6, t7⟩ := t; obtain ⟨y1, y2, y3, y4, y5, y6, y7⟩ := hs; obtain ⟨z1, z2, z3, z4, z5, z6, z7⟩ := ht; simp only [] at f1 f2 f3 f4 f5 f6 f7 y1 y2 y3 y4 y5 y6 y7 z1 z2 z3 z4 z5 z6 z7
 have C1 := fun (W : World) (hF : Fr (fun _ => False) w W) => zgt P Q s1 t1 pos W (y1.fr hF (fun _ _ e => e)) (z1.fr hF (fun _ _ e => e)) f1; have C2 := fun (W : World) (hF : Fr (fun _ => False) w W) => zgt P Q s2 t2 neg W (y2.fr hF (fun _ _ e => e)) (z2.fr hF (fun _ _ e => e)) f2
 have C3 := fun (W : World) (hF : Fr (fun _ => False) w W) => zgs P Q s3 t3 ups W (y3.fr hF (fun _ _ e => e)) (z3.fr hF (fun _ _ e => e)) f3; have C4 := fun (W : World) (hF : Fr (fun _ => False) w W) => zgs P Q s4 t4 downs W (y4.fr hF (fun _ _ e => e)) (z4.fr hF (fun _ _ e => e)) f4
 have C5 := fun (W : World) (hF : Fr (fun _ => False) w W) => zeM P Q s5 t5 fups W (y5.fr hF (fun _ _ e => e)) (z5.fr hF (fun _ _ e => e)) f5; have C6 := fun (W : World) (hF : Fr (fun _ => False) w W) => zeM P Q s6 t6 fdowns W (y6.fr hF (fun _ _ e => e)) (z6.fr hF (fun _ _ e => e)) f6
 have C7 := fun (W : World) (hF : Fr (fun _ => False) w W) => zeM P Q s7 t7 cus W (y7.fr hF (fun _ _ e => e)) (z7.fr hF (fun _ _ e => e)) f7; obtain ⟨A1, c1, rfl⟩ := y1.shape; obtain ⟨B1, d1, rfl⟩ := z1.shape; obtain ⟨A2, c2, rfl⟩ := y2.shape; obtain ⟨B2, d2, rfl⟩ := z2.shape; obtain ⟨A3, c3, rfl⟩ := y3.shape; obtain ⟨B3, d3, rfl⟩ := z3.shape; obtain ⟨A4, c4, rfl⟩ := y4.shape
 obtain ⟨B4, d4, rfl⟩ := z4.shape; obtain ⟨A5, c5, rfl⟩ := y5.shape; obtain ⟨B5, d5, rfl⟩ := z5.shape; obtain ⟨A6, c6, rfl⟩ := y6.shape; obtain ⟨B6, d6, rfl⟩ := z6.shape; obtain ⟨A7, c7, rfl⟩ := y7.shape; obtain ⟨B7, d7, rfl⟩ := z7.shape; exact zj0 hint schema thr sum zc cnt _ _ _ _ _ _ _ _ _ _ _ _ _ _ _ _ _ _ _ _ _ _ _ _ _ _ _ _ _ _ _ _ _ _ _ w C1 C2 C3 C4 C5 C6 C7
theorem zll (P Q : Nat -> Prop) (u v : Value) (la lb : List (Rhs × Hsl)) (w : World) (hu : SlH P w u la) (hv : SlH Q w v lb) (hm : la.map Prod.fst = lb.map Prod.fst) (hl : la.length <= 1099511627776) (hfw : ∀ p ∈ la, p.1.h.few 1099511627776) : Calls prog 37 #[u, v] w (zap w) := by
 have kR : lb.length = la.length := by have := znb List.length hm; simpa using this.symm
 obtain ⟨⟨A, c, rfl, _, hc, hr⟩, fJ⟩ := hu; obtain ⟨⟨B, d, rfl, _, hd, hs⟩, kg⟩ := hv; obtain ⟨n, hn⟩ := exE la.length; rw [kR] at hs hd ⊢; rw [hn] at hr hs hc hd hl ⊢; rw [hn] at kR; have HN := zmk hn; have oC := zmk kR; have HR := zmk hr; have HS := zmk hs; have nN := zmk fJ; have HSI := zmk kg; have HM := zmk hm; have dF := zmk hfw
 clear hn hr hs fJ kg hm hfw kR; go_enter func37, ntmps37; go_wp2; go_loopw [5] (fun i wr => ∃ k : Nat, k <= n /\ i = .int .i64 k /\ Hid (Fr (fun _ => False) w wr)) (fun i _ => n - (intOf i).toNat)
 case atStart => exact ⟨0, zmv _, rfl, zmk (znq _ _)⟩
 case round =>
  obtain ⟨k, hk, rfl, HF⟩ := hrel; by_cases hlt : k < n
  ·obtain ⟨g, off, rfl, _, aa⟩ := HR.out (by omega)
   obtain ⟨g2, ap, rfl, _, al⟩ := HS.out (by omega); obtain ⟨x, hx⟩ : ∃ x, la[k]? = some x := ⟨_, zmm (by rw [HN.out]; exact hlt)⟩; obtain ⟨y, hy⟩ : ∃ y, lb[k]? = some y := ⟨_, zmm (by rw [oC.out]; exact hlt)⟩; have hxy : x.1 = y.1 := by
    have h1 : (la.map Prod.fst)[k]? = some x.1 := by rw [zmU, hx]; rfl
    have h2 : (lb.map Prod.fst)[k]? = some y.1 := by rw [zmU, hy]; rfl
    rw [HM.out, h2] at h1; exact (zna h1).symm
   have gA := nN.out x (zms hx); have gh := HSI.out y (zms hy); have hfx := dF.out x (zms hx); obtain ⟨⟨ref, t, hh⟩, sx⟩ := x; obtain ⟨rz, sy⟩ := y; simp only [] at hxy gA gh hfx; subst hxy; simp only [] at gh
   have HC : Hid (∀ W, Fr (fun _ => False) w W -> Calls prog 111 #[.agg (hic hh sx).toArray, .agg (hic hh sy).toArray] W (zap W)) := zmk (fun W hF => zj1 P Q hh sx sy W (gA.fr hF (fun _ _ e => e)) (gh.fr hF (fun _ _ e => e)) hfx)
   have ay : ∀ {l : List (Rhs × Hsl)} {g off : Nat} {z : Rhs × Hsl}, l[k]? = some z -> (∀ j u, (l.flatMap hsc)[j]? = some u -> w.cell? ⟨g, off + j, none⟩ = some u) -> ∀ W', Fr (fun _ => False) w W' -> ∀ j, j < 15 -> ∀ u, (hsc z)[j]? = some u -> W'.cell? ⟨g, off + (k * 15 + j), none⟩ = some u := fun {l g off z} hz aa W' hF j hj u hu => by
    have := aa (k * 15 + j) u (by rw [zgS 15 hsc (fun _ => rfl) l k z hz j hj]; exact hu); rw [hF.cell (p := ⟨g, off + (k * 15 + j), none⟩) (zmr w _ this) (fun e => e)]; exact this
   obtain ⟨hint, schema, thr, sum, zc, cnt, pos, neg, ups, downs, fups, fdowns, cus⟩ := hh; obtain ⟨s1, s2, s3, s4, s5, s6, s7⟩ := sx; obtain ⟨t1, t2, t3, t4, t5, t6, t7⟩ := sy
   have lJ : Hid (∀ W, Fr (fun _ => False) w W -> Calls prog 111 #[.agg #[.int .u8 hint.toNat, .int .i32 schema, .int .u64 thr, .int .u64 sum, .int .u64 zc, .int .u64 cnt, s1, s2, s3, s4, s5, s6, s7], .agg #[.int .u8 hint.toNat, .int .i32 schema, .int .u64 thr, .int .u64 sum, .int .u64 zc, .int .u64 cnt, t1, t2, t3, t4, t5, t6, t7]] W (zap W)) := zmk HC.out
   have HK : Hid (∀ w', Fr (fun _ => False) w w' -> (w'.cell? ⟨g, off + k * 15, none⟩ = some (.int .u64 ref) /\ w'.cell? ⟨g, off + k * 15 + 1, none⟩ = some (.int .i64 t) /\ w'.cell? ⟨g, off + k * 15 + 2, none⟩ = some (.int .u8 hint.toNat) /\ w'.cell? ⟨g, off + k * 15 + 3, none⟩ = some (.int .i32 schema) /\ w'.cell? ⟨g, off + k * 15 + 4, none⟩ = some (.int .u64 thr) /\ w'.cell? ⟨g, off + k * 15 + 5, none⟩ = some (.int .u64 sum) /\ w'.cell? ⟨g, off + k * 15 + 6, none⟩ = some (.int .u64 zc) /\ w'.cell? ⟨g, off + k * 15 + 7, none⟩ = some (.int .u64 cnt) /\ w'.cell? ⟨g, off + k * 15 + 8, none⟩ = some s1 /\ w'.cell? ⟨g, off + k * 15 + 9, none⟩ = some s2 /\ w'.cell? ⟨g, off + k * 15 + 10, none⟩ = some s3 /\ w'.cell? ⟨g, off + k * 15 + 11, none⟩ = some s4 /\ w'.cell? ⟨g, off + k * 15 + 12, none⟩ = some s5 /\ w'.cell? ⟨g, off + k * 15 + 13, none⟩ = some s6 /\ w'.cell? ⟨g, off + k * 15 + 14, none⟩ = some s7 /\ w'.cell? ⟨g2, ap + k * 15, none⟩ = some (.int .u64 ref) /\ w'.cell? ⟨g2, ap + k * 15 + 1, none⟩ = some (.int .i64 t) /\ w'.cell? ⟨g2, ap + k * 15 + 2, none⟩ = some (.int .u8 hint.toNat) /\ w'.cell? ⟨g2, ap + k * 15 + 3, none⟩ = some (.int .i32 schema) /\ w'.cell? ⟨g2, ap + k * 15 + 4, none⟩ = some (.int .u64 thr) /\ w'.cell? ⟨g2, ap + k * 15 + 5, none⟩ = some (.int .u64 sum) /\ w'.cell? ⟨g2, ap + k * 15 + 6, none⟩ = some (.int .u64 zc) /\ w'.cell? ⟨g2, ap + k * 15 + 7, none⟩ = some (.int .u64 cnt) /\ w'.cell? ⟨g2, ap + k * 15 + 8, none⟩ = some t1 /\ w'.cell? ⟨g2, ap + k * 15 + 9, none⟩ = some t2 /\ w'.cell? ⟨g2, ap + k * 15 + 10, none⟩ = some t3 /\ w'.cell? ⟨g2, ap + k * 15 + 11, none⟩ = some t4 /\ w'.cell? ⟨g2, ap + k * 15 + 12, none⟩ = some t5 /\ w'.cell? ⟨g2, ap + k * 15 + 13, none⟩ = some t6 /\ w'.cell? ⟨g2, ap + k * 15 + 14, none⟩ = some t7)) := zmk (fun w' hF => ⟨ay hx aa _ hF 0 (by omega) _ rfl, ay hx aa _ hF 1 (by omega) _ rfl, ay hx aa _ hF 2 (by omega) _ rfl, ay hx aa _ hF 3 (by omega) _ rfl, ay hx aa _ hF 4 (by omega) _ rfl, ay hx aa _ hF 5 (by omega) _ rfl, ay hx aa _ hF 6 (by omega) _ rfl, ay hx aa _ hF 7 (by omega) _ rfl, ay hx aa _ hF 8 (by omega) _ rfl, ay hx aa _ hF 9 (by omega) _ rfl, ay hx aa _ hF 10 (by omega) _ rfl, ay hx aa _ hF 11 (by omega) _ rfl, ay hx aa _ hF 12 (by omega) _ rfl, ay hx aa _ hF 13 (by omega) _ rfl, ay hx aa _ hF 14 (by omega) _ rfl, ay hy al _ hF 0 (by omega) _ rfl, ay hy al _ hF 1 (by omega) _ rfl, ay hy al _ hF 2 (by omega) _ rfl, ay hy al _ hF 3 (by omega) _ rfl, ay hy al _ hF 4 (by omega) _ rfl, ay hy al _ hF 5 (by omega) _ rfl, ay hy al _ hF 6 (by omega) _ rfl, ay hy al _ hF 7 (by omega) _ rfl, ay hy al _ hF 8 (by omega) _ rfl, ay hy al _ hF 9 (by omega) _ rfl, ay hy al _ hF 10 (by omega) _ rfl, ay hy al _ hF 11 (by omega) _ rfl, ay hy al _ hF 12 (by omega) _ rfl, ay hy al _ hF 13 (by omega) _ rfl, ay hy al _ hF 14 (by omega) _ rfl⟩)
   clear gA gh hfx HC ay hx hy aa al; have iS := zmk HF.out.drew; go_wp2
   go_region_held3 (fun w' => w'.cell? ⟨g, off + k * 15, none⟩ = some (.int .u64 ref) /\ w'.cell? ⟨g, off + k * 15 + 1, none⟩ = some (.int .i64 t) /\ w'.cell? ⟨g, off + k * 15 + 2, none⟩ = some (.int .u8 hint.toNat) /\ w'.cell? ⟨g, off + k * 15 + 3, none⟩ = some (.int .i32 schema) /\ w'.cell? ⟨g, off + k * 15 + 4, none⟩ = some (.int .u64 thr) /\ w'.cell? ⟨g, off + k * 15 + 5, none⟩ = some (.int .u64 sum) /\ w'.cell? ⟨g, off + k * 15 + 6, none⟩ = some (.int .u64 zc) /\ w'.cell? ⟨g, off + k * 15 + 7, none⟩ = some (.int .u64 cnt) /\ w'.cell? ⟨g, off + k * 15 + 8, none⟩ = some s1 /\ w'.cell? ⟨g, off + k * 15 + 9, none⟩ = some s2 /\ w'.cell? ⟨g, off + k * 15 + 10, none⟩ = some s3 /\ w'.cell? ⟨g, off + k * 15 + 11, none⟩ = some s4 /\ w'.cell? ⟨g, off + k * 15 + 12, none⟩ = some s5 /\ w'.cell? ⟨g, off + k * 15 + 13, none⟩ = some s6 /\ w'.cell? ⟨g, off + k * 15 + 14, none⟩ = some s7 /\ w'.cell? ⟨g2, ap + k * 15, none⟩ = some (.int .u64 ref) /\ w'.cell? ⟨g2, ap + k * 15 + 1, none⟩ = some (.int .i64 t) /\ w'.cell? ⟨g2, ap + k * 15 + 2, none⟩ = some (.int .u8 hint.toNat) /\ w'.cell? ⟨g2, ap + k * 15 + 3, none⟩ = some (.int .i32 schema) /\ w'.cell? ⟨g2, ap + k * 15 + 4, none⟩ = some (.int .u64 thr) /\ w'.cell? ⟨g2, ap + k * 15 + 5, none⟩ = some (.int .u64 sum) /\ w'.cell? ⟨g2, ap + k * 15 + 6, none⟩ = some (.int .u64 zc) /\ w'.cell? ⟨g2, ap + k * 15 + 7, none⟩ = some (.int .u64 cnt) /\ w'.cell? ⟨g2, ap + k * 15 + 8, none⟩ = some t1 /\ w'.cell? ⟨g2, ap + k * 15 + 9, none⟩ = some t2 /\ w'.cell? ⟨g2, ap + k * 15 + 10, none⟩ = some t3 /\ w'.cell? ⟨g2, ap + k * 15 + 11, none⟩ = some t4 /\ w'.cell? ⟨g2, ap + k * 15 + 12, none⟩ = some t5 /\ w'.cell? ⟨g2, ap + k * 15 + 13, none⟩ = some t6 /\ w'.cell? ⟨g2, ap + k * 15 + 14, none⟩ = some t7)
    ((first | exact HK.out _ iS.out | exact HK.out _ cd.out | go_keep))
    ((first | (go_at_call 111; refine (lJ.out _ iS.out).mono ?_; rintro r W1 ⟨rfl, hf⟩; have cd := zmk (iS.out.same hf); clear hf)))
   go_wp2; go_roundw
   case rel => exact ⟨k + 1, by omega, by go_num, cd⟩
   case measure => simp [intOf]; omega
  ·obtain rfl : k = n := by omega
   go_wp2; go_ret; exact ⟨rfl, HF.out⟩
theorem flat_take (l : List Ston) (k : Nat) (x : Ston) (h : l[k]? = some x) : zbY (l.take (k + 1)) = zbY (l.take k) ++ zeS x := by
 unfold zbY; rw [zmV, h, zmT]; simp
def FlatEnds (w : World) (l : List Ston) (r : Ending) (w' : World) : Prop :=
 ∃ v lo, r = .returned v /\ lo.map Prod.fst = (zbY l).map one /\ OwnS w.heap.size 151 281 w' v lo /\ Fr (fun _ => False) w w'
theorem flat_any (P : Nat -> Prop) (v : Value) (lv : List (Ston × Value)) (w : World) (h : SlS P w v lv) (hl : lv.length <= 4096) (aP : ∀ p ∈ lv, p.1.ivs.length <= 4096) :
 Calls prog 105 #[v] w (FlatEnds w (lv.map Prod.fst)) := by
 obtain ⟨⟨A, c, rfl, ak, aQ, hr⟩, cl⟩ := h; obtain ⟨n, hn⟩ := exE lv.length; rw [hn] at hr aQ hl ⊢; have HN := zmk hn; have HR := zmk hr; have HI := zmk cl
 have gq := zmk aP; obtain ⟨i0, aD, aA, az, aC⟩ := info_parts info151; clear hn hr ak cl aP; go_enter func105, ntmps105; go_wp2
 go_loopw [3, 4] (fun v i wr => ∃ (k : Nat) (lo : List (Ston × Value)), k <= n /\ i = .int .i64 k /\ Hid (lo.map Prod.fst = (zbY ((lv.take k).map Prod.fst)).map one) /\ Hid (lo.length <= k * 4096) /\ Hid (OwnS w.heap.size 151 281 wr v lo) /\ Hid (Fr (fun _ => False) w wr)) (fun _ i _ => n - (intOf i).toNat)
 case atStart => exact ⟨0, [], zmv _, rfl, zmk rfl, zmk (by simp), zmk (OwnS.nil _ _ _ _), zmk (znq _ _)⟩
 case round =>
  obtain ⟨k, lo, hk, rfl, HM, ii, HO, HF⟩ := hrel; by_cases hlt : k < n
  ·obtain ⟨g, off, rfl, _, aa⟩ := HR.out (by omega)
   obtain ⟨x, hx⟩ : ∃ x, lv[k]? = some x := ⟨_, zmm (by rw [HN.out]; exact hlt)⟩; have cw : ∀ j, j < 2 -> ∀ u, (stc x)[j]? = some u -> w.cell? ⟨g, off + (k * 2 + j), none⟩ = some u := fun j hj u hu =>
    aa (k * 2 + j) u (by rw [zbE stc (fun _ => rfl) lv k x hx j hj]; exact hu)
   have aH := zms hx; have b8 := HI.out x aH; have bC := gq.out x aH; have fH : (lv.map Prod.fst)[k]? = some x.1 := by rw [zmU, hx]; rfl
   obtain ⟨⟨ref, ivs⟩, iv⟩ := x; simp only [] at b8 bC fH; obtain ⟨Ai, ci, rfl, _, pN, fJ⟩ := b8; have C0 : Hid (w.cell? ⟨g, off + k * 2, none⟩ = some (.int .u64 ref)) := zmk (cw 0 (by omega) _ rfl); have C1 : Hid (w.cell? ⟨g, off + k * 2 + 1, none⟩ = some (.slice Ai ivs.length ci)) := zmk (cw 1 (by omega) _ rfl); obtain ⟨m, hm⟩ := exE ivs.length; rw [hm] at C1 pN fJ bC
   have HX1 := zmk fH; have nN := zmk fJ; have HMM := zmk hm; clear hx cw aH fH fJ hm aa; have bG := HF.out.size; go_wp2_with fail
   obtain ⟨f0, fj⟩ := exE (zbY ((lv.take k).map Prod.fst)); rw [fj] at HM; have jX := zmk fj; clear fj
   go_loopw [3, 5] (fun v i w' => ∃ (j : Nat) (iX : List (Ston × Value)), j <= m /\ i = .int .i64 j /\ Hid (iX.map Prod.fst = (f0 ++ (ivs.take j).map (fun p => (⟨ref, p.1, p.2⟩ : Stn))).map one) /\ Hid (iX.length <= k * 4096 + j) /\ Hid (OwnS w.heap.size 151 281 w' v iX) /\ Hid (Fr (fun _ => False) w w')) (fun _ i _ => m - (intOf i).toNat)
   case atStart => exact ⟨0, lo, zmv _, rfl, zmk (by rw [HM.out]; simp), zmk (by have := ii.out; omega), HO, HF⟩
   case round =>
    obtain ⟨j, iX, hj, rfl, HM2, HL2, cH, bg⟩ := hrel; have c1 : wr.cell? ⟨g, off + k * 2 + 1, none⟩ = some (.slice Ai m ci) := by
     rw [bg.out.cell (p := ⟨g, off + k * 2 + 1, none⟩) (zmr w _ C1.out) (fun e => e)]; exact C1.out
    by_cases hlt2 : j < m
    ·obtain ⟨g2, ap, rfl, _, al⟩ := nN.out (by omega)
     obtain ⟨y, hy⟩ : ∃ y, ivs[j]? = some y := ⟨_, zmm (by rw [HMM.out]; exact hlt2)⟩; have cw : ∀ i, i < 2 -> ∀ u, (ivc y)[i]? = some u -> w.cell? ⟨g2, ap + (j * 2 + i), none⟩ = some u := fun i hi u hu =>
      al (j * 2 + i) u (by rw [zbE ivc (fun _ => rfl) ivs j y hy i hi]; exact hu)
     have D0 : w.cell? ⟨g2, ap + j * 2, none⟩ = some (.int .i64 y.1) := cw 0 (by omega) _ rfl; have D1 : w.cell? ⟨g2, ap + j * 2 + 1, none⟩ = some (.int .i64 y.2) := cw 1 (by omega) _ rfl
     have HC : Hid (∀ W', Fr (fun _ => False) w W' -> W'.cell? ⟨g, off + k * 2, none⟩ = some (.int .u64 ref) /\ W'.cell? ⟨g, off + k * 2 + 1, none⟩ = some (.slice (some ⟨g2, ap, none⟩) m ci) /\ W'.cell? ⟨g2, ap + j * 2, none⟩ = some (.int .i64 y.1) /\ W'.cell? ⟨g2, ap + j * 2 + 1, none⟩ = some (.int .i64 y.2)) := zmk (fun W' hF => by
      refine ⟨?_, ?_, ?_, ?_⟩
      ·rw [hF.cell (p := ⟨g, off + k * 2, none⟩) (zmr w _ C0.out) (fun e => e)]; exact C0.out
      ·rw [hF.cell (p := ⟨g, off + k * 2 + 1, none⟩) (zmr w _ C1.out) (fun e => e)]; exact C1.out
      ·rw [hF.cell (p := ⟨g2, ap + j * 2, none⟩) (zmr w _ D0) (fun e => e)]; exact D0
      ·rw [hF.cell (p := ⟨g2, ap + j * 2 + 1, none⟩) (zmr w _ D1) (fun e => e)]; exact D1)
     have HY := zmk hy; obtain ⟨a6, k6, rfl⟩ := zaa cH.out.1; have pg := bg.out.size; have jz : iX.length <= 4096 * 4096 + 4096 := by
      have h1 := HL2.out; have h2 : k * 4096 <= 4096 * 4096 := zmx _ (by omega); omega
     clear hy cw D0 D1 al; go_wp2_with fail
     go_region_held3 (fun w' => w'.cell? ⟨g, off + k * 2, none⟩ = some (.int .u64 ref) /\ w'.cell? ⟨g, off + k * 2 + 1, none⟩ = some (.slice (some ⟨g2, ap, none⟩) m ci) /\ w'.cell? ⟨g2, ap + j * 2, none⟩ = some (.int .i64 y.1) /\ w'.cell? ⟨g2, ap + j * 2 + 1, none⟩ = some (.int .i64 y.2))
      ((first | exact HC.out _ F9.out | exact HC.out _ bg.out.drew | exact HC.out _ (bg.out.drew.alloc _) | exact HC.out _ (bg.out.alloc _).drew | exact HC.out _ ((bg.out.drew.alloc _).alloc _) | exact HC.out _ ((bg.out.alloc _).alloc _).drew | go_keep))
      ((first
        | (refine zat _ (by rfl) _ _ 48 48 (by rfl) w.heap.size 151 i0 _ 2 32 underlying48 aD aA az aC rfl (by decide) (.slice a6 iX.length k6) iX.length (iX.flatMap stc) (by rfl) ((cH.out.alloc (.cells (ivc y).toArray 281)).alloc (.cells (stc (⟨ref, [(y.1, y.2)]⟩, .slice (some ⟨wr.heap.size, 0, none⟩) 1 1)).toArray 151)).1 _ 1 (stc (⟨ref, [(y.1, y.2)]⟩, .slice (some ⟨wr.heap.size, 0, none⟩) 1 1)) (by rfl) (zaH underlying48 (zaK wr (.cells (ivc y).toArray 281) 151 (stc (⟨ref, [(y.1, y.2)]⟩, .slice (some ⟨wr.heap.size, 0, none⟩) 1 1)).toArray).drew rfl (by simp [stc, Value.oneCell'])) (by unfold maxLen; omega) (by omega) (by simp; omega) ?_; intro v' w2 ac ad ax; have F9 := zmk (((bg.out.alloc (.cells (ivc y).toArray 281)).alloc (.cells (stc (⟨ref, [(y.1, y.2)]⟩, .slice (some ⟨wr.heap.size, 0, none⟩) 1 1)).toArray 151)).drew.grown ad (fun g hg => .inr ((cH.out.1.lt g hg).1))))))
     all_goals
      have an := own_one (w := wr) (base := w.heap.size) (e := 281) (a := .int .i64 y.1) (b := .int .i64 y.2) pg; have aU : OwnS w.heap.size 151 281 w2 v' (iX ++ [(⟨ref, [(y.1, y.2)]⟩, .slice (some ⟨wr.heap.size, 0, none⟩) 1 1)]) :=
       OwnS.push (p := (⟨ref, [(y.1, y.2)]⟩, .slice (some ⟨wr.heap.size, 0, none⟩) 1 1)) (cH.out.fr ((((znq (fun _ => False) wr).alloc (.cells (ivc y).toArray 281)).alloc (.cells (stc (⟨ref, [(y.1, y.2)]⟩, .slice (some ⟨wr.heap.size, 0, none⟩) 1 1)).toArray 151)).drew) (fun _ _ _ e => e)) ((World.ownsRow.alloc an _).drew) ad ac (by decide)
      have cf : (iX ++ [((⟨ref, [(y.1, y.2)]⟩ : Ston), Value.slice (some ⟨wr.heap.size, 0, none⟩) 1 1)]).map Prod.fst = (f0 ++ (ivs.take (j + 1)).map (fun p => (⟨ref, p.1, p.2⟩ : Stn))).map one := by
       rw [zmK, HM2.out, zmV, HY.out]; simp [one]
      have cC : (iX ++ [((⟨ref, [(y.1, y.2)]⟩ : Ston), Value.slice (some ⟨wr.heap.size, 0, none⟩) 1 1)]).length <= k * 4096 + (j + 1) := by
       have := HL2.out; rw [zml, zmB]; omega
      have NO := zmk aU; have NM := zmk cf; have NL := zmk cC; clear aU cf cC ac ad ax an HC; go_wp2; go_roundw
      case rel => exact ⟨j + 1, _, by omega, by go_num, NM, NL, NO, F9⟩
      case measure => simp [intOf]; omega
    ·obtain rfl : j = m := by omega
     go_wp2; go_roundw
     case rel =>
      refine ⟨k + 1, iX, by omega, by go_num, zmk ?_, zmk ?_, cH, bg⟩
      ·have e1 : ivs.take j = ivs := zmt (by rw [HMM.out]; exact zmw _)
       have e2 : (lv.take (k + 1)).map Prod.fst = (lv.map Prod.fst).take (k + 1) := by simp [List.map_take]
       have e3 : (lv.take k).map Prod.fst = (lv.map Prod.fst).take k := by simp [List.map_take]
       have e4 := jX.out; rw [e3] at e4; rw [HM2.out, e1, e2, flat_take _ _ _ HX1.out, e4]; rfl
      ·have := HL2.out; omega
     case measure => simp [intOf]; omega
  ·go_wp2
   go_ret; obtain rfl : k = n := by omega
   refine ⟨_, lo, rfl, ?_, HO.out, HF.out⟩; rw [HM.out, <- HN.out, zmL]
theorem zj7 (P Q : Nat -> Prop) (u v : Value) (la lb : List (Ston × Value)) (w : World) (hu : SlS P w u la) (hv : SlS Q w v lb) (hm : la.map Prod.fst = lb.map Prod.fst) (hl : la.length <= 1099511627776) (aP : ∀ p ∈ la, p.1.ivs.length <= 1099511627776) : Calls prog 102 #[u, v] w (zap w) := by
 have kR : lb.length = la.length := by have := znb List.length hm; simpa using this.symm
 obtain ⟨⟨A, c, rfl, _, hc, hr⟩, fJ⟩ := hu; obtain ⟨⟨B, d, rfl, _, hd, hs⟩, kg⟩ := hv; obtain ⟨n, hn⟩ := exE la.length; rw [kR] at hs hd ⊢; rw [hn] at hr hs hc hd hl ⊢; rw [hn] at kR; have HN := zmk hn; have oC := zmk kR; have HR := zmk hr; have HS := zmk hs; have nN := zmk fJ; have HSI := zmk kg; have HM := zmk hm; have gq := zmk aP
 clear hn hr hs fJ kg hm aP kR; go_enter func102, ntmps102; go_wp2; go_loopw [5] (fun i wr => ∃ k : Nat, k <= n /\ i = .int .i64 k /\ Hid (Fr (fun _ => False) w wr)) (fun i _ => n - (intOf i).toNat)
 case atStart => exact ⟨0, zmv _, rfl, zmk (znq _ _)⟩
 case round =>
  obtain ⟨k, hk, rfl, HF⟩ := hrel; by_cases hlt : k < n
  ·obtain ⟨g, off, rfl, _, aa⟩ := HR.out (by omega)
   obtain ⟨g2, ap, rfl, _, al⟩ := HS.out (by omega); obtain ⟨x, hx⟩ : ∃ x, la[k]? = some x := ⟨_, zmm (by rw [HN.out]; exact hlt)⟩; obtain ⟨y, hy⟩ : ∃ y, lb[k]? = some y := ⟨_, zmm (by rw [oC.out]; exact hlt)⟩; have hxy : x.1 = y.1 := by
    have h1 : (la.map Prod.fst)[k]? = some x.1 := by rw [zmU, hx]; rfl
    have h2 : (lb.map Prod.fst)[k]? = some y.1 := by rw [zmU, hy]; rfl
    rw [HM.out, h2] at h1; exact (zna h1).symm
   have gA := nN.out x (zms hx); have gh := HSI.out y (zms hy); have aP := gq.out x (zms hx); obtain ⟨⟨ref, ivs⟩, iv⟩ := x; obtain ⟨sy, iv2⟩ := y; simp only [] at hxy gA gh aP; subst hxy; obtain ⟨Ai, ci, rfl, _, pN, fJ⟩ := gA; obtain ⟨Bi, di, rfl, _, hdi, kg⟩ := gh; simp only [] at hdi kg; obtain ⟨m, hm⟩ := exE ivs.length
   rw [hm] at pN fJ hdi kg aP; have ay : ∀ {l : List (Ston × Value)} {g off : Nat} {z : Ston × Value}, l[k]? = some z -> (∀ j u, (l.flatMap stc)[j]? = some u -> w.cell? ⟨g, off + j, none⟩ = some u) -> ∀ W', Fr (fun _ => False) w W' -> ∀ j, j < 2 -> ∀ u, (stc z)[j]? = some u -> W'.cell? ⟨g, off + (k * 2 + j), none⟩ = some u := fun {l g off z} hz aa W' hF j hj u hu => by
    have := aa (k * 2 + j) u (by rw [zbE stc (fun _ => rfl) l k z hz j hj]; exact hu); rw [hF.cell (p := ⟨g, off + (k * 2 + j), none⟩) (zmr w _ this) (fun e => e)]; exact this
   have HC : Hid (∀ W', Fr (fun _ => False) w W' -> (W'.cell? ⟨g, off + k * 2, none⟩ = some (.int .u64 ref) /\ W'.cell? ⟨g, off + k * 2 + 1, none⟩ = some (.slice Ai m ci)) /\ (W'.cell? ⟨g2, ap + k * 2, none⟩ = some (.int .u64 ref) /\ W'.cell? ⟨g2, ap + k * 2 + 1, none⟩ = some (.slice Bi m di))) := zmk (fun W' hF =>
    ⟨⟨ay hx aa W' hF 0 (by omega) _ rfl, ay hx aa W' hF 1 (by omega) _ (by rw [<- hm]; rfl)⟩, ⟨ay hy al W' hF 0 (by omega) _ rfl, ay hy al W' hF 1 (by omega) _ (by rw [<- hm]; rfl)⟩⟩)
   obtain ⟨⟨c0, c1⟩, ⟨d0, d1⟩⟩ := HC.out wr.drew HF.out.drew; have HMM := zmk hm; have HRI2 := zmk fJ; have HSI2 := zmk kg; clear ay hx hy aa al hm fJ kg; go_wp2; go_region; go_wp2; clear c0 c1 d0 d1; have iS := zmk HF.out.drew; generalize wr.drew = W6 at iS ⊢; clear HF
   go_loopw [6] (fun i w' => ∃ j : Nat, j <= m /\ i = .int .i64 j /\ Hid (Fr (fun _ => False) w w')) (fun i _ => m - (intOf i).toNat)
   case atStart => exact ⟨0, zmv _, rfl, iS⟩
   case round =>
    obtain ⟨j, hj, rfl, bg⟩ := hrel; obtain ⟨⟨c0, c1⟩, ⟨d0, d1⟩⟩ := HC.out _ bg.out; by_cases hlt2 : j < m
    ·obtain ⟨g3, off3, rfl, _, gH⟩ := HRI2.out (by omega)
     obtain ⟨g4, oO, rfl, _, gG⟩ := HSI2.out (by omega); obtain ⟨y, hy⟩ : ∃ y, ivs[j]? = some y := ⟨_, zmm (by rw [HMM.out]; exact hlt2)⟩
     have ay : ∀ {g off : Nat}, (∀ j u, (ivs.flatMap ivc)[j]? = some u -> w.cell? ⟨g, off + j, none⟩ = some u) -> ∀ W', Fr (fun _ => False) w W' -> ∀ i, i < 2 -> ∀ u, (ivc y)[i]? = some u -> W'.cell? ⟨g, off + (j * 2 + i), none⟩ = some u := fun {g off} aa W' hF i hi u hu => by
      have := aa (j * 2 + i) u (by rw [zbE ivc (fun _ => rfl) ivs j y hy i hi]; exact hu); rw [hF.cell (p := ⟨g, off + (j * 2 + i), none⟩) (zmr w _ this) (fun e => e)]; exact this
     obtain ⟨⟨c0', c1'⟩, ⟨d0', d1'⟩⟩ := HC.out _ bg.out.drew; have e0 := ay gH _ bg.out.drew 0 (by omega) _ rfl; have e1 : wr.drew.cell? ⟨g3, off3 + j * 2 + 1, none⟩ = some (.int .i64 y.2) := ay gH _ bg.out.drew 1 (by omega) _ rfl; have f0 := ay gG _ bg.out.drew 0 (by omega) _ rfl
     have f1 : wr.drew.cell? ⟨g4, oO + j * 2 + 1, none⟩ = some (.int .i64 y.2) := ay gG _ bg.out.drew 1 (by omega) _ rfl; simp only [znn] at e0 f0; have bx := zmk bg.out.drew; clear ay gH gG hy; go_wp2; go_region; go_wp2; go_roundw
     case rel => exact ⟨j + 1, by omega, by go_num, bx⟩
     case measure => simp [intOf]; omega
    ·obtain rfl : j = m := by omega
     go_wp2; go_roundw
     case rel => exact ⟨k + 1, by omega, by go_num, bg⟩
     case measure => simp [intOf]; omega
  ·obtain rfl : k = n := by omega
   go_wp2; go_ret; exact ⟨rfl, HF.out⟩
end Go.Proofs.YtbkookiigkckdaaGreatDoor
