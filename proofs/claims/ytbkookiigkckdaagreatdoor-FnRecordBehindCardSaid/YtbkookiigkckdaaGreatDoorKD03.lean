/- Merged. -/
import Derived.Test.YtbkookiigkckdaaGreatDoorKD01
import Derived.BigRegion
import Derived.Shelf.SlSortCmp.SmallK
import Derived.Shelf.SlSortCmp.NoneTotal
import Derived.Ground.SlsfProg
set_option linter.unusedVariables false
set_option linter.unusedSimpArgs false
set_option maxRecDepth 100000
set_option maxHeartbeats 8000000
namespace Go.Proofs.YtbkookiigkckdaaGreatDoor
open Go.RowKit Go.Proofs.Tryz
def zap (w : World) (r : Ending) (w' : World) : Prop := r = .returned (.bool true) /\ z_F w w'
theorem zjS (A B : Option Addr) (c d : Nat) (w : World) : Calls prog 103 #[.slice A 0 c, .slice B 0 d] w (zap w) := by
 go_enter func103, ntmps103; go_wp2; go_loopw [5] (fun i wr => i = .int .i64 0 /\ wr = w) (fun i _ => 0)
 case atStart => exact ⟨rfl, rfl⟩
 case round =>
  obtain ⟨rfl, rfl⟩ := hrel; go_wp2; go_ret; exact ⟨rfl, znl _ _⟩
theorem zjQ (A B : Option Addr) (c d : Nat) (w : World) : Calls prog 104 #[.slice A 0 c, .slice B 0 d] w (zap w) := by
 go_enter func104, ntmps104; go_wp2; go_loopw [5] (fun i wr => i = .int .i64 0 /\ wr = w) (fun i _ => 0)
 case atStart => exact ⟨rfl, rfl⟩
 case round =>
  obtain ⟨rfl, rfl⟩ := hrel; go_wp2; go_ret; exact ⟨rfl, znl _ _⟩
theorem zjU (A B : Option Addr) (c d : Nat) (w : World) : Calls prog 102 #[.slice A 0 c, .slice B 0 d] w (zap w) := by
 go_enter func102, ntmps102; go_wp2; go_loopw [5] (fun i wr => i = .int .i64 0 /\ wr = w) (fun i _ => 0)
 case atStart => exact ⟨rfl, rfl⟩
 case round =>
  obtain ⟨rfl, rfl⟩ := hrel; go_wp2; go_ret; exact ⟨rfl, znl _ _⟩
theorem zlf (A B : Option Addr) (c d : Nat) (w : World) : Calls prog 37 #[.slice A 0 c, .slice B 0 d] w (zap w) := by
 go_enter func37, ntmps37; go_wp2; go_loopw [5] (fun i wr => i = .int .i64 0 /\ wr = w) (fun i _ => 0)
 case atStart => exact ⟨rfl, rfl⟩
 case round =>
  obtain ⟨rfl, rfl⟩ := hrel; go_wp2; go_ret; exact ⟨rfl, znl _ _⟩
theorem zgf (P Q : Nat -> Prop) (u v : Value) (l : List Smp) (w : World) (hu : Sl P w u 3 l.length (l.flatMap Smp.a)) (hv : Sl Q w v 3 l.length (l.flatMap Smp.a)) (hl : l.length <= 1099511627776) : Calls prog 101 #[u, v] w (zap w) := by
 obtain ⟨A, c, rfl, _, hc, hr⟩ := hu; obtain ⟨B, d, rfl, _, hd, hs⟩ := hv; obtain ⟨n, hn⟩ := exE l.length; rw [hn] at hr hs hc hd hl ⊢; have HN := zmh hn; have HR := zmh hr; have HS := zmh hs; clear hn hr hs; go_enter func101, ntmps101; go_wp2; go_loopw [5] (fun i wr => ∃ k : Nat, k <= n /\ i = .int .i64 k /\ z_F w wr) (fun i _ => n - (intOf i).toNat)
 case atStart => exact ⟨0, zms _, rfl, znl _ _⟩
 case round =>
  obtain ⟨k, hk, rfl, hf⟩ := hrel; by_cases hlt : k < n
  ·obtain ⟨g, off, rfl, _, aa⟩ := HR.out (by omega)
   obtain ⟨g2, an, rfl, _, aj⟩ := HS.out (by omega); obtain ⟨x, hx⟩ : ∃ x, l[k]? = some x := ⟨_, zmj (by rw [HN.out]; exact hlt)⟩; have aw : ∀ {g off : Nat}, (∀ j u, (l.flatMap Smp.a)[j]? = some u -> w.cell? ⟨g, off + j, none⟩ = some u) -> ∀ j, j < 3 -> ∀ u, (Smp.a x)[j]? = some u -> wr.drew.cell? ⟨g, off + (k * 3 + j), none⟩ = some u := fun {g off} aa j hj u hu => by
    have := aa (k * 3 + j) u (by rw [ze2 Smp.a (fun _ => rfl) l k x hx j hj]; exact hu); rw [hf.drew.cell (p := ⟨g, off + (k * 3 + j), none⟩) (zmo w _ this) id]; exact this
   have c0 : wr.drew.cell? ⟨g, off + k * 3, none⟩ = some (.int .u64 x.ref) := aw aa 0 (by omega) _ rfl; have c1 : wr.drew.cell? ⟨g, off + k * 3 + 1, none⟩ = some (.int .i64 x.t) := aw aa 1 (by omega) _ rfl; have c2 : wr.drew.cell? ⟨g, off + k * 3 + 2, none⟩ = some (.int .u64 x.v) := aw aa 2 (by omega) _ rfl
   have d0 : wr.drew.cell? ⟨g2, an + k * 3, none⟩ = some (.int .u64 x.ref) := aw aj 0 (by omega) _ rfl; have d1 : wr.drew.cell? ⟨g2, an + k * 3 + 1, none⟩ = some (.int .i64 x.t) := aw aj 1 (by omega) _ rfl; have d2 : wr.drew.cell? ⟨g2, an + k * 3 + 2, none⟩ = some (.int .u64 x.v) := aw aj 2 (by omega) _ rfl; have aq := zmh hf.drew; clear aa aj aw hf hx; go_wp2
   go_region; go_wp2; go_roundw
   case rel => exact ⟨k + 1, by omega, by go_num, aq.out⟩
   case measure => simp [intOf]; omega
  ·obtain rfl : k = n := by omega
   go_wp2; go_ret; exact ⟨rfl, hf⟩
theorem ziB (A0 B0 A3 B3 : Option Addr) (c0 d0 c3 d3 : Nat) (p1 p2 p4 p5 p6 q1 q2 q4 q5 q6 : Value) (w : World)
 (au : ∀ s ∈ [p1, p2, p4, p5, p6, q1, q2, q4, q5, q6], ∃ A m c, s = .slice A m c)
 (h1 : ∀ W, z_F w W -> Calls prog 101 #[p1, q1] W (zap W)) (h2 : ∀ W, z_F w W -> Calls prog 102 #[p2, q2] W (zap W)) (h4 : ∀ W, z_F w W -> Calls prog 103 #[p4, q4] W (zap W))
 (h5 : ∀ W, z_F w W -> Calls prog 104 #[p5, q5] W (zap W)) (h6 : ∀ W, z_F w W -> Calls prog 37 #[p6, q6] W (zap W)) :
 Calls prog 32 #[.agg #[.slice A0 0 c0, p1, p2, .slice A3 0 c3, p4, p5, p6], .agg #[.slice B0 0 d0, q1, q2, .slice B3 0 d3, q4, q5, q6]] w (zap w) := by
 obtain ⟨a1, m1, k1, rfl⟩ := au p1 (by simp); obtain ⟨a2, m2, k2, rfl⟩ := au p2 (by simp); obtain ⟨a4, m4, k4, rfl⟩ := au p4 (by simp); obtain ⟨a5, m5, k5, rfl⟩ := au p5 (by simp); obtain ⟨a6, m6, k6, rfl⟩ := au p6 (by simp); obtain ⟨b1, n1, j1, rfl⟩ := au q1 (by simp); obtain ⟨b2, n2, j2, rfl⟩ := au q2 (by simp); obtain ⟨b4, n4, j4, rfl⟩ := au q4 (by simp)
 obtain ⟨b5, n5, j5, rfl⟩ := au q5 (by simp); obtain ⟨b6, n6, j6, rfl⟩ := au q6 (by simp); have H1 := zmh h1; have H2 := zmh h2; have H4 := zmh h4; have H5 := zmh h5; have H6 := zmh h6; clear au h1 h2 h4 h5 h6; go_enter func32, ntmps32; go_wp2_with fail
 have hP := (znm w 54 #[.slice A0 0 c0, .slice a1 m1 k1, .slice a2 m2 k2, .slice A3 0 c3, .slice a4 m4 k4, .slice a5 m5 k5, .slice a6 m6 k6]).alloc (.cells #[.slice B0 0 d0, .slice b1 n1 j1, .slice b2 n2 j2, .slice B3 0 d3, .slice b4 n4 j4, .slice b5 n5 j5, .slice b6 n6 j6] 54)
 have hQ := znm (w.alloc (.cells #[.slice A0 0 c0, .slice a1 m1 k1, .slice a2 m2 k2, .slice A3 0 c3, .slice a4 m4 k4, .slice a5 m5 k5, .slice a6 m6 k6] 54)) 54 #[.slice B0 0 d0, .slice b1 n1 j1, .slice b2 n2 j2, .slice B3 0 d3, .slice b4 n4 j4, .slice b5 n5 j5, .slice b6 n6 j6]
 obtain ⟨W, hW⟩ := exE ((w.alloc (.cells #[.slice A0 0 c0, .slice a1 m1 k1, .slice a2 m2 k2, .slice A3 0 c3, .slice a4 m4 k4, .slice a5 m5 k5, .slice a6 m6 k6] 54)).alloc (.cells #[.slice B0 0 d0, .slice b1 n1 j1, .slice b2 n2 j2, .slice B3 0 d3, .slice b4 n4 j4, .slice b5 n5 j5, .slice b6 n6 j6] 54)); have hF : z_F w W := hW ▸ ((znl _ w).alloc _).alloc _; rw [hW] at hP hQ ⊢
 have e1 : ∀ (w : World) (o : Obj), (w.alloc o).heap.size = w.heap.size + 1 := fun w o => by simp
 rw [e1] at hQ; have x0 := hP.cell 0; have x1 := hP.cell 1; have x2 := hP.cell 2; have x3 := hP.cell 3; have x4 := hP.cell 4; have x5 := hP.cell 5; have x6 := hP.cell 6; have y0 := hQ.cell 0; have y1 := hQ.cell 1; have y2 := hQ.cell 2; have y3 := hQ.cell 3; have y4 := hQ.cell 4; have y5 := hQ.cell 5; have y6 := hQ.cell 6
 simp only [zmC, zmA, zmB] at x0 x1 x2 x3 x4 x5 x6 y0 y1 y2 y3 y4 y5 y6; have HP := zmh hP; have HQ := zmh hQ; have HF := zmh hF; clear hW hP hQ hF e1; go_loopw [5] (fun i wr => i = .int .i64 0 /\ wr = W) (fun i _ => 0)
 case atStart => exact ⟨rfl, rfl⟩
 case round =>
  obtain ⟨rfl, rfl⟩ := hrel; go_wp2_with fail
  go_loopw [6] (fun i w' => i = .int .i64 0 /\ w' = wr) (fun i _ => 0)
  case atStart => exact ⟨rfl, rfl⟩
  case round =>
   obtain ⟨rfl, rfl⟩ := hrel; go_wp2_with (go_at_call 101; refine (H1.out _ HF.out).mono ?_; rintro r W1 ⟨rfl, ah⟩; refine Hid.out ?_)
   have F1 := zmh (HF.out.same ah); have oR := HP.out.fr ah id; have ee := HQ.out.fr ah id; have P1 := zmh oR; have Q1 := zmh ee; have u1 := oR.cell 2; have v1 := ee.cell 2; simp only [zmC, zmA, zmB] at u1 v1; clear ah oR ee; refine zmh ?_
   go_wp2_with (go_at_call 102; refine (H2.out _ F1.out).mono ?_; rintro r W2 ⟨rfl, aq⟩; refine Hid.out ?_)
   have F2 := zmh (F1.out.same aq); have qz := P1.out.fr aq id; have dc := Q1.out.fr aq id; have P2 := zmh qz; have Q2 := zmh dc; have u2 := qz.cell 4; have v2 := dc.cell 4; simp only [zmC, zmA, zmB] at u2 v2; clear aq qz dc; refine zmh ?_
   go_wp2_with (go_at_call 103; refine (H4.out _ F2.out).mono ?_; rintro r W3 ⟨rfl, bL⟩; refine Hid.out ?_)
   have F3 := zmh (F2.out.same bL); have hP3 := P2.out.fr bL id; have jh := Q2.out.fr bL id; have P3 := zmh hP3; have Q3 := zmh jh; have u3 := hP3.cell 5; have v3 := jh.cell 5; simp only [zmC, zmA, zmB] at u3 v3; clear bL hP3 jh; refine zmh ?_
   go_wp2_with (go_at_call 104; refine (H5.out _ F3.out).mono ?_; rintro r W4 ⟨rfl, du⟩; refine Hid.out ?_)
   have F4 := zmh (F3.out.same du); have hP4 := P3.out.fr du id; have hQ4 := Q3.out.fr du id; have P4 := zmh hP4; have Q4 := zmh hQ4; have u4 := hP4.cell 6; have v4 := hQ4.cell 6; simp only [zmC, zmA, zmB] at u4 v4; clear du hP4 hQ4; refine zmh ?_
   go_wp2_with (go_at_call 37; refine (H6.out _ F4.out).mono ?_; rintro r W5 ⟨rfl, ap⟩; refine Hid.out ?_)
   have F5 := zmh (F4.out.same ap); have hP5 := P4.out.fr ap id; have hQ5 := Q4.out.fr ap id; have P5 := zmh hP5; have Q5 := zmh hQ5; clear ap hP5 hQ5; refine zmh ?_; go_wp2; go_ret; exact ⟨rfl, F5.out⟩
end Go.Proofs.YtbkookiigkckdaaGreatDoor
namespace Go.Proofs
open Go.Shelf
def Tryz.sortLab_ren : Go.Shelf.Ren := ⟨fun | 6 => 205 | 15 => 157 | 14 => 246 | 28 => 228 | 29 => 229 | 20 => 262 | 21 => 263 | 22 => 264 | 23 => 265 | 24 => 266 | 25 => 267 | 26 => 268 | 27 => 269 | 46 => 289 | 47 => 258 | 48 => 259 | 49 => 290 | 50 => 291 | 57 => 299 | n => n, fun | 22 => 115 | 24 => 108 | 25 => 326 | 3 => 3 | 39 => 268 | 0 => 0 | 53 => 317 | 55 => 111 | 4 => 4 | 46 => 347 | 45 => 346 | 50 => 86 | 5 => 5 | 9 => 9 | 66 => 383 | 70 => 386 | 76 => 401 | 77 => 261 | n => n, fun | n => n⟩
theorem Tryz.sortLab : Go.Proofs.SlLaysF0.n6 Tryz.prog Tryz.sortLab_ren := {
 mixed := by kernel_rfl
 f6 := ⟨Tryz.f205.name, by decide, Tryz.func205.trans (zm7 some (by kernel_rfl))⟩
 f14 := ⟨Tryz.f246.name, by decide, Tryz.func246.trans (zm7 some (by kernel_rfl))⟩
 f15 := Tryz.func157.trans (zm7 some (by kernel_rfl))
 f20 := ⟨Tryz.f262.name, by decide, Tryz.func262.trans (zm7 some (by kernel_rfl))⟩
 f21 := ⟨Tryz.f263.name, by decide, Tryz.func263.trans (zm7 some (by kernel_rfl))⟩
 f22 := ⟨Tryz.f264.name, by decide, Tryz.func264.trans (zm7 some (by kernel_rfl))⟩
 f23 := ⟨Tryz.f265.name, by decide, Tryz.func265.trans (zm7 some (by kernel_rfl))⟩
 f24 := ⟨Tryz.f266.name, by decide, Tryz.func266.trans (zm7 some (by kernel_rfl))⟩
 f25 := ⟨Tryz.f267.name, by decide, Tryz.func267.trans (zm7 some (by kernel_rfl))⟩
 f26 := ⟨Tryz.f268.name, by decide, Tryz.func268.trans (zm7 some (by kernel_rfl))⟩
 f27 := ⟨Tryz.f269.name, by decide, Tryz.func269.trans (zm7 some (by kernel_rfl))⟩
 f28 := Tryz.func228.trans (zm7 some (by kernel_rfl))
 f29 := Tryz.func229.trans (zm7 some (by kernel_rfl))
 f46 := ⟨Tryz.f289.name, by decide, Tryz.func289.trans (zm7 some (by kernel_rfl))⟩
 f47 := Tryz.func258.trans (zm7 some (by kernel_rfl))
 f48 := Tryz.func259.trans (zm7 some (by kernel_rfl))
 f49 := ⟨Tryz.f290.name, by decide, Tryz.func290.trans (zm7 some (by kernel_rfl))⟩
 f50 := ⟨Tryz.f291.name, by decide, Tryz.func291.trans (zm7 some (by kernel_rfl))⟩
 f57 := ⟨Tryz.f299.name, by decide, Tryz.func299.trans (zm7 some (by kernel_rfl))⟩
 t0 := Tryz.underlying0
 a0 := Tryz.isAgg0
 z0 := Tryz.sizeOf0
 v0 := Tryz.zeroValue0
 t3 := Tryz.underlying3
 a3 := Tryz.isAgg3
 z3 := Tryz.sizeOf3
 v3 := Tryz.zeroValue3
 t4 := Tryz.underlying4
 a4 := Tryz.isAgg4
 z4 := Tryz.sizeOf4
 v4 := Tryz.zeroValue4
 t5 := Tryz.underlying5
 a5 := Tryz.isAgg5
 z5 := Tryz.sizeOf5
 v5 := Tryz.zeroValue5
 t9 := Tryz.underlying9
 a9 := Tryz.isAgg9
 z9 := Tryz.sizeOf9
 v9 := Tryz.zeroValue9
 t22 := Tryz.underlying115
 a22 := Tryz.isAgg115
 z22 := Tryz.sizeOf115
 v22 := Tryz.zeroValue115
 t25 := Tryz.underlying326
 a25 := Tryz.isAgg326
 z25 := Tryz.sizeOf326
 v25 := Tryz.zeroValue326
 t39 := Tryz.underlying268
 a39 := Tryz.isAgg268
 z39 := Tryz.sizeOf268
 v39 := Tryz.zeroValue268
 t45 := Tryz.underlying346
 a45 := Tryz.isAgg346
 z45 := Tryz.sizeOf346
 v45 := Tryz.zeroValue346
 t46 := Tryz.underlying347
 a46 := Tryz.isAgg347
 z46 := Tryz.sizeOf347
 v46 := Tryz.zeroValue347
 t50 := Tryz.underlying86
 a50 := Tryz.isAgg86
 z50 := Tryz.sizeOf86
 v50 := Tryz.zeroValue86
 t53 := Tryz.underlying317
 a53 := Tryz.isAgg317
 z53 := Tryz.sizeOf317
 v53 := Tryz.zeroValue317
 t55 := Tryz.underlying111
 a55 := Tryz.isAgg111
 z55 := Tryz.sizeOf111
 v55 := Tryz.zeroValue111
 t66 := Tryz.underlying383
 a66 := Tryz.isAgg383
 z66 := Tryz.sizeOf383
 v66 := Tryz.zeroValue383
 t70 := Tryz.underlying386
 a70 := Tryz.isAgg386
 z70 := Tryz.sizeOf386
 v70 := Tryz.zeroValue386
 t76 := Tryz.underlying401
 a76 := Tryz.isAgg401
 z76 := Tryz.sizeOf401
 v76 := Tryz.zeroValue401
 t77 := Tryz.underlying261
 a77 := Tryz.isAgg261
 z77 := Tryz.sizeOf261
 v77 := Tryz.zeroValue261 }
end Go.Proofs
