/- Merged. -/
import Derived.Test.YtbkookiigkckdaaGreatDoorKD23
set_option linter.unusedVariables false
set_option linter.unusedSimpArgs false
set_option maxRecDepth 100000
set_option maxHeartbeats 8000000
namespace Go.Proofs.YtbkookiigkckdaaGreatDoor
open Go.RowKit Go.Proofs.Tryz
theorem zdE : (∀ (_ : True) (A0 A1 A2 A3 A4 A5 A6 : Option Addr) (c0 c1 c2 c3 c4 c5 c6 : Nat) (n0 n1 n2 n3 n4 n5 n6 n : Nat) (h0 : n0 <= 1099511627776) (h1 : n1 <= 1099511627776) (h2 : n2 <= 1099511627776) (h3 : n3 <= 1099511627776) (h4 : n4 <= 1099511627776) (h5 : n5 <= 1099511627776) (h6 : n6 <= 1099511627776) (hn : n = n0 + n1 + n2 + n3 + n4 + n5 + n6) (w : World) (P : Nat -> Prop) (lv : List (Rhs × Hsl)) (hs : SlH P w (.slice A6 n6 c6) lv) (hl : lv.length = n6) (hi : ∀ p ∈ lv, p.1.h.few 1099511627776),
 Calls prog 30 #[.int .i64 7, .agg #[.slice A0 n0 c0, .slice A1 n1 c1, .slice A2 n2 c2, .slice A3 n3 c3, .slice A4 n4 c4, .slice A5 n5 c5, .slice A6 n6 c6]] w (zas (n <= 12 /\ n = n6 /\ (∀ p ∈ lv, zbD false p.1.h) /\ (lv = [] ∨ ∃ p ∈ lv, zaV p.1 = false)) w)) /\ (∀ (_ : True) (A0 A1 A2 A3 A4 A5 A6 : Option Addr) (c0 c1 c2 c3 c4 c5 c6 : Nat) (n0 n1 n2 n3 n4 n5 n6 n : Nat) (h0 : n0 <= 1099511627776) (h1 : n1 <= 1099511627776) (h2 : n2 <= 1099511627776) (h3 : n3 <= 1099511627776) (h4 : n4 <= 1099511627776) (h5 : n5 <= 1099511627776) (h6 : n6 <= 1099511627776) (hn : n = n0 + n1 + n2 + n3 + n4 + n5 + n6) (w : World) (P : Nat -> Prop) (lv : List (Rhs × Hsl)) (hs : SlH P w (.slice A6 n6 c6) lv) (hl : lv.length = n6) (hi : ∀ p ∈ lv, p.1.h.few 1099511627776),
 Calls prog 30 #[.int .i64 8, .agg #[.slice A0 n0 c0, .slice A1 n1 c1, .slice A2 n2 c2, .slice A3 n3 c3, .slice A4 n4 c4, .slice A5 n5 c5, .slice A6 n6 c6]] w (zas (n <= 12 /\ n = n6 /\ (∀ p ∈ lv, zbD true p.1.h) /\ (lv = [] ∨ ∃ p ∈ lv, zaV p.1 = false)) w)) := by
 refine ⟨fun ag A0 A1 A2 A3 A4 A5 A6 c0 c1 c2 c3 c4 c5 c6 n0 n1 n2 n3 n4 n5 n6 n h0 h1 h2 h3 h4 h5 h6 hn w P lv hs hl hi => ?_, fun bU A0 A1 A2 A3 A4 A5 A6 c0 c1 c2 c3 c4 c5 c6 n0 n1 n2 n3 n4 n5 n6 n h0 h1 h2 h3 h4 h5 h6 hn w P lv hs hl hi => ?_⟩; all_goals
  have hC := zc9 A0 A1 A2 A3 A4 A5 A6 c0 c1 c2 c3 c4 c5 c6 n0 n1 n2 n3 n4 n5 n6 n h0 h1 h2 h3 h4 h5 h6 hn (w.alloc (.cells #[.slice A0 n0 c0, .slice A1 n1 c1, .slice A2 n2 c2, .slice A3 n3 c3, .slice A4 n4 c4, .slice A5 n5 c5, .slice A6 n6 c6] 54)); have bQ : n6 <= n := by omega
  clear hn; by_cases h12 : n <= 12
  ·have h1x : ¬ (12 : Int) < (n : Int) := by omega
   have HS := zmh hs; have HN := zmh hl; have HI := zmh hi; clear hs hl hi; go_enter func30, ntmps30; go_wp2_with (go_at_call 40; refine hC.mono ?_; rintro r w1 ⟨rfl, ah⟩; obtain ⟨x0, x1, x2, x3, x4, x5, x6⟩ := zad ((znm w 54 #[.slice A0 n0 c0, .slice A1 n1 c1, .slice A2 n2 c2, .slice A3 n3 c3, .slice A4 n4 c4, .slice A5 n5 c5, .slice A6 n6 c6]).fr ah id))
   have HF := zmh (((znl (fun _ => False) w).alloc (.cells #[.slice A0 n0 c0, .slice A1 n1 c1, .slice A2 n2 c2, .slice A3 n3 c3, .slice A4 n4 c4, .slice A5 n5 c5, .slice A6 n6 c6] 54)).same ah); have kP := HF.out.size
   have HB := zmh ((znm w 54 #[.slice A0 n0 c0, .slice A1 n1 c1, .slice A2 n2 c2, .slice A3 n3 c3, .slice A4 n4 c4, .slice A5 n5 c5, .slice A6 n6 c6]).fr ah id); clear ah hC
   first | (guard_hyp ag; go_loopw [10] (fun i wr => ∃ k : Nat, k <= n6 /\ i = .int .i64 k /\ Hid (z_F w1 wr) /\ Hid (∀ j p, j < k -> lv[j]? = some p -> zbD false p.1.h)) (fun i _ => n6 - (intOf i).toNat)) | (go_loopw [10] (fun i wr => ∃ k : Nat, k <= n6 /\ i = .int .i64 k /\ Hid (z_F w1 wr) /\ Hid (∀ j p, j < k -> lv[j]? = some p -> zbD true p.1.h)) (fun i _ => n6 - (intOf i).toNat))
   case atStart => exact ⟨0, zms _, rfl, zmh (znl _ _), zmh (fun j p h => absurd h (zm2 _))⟩
   case round =>
    obtain ⟨k, hk, rfl, RF, RG⟩ := hrel; obtain ⟨y0, y1, y2, y3, y4, y5, y6⟩ := zad (HB.out.fr RF.out id); clear x0 x1 x2 x3 x4 x5 x6; by_cases hlt : k < n6
    ·have hS := HS.out.fr (HF.out.same RF.out) z_i
     have aY := hS.2; obtain ⟨g, off, rfl, _, aa⟩ := (show Sl P wr (.slice A6 n6 c6) 15 lv.length (lv.flatMap hsc) from hS.1).at (by have := HN.out; omega); obtain ⟨x, hx⟩ : ∃ x, lv[k]? = some x := ⟨_, zmj (by rw [HN.out]; exact hlt)⟩; have aF := zmp hx
     have cc : ∀ j, j < 15 -> ∀ u, (hsc x)[j]? = some u -> wr.cell? ⟨g, off + (k * 15 + j), none⟩ = some u := fun j hj u hu => aa (k * 15 + j) u (by rw [zgE 15 hsc (fun _ => rfl) lv k x hx j hj]; exact hu); have d2 : wr.cell? ⟨g, off + k * 15 + 2, none⟩ = some (.int .u8 x.1.h.hint.toNat) := cc 2 (by omega) _ rfl
     have d3 : wr.cell? ⟨g, off + k * 15 + 3, none⟩ = some (.int .i32 x.1.h.schema) := cc 3 (by omega) _ rfl; have d4 : wr.cell? ⟨g, off + k * 15 + 4, none⟩ = some (.int .u64 x.1.h.thr) := cc 4 (by omega) _ rfl; have d5 : wr.cell? ⟨g, off + k * 15 + 5, none⟩ = some (.int .u64 x.1.h.sum) := cc 5 (by omega) _ rfl
     have d6 : wr.cell? ⟨g, off + k * 15 + 6, none⟩ = some (.int .u64 x.1.h.zc) := cc 6 (by omega) _ rfl; have d7 : wr.cell? ⟨g, off + k * 15 + 7, none⟩ = some (.int .u64 x.1.h.cnt) := cc 7 (by omega) _ rfl; have d8 : wr.cell? ⟨g, off + k * 15 + 8, none⟩ = some x.2.p := cc 8 (by omega) _ rfl; have d9 : wr.cell? ⟨g, off + k * 15 + 9, none⟩ = some x.2.n := cc 9 (by omega) _ rfl
     have nW : wr.cell? ⟨g, off + k * 15 + 10, none⟩ = some x.2.u := cc 10 (by omega) _ rfl; have nV : wr.cell? ⟨g, off + k * 15 + 11, none⟩ = some x.2.d := cc 11 (by omega) _ rfl; have nU : wr.cell? ⟨g, off + k * 15 + 12, none⟩ = some x.2.fu := cc 12 (by omega) _ rfl; have nT : wr.cell? ⟨g, off + k * 15 + 13, none⟩ = some x.2.fd := cc 13 (by omega) _ rfl
     have nS : wr.cell? ⟨g, off + k * 15 + 14, none⟩ = some x.2.c := cc 14 (by omega) _ rfl; have bz := aY x aF; have aP := HI.out x aF; have fx := zmh aF; have HX := zmh hx; clear aY hx aF cc aa hS; obtain ⟨⟨ref, t, ⟨hint, schema, thr, sum, zc, cnt, pos, neg, ups, downs, fups, fdowns, cus⟩⟩, ⟨sp, sn, su, sd, lX, lY, sc⟩⟩ := x
     simp only [] at d2 d3 d4 d5 d6 d7 d8 d9 nW nV nU nT nS bz aP
     first | (guard_hyp ag; have hC := zeO false P _ _ wr bz aP) | (have hC := zeO true P _ _ wr bz aP)
     obtain ⟨z1, z2, z3, z4, z5, z6, z7⟩ := bz; simp only [] at z1 z2 z3 z4 z5 z6 z7; obtain ⟨B1, b1, rfl⟩ := z1.shape; obtain ⟨B2, b2, rfl⟩ := z2.shape; obtain ⟨B3, b3, rfl⟩ := z3.shape; obtain ⟨B4, b4, rfl⟩ := z4.shape; obtain ⟨B5, b5, rfl⟩ := z5.shape; obtain ⟨B6, b6, rfl⟩ := z6.shape; obtain ⟨B7, b7, rfl⟩ := z7.shape; simp only [hic] at hC; obtain ⟨m1, e1⟩ := exE pos.length; rw [e1] at d8
     obtain ⟨m2, e2⟩ := exE neg.length; rw [e2] at d9; obtain ⟨m3, e3⟩ := exE ups.length; rw [e3] at nW; obtain ⟨m4, e4⟩ := exE downs.length; rw [e4] at nV; obtain ⟨m5, e5⟩ := exE fups.length; rw [e5] at nU; obtain ⟨m6, e6⟩ := exE fdowns.length; rw [e6] at nT; obtain ⟨m7, e7⟩ := exE cus.length; rw [e7] at nS; rw [e1, e2, e3, e4, e5, e6, e7] at hC; clear z1 z2 z3 z4 z5 z6 z7 aP e1 e2 e3 e4 e5 e6 e7
     go_wp2_with (go_at_call 89; refine hC.mono ?_; rintro r5 w5 ⟨b, rfl, cg, ap⟩; refine Hid.out ?_)
     have H5 := zmh (RF.out.same ap); have cj := zmh cg; obtain ⟨z0, z1, z2, z3, z4, z5, z6⟩ := zad (HB.out.fr H5.out id); clear ap cg y0 y1 y2 y3 y4 y5 y6 hC d2 d3 d4 d5 d6 d7 d8 d9 nW nV nU nT nS; rcases b with _ | _
     ·refine zmh ?_
      go_wp2; go_ret; exact ⟨false, rfl, ⟨fun h => (by cases h), fun h => absurd (cj.out.2 (h.2.2.1 _ fx.out)) (by decide)⟩, HF.out.same H5.out⟩
     ·refine zmh ?_
      go_wp2; go_roundw
      case rel => exact ⟨k + 1, by omega, by go_num, H5, zmh (fun j p h h2 => by
       rcases zmK j k with h3 | h3
       ·exact RG.out j p h3 h2
       ·obtain rfl : j = k := by omega
        have h4 := h2.symm.trans HX.out; injection h4 with h4; rw [h4]
        exact cj.out.1 rfl)⟩
      case measure => simp [intOf]; omega
    ·obtain rfl : k = n6 := by omega
     first
      | guard_hyp ag
        have aS : Hid (∀ p ∈ lv, zbD false p.1.h) := zmh (fun p hp => by
         obtain ⟨j, hj, e⟩ := znc hp
         exact RG.out j p (by rw [<- HN.out]; exact hj) (by rw [zmj hj, e]))
      | have aS : Hid (∀ p ∈ lv, zbD true p.1.h) := zmh (fun p hp => by
         obtain ⟨j, hj, e⟩ := znc hp
         exact RG.out j p (by rw [<- HN.out]; exact hj) (by rw [zmj hj, e]))
     by_cases he : n = k
     ·have HEQ := zmh he
      have hz : ((n : Int) - (k : Int) == 0) = true := by simp; omega
      have hC := zfn false P (.slice A6 k c6) lv wr (HS.out.fr (HF.out.same RF.out) z_i) (by have := HN.out; omega); obtain ⟨m, hm⟩ := exE ((lv.filter (zbx false)).length); clear he; by_cases hk0 : k = 0
      ·have jD : Hid (lv = []) := zmh (zmJ (by rw [HN.out]; exact hk0))
       have kl : ((k : Int) == 0) = true := by simp; omega
       clear hk0 hm hC; go_wp2; go_ret; exact ⟨_, rfl, zmP (by first | rfl | (simp <;> omega)) ⟨h12, HEQ.out, aS.out, .inl jD.out⟩, HF.out.same RF.out⟩
      ·have kl : ((k : Int) == 0) = false := by simp; omega
       have aN : Hid (lv ≠ []) := zmh (fun h => hk0 (by rw [<- HN.out, h]; rfl)); clear hk0; by_cases hm0 : (0 : Int) < (m : Int)
       ·have eN : Hid (∃ p ∈ lv, zaV p.1 = false) := zmh (by
         have h1 : 0 < (lv.filter (zbx false)).length := by omega
         obtain ⟨p, hp⟩ := List.exists_mem_of_length_pos h1; obtain ⟨h2, h3⟩ := zmW.1 hp
         exact ⟨p, h2, by simpa [zbx] using h3⟩)
        go_wp2_with (go_at_call 36; refine hC.mono ?_; rintro r7 w7 ⟨v7, rfl, gH, jK⟩; rw [hm] at gH; obtain ⟨a7, k7, rfl⟩ := zaa gH; have H7 := zmh jK; clear gH jK)
        go_ret; exact ⟨_, rfl, zmP (by first | rfl | (simp <;> omega)) ⟨h12, HEQ.out, aS.out, .inr eN.out⟩, (HF.out.same RF.out).same H7.out⟩
       ·have nw : Hid (¬ ∃ p ∈ lv, zaV p.1 = false) := zmh (fun ⟨p, hp, hq⟩ => by
         have h2 : p ∈ lv.filter (zbx false) := zmW.2 ⟨hp, by simp [zbx, hq]⟩; have := List.length_pos_of_mem h2
         omega)
        go_wp2_with (go_at_call 36; refine hC.mono ?_; rintro r7 w7 ⟨v7, rfl, gH, jK⟩; rw [hm] at gH; obtain ⟨a7, k7, rfl⟩ := zaa gH; have H7 := zmh jK; clear gH jK)
        go_ret; exact ⟨_, rfl, zmO (by first | (intro h; cases h; done) | (simp <;> omega)) (fun h => h.2.2.2.elim aN.out nw.out), (HF.out.same RF.out).same H7.out⟩
     ·have hz : ((n : Int) - (k : Int) == 0) = false := by simp; omega
      have j0 := zmh he; clear he; go_wp2; go_ret; exact ⟨_, rfl, zmO (by first | (intro h; cases h; done) | (simp <;> omega)) (fun h => absurd h.2.1 j0.out), HF.out.same RF.out⟩
  ·have hx : (12 : Int) < (n : Int) := by omega
   go_enter func30, ntmps30; go_wp2_with (go_at_call 40; refine hC.mono ?_; rintro r w1 ⟨rfl, ah⟩)
   go_ret; exact ⟨false, rfl, ⟨fun h => (by cases h), fun h => absurd h.1 h12⟩, ((znl _ w).alloc _).same ah⟩
theorem rightG_7 : type_of% (zdE.1 trivial) := zdE.1 trivial
theorem rightG_8 : type_of% (zdE.2 trivial) := zdE.2 trivial
theorem zdD : (∀ (_ : True) (A0 A1 A2 A3 A4 A5 A6 : Option Addr) (c0 c1 c2 c3 c4 c5 c6 : Nat) (n0 n1 n2 n3 n4 n5 n6 n : Nat) (h0 : n0 <= 1099511627776) (h1 : n1 <= 1099511627776) (h2 : n2 <= 1099511627776) (h3 : n3 <= 1099511627776) (h4 : n4 <= 1099511627776) (h5 : n5 <= 1099511627776) (h6 : n6 <= 1099511627776) (hn : n = n0 + n1 + n2 + n3 + n4 + n5 + n6) (w : World) (P : Nat -> Prop) (lv : List (Rhs × Hsl)) (hs : SlH P w (.slice A6 n6 c6) lv) (hl : lv.length = n6) (hi : ∀ p ∈ lv, p.1.h.few 1099511627776),
 Calls prog 30 #[.int .i64 9, .agg #[.slice A0 n0 c0, .slice A1 n1 c1, .slice A2 n2 c2, .slice A3 n3 c3, .slice A4 n4 c4, .slice A5 n5 c5, .slice A6 n6 c6]] w (zas (n <= 12 /\ n = n6 /\ (∀ p ∈ lv, zbD false p.1.h) /\ ∀ p ∈ lv, zaV p.1 = true) w)) /\ (∀ (_ : True) (A0 A1 A2 A3 A4 A5 A6 : Option Addr) (c0 c1 c2 c3 c4 c5 c6 : Nat) (n0 n1 n2 n3 n4 n5 n6 n : Nat) (h0 : n0 <= 1099511627776) (h1 : n1 <= 1099511627776) (h2 : n2 <= 1099511627776) (h3 : n3 <= 1099511627776) (h4 : n4 <= 1099511627776) (h5 : n5 <= 1099511627776) (h6 : n6 <= 1099511627776) (hn : n = n0 + n1 + n2 + n3 + n4 + n5 + n6) (w : World) (P : Nat -> Prop) (lv : List (Rhs × Hsl)) (hs : SlH P w (.slice A6 n6 c6) lv) (hl : lv.length = n6) (hi : ∀ p ∈ lv, p.1.h.few 1099511627776),
 Calls prog 30 #[.int .i64 10, .agg #[.slice A0 n0 c0, .slice A1 n1 c1, .slice A2 n2 c2, .slice A3 n3 c3, .slice A4 n4 c4, .slice A5 n5 c5, .slice A6 n6 c6]] w (zas (n <= 12 /\ n = n6 /\ (∀ p ∈ lv, zbD true p.1.h) /\ ∀ p ∈ lv, zaV p.1 = true) w)) := by
 refine ⟨fun ag A0 A1 A2 A3 A4 A5 A6 c0 c1 c2 c3 c4 c5 c6 n0 n1 n2 n3 n4 n5 n6 n h0 h1 h2 h3 h4 h5 h6 hn w P lv hs hl hi => ?_, fun bU A0 A1 A2 A3 A4 A5 A6 c0 c1 c2 c3 c4 c5 c6 n0 n1 n2 n3 n4 n5 n6 n h0 h1 h2 h3 h4 h5 h6 hn w P lv hs hl hi => ?_⟩; all_goals
  have hC := zc9 A0 A1 A2 A3 A4 A5 A6 c0 c1 c2 c3 c4 c5 c6 n0 n1 n2 n3 n4 n5 n6 n h0 h1 h2 h3 h4 h5 h6 hn (w.alloc (.cells #[.slice A0 n0 c0, .slice A1 n1 c1, .slice A2 n2 c2, .slice A3 n3 c3, .slice A4 n4 c4, .slice A5 n5 c5, .slice A6 n6 c6] 54)); have bQ : n6 <= n := by omega
  clear hn; by_cases h12 : n <= 12
  ·have h1x : ¬ (12 : Int) < (n : Int) := by omega
   have HS := zmh hs; have HN := zmh hl; have HI := zmh hi; clear hs hl hi; go_enter func30, ntmps30; go_wp2_with (go_at_call 40; refine hC.mono ?_; rintro r w1 ⟨rfl, ah⟩; obtain ⟨x0, x1, x2, x3, x4, x5, x6⟩ := zad ((znm w 54 #[.slice A0 n0 c0, .slice A1 n1 c1, .slice A2 n2 c2, .slice A3 n3 c3, .slice A4 n4 c4, .slice A5 n5 c5, .slice A6 n6 c6]).fr ah id))
   have HF := zmh (((znl (fun _ => False) w).alloc (.cells #[.slice A0 n0 c0, .slice A1 n1 c1, .slice A2 n2 c2, .slice A3 n3 c3, .slice A4 n4 c4, .slice A5 n5 c5, .slice A6 n6 c6] 54)).same ah); have kP := HF.out.size
   have HB := zmh ((znm w 54 #[.slice A0 n0 c0, .slice A1 n1 c1, .slice A2 n2 c2, .slice A3 n3 c3, .slice A4 n4 c4, .slice A5 n5 c5, .slice A6 n6 c6]).fr ah id); clear ah hC
   first | (guard_hyp ag; go_loopw [10] (fun i wr => ∃ k : Nat, k <= n6 /\ i = .int .i64 k /\ Hid (z_F w1 wr) /\ Hid (∀ j p, j < k -> lv[j]? = some p -> zbD false p.1.h)) (fun i _ => n6 - (intOf i).toNat)) | (go_loopw [10] (fun i wr => ∃ k : Nat, k <= n6 /\ i = .int .i64 k /\ Hid (z_F w1 wr) /\ Hid (∀ j p, j < k -> lv[j]? = some p -> zbD true p.1.h)) (fun i _ => n6 - (intOf i).toNat))
   case atStart => exact ⟨0, zms _, rfl, zmh (znl _ _), zmh (fun j p h => absurd h (zm2 _))⟩
   case round =>
    obtain ⟨k, hk, rfl, RF, RG⟩ := hrel; obtain ⟨y0, y1, y2, y3, y4, y5, y6⟩ := zad (HB.out.fr RF.out id); clear x0 x1 x2 x3 x4 x5 x6; by_cases hlt : k < n6
    ·have hS := HS.out.fr (HF.out.same RF.out) z_i
     have aY := hS.2; obtain ⟨g, off, rfl, _, aa⟩ := (show Sl P wr (.slice A6 n6 c6) 15 lv.length (lv.flatMap hsc) from hS.1).at (by have := HN.out; omega); obtain ⟨x, hx⟩ : ∃ x, lv[k]? = some x := ⟨_, zmj (by rw [HN.out]; exact hlt)⟩; have aF := zmp hx
     have cc : ∀ j, j < 15 -> ∀ u, (hsc x)[j]? = some u -> wr.cell? ⟨g, off + (k * 15 + j), none⟩ = some u := fun j hj u hu => aa (k * 15 + j) u (by rw [zgE 15 hsc (fun _ => rfl) lv k x hx j hj]; exact hu); have d2 : wr.cell? ⟨g, off + k * 15 + 2, none⟩ = some (.int .u8 x.1.h.hint.toNat) := cc 2 (by omega) _ rfl
     have d3 : wr.cell? ⟨g, off + k * 15 + 3, none⟩ = some (.int .i32 x.1.h.schema) := cc 3 (by omega) _ rfl; have d4 : wr.cell? ⟨g, off + k * 15 + 4, none⟩ = some (.int .u64 x.1.h.thr) := cc 4 (by omega) _ rfl; have d5 : wr.cell? ⟨g, off + k * 15 + 5, none⟩ = some (.int .u64 x.1.h.sum) := cc 5 (by omega) _ rfl
     have d6 : wr.cell? ⟨g, off + k * 15 + 6, none⟩ = some (.int .u64 x.1.h.zc) := cc 6 (by omega) _ rfl; have d7 : wr.cell? ⟨g, off + k * 15 + 7, none⟩ = some (.int .u64 x.1.h.cnt) := cc 7 (by omega) _ rfl; have d8 : wr.cell? ⟨g, off + k * 15 + 8, none⟩ = some x.2.p := cc 8 (by omega) _ rfl; have d9 : wr.cell? ⟨g, off + k * 15 + 9, none⟩ = some x.2.n := cc 9 (by omega) _ rfl
     have nW : wr.cell? ⟨g, off + k * 15 + 10, none⟩ = some x.2.u := cc 10 (by omega) _ rfl; have nV : wr.cell? ⟨g, off + k * 15 + 11, none⟩ = some x.2.d := cc 11 (by omega) _ rfl; have nU : wr.cell? ⟨g, off + k * 15 + 12, none⟩ = some x.2.fu := cc 12 (by omega) _ rfl; have nT : wr.cell? ⟨g, off + k * 15 + 13, none⟩ = some x.2.fd := cc 13 (by omega) _ rfl
     have nS : wr.cell? ⟨g, off + k * 15 + 14, none⟩ = some x.2.c := cc 14 (by omega) _ rfl; have bz := aY x aF; have aP := HI.out x aF; have fx := zmh aF; have HX := zmh hx; clear aY hx aF cc aa hS; obtain ⟨⟨ref, t, ⟨hint, schema, thr, sum, zc, cnt, pos, neg, ups, downs, fups, fdowns, cus⟩⟩, ⟨sp, sn, su, sd, lX, lY, sc⟩⟩ := x
     simp only [] at d2 d3 d4 d5 d6 d7 d8 d9 nW nV nU nT nS bz aP
     first | (guard_hyp ag; have hC := zeO false P _ _ wr bz aP) | (have hC := zeO true P _ _ wr bz aP)
     obtain ⟨z1, z2, z3, z4, z5, z6, z7⟩ := bz; simp only [] at z1 z2 z3 z4 z5 z6 z7; obtain ⟨B1, b1, rfl⟩ := z1.shape; obtain ⟨B2, b2, rfl⟩ := z2.shape; obtain ⟨B3, b3, rfl⟩ := z3.shape; obtain ⟨B4, b4, rfl⟩ := z4.shape; obtain ⟨B5, b5, rfl⟩ := z5.shape; obtain ⟨B6, b6, rfl⟩ := z6.shape; obtain ⟨B7, b7, rfl⟩ := z7.shape; simp only [hic] at hC; obtain ⟨m1, e1⟩ := exE pos.length; rw [e1] at d8
     obtain ⟨m2, e2⟩ := exE neg.length; rw [e2] at d9; obtain ⟨m3, e3⟩ := exE ups.length; rw [e3] at nW; obtain ⟨m4, e4⟩ := exE downs.length; rw [e4] at nV; obtain ⟨m5, e5⟩ := exE fups.length; rw [e5] at nU; obtain ⟨m6, e6⟩ := exE fdowns.length; rw [e6] at nT; obtain ⟨m7, e7⟩ := exE cus.length; rw [e7] at nS; rw [e1, e2, e3, e4, e5, e6, e7] at hC; clear z1 z2 z3 z4 z5 z6 z7 aP e1 e2 e3 e4 e5 e6 e7
     go_wp2_with (go_at_call 89; refine hC.mono ?_; rintro r5 w5 ⟨b, rfl, cg, ap⟩; refine Hid.out ?_)
     have H5 := zmh (RF.out.same ap); have cj := zmh cg; obtain ⟨z0, z1, z2, z3, z4, z5, z6⟩ := zad (HB.out.fr H5.out id); clear ap cg y0 y1 y2 y3 y4 y5 y6 hC d2 d3 d4 d5 d6 d7 d8 d9 nW nV nU nT nS; rcases b with _ | _
     ·refine zmh ?_
      go_wp2; go_ret; exact ⟨false, rfl, ⟨fun h => (by cases h), fun h => absurd (cj.out.2 (h.2.2.1 _ fx.out)) (by decide)⟩, HF.out.same H5.out⟩
     ·refine zmh ?_
      go_wp2; go_roundw
      case rel => exact ⟨k + 1, by omega, by go_num, H5, zmh (fun j p h h2 => by
       rcases zmK j k with h3 | h3
       ·exact RG.out j p h3 h2
       ·obtain rfl : j = k := by omega
        have h4 := h2.symm.trans HX.out; injection h4 with h4; rw [h4]
        exact cj.out.1 rfl)⟩
      case measure => simp [intOf]; omega
    ·obtain rfl : k = n6 := by omega
     first
      | guard_hyp ag
        have aS : Hid (∀ p ∈ lv, zbD false p.1.h) := zmh (fun p hp => by
         obtain ⟨j, hj, e⟩ := znc hp
         exact RG.out j p (by rw [<- HN.out]; exact hj) (by rw [zmj hj, e]))
      | have aS : Hid (∀ p ∈ lv, zbD true p.1.h) := zmh (fun p hp => by
         obtain ⟨j, hj, e⟩ := znc hp
         exact RG.out j p (by rw [<- HN.out]; exact hj) (by rw [zmj hj, e]))
     by_cases he : n = k
     ·have HEQ := zmh he
      have hz : ((n : Int) - (k : Int) == 0) = true := by simp; omega
      have hC := zfn false P (.slice A6 k c6) lv wr (HS.out.fr (HF.out.same RF.out) z_i) (by have := HN.out; omega); obtain ⟨m, hm⟩ := exE ((lv.filter (zbx false)).length); clear he; by_cases hm0 : m = 0
      ·subst hm0
       have eN : Hid (∀ p ∈ lv, zaV p.1 = true) := zmh (fun p hp => by
        rcases hq : zaV p.1 with _ | _
        ·have := zmJ hm
         have h2 : p ∈ lv.filter (zbx false) := zmW.2 ⟨hp, by simp [zbx, hq]⟩; rw [this] at h2; cases h2
        ·rfl)
       go_wp2_with (go_at_call 36; refine hC.mono ?_; rintro r7 w7 ⟨v7, rfl, gH, jK⟩; rw [hm] at gH; obtain ⟨a7, k7, rfl⟩ := zaa gH; have H7 := zmh jK; clear gH jK)
       go_ret; exact ⟨_, rfl, zmP (by first | rfl | (simp <;> omega)) ⟨h12, HEQ.out, aS.out, eN.out⟩, (HF.out.same RF.out).same H7.out⟩
      ·have hmz : ((m : Int) == 0) = false := by simp; omega
       have nw : Hid (¬ ∀ p ∈ lv, zaV p.1 = true) := zmh (fun h => by
        have : lv.filter (zbx false) = [] := List.filter_eq_nil_iff.2 (fun p hp => by simp [zbx, h p hp]); rw [this] at hm
        exact hm0 hm.symm)
       clear hm0; go_wp2_with (go_at_call 36; refine hC.mono ?_; rintro r7 w7 ⟨v7, rfl, gH, jK⟩; rw [hm] at gH; obtain ⟨a7, k7, rfl⟩ := zaa gH; have H7 := zmh jK; clear gH jK)
       go_ret; exact ⟨_, rfl, zmO (by first | (intro h; cases h; done) | (simp <;> omega)) (fun h => nw.out h.2.2.2), (HF.out.same RF.out).same H7.out⟩
     ·have hz : ((n : Int) - (k : Int) == 0) = false := by simp; omega
      have j0 := zmh he; clear he; go_wp2; go_ret; exact ⟨_, rfl, zmO (by first | (intro h; cases h; done) | (simp <;> omega)) (fun h => absurd h.2.1 j0.out), HF.out.same RF.out⟩
  ·have hx : (12 : Int) < (n : Int) := by omega
   go_enter func30, ntmps30; go_wp2_with (go_at_call 40; refine hC.mono ?_; rintro r w1 ⟨rfl, ah⟩)
   go_ret; exact ⟨false, rfl, ⟨fun h => (by cases h), fun h => absurd h.1 h12⟩, ((znl _ w).alloc _).same ah⟩
theorem rightG_9 : type_of% (zdD.1 trivial) := zdD.1 trivial
theorem rightG_10 : type_of% (zdD.2 trivial) := zdD.2 trivial
end Go.Proofs.YtbkookiigkckdaaGreatDoor
