/- Texts of this seat, merged and shortened. -/
import Derived.Test.YtbkookiigkckdaaGreatDoorKC24
set_option linter.unusedVariables false
set_option linter.unusedSimpArgs false
set_option maxRecDepth 100000
set_option maxHeartbeats 8000000
namespace Go.Proofs.YtbkookiigkckdaaGreatDoor
open Go.RowKit Go.Proofs.Tryz
theorem zdI : (∀ (_ : True) (A0 A1 A2 A3 A4 A5 A6 : Option Addr) (c0 c1 c2 c3 c4 c5 c6 : Nat) (n0 n1 n2 n3 n4 n5 n6 n : Nat) (h0 : n0 <= 1099511627776) (h1 : n1 <= 1099511627776) (h2 : n2 <= 1099511627776) (h3 : n3 <= 1099511627776) (h4 : n4 <= 1099511627776) (h5 : n5 <= 1099511627776) (h6 : n6 <= 1099511627776) (hn : n = n0 + n1 + n2 + n3 + n4 + n5 + n6) (w : World) (P : Nat -> Prop) (lv : List (Rhs × Hsl)) (hs : SlH P w (.slice A6 n6 c6) lv) (hl : lv.length = n6) (hi : ∀ p ∈ lv, p.1.h.few 1099511627776),
 Calls prog 30 #[.int .i64 7, .agg #[.slice A0 n0 c0, .slice A1 n1 c1, .slice A2 n2 c2, .slice A3 n3 c3, .slice A4 n4 c4, .slice A5 n5 c5, .slice A6 n6 c6]] w (zav (n <= 12 /\ n = n6 /\ (∀ p ∈ lv, zb5 false p.1.h) /\ (lv = [] ∨ ∃ p ∈ lv, za7 p.1 = false)) w)) /\ (∀ (_ : True) (A0 A1 A2 A3 A4 A5 A6 : Option Addr) (c0 c1 c2 c3 c4 c5 c6 : Nat) (n0 n1 n2 n3 n4 n5 n6 n : Nat) (h0 : n0 <= 1099511627776) (h1 : n1 <= 1099511627776) (h2 : n2 <= 1099511627776) (h3 : n3 <= 1099511627776) (h4 : n4 <= 1099511627776) (h5 : n5 <= 1099511627776) (h6 : n6 <= 1099511627776) (hn : n = n0 + n1 + n2 + n3 + n4 + n5 + n6) (w : World) (P : Nat -> Prop) (lv : List (Rhs × Hsl)) (hs : SlH P w (.slice A6 n6 c6) lv) (hl : lv.length = n6) (hi : ∀ p ∈ lv, p.1.h.few 1099511627776),
 Calls prog 30 #[.int .i64 8, .agg #[.slice A0 n0 c0, .slice A1 n1 c1, .slice A2 n2 c2, .slice A3 n3 c3, .slice A4 n4 c4, .slice A5 n5 c5, .slice A6 n6 c6]] w (zav (n <= 12 /\ n = n6 /\ (∀ p ∈ lv, zb5 true p.1.h) /\ (lv = [] ∨ ∃ p ∈ lv, za7 p.1 = false)) w)) := by
 refine ⟨fun ag A0 A1 A2 A3 A4 A5 A6 c0 c1 c2 c3 c4 c5 c6 n0 n1 n2 n3 n4 n5 n6 n h0 h1 h2 h3 h4 h5 h6 hn w P lv hs hl hi => ?_, fun bY A0 A1 A2 A3 A4 A5 A6 c0 c1 c2 c3 c4 c5 c6 n0 n1 n2 n3 n4 n5 n6 n h0 h1 h2 h3 h4 h5 h6 hn w P lv hs hl hi => ?_⟩; all_goals
  have hC := zcU A0 A1 A2 A3 A4 A5 A6 c0 c1 c2 c3 c4 c5 c6 n0 n1 n2 n3 n4 n5 n6 n h0 h1 h2 h3 h4 h5 h6 hn (w.alloc (.cells #[.slice A0 n0 c0, .slice A1 n1 c1, .slice A2 n2 c2, .slice A3 n3 c3, .slice A4 n4 c4, .slice A5 n5 c5, .slice A6 n6 c6] 54)); have bN : n6 <= n := by omega
  clear hn; by_cases h12 : n <= 12
  ·have h1x : ¬ (12 : Int) < (n : Int) := by omega
   have HS := zmk hs; have HN := zmk hl; have HI := zmk hi; clear hs hl hi; go_enter func30, ntmps30; go_wp2_with (go_at_call 40; refine hC.mono ?_; rintro r w1 ⟨rfl, ai⟩; obtain ⟨x0, x1, x2, x3, x4, x5, x6⟩ := zah ((znr w 54 #[.slice A0 n0 c0, .slice A1 n1 c1, .slice A2 n2 c2, .slice A3 n3 c3, .slice A4 n4 c4, .slice A5 n5 c5, .slice A6 n6 c6]).fr ai (fun e => e)))
   have HF := zmk (((znq (fun _ => False) w).alloc (.cells #[.slice A0 n0 c0, .slice A1 n1 c1, .slice A2 n2 c2, .slice A3 n3 c3, .slice A4 n4 c4, .slice A5 n5 c5, .slice A6 n6 c6] 54)).same ai); have kG := HF.out.size
   have HB := zmk ((znr w 54 #[.slice A0 n0 c0, .slice A1 n1 c1, .slice A2 n2 c2, .slice A3 n3 c3, .slice A4 n4 c4, .slice A5 n5 c5, .slice A6 n6 c6]).fr ai (fun e => e)); clear ai hC
   first | (guard_hyp ag; go_loopw [10] (fun i wr => ∃ k : Nat, k <= n6 /\ i = .int .i64 k /\ Hid (Fr (fun _ => False) w1 wr) /\ Hid (∀ j p, j < k -> lv[j]? = some p -> zb5 false p.1.h)) (fun i _ => n6 - (intOf i).toNat)) | (go_loopw [10] (fun i wr => ∃ k : Nat, k <= n6 /\ i = .int .i64 k /\ Hid (Fr (fun _ => False) w1 wr) /\ Hid (∀ j p, j < k -> lv[j]? = some p -> zb5 true p.1.h)) (fun i _ => n6 - (intOf i).toNat))
   case atStart => exact ⟨0, zmv _, rfl, zmk (znq _ _), zmk (fun j p h => absurd h (zm5 _))⟩
   case round =>
    obtain ⟨k, hk, rfl, RF, RG⟩ := hrel; obtain ⟨y0, y1, y2, y3, y4, y5, y6⟩ := zah (HB.out.fr RF.out (fun e => e)); clear x0 x1 x2 x3 x4 x5 x6; by_cases hlt : k < n6
    ·have hS := HS.out.fr (HF.out.same RF.out) (fun _ _ e => e)
     have b8 := hS.2; obtain ⟨g, off, rfl, _, aa⟩ := (show Sl P wr (.slice A6 n6 c6) 15 lv.length (lv.flatMap hsc) from hS.1).at (by have := HN.out; omega); obtain ⟨x, hx⟩ : ∃ x, lv[k]? = some x := ⟨_, zmm (by rw [HN.out]; exact hlt)⟩; have aH := zms hx
     have cc : ∀ j, j < 15 -> ∀ u, (hsc x)[j]? = some u -> wr.cell? ⟨g, off + (k * 15 + j), none⟩ = some u := fun j hj u hu => aa (k * 15 + j) u (by rw [zgS 15 hsc (fun _ => rfl) lv k x hx j hj]; exact hu); have d2 : wr.cell? ⟨g, off + k * 15 + 2, none⟩ = some (.int .u8 x.1.h.hint.toNat) := cc 2 (by omega) _ rfl
     have d3 : wr.cell? ⟨g, off + k * 15 + 3, none⟩ = some (.int .i32 x.1.h.schema) := cc 3 (by omega) _ rfl; have d4 : wr.cell? ⟨g, off + k * 15 + 4, none⟩ = some (.int .u64 x.1.h.thr) := cc 4 (by omega) _ rfl; have d5 : wr.cell? ⟨g, off + k * 15 + 5, none⟩ = some (.int .u64 x.1.h.sum) := cc 5 (by omega) _ rfl
     have d6 : wr.cell? ⟨g, off + k * 15 + 6, none⟩ = some (.int .u64 x.1.h.zc) := cc 6 (by omega) _ rfl; have d7 : wr.cell? ⟨g, off + k * 15 + 7, none⟩ = some (.int .u64 x.1.h.cnt) := cc 7 (by omega) _ rfl; have d8 : wr.cell? ⟨g, off + k * 15 + 8, none⟩ = some x.2.p := cc 8 (by omega) _ rfl; have d9 : wr.cell? ⟨g, off + k * 15 + 9, none⟩ = some x.2.n := cc 9 (by omega) _ rfl
     have nG : wr.cell? ⟨g, off + k * 15 + 10, none⟩ = some x.2.u := cc 10 (by omega) _ rfl; have nF : wr.cell? ⟨g, off + k * 15 + 11, none⟩ = some x.2.d := cc 11 (by omega) _ rfl; have nE : wr.cell? ⟨g, off + k * 15 + 12, none⟩ = some x.2.fu := cc 12 (by omega) _ rfl; have nD : wr.cell? ⟨g, off + k * 15 + 13, none⟩ = some x.2.fd := cc 13 (by omega) _ rfl
     have nC : wr.cell? ⟨g, off + k * 15 + 14, none⟩ = some x.2.c := cc 14 (by omega) _ rfl; have bn := b8 x aH; have aP := HI.out x aH; have ft := zmk aH; have HX := zmk hx; clear b8 hx aH cc aa hS; obtain ⟨⟨ref, t, ⟨hint, schema, thr, sum, zc, cnt, pos, neg, ups, downs, fups, fdowns, cus⟩⟩, ⟨sp, sn, su, sd, lM, lN, sc⟩⟩ := x
     simp only [] at d2 d3 d4 d5 d6 d7 d8 d9 nG nF nE nD nC bn aP
     first | (guard_hyp ag; have hC := zeZ false P _ _ wr bn aP) | (have hC := zeZ true P _ _ wr bn aP)
     obtain ⟨z1, z2, z3, z4, z5, z6, z7⟩ := bn; simp only [] at z1 z2 z3 z4 z5 z6 z7; obtain ⟨B1, b1, rfl⟩ := z1.shape; obtain ⟨B2, b2, rfl⟩ := z2.shape; obtain ⟨B3, b3, rfl⟩ := z3.shape; obtain ⟨B4, b4, rfl⟩ := z4.shape; obtain ⟨B5, b5, rfl⟩ := z5.shape; obtain ⟨B6, b6, rfl⟩ := z6.shape; obtain ⟨B7, b7, rfl⟩ := z7.shape; simp only [hic] at hC; obtain ⟨m1, e1⟩ := exE pos.length; rw [e1] at d8
     obtain ⟨m2, e2⟩ := exE neg.length; rw [e2] at d9; obtain ⟨m3, e3⟩ := exE ups.length; rw [e3] at nG; obtain ⟨m4, e4⟩ := exE downs.length; rw [e4] at nF; obtain ⟨m5, e5⟩ := exE fups.length; rw [e5] at nE; obtain ⟨m6, e6⟩ := exE fdowns.length; rw [e6] at nD; obtain ⟨m7, e7⟩ := exE cus.length; rw [e7] at nC; rw [e1, e2, e3, e4, e5, e6, e7] at hC; clear z1 z2 z3 z4 z5 z6 z7 aP e1 e2 e3 e4 e5 e6 e7
     go_wp2_with (go_at_call 89; refine hC.mono ?_; rintro r5 w5 ⟨b, rfl, cg, aq⟩; refine Hid.out ?_)
     have H5 := zmk (RF.out.same aq); have cu := zmk cg; obtain ⟨z0, z1, z2, z3, z4, z5, z6⟩ := zah (HB.out.fr H5.out (fun e => e)); clear aq cg y0 y1 y2 y3 y4 y5 y6 hC d2 d3 d4 d5 d6 d7 d8 d9 nG nF nE nD nC; rcases b with _ | _
     ·refine zmk ?_
      go_wp2; go_ret; exact ⟨false, rfl, ⟨fun h => (by cases h), fun h => absurd (cu.out.2 (h.2.2.1 _ ft.out)) (by decide)⟩, HF.out.same H5.out⟩
     ·refine zmk ?_
      go_wp2; go_roundw
      case rel => exact ⟨k + 1, by omega, by go_num, H5, zmk (fun j p h h2 => by
       rcases zmN j k with h3 | h3
       ·exact RG.out j p h3 h2
       ·obtain rfl : j = k := by omega
        have h4 := h2.symm.trans HX.out; injection h4 with h4; rw [h4]
        exact cu.out.1 rfl)⟩
      case measure => simp [intOf]; omega
    ·obtain rfl : k = n6 := by omega
     first
      | guard_hyp ag
        have bw : Hid (∀ p ∈ lv, zb5 false p.1.h) := zmk (fun p hp => by
         obtain ⟨j, hj, e⟩ := zng hp
         exact RG.out j p (by rw [<- HN.out]; exact hj) (by rw [zmm hj, e]))
      | have bw : Hid (∀ p ∈ lv, zb5 true p.1.h) := zmk (fun p hp => by
         obtain ⟨j, hj, e⟩ := zng hp
         exact RG.out j p (by rw [<- HN.out]; exact hj) (by rw [zmm hj, e]))
     by_cases he : n = k
     ·have HEQ := zmk he
      have hz : ((n : Int) - (k : Int) == 0) = true := by simp; omega
      have hC := zfx false P (.slice A6 k c6) lv wr (HS.out.fr (HF.out.same RF.out) (fun _ _ e => e)) (by have := HN.out; omega); obtain ⟨m, hm⟩ := exE ((lv.filter (zbD false)).length); clear he; by_cases hk0 : k = 0
      ·have ju : Hid (lv = []) := zmk (zmM (by rw [HN.out]; exact hk0))
       have kh : ((k : Int) == 0) = true := by simp; omega
       clear hk0 hm hC; go_wp2; go_ret; exact ⟨_, rfl, zmS (by first | rfl | (simp <;> omega)) ⟨h12, HEQ.out, bw.out, .inl ju.out⟩, HF.out.same RF.out⟩
      ·have kh : ((k : Int) == 0) = false := by simp; omega
       have bB : Hid (lv ≠ []) := zmk (fun h => hk0 (by rw [<- HN.out, h]; rfl)); clear hk0; by_cases hm0 : (0 : Int) < (m : Int)
       ·have eN : Hid (∃ p ∈ lv, za7 p.1 = false) := zmk (by
         have h1 : 0 < (lv.filter (zbD false)).length := by omega
         obtain ⟨p, hp⟩ := List.exists_mem_of_length_pos h1; obtain ⟨h2, h3⟩ := zmZ.1 hp
         exact ⟨p, h2, by simpa [zbD] using h3⟩)
        go_wp2_with (go_at_call 36; refine hC.mono ?_; rintro r7 w7 ⟨v7, rfl, gw, jF⟩; rw [hm] at gw; obtain ⟨a7, k7, rfl⟩ := zaa gw; have H7 := zmk jF; clear gw jF)
        go_ret; exact ⟨_, rfl, zmS (by first | rfl | (simp <;> omega)) ⟨h12, HEQ.out, bw.out, .inr eN.out⟩, (HF.out.same RF.out).same H7.out⟩
       ·have mZ : Hid (¬ ∃ p ∈ lv, za7 p.1 = false) := zmk (fun ⟨p, hp, hq⟩ => by
         have h2 : p ∈ lv.filter (zbD false) := zmZ.2 ⟨hp, by simp [zbD, hq]⟩; have := List.length_pos_of_mem h2
         omega)
        go_wp2_with (go_at_call 36; refine hC.mono ?_; rintro r7 w7 ⟨v7, rfl, gw, jF⟩; rw [hm] at gw; obtain ⟨a7, k7, rfl⟩ := zaa gw; have H7 := zmk jF; clear gw jF)
        go_ret; exact ⟨_, rfl, zmR (by first | (intro h; cases h; done) | (simp <;> omega)) (fun h => h.2.2.2.elim bB.out mZ.out), (HF.out.same RF.out).same H7.out⟩
     ·have hz : ((n : Int) - (k : Int) == 0) = false := by simp; omega
      have iQ := zmk he; clear he; go_wp2; go_ret; exact ⟨_, rfl, zmR (by first | (intro h; cases h; done) | (simp <;> omega)) (fun h => absurd h.2.1 iQ.out), HF.out.same RF.out⟩
  ·have hx : (12 : Int) < (n : Int) := by omega
   go_enter func30, ntmps30; go_wp2_with (go_at_call 40; refine hC.mono ?_; rintro r w1 ⟨rfl, ai⟩)
   go_ret; exact ⟨false, rfl, ⟨fun h => (by cases h), fun h => absurd h.1 h12⟩, ((znq _ w).alloc _).same ai⟩
theorem rightG_7 : type_of% (zdI.1 trivial) := zdI.1 trivial
theorem rightG_8 : type_of% (zdI.2 trivial) := zdI.2 trivial
theorem zdH : (∀ (_ : True) (A0 A1 A2 A3 A4 A5 A6 : Option Addr) (c0 c1 c2 c3 c4 c5 c6 : Nat) (n0 n1 n2 n3 n4 n5 n6 n : Nat) (h0 : n0 <= 1099511627776) (h1 : n1 <= 1099511627776) (h2 : n2 <= 1099511627776) (h3 : n3 <= 1099511627776) (h4 : n4 <= 1099511627776) (h5 : n5 <= 1099511627776) (h6 : n6 <= 1099511627776) (hn : n = n0 + n1 + n2 + n3 + n4 + n5 + n6) (w : World) (P : Nat -> Prop) (lv : List (Rhs × Hsl)) (hs : SlH P w (.slice A6 n6 c6) lv) (hl : lv.length = n6) (hi : ∀ p ∈ lv, p.1.h.few 1099511627776),
 Calls prog 30 #[.int .i64 9, .agg #[.slice A0 n0 c0, .slice A1 n1 c1, .slice A2 n2 c2, .slice A3 n3 c3, .slice A4 n4 c4, .slice A5 n5 c5, .slice A6 n6 c6]] w (zav (n <= 12 /\ n = n6 /\ (∀ p ∈ lv, zb5 false p.1.h) /\ ∀ p ∈ lv, za7 p.1 = true) w)) /\ (∀ (_ : True) (A0 A1 A2 A3 A4 A5 A6 : Option Addr) (c0 c1 c2 c3 c4 c5 c6 : Nat) (n0 n1 n2 n3 n4 n5 n6 n : Nat) (h0 : n0 <= 1099511627776) (h1 : n1 <= 1099511627776) (h2 : n2 <= 1099511627776) (h3 : n3 <= 1099511627776) (h4 : n4 <= 1099511627776) (h5 : n5 <= 1099511627776) (h6 : n6 <= 1099511627776) (hn : n = n0 + n1 + n2 + n3 + n4 + n5 + n6) (w : World) (P : Nat -> Prop) (lv : List (Rhs × Hsl)) (hs : SlH P w (.slice A6 n6 c6) lv) (hl : lv.length = n6) (hi : ∀ p ∈ lv, p.1.h.few 1099511627776),
 Calls prog 30 #[.int .i64 10, .agg #[.slice A0 n0 c0, .slice A1 n1 c1, .slice A2 n2 c2, .slice A3 n3 c3, .slice A4 n4 c4, .slice A5 n5 c5, .slice A6 n6 c6]] w (zav (n <= 12 /\ n = n6 /\ (∀ p ∈ lv, zb5 true p.1.h) /\ ∀ p ∈ lv, za7 p.1 = true) w)) := by
 refine ⟨fun ag A0 A1 A2 A3 A4 A5 A6 c0 c1 c2 c3 c4 c5 c6 n0 n1 n2 n3 n4 n5 n6 n h0 h1 h2 h3 h4 h5 h6 hn w P lv hs hl hi => ?_, fun bY A0 A1 A2 A3 A4 A5 A6 c0 c1 c2 c3 c4 c5 c6 n0 n1 n2 n3 n4 n5 n6 n h0 h1 h2 h3 h4 h5 h6 hn w P lv hs hl hi => ?_⟩; all_goals
  have hC := zcU A0 A1 A2 A3 A4 A5 A6 c0 c1 c2 c3 c4 c5 c6 n0 n1 n2 n3 n4 n5 n6 n h0 h1 h2 h3 h4 h5 h6 hn (w.alloc (.cells #[.slice A0 n0 c0, .slice A1 n1 c1, .slice A2 n2 c2, .slice A3 n3 c3, .slice A4 n4 c4, .slice A5 n5 c5, .slice A6 n6 c6] 54)); have bN : n6 <= n := by omega
  clear hn; by_cases h12 : n <= 12
  ·have h1x : ¬ (12 : Int) < (n : Int) := by omega
   have HS := zmk hs; have HN := zmk hl; have HI := zmk hi; clear hs hl hi; go_enter func30, ntmps30; go_wp2_with (go_at_call 40; refine hC.mono ?_; rintro r w1 ⟨rfl, ai⟩; obtain ⟨x0, x1, x2, x3, x4, x5, x6⟩ := zah ((znr w 54 #[.slice A0 n0 c0, .slice A1 n1 c1, .slice A2 n2 c2, .slice A3 n3 c3, .slice A4 n4 c4, .slice A5 n5 c5, .slice A6 n6 c6]).fr ai (fun e => e)))
   have HF := zmk (((znq (fun _ => False) w).alloc (.cells #[.slice A0 n0 c0, .slice A1 n1 c1, .slice A2 n2 c2, .slice A3 n3 c3, .slice A4 n4 c4, .slice A5 n5 c5, .slice A6 n6 c6] 54)).same ai); have kG := HF.out.size
   have HB := zmk ((znr w 54 #[.slice A0 n0 c0, .slice A1 n1 c1, .slice A2 n2 c2, .slice A3 n3 c3, .slice A4 n4 c4, .slice A5 n5 c5, .slice A6 n6 c6]).fr ai (fun e => e)); clear ai hC
   first | (guard_hyp ag; go_loopw [10] (fun i wr => ∃ k : Nat, k <= n6 /\ i = .int .i64 k /\ Hid (Fr (fun _ => False) w1 wr) /\ Hid (∀ j p, j < k -> lv[j]? = some p -> zb5 false p.1.h)) (fun i _ => n6 - (intOf i).toNat)) | (go_loopw [10] (fun i wr => ∃ k : Nat, k <= n6 /\ i = .int .i64 k /\ Hid (Fr (fun _ => False) w1 wr) /\ Hid (∀ j p, j < k -> lv[j]? = some p -> zb5 true p.1.h)) (fun i _ => n6 - (intOf i).toNat))
   case atStart => exact ⟨0, zmv _, rfl, zmk (znq _ _), zmk (fun j p h => absurd h (zm5 _))⟩
   case round =>
    obtain ⟨k, hk, rfl, RF, RG⟩ := hrel; obtain ⟨y0, y1, y2, y3, y4, y5, y6⟩ := zah (HB.out.fr RF.out (fun e => e)); clear x0 x1 x2 x3 x4 x5 x6; by_cases hlt : k < n6
    ·have hS := HS.out.fr (HF.out.same RF.out) (fun _ _ e => e)
     have b8 := hS.2; obtain ⟨g, off, rfl, _, aa⟩ := (show Sl P wr (.slice A6 n6 c6) 15 lv.length (lv.flatMap hsc) from hS.1).at (by have := HN.out; omega); obtain ⟨x, hx⟩ : ∃ x, lv[k]? = some x := ⟨_, zmm (by rw [HN.out]; exact hlt)⟩; have aH := zms hx
     have cc : ∀ j, j < 15 -> ∀ u, (hsc x)[j]? = some u -> wr.cell? ⟨g, off + (k * 15 + j), none⟩ = some u := fun j hj u hu => aa (k * 15 + j) u (by rw [zgS 15 hsc (fun _ => rfl) lv k x hx j hj]; exact hu); have d2 : wr.cell? ⟨g, off + k * 15 + 2, none⟩ = some (.int .u8 x.1.h.hint.toNat) := cc 2 (by omega) _ rfl
     have d3 : wr.cell? ⟨g, off + k * 15 + 3, none⟩ = some (.int .i32 x.1.h.schema) := cc 3 (by omega) _ rfl; have d4 : wr.cell? ⟨g, off + k * 15 + 4, none⟩ = some (.int .u64 x.1.h.thr) := cc 4 (by omega) _ rfl; have d5 : wr.cell? ⟨g, off + k * 15 + 5, none⟩ = some (.int .u64 x.1.h.sum) := cc 5 (by omega) _ rfl
     have d6 : wr.cell? ⟨g, off + k * 15 + 6, none⟩ = some (.int .u64 x.1.h.zc) := cc 6 (by omega) _ rfl; have d7 : wr.cell? ⟨g, off + k * 15 + 7, none⟩ = some (.int .u64 x.1.h.cnt) := cc 7 (by omega) _ rfl; have d8 : wr.cell? ⟨g, off + k * 15 + 8, none⟩ = some x.2.p := cc 8 (by omega) _ rfl; have d9 : wr.cell? ⟨g, off + k * 15 + 9, none⟩ = some x.2.n := cc 9 (by omega) _ rfl
     have nG : wr.cell? ⟨g, off + k * 15 + 10, none⟩ = some x.2.u := cc 10 (by omega) _ rfl; have nF : wr.cell? ⟨g, off + k * 15 + 11, none⟩ = some x.2.d := cc 11 (by omega) _ rfl; have nE : wr.cell? ⟨g, off + k * 15 + 12, none⟩ = some x.2.fu := cc 12 (by omega) _ rfl; have nD : wr.cell? ⟨g, off + k * 15 + 13, none⟩ = some x.2.fd := cc 13 (by omega) _ rfl
     have nC : wr.cell? ⟨g, off + k * 15 + 14, none⟩ = some x.2.c := cc 14 (by omega) _ rfl; have bn := b8 x aH; have aP := HI.out x aH; have ft := zmk aH; have HX := zmk hx; clear b8 hx aH cc aa hS; obtain ⟨⟨ref, t, ⟨hint, schema, thr, sum, zc, cnt, pos, neg, ups, downs, fups, fdowns, cus⟩⟩, ⟨sp, sn, su, sd, lM, lN, sc⟩⟩ := x
     simp only [] at d2 d3 d4 d5 d6 d7 d8 d9 nG nF nE nD nC bn aP
     first | (guard_hyp ag; have hC := zeZ false P _ _ wr bn aP) | (have hC := zeZ true P _ _ wr bn aP)
     obtain ⟨z1, z2, z3, z4, z5, z6, z7⟩ := bn; simp only [] at z1 z2 z3 z4 z5 z6 z7; obtain ⟨B1, b1, rfl⟩ := z1.shape; obtain ⟨B2, b2, rfl⟩ := z2.shape; obtain ⟨B3, b3, rfl⟩ := z3.shape; obtain ⟨B4, b4, rfl⟩ := z4.shape; obtain ⟨B5, b5, rfl⟩ := z5.shape; obtain ⟨B6, b6, rfl⟩ := z6.shape; obtain ⟨B7, b7, rfl⟩ := z7.shape; simp only [hic] at hC; obtain ⟨m1, e1⟩ := exE pos.length; rw [e1] at d8
     obtain ⟨m2, e2⟩ := exE neg.length; rw [e2] at d9; obtain ⟨m3, e3⟩ := exE ups.length; rw [e3] at nG; obtain ⟨m4, e4⟩ := exE downs.length; rw [e4] at nF; obtain ⟨m5, e5⟩ := exE fups.length; rw [e5] at nE; obtain ⟨m6, e6⟩ := exE fdowns.length; rw [e6] at nD; obtain ⟨m7, e7⟩ := exE cus.length; rw [e7] at nC; rw [e1, e2, e3, e4, e5, e6, e7] at hC; clear z1 z2 z3 z4 z5 z6 z7 aP e1 e2 e3 e4 e5 e6 e7
     go_wp2_with (go_at_call 89; refine hC.mono ?_; rintro r5 w5 ⟨b, rfl, cg, aq⟩; refine Hid.out ?_)
     have H5 := zmk (RF.out.same aq); have cu := zmk cg; obtain ⟨z0, z1, z2, z3, z4, z5, z6⟩ := zah (HB.out.fr H5.out (fun e => e)); clear aq cg y0 y1 y2 y3 y4 y5 y6 hC d2 d3 d4 d5 d6 d7 d8 d9 nG nF nE nD nC; rcases b with _ | _
     ·refine zmk ?_
      go_wp2; go_ret; exact ⟨false, rfl, ⟨fun h => (by cases h), fun h => absurd (cu.out.2 (h.2.2.1 _ ft.out)) (by decide)⟩, HF.out.same H5.out⟩
     ·refine zmk ?_
      go_wp2; go_roundw
      case rel => exact ⟨k + 1, by omega, by go_num, H5, zmk (fun j p h h2 => by
       rcases zmN j k with h3 | h3
       ·exact RG.out j p h3 h2
       ·obtain rfl : j = k := by omega
        have h4 := h2.symm.trans HX.out; injection h4 with h4; rw [h4]
        exact cu.out.1 rfl)⟩
      case measure => simp [intOf]; omega
    ·obtain rfl : k = n6 := by omega
     first
      | guard_hyp ag
        have bw : Hid (∀ p ∈ lv, zb5 false p.1.h) := zmk (fun p hp => by
         obtain ⟨j, hj, e⟩ := zng hp
         exact RG.out j p (by rw [<- HN.out]; exact hj) (by rw [zmm hj, e]))
      | have bw : Hid (∀ p ∈ lv, zb5 true p.1.h) := zmk (fun p hp => by
         obtain ⟨j, hj, e⟩ := zng hp
         exact RG.out j p (by rw [<- HN.out]; exact hj) (by rw [zmm hj, e]))
     by_cases he : n = k
     ·have HEQ := zmk he
      have hz : ((n : Int) - (k : Int) == 0) = true := by simp; omega
      have hC := zfx false P (.slice A6 k c6) lv wr (HS.out.fr (HF.out.same RF.out) (fun _ _ e => e)) (by have := HN.out; omega); obtain ⟨m, hm⟩ := exE ((lv.filter (zbD false)).length); clear he; by_cases hm0 : m = 0
      ·subst hm0
       have eN : Hid (∀ p ∈ lv, za7 p.1 = true) := zmk (fun p hp => by
        rcases hq : za7 p.1 with _ | _
        ·have := zmM hm
         have h2 : p ∈ lv.filter (zbD false) := zmZ.2 ⟨hp, by simp [zbD, hq]⟩; rw [this] at h2; cases h2
        ·rfl)
       go_wp2_with (go_at_call 36; refine hC.mono ?_; rintro r7 w7 ⟨v7, rfl, gw, jF⟩; rw [hm] at gw; obtain ⟨a7, k7, rfl⟩ := zaa gw; have H7 := zmk jF; clear gw jF)
       go_ret; exact ⟨_, rfl, zmS (by first | rfl | (simp <;> omega)) ⟨h12, HEQ.out, bw.out, eN.out⟩, (HF.out.same RF.out).same H7.out⟩
      ·have hmz : ((m : Int) == 0) = false := by simp; omega
       have mZ : Hid (¬ ∀ p ∈ lv, za7 p.1 = true) := zmk (fun h => by
        have : lv.filter (zbD false) = [] := List.filter_eq_nil_iff.2 (fun p hp => by simp [zbD, h p hp]); rw [this] at hm
        exact hm0 hm.symm)
       clear hm0; go_wp2_with (go_at_call 36; refine hC.mono ?_; rintro r7 w7 ⟨v7, rfl, gw, jF⟩; rw [hm] at gw; obtain ⟨a7, k7, rfl⟩ := zaa gw; have H7 := zmk jF; clear gw jF)
       go_ret; exact ⟨_, rfl, zmR (by first | (intro h; cases h; done) | (simp <;> omega)) (fun h => mZ.out h.2.2.2), (HF.out.same RF.out).same H7.out⟩
     ·have hz : ((n : Int) - (k : Int) == 0) = false := by simp; omega
      have iQ := zmk he; clear he; go_wp2; go_ret; exact ⟨_, rfl, zmR (by first | (intro h; cases h; done) | (simp <;> omega)) (fun h => absurd h.2.1 iQ.out), HF.out.same RF.out⟩
  ·have hx : (12 : Int) < (n : Int) := by omega
   go_enter func30, ntmps30; go_wp2_with (go_at_call 40; refine hC.mono ?_; rintro r w1 ⟨rfl, ai⟩)
   go_ret; exact ⟨false, rfl, ⟨fun h => (by cases h), fun h => absurd h.1 h12⟩, ((znq _ w).alloc _).same ai⟩
theorem rightG_9 : type_of% (zdH.1 trivial) := zdH.1 trivial
theorem rightG_10 : type_of% (zdH.2 trivial) := zdH.2 trivial
theorem zhN {h : Hst} (k : h.few 60) : h.few 1099511627776 := by
 obtain ⟨a, b, c, d, e, f, g⟩ := k; exact ⟨by omega, by omega, by omega, by omega, by omega, by omega, by omega⟩
def leftW (l : List Rhs) : List Rhs := (l.filter za7).map fun s => { s with h := s.h.cutW }
def leftF (l : List Rhs) : List Rhs := (l.filter za7).map fun s => { s with h := s.h.cutF }
def LeftIs (base : Nat) (l : List Rhs) (u : Value) (W : World) : Prop := ∃ lu, lu.map Prod.fst = l /\ OwnI base W u lu
theorem LeftIs.shape {base : Nat} {l : List Rhs} {u : Value} {W : World} (h : LeftIs base l u W) : ∃ A m c, u = .slice A m c := let ⟨_, _, h⟩ := h; zac h.1
theorem LeftIs.vars {base : Nat} {l : List Rhs} {u : Value} {W W' : World} (h : LeftIs base l u W) (hv : Vars W W') : LeftIs base l u W' := by
 obtain ⟨lu, h1, h2, h3⟩ := h
 have go : ∀ {e : TypeId} {z n : Nat} {u : Value} {xs : List Value}, e ≠ 4 -> e ≠ 44 -> e ≠ 52 -> W.ownsRow base e z u n xs -> W'.ownsRow base e z u n xs := fun e1 e2 e3 o => zaj o hv (fun g hg k => by
  obtain ⟨cs, k | k | k⟩ := k
  ·exact zak o k e1 hg
  ·exact zak o k e2 hg
  ·exact zak o k e3 hg)
 refine ⟨lu, h1, go (by decide) (by decide) (by decide) h2, fun p hp => ?_⟩; obtain ⟨a1, a2, a3, a4, a5, a6, a7⟩ := h3 p hp
 exact ⟨go (by decide) (by decide) (by decide) a1, go (by decide) (by decide) (by decide) a2, go (by decide) (by decide) (by decide) a3, go (by decide) (by decide) (by decide) a4, go (by decide) (by decide) (by decide) a5, go (by decide) (by decide) (by decide) a6, go (by decide) (by decide) (by decide) a7⟩
theorem zcI : (∀ (_ : True) (bk bp bb br : Nat) (ep lp : Value) (P : Nat -> Prop) (s0 s1 s2 s3 s4 s5 s6 v z : Value) (xs : List UInt8) (lv : List (Rhs × Hsl)) (w : World) (hk : Blk w bk 3 #[.int .i64 9]) (hp : Blk w bp 54 #[s0, s1, s2, s3, s4, s5, s6]) (hb : Blk w bb 44 #[v]) (hr : Blk w br 44 #[z])
 (ab : w.ownsRow 0 5 1 v xs.length (bc xs)) (hs : SlH P w s6 lv) (hl : xs.length <= 536870912) (au : lv.length <= 12) (aG : ∀ s ∈ (lv.map Prod.fst), s.ok) (bL : bb ≠ br),
 Calls prog 90 #[.pointer (some ⟨bk, 0, none⟩), ep, .pointer (some ⟨bp, 0, none⟩), .pointer (some ⟨bb, 0, none⟩), .pointer (some ⟨br, 0, none⟩), lp] w (zcu w br v.ownBlock (xs ++ zbf 9 (fun _ => true) (lv.map Prod.fst)))) /\ (∀ (_ : True) (bk bp bb br : Nat) (ep lp : Value) (P : Nat -> Prop) (s0 s1 s2 s3 s4 s5 s6 v z : Value) (xs : List UInt8) (lv : List (Rhs × Hsl)) (w : World) (hk : Blk w bk 3 #[.int .i64 10]) (hp : Blk w bp 54 #[s0, s1, s2, s3, s4, s5, s6]) (hb : Blk w bb 44 #[v]) (hr : Blk w br 44 #[z])
 (ab : w.ownsRow 0 5 1 v xs.length (bc xs)) (hs : SlH P w s6 lv) (hl : xs.length <= 536870912) (au : lv.length <= 12) (aG : ∀ s ∈ (lv.map Prod.fst), s.ok) (bL : bb ≠ br),
 Calls prog 90 #[.pointer (some ⟨bk, 0, none⟩), ep, .pointer (some ⟨bp, 0, none⟩), .pointer (some ⟨bb, 0, none⟩), .pointer (some ⟨br, 0, none⟩), lp] w (zcu w br v.ownBlock (xs ++ zbg 10 (fun _ => true) (lv.map Prod.fst)))) := by
 refine ⟨fun ag bk bp bb br ep lp P s0 s1 s2 s3 s4 s5 s6 v z xs lv w hk hp hb hr ab hs hl au aG bL => ?_, fun bY bk bp bb br ep lp P s0 s1 s2 s3 s4 s5 s6 v z xs lv w hk hp hb hr ab hs hl au aG bL => ?_⟩; all_goals
  have iq : bp ≠ br := zns hp hr (by decide); have k0 := hk.cell 0; have p1 := hp.cell 6; have b0 := hb.cell 0; simp at k0 p1 b0; obtain ⟨a', n', k', rfl⟩ := zac ab; have bA : ∃ A m c, s6 = .slice A m c := let ⟨A, c, h, _⟩ := hs.1; ⟨A, _, c, h⟩
  obtain ⟨A, m, c, rfl⟩ := bA
  first | (guard_hyp ag; have hQ := zcA P (.slice A m c) lv w.drew hs (by omega) (fun p hp => zhN (aG p.1 (zmQ.2 ⟨p, hp, rfl⟩)).2.2.2.few)) | (have hQ := zdK P (.slice A m c) lv w.drew hs (by omega) (fun p hp => zhN (aG p.1 (zmQ.2 ⟨p, hp, rfl⟩)).2.2.2.few))
  have HB := zmk hb; have HP := zmk hp; have HR := zmk hr; have HO := zmk ab; have gr : w.drew.cell? ⟨bp, 6, none⟩ = some (.slice A m c) := p1; have gV : w.drew.cell? ⟨bb, 0, none⟩ = some (.slice a' n' k') := b0; obtain ⟨LS, nx⟩ := exE (lv.map Prod.fst); have cZ : LS.length <= 12 := by rw [<- nx, zmI]; exact au
  rw [nx] at hQ aG ⊢; clear hk hp hb hr ab hs nx au; go_enter func90, ntmps90; go_wp2_with fail
  have HW := zmk aG; clear aG; go_region_held3 (fun w' => w'.cell? ⟨bp, 6, none⟩ = some (.slice A m c) /\ w'.cell? ⟨bb, 0, none⟩ = some (.slice a' n' k'))
   ((first | (go_split_ands; refine ⟨?_, ?_⟩ <;> first | exact ((HP.out.drew).fr ai (fun e => e)).cell 6 | exact ((HB.out.drew).fr ai (fun e => e)).cell 0) | (go_split_ands; refine ⟨?_, ?_⟩ <;> first | exact KP.out.cell 6 | exact KB.out.cell 0) | (go_split_ands; refine ⟨?_, ?_⟩ <;> first | exact (KP.out.far (p := ⟨br, 0, none⟩) iq _).cell 6 | exact (KB.out.far (p := ⟨br, 0, none⟩) bL _).cell 0) | go_keep))
   ((first
     | (go_at_call 84; refine hQ.mono ?_; rintro r1 w1 ⟨v1, lo, rfl, hlo, an, ai⟩)
     | (go_at_call 87; refine hQ.mono ?_; rintro r1 w1 ⟨v1, lo, rfl, hlo, an, ai⟩)
     | (go_at_call 99; refine (zkA ep v1 (fun g => w.drew.heap.size <= g /\ g < w1.heap.size) (.slice a' n' k') xs lo w1 an.rd (zaj (World.ownsRow.drew HO.out) ai (fun _ _ e => e)) hl (by rw [<- hlo, zmI] at cZ; exact cZ) (fun p hp => HW.out p.1 (by rw [<- hlo]; exact zmQ.2 ⟨p, hp, rfl⟩)) (fun g hg => ⟨hg.2, fun e => by have h1 : w.heap.size <= g := hg.1; have h2 := zas HO.out e.symm; omega⟩)).mono ?_; rintro r2 w2 ⟨v2, rfl, af, ar, bu⟩; rw [hlo] at af; obtain ⟨KP, KB, KR⟩ := zbj HP.out HB.out HR.out HO.out ai ar; have q0 := KR.out.cell 0; simp at q0; have q1 := KR.out.frozen 0; obtain ⟨a2, n2, k2, rfl⟩ := zac af)
     | (go_at_call 100; refine (zkB ep v1 (fun g => w.drew.heap.size <= g /\ g < w1.heap.size) (.slice a' n' k') xs lo w1 an.rd (zaj (World.ownsRow.drew HO.out) ai (fun _ _ e => e)) hl (by rw [<- hlo, zmI] at cZ; exact cZ) (fun p hp => HW.out p.1 (by rw [<- hlo]; exact zmQ.2 ⟨p, hp, rfl⟩)) (fun g hg => ⟨hg.2, fun e => by have h1 : w.heap.size <= g := hg.1; have h2 := zas HO.out e.symm; omega⟩)).mono ?_; rintro r2 w2 ⟨v2, rfl, af, ar, bu⟩; rw [hlo] at af; obtain ⟨KP, KB, KR⟩ := zbj HP.out HB.out HR.out HO.out ai ar; have q0 := KR.out.cell 0; simp at q0; have q1 := KR.out.frozen 0; obtain ⟨a2, n2, k2, rfl⟩ := zac af)))
  have HE : Fr (fun k => some k = (Value.slice a' n' k').ownBlock ∨ k = br) w (w2.setCell ⟨br, 0, none⟩ (.slice a2 n2 k2)) :=
   ((((znq (fun k => some k = (Value.slice a' n' k').ownBlock ∨ k = br) w).drew).trans ai (fun _ _ e => e.elim)).trans ar (fun _ _ e => .inl e)).setCell (p := ⟨br, 0, none⟩) (.inl (.inr rfl)) _
  have HV : Blk (w2.setCell ⟨br, 0, none⟩ (.slice a2 n2 k2)) br 44 #[.slice a2 n2 k2] := by simpa using KR.out.set_ 0 (.slice a2 n2 k2)
  have HF := zmk HE; have iN := zmk HV
  first | (guard_hyp ag; have eT : (w2.setCell ⟨br, 0, none⟩ (.slice a2 n2 k2)).ownsRow 0 5 1 (.slice a2 n2 k2) (xs ++ zbf 9 (fun _ => true) LS).length (bc (xs ++ zbf 9 (fun _ => true) LS)) := zaj af (Fr.put_ w2 br 0 _) (fun g hg e => zak af KR.out (by decide) (by rw [hg, e]))) | (have eT : (w2.setCell ⟨br, 0, none⟩ (.slice a2 n2 k2)).ownsRow 0 5 1 (.slice a2 n2 k2) (xs ++ zbg 10 (fun _ => true) LS).length (bc (xs ++ zbg 10 (fun _ => true) LS)) := zaj af (Fr.put_ w2 br 0 _) (fun g hg e => zak af KR.out (by decide) (by rw [hg, e])))
  have dO := zmk eT; have bG := ai.size; have gd := zmk bu; clear HE HV eT an ai af ar bu q0 q1 hQ p1 gr b0 gV; go_wp2; go_end0; refine ⟨rfl, _, iN.out, dO.out, HF.out, ?_⟩; rcases gd.out with h | ⟨k, h, hk⟩
  ·exact .inl h
  ·exact .inr ⟨k, h, by simp at bG; omega⟩
theorem zjK : type_of% (zcI.1 trivial) := zcI.1 trivial
theorem zjL : type_of% (zcI.2 trivial) := zcI.2 trivial
theorem zfQ (s0 s1 s2 s3 s4 s5 s6 bv : Value) (xs : List UInt8) (lv : List (Rhs × Hsl)) (P : Nat -> Prop) (w : World) (hb : Sl P w bv 1 xs.length (bc xs)) (bh : xs.length <= 536870912)
 (au : ∀ s ∈ [s0, s1, s2, s3, s4, s5, s6], ∃ A m c, s = .slice A m c) (hs : SlH P w s6 lv) (dh : lv.length <= 12) (aG : ∀ s ∈ (lv.map Prod.fst), s.ok) :
 Calls prog 31 #[.int .i64 9, .agg #[s0, s1, s2, s3, s4, s5, s6], bv] w (zbO (fun lv _ => lv = .slice none 0 0) w (xs ++ zbf 9 (fun _ => true) (lv.map Prod.fst))) := by
 refine zaS 9 s0 s1 s2 s3 s4 s5 s6 bv xs _ P _ w hb (by omega) au (by rintro lv W rfl; exact ⟨_, _, _, rfl⟩) (fun _ _ _ h _ => h) ?_; intro bk be bp bb br bl v W hk hp bK hr hl ab bL hF
 exact (zjK bk bp bb br _ _ P s0 s1 s2 s3 s4 s5 s6 v _ xs lv W hk hp bK hr (zai ab (zmv _)) (hs.fr hF (fun _ _ e => e)) bh dh aG bL).mono fun r w' h => zde (zai ab (zmv _)) hr hl h
theorem zfR (s0 s1 s2 s3 s4 s5 s6 bv : Value) (xs : List UInt8) (lv : List (Rhs × Hsl)) (P : Nat -> Prop) (w : World) (hb : Sl P w bv 1 xs.length (bc xs)) (bh : xs.length <= 536870912)
 (au : ∀ s ∈ [s0, s1, s2, s3, s4, s5, s6], ∃ A m c, s = .slice A m c) (hs : SlH P w s6 lv) (dh : lv.length <= 12) (aG : ∀ s ∈ (lv.map Prod.fst), s.ok) :
 Calls prog 31 #[.int .i64 10, .agg #[s0, s1, s2, s3, s4, s5, s6], bv] w (zbO (fun lv _ => lv = .slice none 0 0) w (xs ++ zbg 10 (fun _ => true) (lv.map Prod.fst))) := by
 refine zaS 10 s0 s1 s2 s3 s4 s5 s6 bv xs _ P _ w hb (by omega) au (by rintro lv W rfl; exact ⟨_, _, _, rfl⟩) (fun _ _ _ h _ => h) ?_; intro bk be bp bb br bl v W hk hp bK hr hl ab bL hF
 exact (zjL bk bp bb br _ _ P s0 s1 s2 s3 s4 s5 s6 v _ xs lv W hk hp bK hr (zai ab (zmv _)) (hs.fr hF (fun _ _ e => e)) bh dh aG bL).mono fun r w' h => zde (zai ab (zmv _)) hr hl h
theorem zcX : (∀ (_ : True) (bk bp bb br bl base : Nat) (ep : Value) (P : Nat -> Prop) (s0 s1 s2 s3 s4 s5 s6 v z zl : Value) (xs : List UInt8) (lv : List (Rhs × Hsl)) (w : World) (hk : Blk w bk 3 #[.int .i64 7]) (hp : Blk w bp 54 #[s0, s1, s2, s3, s4, s5, s6]) (hb : Blk w bb 44 #[v]) (hr : Blk w br 44 #[z]) (mj : Blk w bl 52 #[zl])
 (ab : w.ownsRow 0 5 1 v xs.length (bc xs)) (hs : SlH P w s6 lv) (hl : xs.length <= 536870912) (au : lv.length <= 12) (aG : ∀ s ∈ (lv.map Prod.fst), s.ok) (bL : bb ≠ br) (bS : base <= w.heap.size) (aB : (lv.map Prod.fst) = [] ∨ ∃ s ∈ (lv.map Prod.fst), za7 s = false),
 Calls prog 90 #[.pointer (some ⟨bk, 0, none⟩), ep, .pointer (some ⟨bp, 0, none⟩), .pointer (some ⟨bb, 0, none⟩), .pointer (some ⟨br, 0, none⟩), .pointer (some ⟨bl, 0, none⟩)] w (zla (LeftIs base (leftW (lv.map Prod.fst))) w br bl v.ownBlock (xs ++ zbf 7 (fun s => !za7 s) (lv.map Prod.fst)))) /\ (∀ (_ : True) (bk bp bb br bl base : Nat) (ep : Value) (P : Nat -> Prop) (s0 s1 s2 s3 s4 s5 s6 v z zl : Value) (xs : List UInt8) (lv : List (Rhs × Hsl)) (w : World) (hk : Blk w bk 3 #[.int .i64 8]) (hp : Blk w bp 54 #[s0, s1, s2, s3, s4, s5, s6]) (hb : Blk w bb 44 #[v]) (hr : Blk w br 44 #[z]) (mj : Blk w bl 52 #[zl])
 (ab : w.ownsRow 0 5 1 v xs.length (bc xs)) (hs : SlH P w s6 lv) (hl : xs.length <= 536870912) (au : lv.length <= 12) (aG : ∀ s ∈ (lv.map Prod.fst), s.ok) (bL : bb ≠ br) (bS : base <= w.heap.size) (aB : (lv.map Prod.fst) = [] ∨ ∃ s ∈ (lv.map Prod.fst), za7 s = false),
 Calls prog 90 #[.pointer (some ⟨bk, 0, none⟩), ep, .pointer (some ⟨bp, 0, none⟩), .pointer (some ⟨bb, 0, none⟩), .pointer (some ⟨br, 0, none⟩), .pointer (some ⟨bl, 0, none⟩)] w (zla (LeftIs base (leftF (lv.map Prod.fst))) w br bl v.ownBlock (xs ++ zbg 8 (fun s => !za7 s) (lv.map Prod.fst)))) := by
 refine ⟨fun ag bk bp bb br bl base ep P s0 s1 s2 s3 s4 s5 s6 v z zl xs lv w hk hp hb hr mj ab hs hl au aG bL bS aB => ?_, fun bY bk bp bb br bl base ep P s0 s1 s2 s3 s4 s5 s6 v z zl xs lv w hk hp hb hr mj ab hs hl au aG bL bS aB => ?_⟩; all_goals
  have k0 := hk.cell 0; have p1 := hp.cell 6; have b0 := hb.cell 0; simp at k0 p1 b0; have pP : br ≠ bl := zns hr mj (by decide); obtain ⟨a', n', k', rfl⟩ := zac ab; have bA : ∃ A m c, s6 = .slice A m c := let ⟨A, c, h, _⟩ := hs.1; ⟨A, _, c, h⟩
  obtain ⟨A, m, c, rfl⟩ := bA
  first | (guard_hyp ag; have hQ := zcA P (.slice A m c) lv w.drew hs (by omega) (fun p hp => zhN (aG p.1 (zmQ.2 ⟨p, hp, rfl⟩)).2.2.2.few)) | (have hQ := zdK P (.slice A m c) lv w.drew hs (by omega) (fun p hp => zhN (aG p.1 (zmQ.2 ⟨p, hp, rfl⟩)).2.2.2.few))
  have HB := zmk hb; have HP := zmk hp; have HR := zmk hr; have mD := zmk mj; have HO := zmk ab; have gr : w.drew.cell? ⟨bp, 6, none⟩ = some (.slice A m c) := p1; have gV : w.drew.cell? ⟨bb, 0, none⟩ = some (.slice a' n' k') := b0; obtain ⟨LS, nx⟩ := exE (lv.map Prod.fst); have cZ : LS.length <= 12 := by rw [<- nx, zmI]; exact au
  rw [nx] at hQ aG aB ⊢; have HW := zmk aG; have iO := zmk aB; clear hk hp hb hr ab hs nx au mj aG aB; go_enter func90, ntmps90; go_wp2_with fail
  first
   | guard_hyp ag
     go_region_held3 (fun w' => w'.cell? ⟨bp, 6, none⟩ = some (.slice A m c) /\ w'.cell? ⟨bb, 0, none⟩ = some (.slice a' n' k'))
      ((first | (go_split_ands; refine ⟨?_, ?_⟩ <;> first | exact ((HP.out.drew).fr ai (fun e => e)).cell 6 | exact ((HB.out.drew).fr ai (fun e => e)).cell 0) | (go_split_ands; refine ⟨?_, ?_⟩ <;> first | exact KP.out.cell 6 | exact KB.out.cell 0) | go_keep))
      ((first
        | (go_at_call 84; refine hQ.mono ?_; rintro r1 w1 ⟨v1, lo, rfl, hlo, an, ai⟩)
        | (go_at_call 97; refine (zl1 ep v1 (fun g => w.drew.heap.size <= g /\ g < w1.heap.size) (.slice a' n' k') xs lo w1 an.rd (zaj (World.ownsRow.drew HO.out) ai (fun _ _ e => e)) hl (by rw [<- hlo, zmI] at cZ; exact cZ) (fun p hp => HW.out p.1 (by rw [<- hlo]; exact zmQ.2 ⟨p, hp, rfl⟩)) (fun g hg => ⟨hg.2, fun e => by have h1 : w.heap.size <= g := hg.1; have h2 := zas HO.out e.symm; omega⟩) (by
            have h := iO.out; rw [<- hlo] at h; rcases h with h | ⟨s, hs, hq⟩
            ·exact .inl (List.map_eq_nil_iff.1 h)
            ·obtain ⟨p, hp, rfl⟩ := zmQ.1 hs
             exact .inr ⟨p, hp, hq⟩)).mono ?_; rintro r2 w2 ⟨v2, cv, rfl, af, iA, ar, bu⟩; obtain ⟨KP, KB, KR⟩ := zbj HP.out HB.out HR.out HO.out ai ar; have KL := zmk ((mD.out.drew.fr ai (fun e => e)).fr ar (fun e => zak HO.out mD.out (by decide) e.symm)); obtain ⟨a2, n2, k2, rfl⟩ := zac af; obtain ⟨a3, k3, rfl⟩ := zaa iA)))
   | go_region_held3 (fun w' => w'.cell? ⟨bp, 6, none⟩ = some (.slice A m c) /\ w'.cell? ⟨bb, 0, none⟩ = some (.slice a' n' k'))
      ((first | (go_split_ands; refine ⟨?_, ?_⟩ <;> first | exact ((HP.out.drew).fr ai (fun e => e)).cell 6 | exact ((HB.out.drew).fr ai (fun e => e)).cell 0) | (go_split_ands; refine ⟨?_, ?_⟩ <;> first | exact KP.out.cell 6 | exact KB.out.cell 0) | go_keep))
      ((first
        | (go_at_call 87; refine hQ.mono ?_; rintro r1 w1 ⟨v1, lo, rfl, hlo, an, ai⟩)
        | (go_at_call 98; refine (zl2 ep v1 (fun g => w.drew.heap.size <= g /\ g < w1.heap.size) (.slice a' n' k') xs lo w1 an.rd (zaj (World.ownsRow.drew HO.out) ai (fun _ _ e => e)) hl (by rw [<- hlo, zmI] at cZ; exact cZ) (fun p hp => HW.out p.1 (by rw [<- hlo]; exact zmQ.2 ⟨p, hp, rfl⟩)) (fun g hg => ⟨hg.2, fun e => by have h1 : w.heap.size <= g := hg.1; have h2 := zas HO.out e.symm; omega⟩) (by
            have h := iO.out; rw [<- hlo] at h; rcases h with h | ⟨s, hs, hq⟩
            ·exact .inl (List.map_eq_nil_iff.1 h)
            ·obtain ⟨p, hp, rfl⟩ := zmQ.1 hs
             exact .inr ⟨p, hp, hq⟩)).mono ?_; rintro r2 w2 ⟨v2, cv, rfl, af, iA, ar, bu⟩; obtain ⟨KP, KB, KR⟩ := zbj HP.out HB.out HR.out HO.out ai ar; have KL := zmk ((mD.out.drew.fr ai (fun e => e)).fr ar (fun e => zak HO.out mD.out (by decide) e.symm)); obtain ⟨a2, n2, k2, rfl⟩ := zac af; obtain ⟨a3, k3, rfl⟩ := zaa iA)))
  have dL : (lo.filter fun p => za7 p.1).map Prod.fst = LS.filter za7 := by rw [<- hlo, List.filter_map]; rfl
  first
   | guard_hyp ag
     have fK : RdHW (fun g => w.drew.heap.size <= g /\ g < w2.heap.size) w2 (.slice a3 (lo.filter fun p => za7 p.1).length k3) (lo.filter fun p => za7 p.1) := by
      refine ⟨(znt iA).mono (fun g hg => ⟨zm3 ai.size (iA.lt g hg).1, zas iA hg⟩), fun p hp => ?_⟩; have h1 := (an.rd.2 p (zmZ.1 hp).1).fr ar (fun g hg e => by have h1 : w.heap.size <= g := hg.1; have h2 := zas HO.out e.symm; omega); exact h1.mono (fun g hg => ⟨hg.1, zmJ hg.2 ar.size⟩)
   | have fK : RdHF (fun g => w.drew.heap.size <= g /\ g < w2.heap.size) w2 (.slice a3 (lo.filter fun p => za7 p.1).length k3) (lo.filter fun p => za7 p.1) := by
      refine ⟨(znt iA).mono (fun g hg => ⟨zm3 ai.size (iA.lt g hg).1, zas iA hg⟩), fun p hp => ?_⟩; have h1 := (an.rd.2 p (zmZ.1 hp).1).fr ar (fun g hg e => by have h1 : w.heap.size <= g := hg.1; have h2 := zas HO.out e.symm; omega); exact h1.mono (fun g hg => ⟨hg.1, zmJ hg.2 ar.size⟩)
  have kj : (lo.filter fun p => za7 p.1).length <= 1048576 := by
   have h1 := znj (fun p : Rhs × Value => za7 p.1) lo; have h2 : lo.length = LS.length := by rw [<- hlo, zmI]
   omega
  first | (guard_hyp ag; have hU := zd0 _ _ _ w2 fK kj (fun p hp => zhN (HW.out p.1 (by rw [<- hlo]; exact zmQ.2 ⟨p, (zmZ.1 hp).1, rfl⟩)).2.2.2.few)) | (have hU := zfA _ _ _ w2 fK kj (fun p hp => zhN (HW.out p.1 (by rw [<- hlo]; exact zmQ.2 ⟨p, (zmZ.1 hp).1, rfl⟩)).2.2.2.few))
  first
   | guard_hyp ag
     have bN : ((lo.filter fun p => za7 p.1).map fun p => ({ p.1 with h := p.1.h.cutW } : Rhs)) = leftW LS := by
      rw [leftW, <- dL, zno]; rfl
   | have bN : ((lo.filter fun p => za7 p.1).map fun p => ({ p.1 with h := p.1.h.cutF } : Rhs)) = leftF LS := by
      rw [leftF, <- dL, zno]; rfl
  rw [bN] at hU; rw [hlo] at af; have HU := zmk hU; have H1 := zmk ai; have H2 := zmk ar; have cH := zmk af; have gd := zmk bu; clear dL fK kj bN hU ai ar an af iA bu hQ p1 gr b0 gV hlo; generalize (lo.filter fun p => za7 p.1).length = m3 at HU ⊢
  first | (guard_hyp ag; go_wp2_with (go_at_call 85; refine HU.out.mono ?_; rintro r3 w3 ⟨v3, lu, rfl, pC, aF, bJ⟩; have MR := zmk (KR.out.fr bJ (fun e => e)); have ML := zmk (KL.out.fr bJ (fun e => e)); have q0 : w3.cell? ⟨br, 0, none⟩ = some z := MR.out.cell 0; have q1 := MR.out.frozen 0; have q2 : w3.cell? ⟨bl, 0, none⟩ = some zl := ML.out.cell 0; have q3 := ML.out.frozen 0; obtain ⟨a4, n4, k4, rfl⟩ := zac aF.1; have H3 := zmk bJ; have eq := zmk aF; have HLU := zmk pC; clear bJ aF pC)) | (go_wp2_with (go_at_call 88; refine HU.out.mono ?_; rintro r3 w3 ⟨v3, lu, rfl, pC, aF, bJ⟩; have MR := zmk (KR.out.fr bJ (fun e => e)); have ML := zmk (KL.out.fr bJ (fun e => e)); have q0 : w3.cell? ⟨br, 0, none⟩ = some z := MR.out.cell 0; have q1 := MR.out.frozen 0; have q2 : w3.cell? ⟨bl, 0, none⟩ = some zl := ML.out.cell 0; have q3 := ML.out.frozen 0; obtain ⟨a4, n4, k4, rfl⟩ := zac aF.1; have H3 := zmk bJ; have eq := zmk aF; have HLU := zmk pC; clear bJ aF pC))
  go_end0; have cS : Blk (w3.setCell ⟨br, 0, none⟩ (.slice a2 n2 k2)) br 44 #[.slice a2 n2 k2] := by simpa using MR.out.set_ 0 (.slice a2 n2 k2)
  have ic : Blk (w3.setCell ⟨br, 0, none⟩ (.slice a2 n2 k2)) bl 52 #[zl] := ML.out.far (p := ⟨br, 0, none⟩) (Ne.symm pP) _; have jJ : Blk ((w3.setCell ⟨br, 0, none⟩ (.slice a2 n2 k2)).setCell ⟨bl, 0, none⟩ (.slice a4 n4 k4)) bl 52 #[.slice a4 n4 k4] := by simpa using ic.set_ 0 (.slice a4 n4 k4)
  have hV4 := cS.far (p := ⟨bl, 0, none⟩) pP (.slice a4 n4 k4); have hFF : Fr (fun k => k = br ∨ k = bl) w3 ((w3.setCell ⟨br, 0, none⟩ (.slice a2 n2 k2)).setCell ⟨bl, 0, none⟩ (.slice a4 n4 k4)) := ((znq (fun k => k = br ∨ k = bl) w3).setCell (p := ⟨br, 0, none⟩) (.inl (.inl rfl)) _).setCell (p := ⟨bl, 0, none⟩) (.inl (.inr rfl)) _; refine ⟨rfl, _, _, hV4, jJ, ⟨lu, HLU.out, ?_⟩, ?_, ?_, ?_⟩
  ·refine (eq.out.fr hFF (fun k h1 h2 h => ?_)).mono (by have := H1.out.size; have := H2.out.size; simp at *; omega)
   have e1 := KR.out.lt; have e2 := KL.out.lt; rcases h with rfl | rfl <;> omega
  ·refine zaj (zaj cH.out H3.out (fun _ _ e => e)) hFF (fun g hg h => ?_)
   rcases h with rfl | rfl
   ·exact zak cH.out KR.out (by decide) hg
   ·exact zak cH.out KL.out (by decide) hg
  ·exact (((((znq (fun k => some k = (Value.slice a' n' k').ownBlock ∨ k = br ∨ k = bl) w).drew).trans H1.out (fun _ _ e => e.elim)).trans H2.out (fun _ _ e => .inl e)).trans H3.out (fun _ _ e => e.elim)).trans hFF (fun _ _ e => .inr e)
  ·rcases gd.out with h | ⟨k, h, hk⟩
   ·exact .inl h
   ·exact .inr ⟨k, h, by have := H1.out.size; simp at this; omega⟩
theorem zlc : type_of% (zcX.1 trivial) := zcX.1 trivial
theorem zld : type_of% (zcX.2 trivial) := zcX.2 trivial
theorem zgw (s0 s1 s2 s3 s4 s5 s6 bv : Value) (xs : List UInt8) (lv : List (Rhs × Hsl)) (P : Nat -> Prop) (w : World) (hb : Sl P w bv 1 xs.length (bc xs)) (bh : xs.length <= 536870912)
 (au : ∀ s ∈ [s0, s1, s2, s3, s4, s5, s6], ∃ A m c, s = .slice A m c) (hs : SlH P w s6 lv) (dh : lv.length <= 12) (aG : ∀ s ∈ (lv.map Prod.fst), s.ok) (aB : (lv.map Prod.fst) = [] ∨ ∃ s ∈ (lv.map Prod.fst), za7 s = false) :
 Calls prog 31 #[.int .i64 7, .agg #[s0, s1, s2, s3, s4, s5, s6], bv] w (zbO (LeftIs w.heap.size (leftW (lv.map Prod.fst))) w (xs ++ zbf 7 (fun s => !za7 s) (lv.map Prod.fst))) := by
 refine zaS 7 s0 s1 s2 s3 s4 s5 s6 bv xs _ P _ w hb (by omega) au (fun _ _ h => h.shape) (fun _ _ _ h hv => h.vars hv) ?_; intro bk be bp bb br bl v W hk hp bK hr hl ab bL hF; exact zlc bk bp bb br bl w.heap.size _ P s0 s1 s2 s3 s4 s5 s6 v _ _ xs lv W hk hp bK hr hl (zai ab (zmv _)) (hs.fr hF (fun _ _ e => e)) bh dh aG bL hF.size aB
theorem zgx (s0 s1 s2 s3 s4 s5 s6 bv : Value) (xs : List UInt8) (lv : List (Rhs × Hsl)) (P : Nat -> Prop) (w : World) (hb : Sl P w bv 1 xs.length (bc xs)) (bh : xs.length <= 536870912)
 (au : ∀ s ∈ [s0, s1, s2, s3, s4, s5, s6], ∃ A m c, s = .slice A m c) (hs : SlH P w s6 lv) (dh : lv.length <= 12) (aG : ∀ s ∈ (lv.map Prod.fst), s.ok) (aB : (lv.map Prod.fst) = [] ∨ ∃ s ∈ (lv.map Prod.fst), za7 s = false) :
 Calls prog 31 #[.int .i64 8, .agg #[s0, s1, s2, s3, s4, s5, s6], bv] w (zbO (LeftIs w.heap.size (leftF (lv.map Prod.fst))) w (xs ++ zbg 8 (fun s => !za7 s) (lv.map Prod.fst))) := by
 refine zaS 8 s0 s1 s2 s3 s4 s5 s6 bv xs _ P _ w hb (by omega) au (fun _ _ h => h.shape) (fun _ _ _ h hv => h.vars hv) ?_; intro bk be bp bb br bl v W hk hp bK hr hl ab bL hF; exact zld bk bp bb br bl w.heap.size _ P s0 s1 s2 s3 s4 s5 s6 v _ _ xs lv W hk hp bK hr hl (zai ab (zmv _)) (hs.fr hF (fun _ _ e => e)) bh dh aG bL hF.size aB
end Go.Proofs.YtbkookiigkckdaaGreatDoor
