/- Texts of this seat, merged and shortened: H12, H5, Ns, Nx, Lg, Ne, Np, Nq, Wx, Iv, St, Pr, Fk. -/
import Derived.Test.YtbkookiigkckdaaGreatDoorK04
import Derived.Test.YtbkookiigkckdaaGreatDoorK05
import Derived.Test.YtbkookiigkckdaaGreatDoorK06
set_option linter.unusedVariables false
set_option linter.unusedSimpArgs false
set_option maxRecDepth 100000
set_option maxHeartbeats 8000000
namespace Go.Proofs.YtbkookiigkckdaaGreatDoor
open Go.RowKit
theorem fits6_raw (hint : UInt8) (schema : Int) (thr sum zc cnt : Nat) (A1 A2 A3 A4 A5 A6 A7 : Option Addr) (n1 n2 n3 n4 n5 n6 n7 c1 c2 c3 c4 c5 c6 c7 : Nat) (w : World) (p : Prop) (hp : p ↔ (n1 ≤ 2147483647 ∧ n2 ≤ 2147483647 ∧ n3 ≤ 2147483647 ∧ n4 ≤ 2147483647 ∧ n5 ≤ 2147483647 ∧ n6 ≤ 2147483647 ∧ n7 ≤ 2147483647)) :
 Calls Tryz.prog 245 #[.agg #[.int .u8 hint.toNat, .int .i32 schema, .int .u64 thr, .int .u64 sum, .int .u64 zc, .int .u64 cnt, .slice A1 n1 c1, .slice A2 n2 c2, .slice A3 n3 c3, .slice A4 n4 c4, .slice A5 n5 c5, .slice A6 n6 c6, .slice A7 n7 c7]] w (zau p w) := by
 have HP := zk7 hp; clear hp; by_cases h1 : 2147483647 < n1
 ·have g1 : (2147483647 : Int) < (n1 : Int) := by omega
  have HA := zk7 h1; clear h1; go_enter Tryz.func245, Tryz.ntmps245; go_wp2; go_ret; refine ⟨_, rfl, ?_, (zlW _ w).alloc _⟩; rw [HP.out]; exact zlE (by intro h; cases h) (fun h => by have h2 := h.1; have := HA.out; omega)
 have g1 : ¬ (2147483647 : Int) < (n1 : Int) := by omega
 by_cases h2 : 2147483647 < n2
 ·have g2 : (2147483647 : Int) < (n2 : Int) := by omega
  have HA := zk7 h2; clear h2; go_enter Tryz.func245, Tryz.ntmps245; go_wp2; go_ret; refine ⟨_, rfl, ?_, (zlW _ w).alloc _⟩; rw [HP.out]; exact zlE (by intro h; cases h) (fun h => by have h2 := h.2.1; have := HA.out; omega)
 have g2 : ¬ (2147483647 : Int) < (n2 : Int) := by omega
 by_cases h3 : 2147483647 < n3
 ·have g3 : (2147483647 : Int) < (n3 : Int) := by omega
  have HA := zk7 h3; clear h3; go_enter Tryz.func245, Tryz.ntmps245; go_wp2; go_ret; refine ⟨_, rfl, ?_, (zlW _ w).alloc _⟩; rw [HP.out]; exact zlE (by intro h; cases h) (fun h => by have h2 := h.2.2.1; have := HA.out; omega)
 have g3 : ¬ (2147483647 : Int) < (n3 : Int) := by omega
 by_cases h4 : 2147483647 < n4
 ·have g4 : (2147483647 : Int) < (n4 : Int) := by omega
  have HA := zk7 h4; clear h4; go_enter Tryz.func245, Tryz.ntmps245; go_wp2; go_ret; refine ⟨_, rfl, ?_, (zlW _ w).alloc _⟩; rw [HP.out]; exact zlE (by intro h; cases h) (fun h => by have h2 := h.2.2.2.1; have := HA.out; omega)
 have g4 : ¬ (2147483647 : Int) < (n4 : Int) := by omega
 by_cases h5 : 2147483647 < n5
 ·have g5 : (2147483647 : Int) < (n5 : Int) := by omega
  have HA := zk7 h5; clear h5; go_enter Tryz.func245, Tryz.ntmps245; go_wp2; go_ret; refine ⟨_, rfl, ?_, (zlW _ w).alloc _⟩; rw [HP.out]; exact zlE (by intro h; cases h) (fun h => by have h2 := h.2.2.2.2.1; have := HA.out; omega)
 have g5 : ¬ (2147483647 : Int) < (n5 : Int) := by omega
 by_cases h6 : 2147483647 < n6
 ·have g6 : (2147483647 : Int) < (n6 : Int) := by omega
  have HA := zk7 h6; clear h6; go_enter Tryz.func245, Tryz.ntmps245; go_wp2; go_ret; refine ⟨_, rfl, ?_, (zlW _ w).alloc _⟩; rw [HP.out]; exact zlE (by intro h; cases h) (fun h => by have h2 := h.2.2.2.2.2.1; have := HA.out; omega)
 have g6 : ¬ (2147483647 : Int) < (n6 : Int) := by omega
 by_cases h7 : 2147483647 < n7
 ·have g7 : (2147483647 : Int) < (n7 : Int) := by omega
  have HA := zk7 h7; clear h7; go_enter Tryz.func245, Tryz.ntmps245; go_wp2; go_ret; refine ⟨_, rfl, ?_, (zlW _ w).alloc _⟩; rw [HP.out]; exact zlE (by intro h; cases h) (fun h => by have h2 := h.2.2.2.2.2.2; have := HA.out; omega)
 have g7 : ¬ (2147483647 : Int) < (n7 : Int) := by omega
 have HA := zk7 (And.intro h1 (And.intro h2 (And.intro h3 (And.intro h4 (And.intro h5 (And.intro h6 h7)))))); clear h1 h2 h3 h4 h5 h6 h7; go_enter Tryz.func245, Tryz.ntmps245; go_wp2; go_ret; refine ⟨_, rfl, ?_, (zlW _ w).alloc _⟩; rw [HP.out]
 exact zlF rfl (by obtain ⟨a1, a2, a3, a4, a5, a6, a7⟩ := HA.out; exact ⟨by omega, by omega, by omega, by omega, by omega, by omega, by omega⟩)
theorem fits6_any (P : Nat → Prop) (h : Hst) (s : Hsl) (w : World) (hs : SlHs P w h s) : Calls Tryz.prog 245 #[.agg (hic h s).toArray] w (zau (h.few 2147483647) w) := by
 obtain ⟨z1, z2, z3, z4, z5, z6, z7⟩ := hs; obtain ⟨sp, sn, su, sd, sfu, sfd, sc⟩ := s; simp only [] at z1 z2 z3 z4 z5 z6 z7; obtain ⟨A1, c1, rfl⟩ := z1.shape; obtain ⟨A2, c2, rfl⟩ := z2.shape; obtain ⟨A3, c3, rfl⟩ := z3.shape; obtain ⟨A4, c4, rfl⟩ := z4.shape; obtain ⟨A5, c5, rfl⟩ := z5.shape; obtain ⟨A6, c6, rfl⟩ := z6.shape; obtain ⟨A7, c7, rfl⟩ := z7.shape
 exact fits6_raw h.hint h.schema h.thr h.sum h.zc h.cnt A1 A2 A3 A4 A5 A6 A7 _ _ _ _ _ _ _ c1 c2 c3 c4 c5 c6 c7 w _ Iff.rfl
theorem zky (P : Nat → Prop) (p : Rhs) (s : Hsl) (w : World) (hs : SlHs P w p.h s) : Calls Tryz.prog 197 #[.agg (hsc (p, s)).toArray] w (zau (p.h.few 2147483647) w) := by
 obtain ⟨ref, t, ⟨hint, schema, thr, sum, zc, cnt, pos, neg, ups, downs, fups, fdowns, cus⟩⟩ := p; have hC := fun W (hW : Fr (fun _ => False) w W) => fits6_any P _ _ W (hs.fr hW (fun _ _ e => e)); obtain ⟨z1, z2, z3, z4, z5, z6, z7⟩ := hs; obtain ⟨sp, sn, su, sd, sfu, sfd, sc⟩ := s; simp only [] at z1 z2 z3 z4 z5 z6 z7; obtain ⟨A1, c1, rfl⟩ := z1.shape; obtain ⟨A2, c2, rfl⟩ := z2.shape
 obtain ⟨A3, c3, rfl⟩ := z3.shape; obtain ⟨A4, c4, rfl⟩ := z4.shape; obtain ⟨A5, c5, rfl⟩ := z5.shape; obtain ⟨A6, c6, rfl⟩ := z6.shape; obtain ⟨A7, c7, rfl⟩ := z7.shape; simp only [hsc, hic] at hC ⊢; generalize Hst.few _ _ = p at hC ⊢; obtain ⟨n1, e1⟩ : ∃ n, pos.length = n := ⟨_, rfl⟩; obtain ⟨n2, e2⟩ : ∃ n, neg.length = n := ⟨_, rfl⟩; obtain ⟨n3, e3⟩ : ∃ n, ups.length = n := ⟨_, rfl⟩
 obtain ⟨n4, e4⟩ : ∃ n, downs.length = n := ⟨_, rfl⟩; obtain ⟨n5, e5⟩ : ∃ n, fups.length = n := ⟨_, rfl⟩; obtain ⟨n6, e6⟩ : ∃ n, fdowns.length = n := ⟨_, rfl⟩; obtain ⟨n7, e7⟩ : ∃ n, cus.length = n := ⟨_, rfl⟩; rw [e1, e2, e3, e4, e5, e6, e7] at hC ⊢
 have HC := zk7 (hC _ ((zlW (fun _ => False) w).alloc (.cells #[.int .u64 ref, .int .i64 t, .int .u8 hint.toNat, .int .i32 schema, .int .u64 thr, .int .u64 sum, .int .u64 zc, .int .u64 cnt, .slice A1 n1 c1, .slice A2 n2 c2, .slice A3 n3 c3, .slice A4 n4 c4, .slice A5 n5 c5, .slice A6 n6 c6, .slice A7 n7 c7] 194))); clear z1 z2 z3 z4 z5 z6 z7 e1 e2 e3 e4 e5 e6 e7 hC
 go_enter Tryz.func197, Tryz.ntmps197; go_wp2_with (go_at_call 245; refine HC.out.mono ?_; rintro r5 w5 ⟨b, rfl, hb5, hf5⟩; refine Hid.out ?_)
 have HB5 := zk7 hb5; have HF5 := zk7 (((zlW (fun _ => False) w).alloc (.cells #[.int .u64 ref, .int .i64 t, .int .u8 hint.toNat, .int .i32 schema, .int .u64 thr, .int .u64 sum, .int .u64 zc, .int .u64 cnt, .slice A1 n1 c1, .slice A2 n2 c2, .slice A3 n3 c3, .slice A4 n4 c4, .slice A5 n5 c5, .slice A6 n6 c6, .slice A7 n7 c7] 194)).same hf5); clear hb5 hf5; rcases b with _ | _
 ·refine zk7 ?_
  go_wp2; go_ret; exact ⟨false, rfl, by simpa using HB5.out, HF5.out⟩
 ·refine zk7 ?_
  go_wp2; go_ret; exact ⟨true, rfl, by simpa using HB5.out, HF5.out⟩
theorem zkz (P : Nat → Prop) (v : Value) (lv : List (Rhs × Hsl)) (w : World) (h : SlH P w v lv) (hl : lv.length ≤ 9223372036854775807) :
 Calls Tryz.prog 110 #[v] w (zau (lv.length ≤ 2147483647 ∧ ∀ p ∈ lv, p.1.h.few 2147483647) w) := by
 have HS := zk7 h; obtain ⟨⟨A, c, rfl, _, hc, hr⟩, _⟩ := h; obtain ⟨n, hn⟩ : ∃ n, lv.length = n := ⟨_, rfl⟩; rw [hn] at hr hc hl HS ⊢; have HN := zk7 hn; clear hn hr; by_cases hbig : 2147483647 < n
 ·have hbig' : (2147483647 : Int) < n := by omega
  go_enter Tryz.func110, Tryz.ntmps110; go_wp2; go_ret; exact ⟨false, rfl, ⟨fun h => (by cases h), fun h => absurd h.1 (by omega)⟩, zlW _ _⟩
 ·have hbig' : ¬ (2147483647 : Int) < n := by omega
  go_enter Tryz.func110, Tryz.ntmps110; go_wp2; go_loopw [10] (fun vi wr => ∃ k : Nat, k ≤ n ∧ vi = .int .i64 k ∧ Hid (∀ j p, j < k → lv[j]? = some p → p.1.h.few 2147483647) ∧ Hid (Fr (fun _ => False) w wr)) (fun vi _ => n - (intOf vi).toNat)
  case atStart => exact ⟨0, zli _, rfl, zk7 (fun j p h => absurd h (zlS _)), zk7 (zlW _ _)⟩
  case round =>
   obtain ⟨k, hk, rfl, RG, RF⟩ := hrel; by_cases hlt : k < n
   ·have hS := HS.out.fr RF.out (fun _ _ e => e)
    have hiv := hS.2; obtain ⟨g, off, rfl, _, hcell⟩ := (show Sl P wr (.slice A n c) 15 lv.length (lv.flatMap hsc) from hS.1).at (by have := HN.out; omega); obtain ⟨x, hx⟩ : ∃ x, lv[k]? = some x := ⟨_, zk9 (by rw [HN.out]; exact hlt)⟩; have hxm := zlf hx
    have cc : ∀ j, j < 15 → ∀ u, (hsc x)[j]? = some u → wr.cell? ⟨g, off + (k * 15 + j), none⟩ = some u := fun j hj u hu => hcell (k * 15 + j) u (by rw [zig 15 hsc (fun _ => rfl) lv k x hx j hj]; exact hu); have q0 : wr.cell? ⟨g, off + k * 15, none⟩ = some (.int .u64 x.1.ref) := cc 0 (by omega) _ rfl; have q1 : wr.cell? ⟨g, off + k * 15 + 1, none⟩ = some (.int .i64 x.1.t) := cc 1 (by omega) _ rfl
    have q2 : wr.cell? ⟨g, off + k * 15 + 2, none⟩ = some (.int .u8 x.1.h.hint.toNat) := cc 2 (by omega) _ rfl; have q3 : wr.cell? ⟨g, off + k * 15 + 3, none⟩ = some (.int .i32 x.1.h.schema) := cc 3 (by omega) _ rfl; have q4 : wr.cell? ⟨g, off + k * 15 + 4, none⟩ = some (.int .u64 x.1.h.thr) := cc 4 (by omega) _ rfl
    have q5 : wr.cell? ⟨g, off + k * 15 + 5, none⟩ = some (.int .u64 x.1.h.sum) := cc 5 (by omega) _ rfl; have q6 : wr.cell? ⟨g, off + k * 15 + 6, none⟩ = some (.int .u64 x.1.h.zc) := cc 6 (by omega) _ rfl; have q7 : wr.cell? ⟨g, off + k * 15 + 7, none⟩ = some (.int .u64 x.1.h.cnt) := cc 7 (by omega) _ rfl; have q8 : wr.cell? ⟨g, off + k * 15 + 8, none⟩ = some x.2.p := cc 8 (by omega) _ rfl
    have q9 : wr.cell? ⟨g, off + k * 15 + 9, none⟩ = some x.2.n := cc 9 (by omega) _ rfl; have q10 : wr.cell? ⟨g, off + k * 15 + 10, none⟩ = some x.2.u := cc 10 (by omega) _ rfl; have q11 : wr.cell? ⟨g, off + k * 15 + 11, none⟩ = some x.2.d := cc 11 (by omega) _ rfl; have q12 : wr.cell? ⟨g, off + k * 15 + 12, none⟩ = some x.2.fu := cc 12 (by omega) _ rfl
    have q13 : wr.cell? ⟨g, off + k * 15 + 13, none⟩ = some x.2.fd := cc 13 (by omega) _ rfl; have q14 : wr.cell? ⟨g, off + k * 15 + 14, none⟩ = some x.2.c := cc 14 (by omega) _ rfl; have hivx := hiv x hxm; have HXM := zk7 hxm; have HX := zk7 hx; clear hiv hx hxm cc hcell hS
    obtain ⟨⟨ref, t, ⟨hint, schema, thr, sum, zc, cnt, pos, neg, ups, downs, fups, fdowns, cus⟩⟩, ⟨sp, sn, su, sd, sfu, sfd, sc⟩⟩ := x; simp only [] at q0 q1 q2 q3 q4 q5 q6 q7 q8 q9 q10 q11 q12 q13 q14 hivx; have hC := fun W (hW : Fr (fun _ => False) wr W) => zky P ⟨ref, t, ⟨hint, schema, thr, sum, zc, cnt, pos, neg, ups, downs, fups, fdowns, cus⟩⟩ _ W (hivx.fr hW (fun _ _ e => e))
    obtain ⟨pp, hpp⟩ : ∃ pp : Prop, Hst.few ⟨hint, schema, thr, sum, zc, cnt, pos, neg, ups, downs, fups, fdowns, cus⟩ 2147483647 = pp := ⟨_, rfl⟩; have HPP := zk7 hpp; simp only [hsc, hic, hpp] at hC; obtain ⟨z1, z2, z3, z4, z5, z6, z7⟩ := hivx; simp only [] at z1 z2 z3 z4 z5 z6 z7; obtain ⟨A1, c1, rfl⟩ := z1.shape; obtain ⟨A2, c2, rfl⟩ := z2.shape; obtain ⟨A3, c3, rfl⟩ := z3.shape
    obtain ⟨A4, c4, rfl⟩ := z4.shape; obtain ⟨A5, c5, rfl⟩ := z5.shape; obtain ⟨A6, c6, rfl⟩ := z6.shape; obtain ⟨A7, c7, rfl⟩ := z7.shape; obtain ⟨n1, e1⟩ : ∃ n, pos.length = n := ⟨_, rfl⟩; rw [e1] at q8 hC; obtain ⟨n2, e2⟩ : ∃ n, neg.length = n := ⟨_, rfl⟩; rw [e2] at q9 hC; obtain ⟨n3, e3⟩ : ∃ n, ups.length = n := ⟨_, rfl⟩; rw [e3] at q10 hC; obtain ⟨n4, e4⟩ : ∃ n, downs.length = n := ⟨_, rfl⟩
    rw [e4] at q11 hC; obtain ⟨n5, e5⟩ : ∃ n, fups.length = n := ⟨_, rfl⟩; rw [e5] at q12 hC; obtain ⟨n6, e6⟩ : ∃ n, fdowns.length = n := ⟨_, rfl⟩; rw [e6] at q13 hC; obtain ⟨n7, e7⟩ : ∃ n, cus.length = n := ⟨_, rfl⟩; rw [e7] at q14 hC
    have HC := zk7 (hC _ ((zlW (fun _ => False) wr).alloc (.cells #[.int .u64 ref, .int .i64 t, .int .u8 hint.toNat, .int .i32 schema, .int .u64 thr, .int .u64 sum, .int .u64 zc, .int .u64 cnt, .slice A1 n1 c1, .slice A2 n2 c2, .slice A3 n3 c3, .slice A4 n4 c4, .slice A5 n5 c5, .slice A6 n6 c6, .slice A7 n7 c7] 194))); clear z1 z2 z3 z4 z5 z6 z7 e1 e2 e3 e4 e5 e6 e7 hC hpp
    go_wp2_with (go_at_call 197; refine HC.out.mono ?_; rintro r5 w5 ⟨b, rfl, hb5, hf5⟩; refine Hid.out ?_)
    have H5 := zk7 ((RF.out.alloc (.cells #[.int .u64 ref, .int .i64 t, .int .u8 hint.toNat, .int .i32 schema, .int .u64 thr, .int .u64 sum, .int .u64 zc, .int .u64 cnt, .slice A1 n1 c1, .slice A2 n2 c2, .slice A3 n3 c3, .slice A4 n4 c4, .slice A5 n5 c5, .slice A6 n6 c6, .slice A7 n7 c7] 194)).same hf5); have HB5 := zk7 hb5; clear hf5 hb5 q0 q1 q2 q3 q4 q5 q6 q7 q8 q9 q10 q11 q12 q13 q14
    rcases b with _ | _
    ·refine zk7 ?_
     go_wp2; go_ret; exact ⟨false, rfl, ⟨fun h => (by cases h), fun h => absurd (HB5.out.2 (by rw [← HPP.out]; exact h.2 _ HXM.out)) (by decide)⟩, H5.out⟩
    ·refine zk7 ?_
     go_wp2; go_roundw
     case rel => exact ⟨k + 1, by omega, by go_num, zk7 (fun j p h h2 => by
      rcases zlA j k with h3 | h3
      ·exact RG.out j p h3 h2
      ·obtain rfl : j = k := by omega
       have h4 := h2.symm.trans HX.out; injection h4 with h4; rw [h4]; have h5 := HB5.out.1 rfl; rw [← HPP.out] at h5
       exact h5), H5⟩
     case measure => simp [intOf]; omega
   ·obtain rfl : k = n := by omega
    go_wp2; go_ret; refine ⟨true, rfl, ⟨fun _ => ⟨by omega, fun p hp => ?_⟩, fun _ => rfl⟩, RF.out⟩; obtain ⟨j, hj, e⟩ := List.getElem_of_mem hp; exact RG.out j p (by rw [← HN.out]; exact hj) (by rw [zk9 hj, e])
def zeC (f s : Rhs) : Int := wrap64 (wrap64 s.ref - wrap64 f.ref)
def hT (f s : Rhs) : Int := wrap64 (s.t - f.t)
def Rhs.ok (s : Rhs) : Prop := s.ref < 18446744073709551616 ∧ -9223372036854775808 ≤ s.t ∧ s.t ≤ 9223372036854775807 ∧ s.h.ok
def zar (f : Rhs) : List UInt8 := Lib.beBytes 8 f.ref ++ Lib.beBytes 8 (u64 f.t)
theorem zeP {e : Nat} {o : Option Nat} {w w1 : World} {xs ys zs : List UInt8} (h : Put w e o xs ys w1) {f : FuncId} {args : Array Value}
 (hc : ∀ o1, Enc w1 e o1 (xs ++ ys) → (o1 = o ∨ ∃ k, o1 = some k ∧ w.heap.size ≤ k) → Calls Tryz.prog f args w1 (zbZ w1 e o1 (xs ++ ys) zs)) : Calls Tryz.prog f args w1 fun r w2 => r = .returned (.tuple #[]) ∧ Put w e o xs (ys ++ zs) w2 ∧ Hid (Keeps w1 w2) := by
 obtain ⟨o1, he, hf, ho⟩ := h; exact (hc o1 he ho).mono fun r w2 ⟨hr, h2⟩ => ⟨hr, Put.step he hf ho h2, h2.keeps he⟩
theorem zeE (l : List (Int × Nat)) (n : Nat) (hn : l.length ≤ n) (hn2 : n ≤ 60) (h : ∀ p ∈ l, -2147483648 ≤ p.1 ∧ p.1 ≤ 2147483647 ∧ p.2 < 4294967296) : (zbR l).length ≤ 1210 := by
 have h1 := zby zaJ 20 l (fun p hp => zc3 p (h p hp)); have h2 := zln (x := l.length) (by omega); have h3 : l.length * 20 ≤ 60 * 20 := zlk _ (by omega); rw [zbR, zk8]; omega
theorem zj1 (l : List Int) (hn : l.length ≤ 60) (h : ∀ x ∈ l, -9223372036854775808 ≤ x ∧ x ≤ 9223372036854775807) : (zdn l).length ≤ 610 := by
 have h1 := zby zzu 10 l (fun x hx => zbs x (h x hx).1 (h x hx).2); have h2 := zln (x := l.length) (by omega); have h3 : l.length * 10 ≤ 60 * 10 := zlk _ (by omega); rw [zdn, zk8]; omega
theorem zhJ (l : List Nat) (hn : l.length ≤ 60) : (zc4 l).length ≤ 610 := by
 have h1 := zby (Lib.beBytes 8) 8 l (fun x hx => by simp [zlh]); have h2 := zln (x := l.length) (by omega); have h3 : l.length * 8 ≤ 60 * 8 := zlk _ (by omega); rw [zc4, zk8]; omega
theorem cus_len (h : Hst) (k : h.ok) : (zcw h).length ≤ 610 := by
 have := zhJ h.cus k.few.2.2.2.2.2.2; unfold zcw; split
 ·exact this
 ·exact zli _
theorem ziq (h : Hst) (k : h.ok) : (zaS h).length ≤ 5000 := by
 have a1 := zbs h.schema (by have := k.s0; omega) (by have := k.s1; omega); have a2 := zln k.zc; have a3 := zln k.cnt; have a4 := zeE h.pos 60 k.few.1 (by omega) k.pos; have a5 := zeE h.neg 60 k.few.2.1 (by omega) k.neg; have a6 := zj1 h.ups k.few.2.2.1 k.ups; have a7 := zj1 h.downs k.few.2.2.2.1 k.downs; have a8 := cus_len h k
 have a9 : (Lib.beBytes 8 h.thr).length = 8 := by simp [zlh]
 have a10 : (Lib.beBytes 8 h.sum).length = 8 := by simp [zlh]
 simp only [zaS, zk8, zlo]; omega
def zaW (f s : Rhs) : List UInt8 := zzu (zeC f s) ++ (zzu (hT f s) ++ zaS s.h)
theorem ze3 (f s : Rhs) (h : s.ok) : (zaW f s).length ≤ 5020 := by
 have h1 := zbs (zeC f s) (zaf _).1 (zaf _).2; have h2 := zbs (hT f s) (zaf _).1 (zaf _).2; have h3 := ziq s.h h.2.2.2; simp only [zaW, zk8]; omega
def za3 (kind : UInt8) (q : Rhs → Bool) : List Rhs → List UInt8
 | [] => [kind]
 | f :: r => [kind] ++ (zar f ++ ((f :: r).filter q).flatMap (zaW f))
theorem zir (h : Hst) (k : h.ok) : (zaT h).length ≤ 5000 := by
 have a1 := zbs h.schema (by have := k.s0; omega) (by have := k.s1; omega); have a2 := (show (Lib.beBytes 8 h.zc).length ≤ 10 by simp [zlh]); have a3 := (show (Lib.beBytes 8 h.cnt).length ≤ 10 by simp [zlh]); have a4 := zeE h.pos 60 k.few.1 (by omega) k.pos; have a5 := zeE h.neg 60 k.few.2.1 (by omega) k.neg; have a6 := zhJ h.fups k.few.2.2.2.2.1
 have a7 := zhJ h.fdowns k.few.2.2.2.2.2.1; have a8 := cus_len h k; have a9 : (Lib.beBytes 8 h.thr).length = 8 := by simp [zlh]
 have a10 : (Lib.beBytes 8 h.sum).length = 8 := by simp [zlh]
 simp only [zaT, zk8, zlo]; omega
def zaX (f s : Rhs) : List UInt8 := zzu (zeC f s) ++ (zzu (hT f s) ++ zaT s.h)
theorem ze4 (f s : Rhs) (h : s.ok) : (zaX f s).length ≤ 5020 := by
 have h1 := zbs (zeC f s) (zaf _).1 (zaf _).2; have h2 := zbs (hT f s) (zaf _).1 (zaf _).2; have h3 := zir s.h h.2.2.2; simp only [zaX, zk8]; omega
def za4 (kind : UInt8) (q : Rhs → Bool) : List Rhs → List UInt8
 | [] => [kind]
 | f :: r => [kind] ++ (zar f ++ ((f :: r).filter q).flatMap (zaX f))
theorem zcF : (∀ (_ : True) (ep : Value) (sv : Value) (P : Nat → Prop) (v : Value) (xs : List UInt8) (lo : List (Rhs × Value)) (w : World) (h : RdHW P w sv lo) (hown : w.ownsRow 0 5 1 v xs.length (bc xs)) (hl : xs.length ≤ 536870912)
 (hsl : lo.length ≤ 12) (hwf : ∀ p ∈ lo, p.1.ok) (hP : ∀ g, P g → g < w.heap.size ∧ some g ≠ v.ownBlock),
 Calls Tryz.prog 99 #[ep, sv, v] w (zbN w v.ownBlock (xs ++ za3 9 (fun _ => true) (lo.map Prod.fst)))) ∧ (∀ (_ : True) (ep : Value) (sv : Value) (P : Nat → Prop) (v : Value) (xs : List UInt8) (lo : List (Rhs × Value)) (w : World) (h : RdHF P w sv lo) (hown : w.ownsRow 0 5 1 v xs.length (bc xs)) (hl : xs.length ≤ 536870912)
 (hsl : lo.length ≤ 12) (hwf : ∀ p ∈ lo, p.1.ok) (hP : ∀ g, P g → g < w.heap.size ∧ some g ≠ v.ownBlock),
 Calls Tryz.prog 100 #[ep, sv, v] w (zbN w v.ownBlock (xs ++ za4 10 (fun _ => true) (lo.map Prod.fst)))) := by
 refine ⟨fun isW ep sv P v xs lo w h hown hl hsl hwf hP => ?_, fun _ ep sv P v xs lo w h hown hl hsl hwf hP => ?_⟩; all_goals
  obtain ⟨h, hin⟩ := h; obtain ⟨A, c, rfl⟩ := h.shape; obtain ⟨a', n', k', rfl⟩ := zae hown; have hE := Enc.made (z := .int .u8 0) hown _ rfl
  first | (guard_hyp isW; have hQ := zcn w.heap.size _ xs 9 _ hE (by omega)) | (have hQ := zcn w.heap.size _ xs 10 _ hE (by omega))
  first | (guard_hyp isW; have e2 : ((9 : UInt8).toNat : Int) = 9 := rfl) | (have e2 : ((10 : UInt8).toNat : Int) = 10 := rfl)
  rw [e2] at hQ; have hFW : Fr (fun k => some k = (Value.slice a' n' k').ownBlock) w (w.alloc (.cells #[.slice a' n' k', .int .u8 0, .int .u8 0, .int .u8 0, .int .u8 0, .int .u8 0, .int .u8 0, .int .u8 0, .int .u8 0, .int .u8 0, .int .u8 0] 224)) := (zlW _ w).alloc _; rcases lo with _ | ⟨f, r⟩
  ·clear hE hFW e2 h hin hwf
   first | (guard_hyp isW; go_enter Tryz.func99, Tryz.ntmps99) | (go_enter Tryz.func100, Tryz.ntmps100)
   go_wp2_with (first | (go_at_call 180; refine hQ.mono ?_; rintro r1 w1 ⟨rfl, R⟩; obtain ⟨o1, hE1, hf1, ho1⟩ := R; have hG := zdY _ _ _ _ hE1) | (go_at_call 116; refine hG.mono ?_; rintro r w2 ⟨v2, rfl, rfl, hown2, hv2⟩))
   go_ret
   first | (guard_hyp isW; refine ⟨v2, rfl, by simpa [za3] using hown2, zdf (o1 := o1) hf1, ?_⟩) | (refine ⟨v2, rfl, by simpa [za4] using hown2, zdf (o1 := o1) hf1, ?_⟩)
   rw [hv2]; rcases ho1 with h | ⟨k, h, hk⟩
   ·exact .inl h
   ·exact .inr ⟨k, h, by simp at hk; omega⟩
  ·obtain ⟨n, hn⟩ : ∃ n, (f :: r).length = n := ⟨_, rfl⟩
   rw [hn] at h hsl ⊢; obtain ⟨LO, hLO⟩ : ∃ LO, f :: r = LO := ⟨_, rfl⟩; have hn1 : (0 : Int) < (n : Int) := by rw [← hn]; simp
   have hn0 : ((n : Int) == 0) = false := by simp; omega
   have hfm : f ∈ LO := by rw [← hLO]; exact List.mem_cons_self ..
   have hf0 : LO[0]? = some f := by rw [← hLO]; rfl
   have hmap : (f :: r).map Prod.fst = f.1 :: r.map Prod.fst := rfl; have hwf2 : ∀ p ∈ LO, p.1.ok := by rw [← hLO]; exact hwf
   first | (guard_hyp isW; have hin2 : ∀ p ∈ LO, RdW P w p.1.h p.2 := by rw [← hLO]; exact hin) | (have hin2 : ∀ p ∈ LO, RdF P w p.1.h p.2 := by rw [← hLO]; exact hin)
   rw [hLO] at h hn
   first
    | guard_hyp isW
      have henc : za3 9 (fun _ => true) ((f :: r).map Prod.fst) = [9] ++ (zar f.1 ++ LO.flatMap (fun p => zaW f.1 p.1)) := by
       rw [← hLO]; have e1 : ∀ l : List Rhs, l.filter (fun _ => true) = l := fun l => List.filter_eq_self.2 (fun _ _ => rfl); rw [hmap, za3, e1, zlm, zlm, List.flatMap_map]
    | have henc : za4 10 (fun _ => true) ((f :: r).map Prod.fst) = [10] ++ (zar f.1 ++ LO.flatMap (fun p => zaX f.1 p.1)) := by
       rw [← hLO]; have e1 : ∀ l : List Rhs, l.filter (fun _ => true) = l := fun l => List.filter_eq_self.2 (fun _ _ => rfl); rw [hmap, za4, e1, zlm, zlm, List.flatMap_map]
   rw [henc]; obtain ⟨hrf, htf0, htf1, _⟩ := hwf2 f hfm; obtain ⟨g, off, rfl, hPg, hcell⟩ := h.at (by omega); have hg := hP g hPg; obtain ⟨f1, fv⟩ := f; simp only [] at hrf htf0 htf1; have c0 : w.cell? ⟨g, off, none⟩ = some (.int .u64 f1.ref) := hcell 0 _ (by exact zeA rhc (fun _ => rfl) LO 0 (f1, fv) hf0 0 (by omega))
   have c1 : w.cell? ⟨g, off + 1, none⟩ = some (.int .i64 f1.t) := hcell 1 _ (by exact zeA rhc (fun _ => rfl) LO 0 (f1, fv) hf0 1 (by omega)); have c2 : w.cell? ⟨g, off + 2, none⟩ = some fv := hcell 2 _ (by exact zeA rhc (fun _ => rfl) LO 0 (f1, fv) hf0 2 (by omega)); obtain ⟨gf, _, hfv, _⟩ := hin2 _ hfm; simp only [] at hfv; subst hfv; have HN := zk7 hn; have HP := zk7 hP
   have HE := zk7 hE; have HFW := zk7 hFW; have HCELL := zk7 hcell; have HIN := zk7 hin2; have HWF := zk7 hwf2; clear hE hFW e2 h hin hwf hwf2 hin2 hn hmap henc hcell hLO hfm hf0 hP; generalize hWB : w.alloc (.cells #[.slice a' n' k', .int .u8 0, .int .u8 0, .int .u8 0, .int .u8 0, .int .u8 0, .int .u8 0, .int .u8 0, .int .u8 0, .int .u8 0, .int .u8 0] 224) = WB at hQ HE HFW
   have hB : w.heap.size < WB.heap.size := by rw [← hWB]; simp
   rw [← hWB] at hQ; have HWB := zk7 hWB; clear hWB
   first | (guard_hyp isW; go_enter Tryz.func99, Tryz.ntmps99) | (go_enter Tryz.func100, Tryz.ntmps100)
   go_wp2_with (go_at_call 180; refine hQ.mono ?_; rintro r1 w1 ⟨rfl, R⟩; refine Hid.out ?_)
   rw [HWB.out] at R; clear hQ HWB
   have HFT := zk7 (fun (W : World) (hf : Fr (fun k => k = w.heap.size ∨ some k = (Value.slice a' n' k').ownBlock) WB W) => HFW.out.trans hf (fun k hk e => by
    rcases e with e | e
    ·omega
    ·exact e))
   have hF1 := HFT.out w1 R.fr; have d0 : w1.cell? ⟨g, off, none⟩ = some (.int .u64 f1.ref) := by rw [hF1.cell (p := ⟨g, off, none⟩) hg.1 hg.2]; exact c0
   have d1 : w1.cell? ⟨g, off + 1, none⟩ = some (.int .i64 f1.t) := by rw [hF1.cell (p := ⟨g, off + 1, none⟩) hg.1 hg.2]; exact c1
   have d2 : w1.cell? ⟨g, off + 2, none⟩ = some (.pointer (some ⟨gf, 0, none⟩)) := by rw [hF1.cell (p := ⟨g, off + 2, none⟩) hg.1 hg.2]; exact c2
   first | (guard_hyp isW; have HR1 := zk7 (R.alloc (.cells #[.int .u64 f1.ref, .int .i64 f1.t, .pointer (some ⟨gf, 0, none⟩)] 290))) | (have HR1 := zk7 (R.alloc (.cells #[.int .u64 f1.ref, .int .i64 f1.t, .pointer (some ⟨gf, 0, none⟩)] 298)))
   first | (guard_hyp isW; have HBF := zk7 (Blk.new w1 290 #[.int .u64 f1.ref, .int .i64 f1.t, .pointer (some ⟨gf, 0, none⟩)])) | (have HBF := zk7 (Blk.new w1 298 #[.int .u64 f1.ref, .int .i64 f1.t, .pointer (some ⟨gf, 0, none⟩)]))
   have hsz1 := R.fr.size; clear R hF1 c0 c1 c2; refine zk7 ?_
   go_wp2_with (first
    | (go_at_call 181; refine (zag HR1.out (f := 181) (args := #[.pointer (some ⟨w.heap.size, 0, none⟩), .int .u64 f1.ref]) (zs := Lib.beBytes 8 f1.ref) (fun o2 he => zco _ o2 _ f1.ref hrf _ he (by rw [zk8, zlo]; omega))).mono ?_; rintro r2 w2 ⟨rfl, R2, K2⟩
       have hB2 := K2.out _ _ _ (by decide) (by decide) HBF.out; have b1 : w2.cell? ⟨w1.heap.size, 1, none⟩ = some (.int .i64 f1.t) := hB2.cell 1; have HB2 := zk7 hB2; have HR2 := zk7 R2
       clear hB2 R2 K2 HR1 d0 d1 d2)
    | (go_at_call 182; refine (zag HR2.out (f := 182) (args := #[.pointer (some ⟨w.heap.size, 0, none⟩), .int .i64 f1.t]) (zs := Lib.beBytes 8 (u64 f1.t)) (fun o2 he => zde _ o2 _ f1.t _ he (by simp [zlh]; omega))).mono ?_; rintro r3 w3 ⟨rfl, R3, K3⟩
       have HB3 := zk7 (K3.out _ _ _ (by decide) (by decide) HB2.out); have HR3 := zk7 R3
       clear R3 K3 HR2 b1 HB2))
   clear HBF; generalize hbf : w1.heap.size = bf at HB3 hsz1; clear hbf
   first | (guard_hyp isW; go_loopw [29] (fun i wr => ∃ k : Nat, k ≤ n ∧ i = .int .i64 k ∧ Hid (Put WB w.heap.size (Value.slice a' n' k').ownBlock xs ([9] ++ zar f1 ++ (LO.take k).flatMap (fun p => zaW f1 p.1)) wr) ∧ Hid (Blk wr bf 290 #[.int .u64 f1.ref, .int .i64 f1.t, .pointer (some ⟨gf, 0, none⟩)])) (fun i _ => n - (intOf i).toNat)) | (go_loopw [29] (fun i wr => ∃ k : Nat, k ≤ n ∧ i = .int .i64 k ∧ Hid (Put WB w.heap.size (Value.slice a' n' k').ownBlock xs ([10] ++ zar f1 ++ (LO.take k).flatMap (fun p => zaX f1 p.1)) wr) ∧ Hid (Blk wr bf 298 #[.int .u64 f1.ref, .int .i64 f1.t, .pointer (some ⟨gf, 0, none⟩)])) (fun i _ => n - (intOf i).toNat))
   case atStart => exact ⟨0, zli _, rfl, zk7 (by simpa [zar] using HR3.out), HB3⟩
   case round =>
    obtain ⟨k, hk, rfl, HR, HBk⟩ := hrel; by_cases hlt : k < n
    ·obtain ⟨x, hx⟩ : ∃ x, LO[k]? = some x := ⟨_, zk9 (by rw [HN.out]; exact hlt)⟩
     have hxm := zlf hx; have hFk := HFT.out wr HR.out.fr; have cc : ∀ j, j < 3 → ∀ u, (rhc x)[j]? = some u → wr.cell? ⟨g, off + (k * 3 + j), none⟩ = some u := fun j hj u hu => by
      rw [hFk.cell (p := ⟨g, off + (k * 3 + j), none⟩) hg.1 hg.2]; exact HCELL.out (k * 3 + j) u (by rw [zeA rhc (fun _ => rfl) LO k x hx j hj]; exact hu)
     have d0 : wr.cell? ⟨g, off + k * 3, none⟩ = some (.int .u64 x.1.ref) := cc 0 (by omega) _ rfl; have d1 : wr.cell? ⟨g, off + k * 3 + 1, none⟩ = some (.int .i64 x.1.t) := cc 1 (by omega) _ rfl; have d2 : wr.cell? ⟨g, off + k * 3 + 2, none⟩ = some x.2 := cc 2 (by omega) _ rfl; have hrd := HIN.out x hxm; have hxo := HWF.out x hxm; obtain ⟨x1, xv⟩ := x; simp only [] at d0 d1 d2 hrd hxo; have hrd2 := hrd
     obtain ⟨gx, _, rfl, _⟩ := hrd2; have b0 : wr.cell? ⟨bf, 0, none⟩ = some (.int .u64 f1.ref) := HBk.out.cell 0; have b1 : wr.cell? ⟨bf, 1, none⟩ = some (.int .i64 f1.t) := HBk.out.cell 1; have hbl := HBk.out.lt
     first
      | guard_hyp isW
        have hyl : ([(9 : UInt8)] ++ zar f1 ++ (LO.take k).flatMap (fun p => zaW f1 p.1)).length ≤ 17 + k * 5020 := by
         have h1 := zaH (fun p : Rhs × Value => zaW f1 p.1) 5020 LO k (fun p hp => ze3 f1 p.1 (HWF.out p hp)); have h4 : (zar f1).length = 16 := by simp [zar, zlh]
         rw [zk8, zk8, h4, zlo]; omega
      | have hyl : ([(10 : UInt8)] ++ zar f1 ++ (LO.take k).flatMap (fun p => zaX f1 p.1)).length ≤ 17 + k * 5020 := by
         have h1 := zaH (fun p : Rhs × Value => zaX f1 p.1) 5020 LO k (fun p hp => ze4 f1 p.1 (HWF.out p hp)); have h4 : (zar f1).length = 16 := by simp [zar, zlh]
         rw [zk8, zk8, h4, zlo]; omega
     have hk9 : k * 5020 ≤ 12 * 5020 := zlk _ (by omega)
     first | (guard_hyp isW; obtain ⟨Y, hY⟩ : ∃ Y, [(9 : UInt8)] ++ zar f1 ++ (LO.take k).flatMap (fun p => zaW f1 p.1) = Y := ⟨_, rfl⟩) | (obtain ⟨Y, hY⟩ : ∃ Y, [(10 : UInt8)] ++ zar f1 ++ (LO.take k).flatMap (fun p => zaX f1 p.1) = Y := ⟨_, rfl⟩)
     rw [hY] at hyl HR; have HY := zk7 hY; have HX := zk7 hx
     first | (guard_hyp isW; have HBX := zk7 (Blk.new wr 290 #[.int .u64 x1.ref, .int .i64 x1.t, .pointer (some ⟨gx, 0, none⟩)])) | (have HBX := zk7 (Blk.new wr 298 #[.int .u64 x1.ref, .int .i64 x1.t, .pointer (some ⟨gx, 0, none⟩)]))
     first | (guard_hyp isW; have HRA := zk7 (HR.out.alloc (.cells #[.int .u64 x1.ref, .int .i64 x1.t, .pointer (some ⟨gx, 0, none⟩)] 290))) | (have HRA := zk7 (HR.out.alloc (.cells #[.int .u64 x1.ref, .int .i64 x1.t, .pointer (some ⟨gx, 0, none⟩)] 298)))
     first | (guard_hyp isW; have HBK := zk7 (HBk.out.alloc (.cells #[.int .u64 x1.ref, .int .i64 x1.t, .pointer (some ⟨gx, 0, none⟩)] 290))) | (have HBK := zk7 (HBk.out.alloc (.cells #[.int .u64 x1.ref, .int .i64 x1.t, .pointer (some ⟨gx, 0, none⟩)] 298)))
     have hyl2 : Y.length ≤ 60300 := by omega
     obtain ⟨Q1, hQ1⟩ : ∃ Q, zzu (zeC f1 x1) = Q := ⟨_, rfl⟩; obtain ⟨Q2, hQ2⟩ : ∃ Q, zzu (hT f1 x1) = Q := ⟨_, rfl⟩; have hl1 := zbs (zeC f1 x1) (zaf _).1 (zaf _).2; have hl2 := zbs (hT f1 x1) (zaf _).1 (zaf _).2; rw [hQ1] at hl1; rw [hQ2] at hl2; have HQ1 := zk7 hQ1; have HQ2 := zk7 hQ2; have HRD := zk7 hrd; have HXO := zk7 hxo
     clear hx hFk cc hY hyl hk9 hQ1 hQ2 hxm hrd hxo HR HBk
     first
      | guard_hyp isW
        go_wp2_with (first
         | (go_at_call 183; refine (zag HRA.out (f := 183) (args := #[.pointer (some ⟨w.heap.size, 0, none⟩), .int .i64 (zeC f1 x1)]) (zs := Q1) (fun o2 he => by have := zay _ o2 _ (zeC f1 x1) (zaf _).1 (zaf _).2 _ he (by rw [zk8]; omega); rw [show Lib.uvarint (Lib.zigzag (zeC f1 x1)) = Q1 from HQ1.out] at this; exact this)).mono ?_; rintro rA wA ⟨rfl, R1, K1⟩
            have hB1 := K1.out _ _ _ (by decide) (by decide) HBX.out; have hB2 := K1.out _ _ _ (by decide) (by decide) HBK.out; have p1 : wA.cell? ⟨wr.heap.size, 1, none⟩ = some (.int .i64 x1.t) := hB1.cell 1; have q1 : wA.cell? ⟨bf, 1, none⟩ = some (.int .i64 f1.t) := hB2.cell 1; have HBX1 := zk7 hB1; have HBK1 := zk7 hB2; have HR2 := zk7 R1
            have hv2 : (Y ++ Q1).length ≤ 60310 := by rw [zk8]; omega
            clear R1 K1 hB1 hB2 HRA b0 b1 HBX HBK)
         | (go_at_call 183; refine (zag HR2.out (f := 183) (args := #[.pointer (some ⟨w.heap.size, 0, none⟩), .int .i64 (hT f1 x1)]) (zs := Q2) (fun o2 he => by have := zay _ o2 _ (hT f1 x1) (zaf _).1 (zaf _).2 _ he (by rw [zk8]; omega); rw [show Lib.uvarint (Lib.zigzag (hT f1 x1)) = Q2 from HQ2.out] at this; exact this)).mono ?_; rintro rB wB ⟨rfl, R1, K1⟩
            have hB1 := K1.out _ _ _ (by decide) (by decide) HBX1.out; have HBK2 := zk7 (K1.out _ _ _ (by decide) (by decide) HBK1.out); have p2 : wB.cell? ⟨wr.heap.size, 2, none⟩ = some (.pointer (some ⟨gx, 0, none⟩)) := hB1.cell 2; have HR3 := zk7 R1; have hv3 : (Y ++ Q1 ++ Q2).length ≤ 60320 := by rw [zk8]; omega
            have HH := zk7 (HRD.out.fr (HFT.out wB R1.fr) (fun g hg => (HP.out g hg).2))
            clear R1 K1 hB1 p1 q1 HR2 hv2 HBX1 HBK1)
         | (go_at_call 189; refine (zeP HR3.out (f := 189) (args := #[.pointer (some ⟨w.heap.size, 0, none⟩), .pointer (some ⟨gx, 0, none⟩)]) (zs := zaS x1.h) (fun o2 he ho2 => zff P _ o2 _ x1.h _ _ HH.out he (by rw [zk8]; omega) HXO.out.2.2.2 (fun g hg => by
             have h1 := HP.out g hg; rintro (rfl | h2)
             ·omega
             ·rcases ho2 with h3 | ⟨k, h3, hk⟩
              ·exact h1.2 (h2.trans h3)
              ·rw [h3] at h2; injection h2 with h2; omega))).mono ?_; rintro rD wD ⟨rfl, R1, K1⟩
            have HR8 := zk7 R1; have HBK8 := zk7 (K1.out _ _ _ (by decide) (by decide) HBK2.out)
            clear R1 K1 HR3 HBK2))
      | go_wp2_with (first
         | (go_at_call 183; refine (zag HRA.out (f := 183) (args := #[.pointer (some ⟨w.heap.size, 0, none⟩), .int .i64 (zeC f1 x1)]) (zs := Q1) (fun o2 he => by have := zay _ o2 _ (zeC f1 x1) (zaf _).1 (zaf _).2 _ he (by rw [zk8]; omega); rw [show Lib.uvarint (Lib.zigzag (zeC f1 x1)) = Q1 from HQ1.out] at this; exact this)).mono ?_; rintro rA wA ⟨rfl, R1, K1⟩
            have hB1 := K1.out _ _ _ (by decide) (by decide) HBX.out; have hB2 := K1.out _ _ _ (by decide) (by decide) HBK.out; have p1 : wA.cell? ⟨wr.heap.size, 1, none⟩ = some (.int .i64 x1.t) := hB1.cell 1; have q1 : wA.cell? ⟨bf, 1, none⟩ = some (.int .i64 f1.t) := hB2.cell 1; have HBX1 := zk7 hB1; have HBK1 := zk7 hB2; have HR2 := zk7 R1
            have hv2 : (Y ++ Q1).length ≤ 60310 := by rw [zk8]; omega
            clear R1 K1 hB1 hB2 HRA b0 b1 HBX HBK)
         | (go_at_call 183; refine (zag HR2.out (f := 183) (args := #[.pointer (some ⟨w.heap.size, 0, none⟩), .int .i64 (hT f1 x1)]) (zs := Q2) (fun o2 he => by have := zay _ o2 _ (hT f1 x1) (zaf _).1 (zaf _).2 _ he (by rw [zk8]; omega); rw [show Lib.uvarint (Lib.zigzag (hT f1 x1)) = Q2 from HQ2.out] at this; exact this)).mono ?_; rintro rB wB ⟨rfl, R1, K1⟩
            have hB1 := K1.out _ _ _ (by decide) (by decide) HBX1.out; have HBK2 := zk7 (K1.out _ _ _ (by decide) (by decide) HBK1.out); have p2 : wB.cell? ⟨wr.heap.size, 2, none⟩ = some (.pointer (some ⟨gx, 0, none⟩)) := hB1.cell 2; have HR3 := zk7 R1; have hv3 : (Y ++ Q1 ++ Q2).length ≤ 60320 := by rw [zk8]; omega
            have HH := zk7 (HRD.out.fr (HFT.out wB R1.fr) (fun g hg => (HP.out g hg).2))
            clear R1 K1 hB1 p1 q1 HR2 hv2 HBX1 HBK1)
         | (go_at_call 192; refine (zeP HR3.out (f := 192) (args := #[.pointer (some ⟨w.heap.size, 0, none⟩), .pointer (some ⟨gx, 0, none⟩)]) (zs := zaT x1.h) (fun o2 he ho2 => zfg P _ o2 _ x1.h _ _ HH.out he (by rw [zk8]; omega) HXO.out.2.2.2 (fun g hg => by
             have h1 := HP.out g hg; rintro (rfl | h2)
             ·omega
             ·rcases ho2 with h3 | ⟨k, h3, hk⟩
              ·exact h1.2 (h2.trans h3)
              ·rw [h3] at h2; injection h2 with h2; omega))).mono ?_; rintro rD wD ⟨rfl, R1, K1⟩
            have HR8 := zk7 R1; have HBK8 := zk7 (K1.out _ _ _ (by decide) (by decide) HBK2.out)
            clear R1 K1 HR3 HBK2))
     first
      | guard_hyp isW
        have HRE : Hid (Put WB w.heap.size (Value.slice a' n' k').ownBlock xs ([9] ++ zar f1 ++ (LO.take (k + 1)).flatMap (fun p => zaW f1 p.1)) wD) := zk7 (by
         rw [zan (fun p : Rhs × Value => zaW f1 p.1) LO k _ HX.out, ← zla, HY.out]; unfold zaW; rw [HQ1.out, HQ2.out]
         simpa [zla] using HR8.out)
      | have HRE : Hid (Put WB w.heap.size (Value.slice a' n' k').ownBlock xs ([10] ++ zar f1 ++ (LO.take (k + 1)).flatMap (fun p => zaX f1 p.1)) wD) := zk7 (by
         rw [zan (fun p : Rhs × Value => zaX f1 p.1) LO k _ HX.out, ← zla, HY.out]; unfold zaX; rw [HQ1.out, HQ2.out]
         simpa [zla] using HR8.out)
     clear HR8; go_wp2; go_roundw
     case rel => exact ⟨k + 1, by omega, by go_num, HRE, HBK8⟩
     case measure => simp [intOf]; omega
    ·obtain rfl : k = n := by omega
     obtain ⟨oZ, hEZ, hfZ, hoZ⟩ := HR.out; have hG := zdY _ _ _ _ hEZ; have HZ := zk7 hfZ; clear hEZ hfZ; go_wp2_with (go_at_call 116; refine hG.mono ?_; rintro rr w9 ⟨v2, rfl, rfl, hown2, hv2⟩)
     go_ret; refine ⟨v2, rfl, ?_, HFT.out _ HZ.out, ?_⟩
     ·have e1 : LO.take k = LO := zlg (by rw [HN.out]; exact zlj _)
      rw [e1] at hown2; simpa [zla] using hown2
     ·rw [hv2]
      rcases hoZ with h | ⟨k2, h, hk2⟩
      ·exact .inl h
      ·exact .inr ⟨k2, h, by omega⟩
theorem zjA : type_of% (zcF.1 trivial) := zcF.1 trivial
theorem zjB : type_of% (zcF.2 trivial) := zcF.2 trivial
structure Ser where
 ref : Nat
 labs : List Lab
def zi6 (p : Ser × Value) : List Value := [.int .u64 p.1.ref, p.2]
def SlR (P : Nat → Prop) (w : World) (v : Value) (lv : List (Ser × Value)) : Prop :=
 Sl P w v 2 lv.length (lv.flatMap zi6) ∧ ∀ p ∈ lv, Sl P w p.2 2 p.1.labs.length (p.1.labs.flatMap zbv)
theorem SlR.fr {P S : Nat → Prop} {w w' : World} {v : Value} {lv : List (Ser × Value)} (h : SlR P w v lv) (hf : Fr S w w') (hs : ∀ g, P g → ¬ S g) : SlR P w' v lv :=
 ⟨h.1.fr hf hs, fun p hp => (h.2 p hp).fr hf hs⟩
def sero (x : Ser) : List Value := [.int .u64 x.ref, .string (zas (zbH x.labs))]
theorem Tryz.info127 : (Tryz.prog.info? 127).map (fun i => (i.zero, i.size, i.bytes)) = some (some (.agg #[.int .u64 0, .string ⟨#[]⟩]), 2, 24) := by kernel_rfl
theorem made_ok (P : Nat → Prop) (v : Value) (l : List Lab) (w : World) (h : Sl P w v 2 l.length (l.flatMap zbv)) (hl : LabOk l 12 600) :
 Calls Tryz.prog 54 #[v] w fun r w' => r = .returned (.agg #[.string (zas (zbH l))]) ∧ Fr (fun _ => False) w w' := by
 refine (made_any P v l w h hl.1 (fun p hp => by have := hl.2.1 p hp; omega)).mono ?_; rintro r w' ⟨l', h1, h2, rfl, hf⟩; exact ⟨by rw [zi3 l l' h1 h2 hl.2.2], hf⟩
def zhN (w : World) (l : List Ser) (r : Ending) (w' : World) : Prop :=
 ∃ v, r = .returned v ∧ w'.ownsRow w.heap.size 127 2 v l.length (l.flatMap sero) ∧ Fr (fun _ => False) w w'
theorem zeJ (P : Nat → Prop) (v : Value) (lv : List (Ser × Value)) (w : World) (h : SlR P w v lv) (hl : lv.length ≤ 1099511627776) (hil : ∀ p ∈ lv, LabOk p.1.labs 12 600) :
 Calls Tryz.prog 69 #[v] w (zhN w (lv.map Prod.fst)) := by
 have mixed : Tryz.prog.follows .mixedOrders = true := by kernel_rfl
 obtain ⟨⟨A, c, rfl, hlen, hnc, hr⟩, hin⟩ := h; obtain ⟨n, hn⟩ : ∃ n, lv.length = n := ⟨_, rfl⟩; rw [hn] at hr hnc hl ⊢; have HN := zk7 hn; have HR := zk7 hr; have HI := zk7 hin
 have HIL := zk7 hil; obtain ⟨i0, hi0, hz0, hz1, hz2⟩ := info_parts Tryz.info127; clear hn hr hlen hin hil; go_enter Tryz.func69, Tryz.ntmps69; go_wp2; go_loopw [2, 7] (fun v i wr => ∃ k : Nat, k ≤ n ∧ i = .int .i64 k ∧ Hid (wr.ownsRow w.heap.size 127 2 v k (((lv.map Prod.fst).take k).flatMap sero)) ∧ Hid (Fr (fun _ => False) w wr)) (fun _ i _ => n - (intOf i).toNat)
 case atStart => exact ⟨0, zli _, rfl, zk7 (zll _ _ _ _), zk7 (zlW _ _)⟩
 case round =>
  obtain ⟨k, hk, rfl, HO, HF⟩ := hrel; by_cases hlt : k < n
  ·obtain ⟨g, off, rfl, _, hcell⟩ := HR.out (by omega)
   obtain ⟨x, hx⟩ : ∃ x, lv[k]? = some x := ⟨_, zk9 (by rw [HN.out]; exact hlt)⟩; have cc : ∀ j, j < 2 → ∀ u, (zi6 x)[j]? = some u → wr.cell? ⟨g, off + (k * 2 + j), none⟩ = some u := fun j hj u hu => by
    have := hcell (k * 2 + j) u (by rw [zci zi6 (fun _ => rfl) lv k x hx j hj]; exact hu); rw [HF.out.cell (p := ⟨g, off + (k * 2 + j), none⟩) (zle w _ this) (fun e => e)]; exact this
   have c0 : wr.cell? ⟨g, off + k * 2, none⟩ = some (.int .u64 x.1.ref) := cc 0 (by omega) _ rfl; have c1 : wr.cell? ⟨g, off + k * 2 + 1, none⟩ = some x.2 := cc 1 (by omega) _ rfl; have hxm := zlf hx; have hiv := HI.out x hxm; have hivl := HIL.out x hxm; have hxf : (lv.map Prod.fst)[k]? = some x.1 := by rw [zlH, hx]; rfl
   obtain ⟨⟨ref, labs⟩, iv⟩ := x; simp only [] at c0 c1 hiv hivl hxf; have hiv1 : ∃ A m c, iv = .slice A m c := let ⟨A, c, h, _⟩ := hiv; ⟨A, _, c, h⟩
   obtain ⟨Ai, mi, ci, rfl⟩ := hiv1; have HX := zk7 hxf; obtain ⟨a', n', k', rfl⟩ := zae HO.out; clear hcell cc hx hxm hxf; go_wp2_with fail
   have hB8 := Blk.new wr 130 #[.int .u64 ref, .slice Ai mi ci]; have s0 := hB8.cell 0; have s1 := hB8.cell 1; simp only [zls, zlq, zlr] at s0 s1; have hsz := HF.out.size; have HB8 := zk7 hB8
   have hC := made_ok P (.slice Ai mi ci) labs (wr.alloc (.cells #[.int .u64 ref, .slice Ai mi ci] 130)).drew (hiv.fr (HF.out.alloc _).drew (fun _ _ e => e)) hivl; obtain ⟨st, hst⟩ : ∃ st, zas (zbH labs) = st := ⟨_, rfl⟩; rw [hst] at hC; have HST := zk7 hst; clear hB8 hiv hst hivl
   have hwz : (wr.alloc (.cells #[.int .u64 ref, .slice Ai mi ci] 130)).drew.heap.size = wr.heap.size + 1 := by simp
   go_region_held3 (fun w' => w'.cell? ⟨wr.heap.size, 0, none⟩ = some (.int .u64 ref) ∧ w'.cell? ⟨wr.heap.size, 1, none⟩ = some (.slice Ai mi ci))
    ((first | (go_split_ands; refine ⟨?_, ?_⟩ <;> first | exact KX9.out.cell 0 | exact KX9.out.cell 1) | (go_split_ands; refine ⟨?_, ?_⟩ <;> first | exact (KX5.out.alloc _).cell 0 | exact (KX5.out.alloc _).cell 1) | (go_split_ands; refine ⟨?_, ?_⟩ <;> first | exact KX5.out.cell 0 | exact KX5.out.cell 1) | go_keep))
    ((first
      | (go_at_call 54; refine hC.mono ?_; rintro r5 w5 ⟨rfl, hf5⟩; have KX5 := zk7 (HB8.out.drew.fr hf5 (fun e => e)); have F5 := zk7 (((zlW (fun _ => False) wr).alloc (.cells #[.int .u64 ref, .slice Ai mi ci] 130)).drew.same hf5); have O5 := zk7 (zah HO.out F5.out (fun _ _ e => e)); have hz5 := F5.out.size)
      | (refine zat _ (by rfl) _ _ 121 121 (by rfl) w.heap.size 127 i0 _ 2 24 Tryz.underlying121 hi0 hz0 hz1 hz2 rfl (by decide) (.slice a' n' k') k (((lv.map Prod.fst).take k).flatMap sero) (by rfl) (O5.out.alloc _) _ 1 [.int .u64 ref, .string st] (by rfl) (zaF Tryz.underlying121 (Blk.new w5 127 #[.int .u64 ref, .string st]) rfl (by simp [Value.oneCell'])) (by unfold maxLen; omega) (by omega) (by simp; omega) ?_; intro v' w2 hown' hgrow hat; have KX9 := zk7 ((KX5.out.alloc (.cells #[.int .u64 ref, .string st] 127)).grown hgrow (fun e => zlR _ (zav HO.out e.symm))))))
   have NO : Hid (w2.ownsRow w.heap.size 127 2 v' (k + 1) (((lv.map Prod.fst).take (k + 1)).flatMap sero)) := zk7 (by
    rw [zao sero _ k _ HX.out]; unfold sero; rw [HST.out]
    exact hown')
   have NF : Hid (Fr (fun _ => False) w w2) := zk7 (((HF.out.same F5.out).alloc _).grown hgrow (fun g hg => .inr ((HO.out.lt g hg).1))); clear hown' hgrow hat c0 c1 s0 s1 hC hf5 KX9 O5; go_wp2; go_roundw
   case rel => exact ⟨k + 1, by omega, by go_num, NO, NF⟩
   case measure => simp [intOf]; omega
  ·go_wp2
   go_ret; obtain rfl : k = n := by omega
   have h := HO.out; have e : (lv.map Prod.fst).take k = lv.map Prod.fst := zlg (by rw [zlv, HN.out]; exact zlj _); rw [e] at h; refine ⟨_, rfl, ?_, HF.out⟩; rw [zlv, HN.out]; exact h
structure Exm where
 ref : Nat
 t : Int
 v : Nat
 labs : List Lab
def exc (p : Exm × Value) : List Value := [.int .u64 p.1.ref, .int .i64 p.1.t, .int .u64 p.1.v, p.2]
def SlX (P : Nat → Prop) (w : World) (v : Value) (lv : List (Exm × Value)) : Prop :=
 Sl P w v 4 lv.length (lv.flatMap exc) ∧ ∀ p ∈ lv, Sl P w p.2 2 p.1.labs.length (p.1.labs.flatMap zbv)
theorem SlX.fr {P S : Nat → Prop} {w w' : World} {v : Value} {lv : List (Exm × Value)} (h : SlX P w v lv) (hf : Fr S w w') (hs : ∀ g, P g → ¬ S g) : SlX P w' v lv :=
 ⟨h.1.fr hf hs, fun p hp => (h.2 p hp).fr hf hs⟩
def exo (x : Exm) : List Value := [.int .u64 x.ref, .int .i64 x.t, .float .f64 x.v, .string (zas (zbH x.labs))]
theorem Tryz.info157 : (Tryz.prog.info? 157).map (fun i => (i.zero, i.size, i.bytes)) = some (some (.agg #[.int .u64 0, .int .i64 0, .float .f64 0, .string ⟨#[]⟩]), 4, 40) := by kernel_rfl
def zfr (w : World) (l : List Exm) (r : Ending) (w' : World) : Prop :=
 ∃ v, r = .returned v ∧ w'.ownsRow w.heap.size 157 4 v l.length (l.flatMap exo) ∧ Fr (fun _ => False) w w'
theorem zdT (P : Nat → Prop) (v : Value) (lv : List (Exm × Value)) (w : World) (h : SlX P w v lv) (hl : lv.length ≤ 1099511627776) (hil : ∀ p ∈ lv, LabOk p.1.labs 12 600) :
 Calls Tryz.prog 78 #[v] w (zfr w (lv.map Prod.fst)) := by
 have mixed : Tryz.prog.follows .mixedOrders = true := by kernel_rfl
 obtain ⟨⟨A, c, rfl, hlen, hnc, hr⟩, hin⟩ := h; obtain ⟨n, hn⟩ : ∃ n, lv.length = n := ⟨_, rfl⟩; rw [hn] at hr hnc hl ⊢; have HN := zk7 hn; have HR := zk7 hr; have HI := zk7 hin
 have HIL := zk7 hil; obtain ⟨i0, hi0, hz0, hz1, hz2⟩ := info_parts Tryz.info157; clear hn hr hlen hin hil; go_enter Tryz.func78, Tryz.ntmps78; go_wp2; go_loopw [2, 7] (fun v i wr => ∃ k : Nat, k ≤ n ∧ i = .int .i64 k ∧ Hid (wr.ownsRow w.heap.size 157 4 v k (((lv.map Prod.fst).take k).flatMap exo)) ∧ Hid (Fr (fun _ => False) w wr)) (fun _ i _ => n - (intOf i).toNat)
 case atStart => exact ⟨0, zli _, rfl, zk7 (zll _ _ _ _), zk7 (zlW _ _)⟩
 case round =>
  obtain ⟨k, hk, rfl, HO, HF⟩ := hrel; by_cases hlt : k < n
  ·obtain ⟨g, off, rfl, _, hcell⟩ := HR.out (by omega)
   obtain ⟨x, hx⟩ : ∃ x, lv[k]? = some x := ⟨_, zk9 (by rw [HN.out]; exact hlt)⟩; have cc : ∀ j, j < 4 → ∀ u, (exc x)[j]? = some u → wr.cell? ⟨g, off + (k * 4 + j), none⟩ = some u := fun j hj u hu => by
    have := hcell (k * 4 + j) u (by rw [zd1 exc (fun _ => rfl) lv k x hx j hj]; exact hu); rw [HF.out.cell (p := ⟨g, off + (k * 4 + j), none⟩) (zle w _ this) (fun e => e)]; exact this
   have c0 : wr.cell? ⟨g, off + k * 4, none⟩ = some (.int .u64 x.1.ref) := cc 0 (by omega) _ rfl; have c1 : wr.cell? ⟨g, off + k * 4 + 1, none⟩ = some (.int .i64 x.1.t) := cc 1 (by omega) _ rfl; have c2 : wr.cell? ⟨g, off + k * 4 + 2, none⟩ = some (.int .u64 x.1.v) := cc 2 (by omega) _ rfl; have c3 : wr.cell? ⟨g, off + k * 4 + 3, none⟩ = some x.2 := cc 3 (by omega) _ rfl
   have hxm := zlf hx; have hiv := HI.out x hxm; have hivl := HIL.out x hxm; have hxf : (lv.map Prod.fst)[k]? = some x.1 := by rw [zlH, hx]; rfl
   obtain ⟨⟨ref, t, vv, labs⟩, iv⟩ := x; simp only [] at c0 c1 c2 c3 hiv hivl hxf; have hiv1 : ∃ A m c, iv = .slice A m c := let ⟨A, c, h, _⟩ := hiv; ⟨A, _, c, h⟩
   obtain ⟨Ai, mi, ci, rfl⟩ := hiv1; have HX := zk7 hxf; obtain ⟨a', n', k', rfl⟩ := zae HO.out; clear hcell cc hx hxm hxf; go_wp2_with fail
   have hB8 := Blk.new wr 159 #[.int .u64 ref, .int .i64 t, .int .u64 vv, .slice Ai mi ci]; have s0 := hB8.cell 0; have s1 := hB8.cell 1; have s2 := hB8.cell 2; have s3 := hB8.cell 3; simp only [zls, zlq, zlr] at s0 s1 s2 s3; have hsz := HF.out.size; have HB8 := zk7 hB8
   have hC := made_ok P (.slice Ai mi ci) labs (wr.alloc (.cells #[.int .u64 ref, .int .i64 t, .int .u64 vv, .slice Ai mi ci] 159)).drew (hiv.fr (HF.out.alloc _).drew (fun _ _ e => e)) hivl; obtain ⟨st, hst⟩ : ∃ st, zas (zbH labs) = st := ⟨_, rfl⟩; rw [hst] at hC; have HST := zk7 hst; clear hB8 hiv hst hivl
   have hwz : (wr.alloc (.cells #[.int .u64 ref, .int .i64 t, .int .u64 vv, .slice Ai mi ci] 159)).drew.heap.size = wr.heap.size + 1 := by simp
   go_region_held3 (fun w' => w'.cell? ⟨wr.heap.size, 0, none⟩ = some (.int .u64 ref) ∧ w'.cell? ⟨wr.heap.size, 1, none⟩ = some (.int .i64 t) ∧ w'.cell? ⟨wr.heap.size, 2, none⟩ = some (.int .u64 vv) ∧ w'.cell? ⟨wr.heap.size, 3, none⟩ = some (.slice Ai mi ci))
    ((first | (go_split_ands; refine ⟨?_, ?_, ?_, ?_⟩ <;> first | exact KX9.out.cell 0 | exact KX9.out.cell 1 | exact KX9.out.cell 2 | exact KX9.out.cell 3) | (go_split_ands; refine ⟨?_, ?_, ?_, ?_⟩ <;> first | exact (KX5.out.alloc _).cell 0 | exact (KX5.out.alloc _).cell 1 | exact (KX5.out.alloc _).cell 2 | exact (KX5.out.alloc _).cell 3) | (go_split_ands; refine ⟨?_, ?_, ?_, ?_⟩ <;> first | exact KX5.out.cell 0 | exact KX5.out.cell 1 | exact KX5.out.cell 2 | exact KX5.out.cell 3) | go_keep))
    ((first
      | (go_at_call 167; refine (zec _ _).mono ?_; rintro r w' ⟨rfl, rfl⟩)
      | (go_at_call 54; refine hC.mono ?_; rintro r5 w5 ⟨rfl, hf5⟩; have KX5 := zk7 (HB8.out.drew.fr hf5 (fun e => e)); have F5 := zk7 (((zlW (fun _ => False) wr).alloc (.cells #[.int .u64 ref, .int .i64 t, .int .u64 vv, .slice Ai mi ci] 159)).drew.same hf5); have O5 := zk7 (zah HO.out F5.out (fun _ _ e => e)); have hz5 := F5.out.size)
      | (refine zat _ (by rfl) _ _ 152 152 (by rfl) w.heap.size 157 i0 _ 4 40 Tryz.underlying152 hi0 hz0 hz1 hz2 rfl (by decide) (.slice a' n' k') k (((lv.map Prod.fst).take k).flatMap exo) (by rfl) (O5.out.alloc _) _ 1 [.int .u64 ref, .int .i64 t, .float .f64 vv, .string st] (by rfl) (zaF Tryz.underlying152 (Blk.new w5 157 #[.int .u64 ref, .int .i64 t, .float .f64 vv, .string st]) rfl (by simp [Value.oneCell'])) (by unfold maxLen; omega) (by omega) (by simp; omega) ?_; intro v' w2 hown' hgrow hat; have KX9 := zk7 ((KX5.out.alloc (.cells #[.int .u64 ref, .int .i64 t, .float .f64 vv, .string st] 157)).grown hgrow (fun e => zlR _ (zav HO.out e.symm))))))
   have NO : Hid (w2.ownsRow w.heap.size 157 4 v' (k + 1) (((lv.map Prod.fst).take (k + 1)).flatMap exo)) := zk7 (by
    rw [zao exo _ k _ HX.out]; unfold exo; rw [HST.out]
    exact hown')
   have NF : Hid (Fr (fun _ => False) w w2) := zk7 (((HF.out.same F5.out).alloc _).grown hgrow (fun g hg => .inr ((HO.out.lt g hg).1))); clear hown' hgrow hat c0 c1 c2 c3 s0 s1 s2 s3 hC hf5 KX9 O5; go_wp2; go_roundw
   case rel => exact ⟨k + 1, by omega, by go_num, NO, NF⟩
   case measure => simp [intOf]; omega
  ·go_wp2
   go_ret; obtain rfl : k = n := by omega
   have h := HO.out; have e : (lv.map Prod.fst).take k = lv.map Prod.fst := zlg (by rw [zlv, HN.out]; exact zlj _); rw [e] at h; refine ⟨_, rfl, ?_, HF.out⟩; rw [zlv, HN.out]; exact h
theorem labs_len (l : List Lab) : l.length ≤ zaA l := by
 induction l with
 | nil => simp
 | cons x l ih =>
   show l.length + 1 ≤ za2 x + zaA l; have : 1 ≤ za2 x := by unfold za2 zaz; split <;> omega
   omega
theorem len_any (l : List Lab) (w : World) (hs : ∀ p ∈ l, p.1.size < 16777216 ∧ p.2.size < 16777216) (hsz : zaA l ≤ 1099511627776) :
 Calls Tryz.prog 55 #[.agg #[.string (zas l)]] w fun r w' => r = .returned (.int .i64 l.length) ∧ Fr (fun _ => False) w w' := by
 have hss : (zas l).size ≤ 1099511627776 := by rw [zey]; exact hsz
 have hll := labs_len l; have hd0 : (zas l).data.toList.drop 0 = zax (l.drop 0) := by simp [zas]
 have F1 : Fr (fun _ => False) w (w.alloc (.cells #[.string (zas l)] 99)) := (zlW _ w).alloc _; have B1 : Blk (w.alloc (.cells #[.string (zas l)] 99)) w.heap.size 99 #[.string (zas l)] := Blk.new w 99 _; generalize hS : zas l = s at *
 have HS := zk7 hs; have HF1 := zk7 F1; have HB1 := zk7 B1; have HD0 := zk7 hd0; clear hs F1 B1 hd0 hS; go_enter Tryz.func55, Tryz.ntmps55; go_wp2
 go_loopw [3, 4] (fun vc vi wr => ∃ (i k : Nat), vc = .int .i64 k ∧ vi = .int .i64 i ∧ k ≤ l.length ∧ i ≤ s.size ∧ Hid (s.data.toList.drop i = zax (l.drop k)) ∧ Hid (Fr (fun _ => False) w wr) ∧ Hid (Blk wr w.heap.size 99 #[.string s])) (fun _ vi _ => s.size - (intOf vi).toNat)
 case atStart => exact ⟨0, 0, rfl, rfl, zli _, zli _, HD0, HF1, HB1⟩
 case round =>
  obtain ⟨i, k, rfl, rfl, hk, hi, HD, HF, HB⟩ := hrel; have c0 : wr.cell? ⟨w.heap.size, 0, none⟩ = some (.string s) := HB.out.cell 0; by_cases hlt : k < l.length
  ·obtain ⟨x, hx⟩ : ∃ x, l[k]? = some x := ⟨_, zk9 hlt⟩
   have hxs := HS.out x (zlf hx); have hD : s.data.toList.drop i = zbr x.1.size ++ (x.1.data.toList ++ (zbr x.2.size ++ (x.2.data.toList ++ zax (l.drop (k + 1))))) := by
    rw [HD.out, zdm l k x hx]; simp [zcP]
   have q1 := fun W => zdp s i x.1.size _ hxs.1 (by omega) hD W; have d1 := zdo hD hi; have h2 := zcr hD; have d2 := zdo h2 d1; have h3 := zcr h2; have e1 : x.1.data.toList.length = x.1.size := by rw [← Lib.size_eq]
   rw [zbV] at h3 d2; rw [zbV] at h2; rw [e1] at h3 d2; obtain ⟨i1, hi1⟩ : ∃ i1, i + zaz x.1.size = i1 := ⟨_, rfl⟩; rw [hi1] at h3 d2; simp only [hi1] at q1; have q2 := fun W => zdp s (i1 + x.1.size) x.2.size _ hxs.2 (by omega) h3 W; have d3 := zdo h3 d2; have h4 := zcr h3; have d4 := zdo h4 d3; have h5 := zcr h4
   have e2 : x.2.data.toList.length = x.2.size := by rw [← Lib.size_eq]
   rw [zbV, e2] at h5 d4; obtain ⟨i3, hi3⟩ : ∃ i3, i1 + x.1.size + zaz x.2.size = i3 := ⟨_, rfl⟩; rw [hi3] at h5 d4; simp only [hi3] at q2; have hpos : 0 < zaz x.1.size := by unfold zaz; split <;> omega
   have hlt1 : i < s.size := by omega
   have hgo : i < i3 + x.2.size := by omega
   have H5 := zk7 h5; have HX := zk7 hx; generalize x.1.size = n1 at *
   generalize x.2.size = n2 at *
   clear hD d1 h2 h3 d3 h4 h5 e1 e2 hx hi3 hi1 hxs hpos; have q2' : ∀ W, Calls Tryz.prog 150 #[.string s, .int .i64 ((i1 : Int) + n1)] W fun e w' => e = .returned (.tuple #[.int .i64 n2, .int .i64 (i3 : Nat)]) ∧ Fr (fun _ => False) W w' := q2; clear q2
   go_wp2_with (first
    | (go_at_call_of 150 (Value.int .i64 (i : Int)); refine (q1 _).mono ?_; rintro r w1 ⟨rfl, hf1⟩; have HB2 := zk7 (HB.out.fr hf1 (fun e => e)); have c1 := HB2.out.cell 0)
    | (go_at_call 150; refine (q2' _).mono ?_; rintro r w2 ⟨rfl, hf2⟩; have HB3 := zk7 (HB2.out.fr hf2 (fun e => e))))
   exact ⟨⟨i3 + n2, k + 1, rfl, rfl, hlt, d4, H5, zk7 ((HF.out.same hf1).same hf2), HB3⟩, by show s.size - ((i3 : Int) + n2).toNat < s.size - ((i : Int)).toNat; omega⟩
  ·obtain rfl : k = l.length := by omega
   have hD := HD.out; rw [List.drop_length] at hD; have hi2 : i = s.size := by
    have h := congrArg List.length hD; rw [List.length_drop, ← Lib.size_eq] at h; simp [zax] at h; omega
   subst hi2; have hlt1 : ¬ ((s.size : Int) < s.size) := by omega
   go_wp2; go_ret; exact ⟨rfl, HF.out⟩
theorem zf8 {w w' : World} {e : Nat} {o : Option Nat} {xs : List UInt8} {S : Nat → Prop} (h : Enc w e o xs) (hf : Fr S w w') (he : ¬ S e) (ho : ∀ k, o = some k → ¬ S k) : Enc w' e o xs := by
 obtain ⟨v, cs, hb, hs, h0, hown, rfl⟩ := h; exact ⟨v, cs, hb.fr hf he, hs, h0, zah hown hf ho, rfl⟩
theorem zin {w : World} {e c : Nat} {o : Option Nat} {xs : List UInt8} {t : TypeId} {cs : Array Value} (h : Enc w e o xs) (hb : Blk w c t cs) (h1 : 5 ≠ t) (h2 : 224 ≠ t) : o ≠ some c ∧ e ≠ c := by
 obtain ⟨v, cs', hb', hs, h0, hown, rfl⟩ := h; exact ⟨zak hown hb h1, Blk.ne_ hb' hb h2⟩
theorem put_fr {w W W' : World} {e : Nat} {o : Option Nat} {xs ys : List UInt8} (h : Put w e o xs ys W) (hf : Fr (fun _ => False) W W') : Put w e o xs ys W' := by
 obtain ⟨o1, he, hf1, ho⟩ := h; exact ⟨o1, zf8 he hf (fun e => e) (fun _ _ e => e), hf1.trans hf (fun _ _ e => e.elim), ho⟩
theorem zfT {w w' : World} {e b : Nat} {o : Option Nat} {xs ys : List UInt8} {t : TypeId} {cs : Array Value} (h : Put w e o xs ys w') (he : Enc w e o xs) (hb : Blk w b t cs) (h5 : 5 ≠ t) (h4 : 224 ≠ t) : Blk w' b t cs := by
 have nn := zin he hb h5 h4; obtain ⟨o2, _, hf2, _⟩ := h; exact hb.fr hf2 (fun e => e.elim (fun e => nn.2 e.symm) (fun e => nn.1 e.symm))
theorem put_from {w0 w w' : World} {e : Nat} {o : Option Nat} {xs ys : List UInt8} (h : Put w e o xs ys w') (hf : Fr (fun _ => False) w0 w) : Put w0 e o xs ys w' := by
 obtain ⟨o2, he, hf2, ho⟩ := h; exact ⟨o2, he, (hf.mono (fun _ _ e => e.elim)).same hf2, ho.imp id (fun ⟨k, h, hk⟩ => ⟨k, h, zlQ hf.size hk⟩)⟩
theorem enc1_any (e c : Nat) (o : Option Nat) (xs : List UInt8) (x : Lab) (W : World) (h : Enc W e o xs) (hc : Blk W c 226 #[.pointer (some ⟨e, 0, none⟩)]) (hl : xs.length ≤ 274877906944) (h1 : x.1.size ≤ 1048576) (h2 : x.2.size ≤ 1048576) :
 Calls Tryz.prog 201 #[.agg #[.string x.1, .string x.2], .pointer (some ⟨c, 0, none⟩)] W fun r w' => r = .returned (.tuple #[]) ∧ Put W e o xs (zbI x) w' ∧ (∀ b t cs, Blk W b t cs → 5 ≠ t → 224 ≠ t → Blk w' b t cs) := by
 obtain ⟨a, b⟩ := x; dsimp only at h1 h2; obtain ⟨W1, hW1⟩ : ∃ W1, W.alloc (.cells #[.string a, .string b] 108) = W1 := ⟨_, rfl⟩; have F1 : Fr (fun _ => False) W W1 := by rw [← hW1]; exact (zlW _ W).alloc _
 have hB1 : Blk W1 W.heap.size 108 #[.string a, .string b] := by rw [← hW1]; exact Blk.new W 108 _
 have hE1 := zf8 h F1 (fun e => e) (fun _ _ e => e); have hP1 := zb0 e o xs a W1 hE1 (by omega) (by omega); have hc1 := hc.fr F1 (fun e => e); have k0 := hc1.cell 0; have k1 := hB1.cell 0; simp at k0 k1; have keep : ∀ b t cs, Blk W b t cs → 5 ≠ t → 224 ≠ t → Blk W1 b t cs := fun b t cs hb _ _ => hb.fr F1 (fun e => e); have K1 := zk7 keep; have HF1 := zk7 F1
 have HE1 := zk7 hE1; have HC1 := zk7 hc1; have HB1 := zk7 hB1; clear keep F1 hE1 hc1 hB1 h hc; have hs1 : (zaI a).length ≤ 1048586 := by
  have := zln (x := a.size) (by omega); have e : a.data.toList.length = a.size := by rw [← Lib.size_eq]
  rw [zaI, zk8, e]; omega
 go_enter Tryz.func201, Tryz.ntmps201
 go_wp2_with (first
  | (go_at_call_of 187 (Value.string a); refine hP1.mono ?_; rintro r w1 ⟨rfl, hp1⟩; refine Hid.out ?_))
 obtain ⟨o1, hE2, hf1, ho1⟩ := hp1; have nn1 := zin HE1.out HC1.out (by decide) (by decide); have nn2 := zin HE1.out HB1.out (by decide) (by decide); have hc2 := HC1.out.fr hf1 (fun e => e.elim (fun e => nn1.2 e.symm) (fun e => nn1.1 e.symm)); have hB2 := HB1.out.fr hf1 (fun e => e.elim (fun e => nn2.2 e.symm) (fun e => nn2.1 e.symm))
 have hP2 := zb0 e o1 (xs ++ zaI a) b w1 hE2 (by rw [zk8]; omega) (by omega); have k2 := hc2.cell 0; have k3 := hB2.cell 1; simp at k2 k3; have hsz1 := HF1.out.size
 have HST : Hid (∀ w2, Put w1 e o1 (xs ++ zaI a) (zaI b) w2 → Put W e o xs (zaI a ++ zaI b) w2) := zk7 (fun w2 h2 => Put.step hE2 ((HF1.out.mono (fun _ _ e => e.elim)).same hf1) (ho1.imp id (fun ⟨k, h, hk⟩ => ⟨k, h, zlQ hsz1 hk⟩)) h2)
 have HK2 : Hid (∀ b t cs, Blk W b t cs → 5 ≠ t → 224 ≠ t → Blk w1 b t cs) := zk7 (fun b t cs hb h5 h4 => by
  have hb1 := K1.out b t cs hb h5 h4; have nn := zin HE1.out hb1 h5 h4
  exact hb1.fr hf1 (fun e => e.elim (fun e => nn.2 e.symm) (fun e => nn.1 e.symm)))
 have HE2 := zk7 hE2; clear hE2 hf1 ho1 nn1 nn2 hc2 hB2 k0 k1 hP1; refine zk7 ?_
 go_wp2_with (first
  | (go_at_call_of 187 (Value.string b); refine hP2.mono ?_; rintro r w2 ⟨rfl, hp2⟩))
 go_end0; refine ⟨rfl, HST.out _ hp2, fun b t cs hb h5 h4 => ?_⟩; have hb1 := HK2.out b t cs hb h5 h4; have nn := zin HE2.out hb1 h5 h4; obtain ⟨o2, _, hf2, _⟩ := hp2; exact hb1.fr hf2 (fun e => e.elim (fun e => nn.2 e.symm) (fun e => nn.1 e.symm))
theorem zkQ (x : Lab) (h1 : x.1.size ≤ 1048576) (h2 : x.2.size ≤ 1048576) : (zbI x).length ≤ 2097172 := by
 have l1 := zln (x := x.1.size) (by omega); have l2 := zln (x := x.2.size) (by omega); have e1 : x.1.data.toList.length = x.1.size := by rw [← Lib.size_eq]
 have e2 : x.2.data.toList.length = x.2.size := by rw [← Lib.size_eq]
 simp only [zbI, zaI, zk8, e1, e2]; omega
theorem fm_succ (l : List Lab) (k : Nat) (x : Lab) (hx : l[k]? = some x) : (l.take (k + 1)).flatMap zbI = (l.take k).flatMap zbI ++ zbI x := by
 rw [zlI, hx, zlG]; simp
theorem zgb : ∀ (l : List Lab), (∀ p ∈ l, p.1.size ≤ 1048576 ∧ p.2.size ≤ 1048576) → (l.flatMap zbI).length ≤ l.length * 2097172
 | [], _ => by simp
 | x :: l, h => by
   have h1 := h x (by simp); have := zkQ x h1.1 h1.2; have := zgb l (fun p hp => h p (by simp [hp])); rw [zlm, zk8, zlp, Nat.add_mul]; omega
theorem zd8 (l : List Lab) (hl : l.length ≤ 4096) (hs : ∀ p ∈ l, p.1.size ≤ 1048576 ∧ p.2.size ≤ 1048576) : zaA l ≤ 1099511627776 := by
 have := zdF l hs; have h : l.length * 2097160 ≤ 4096 * 2097160 := zlk _ hl; omega
theorem zdX (e : Nat) (o : Option Nat) (xs : List UInt8) (l : List Lab) (w : World) (h : Enc w e o xs) (hxl : xs.length ≤ 1073741824) (hl : l.length ≤ 4096) (hs : ∀ p ∈ l, p.1.size ≤ 1048576 ∧ p.2.size ≤ 1048576) :
 Calls Tryz.prog 115 #[.pointer (some ⟨e, 0, none⟩), .agg #[.string (zas l)]] w (zbZ w e o xs (zbe l)) := by
 have hs' : ∀ p ∈ l, p.1.size < 16777216 ∧ p.2.size < 16777216 := fun p hp => by have := hs p hp; omega
 have hsz := zd8 l hl hs; have eg : ∀ args w, (callFunc 201 args).run Tryz.prog w = .ok (.enter 201 args) w := enters_of Tryz.func201 (by kernel_rfl) rfl; have hmf : ∀ (fn : Fn) (first cap : Array Value) (w : World), (Instr.makeFunc fn first cap).run Tryz.prog w = .ok (.func fn first cap) w := fun _ _ _ _ => rfl; have HE := zk7 h; have HS := zk7 hs; clear h hs
 have hstr := zey l; have hLen := fun W => len_any l W hs' hsz; have hRange := fun J W => zh1 l 201 #[.pointer (some ⟨w.heap.size, 0, none⟩)] eg J W hs' hsz; generalize zas l = s at hstr hLen hRange ⊢; have HRG := zk7 hRange; clear hRange hs'; obtain ⟨n, hn⟩ : ∃ n, l.length = n := ⟨_, rfl⟩; rw [hn] at hLen hl; have HN := zk7 hn; clear hn; go_enter Tryz.func115, Tryz.ntmps115
 go_wp2_with fail
 have F1 : Fr (fun _ => False) w ((w.alloc (.cells #[.pointer (some ⟨e, 0, none⟩)] 226)).alloc (.cells #[.string s] 99)) := ((zlW _ w).alloc _).alloc _; have hB1 : Blk ((w.alloc (.cells #[.pointer (some ⟨e, 0, none⟩)] 226)).alloc (.cells #[.string s] 99)) w.heap.size 226 #[.pointer (some ⟨e, 0, none⟩)] := (Blk.new w 226 _).alloc _
 have hB2 : Blk ((w.alloc (.cells #[.pointer (some ⟨e, 0, none⟩)] 226)).alloc (.cells #[.string s] 99)) (w.heap.size + 1) 99 #[.string s] := za6 w _ 99 _; generalize (w.alloc (.cells #[.pointer (some ⟨e, 0, none⟩)] 226)).alloc (.cells #[.string s] 99) = W1 at F1 hB1 hB2 ⊢
 have HC : Hid (∀ W S, Fr S W1 W → ¬ S w.heap.size → ¬ S (w.heap.size + 1) → W.cell? ⟨w.heap.size, 0, none⟩ = some (.pointer (some ⟨e, 0, none⟩)) ∧ W.cell? ⟨w.heap.size + 1, 0, none⟩ = some (.string s)) := zk7 (fun W S hF h1 h2 => by
  have a1 := (hB1.fr hF h1).cell 0; have a2 := (hB2.fr hF h2).cell 0; simp at a1 a2
  exact ⟨a1, a2⟩)
 have HF1 := zk7 F1; have HB1 := zk7 hB1; have HB2 := zk7 hB2; clear F1 hB1 hB2; go_region_held3 (fun w' => w'.cell? ⟨w.heap.size, 0, none⟩ = some (.pointer (some ⟨e, 0, none⟩)) ∧ w'.cell? ⟨w.heap.size + 1, 0, none⟩ = some (.string s))
  ((first | exact HC.out _ _ (zlW (fun _ => False) W1).drew (fun e => e) (fun e => e) | exact HC.out _ _ ((zlW (fun _ => False) W1).drew.same hf5) (fun e => e) (fun e => e) | exact hc7.out | go_keep))
  ((first
    | (go_at_call 55; refine (hLen _).mono ?_; rintro r5 w5 ⟨rfl, hf5⟩)
    | (go_at_call 186; refine (za8 e o xs n (by omega) _ (zf8 (zf8 HE.out HF1.out (fun e => e) (fun _ _ e => e)) ((zlW (fun _ => False) W1).drew.same hf5) (fun e => e) (fun _ _ e => e)) (by omega)).mono ?_; rintro r7 w7 ⟨rfl, hp7⟩; have hc7 := zk7 (by
        have hE5 := zf8 (zf8 HE.out HF1.out (fun e => e) (fun _ _ e => e)) ((zlW (fun _ => False) W1).drew.same hf5) (fun e => e) (fun _ _ e => e); have a1 := (zfT hp7 hE5 (HB1.out.fr ((zlW (fun _ => False) W1).drew.same hf5) (fun e => e)) (by decide) (by decide)).cell 0
        have a2 := (zfT hp7 hE5 (HB2.out.fr ((zlW (fun _ => False) W1).drew.same hf5) (fun e => e)) (by decide) (by decide)).cell 0; simp at a1 a2
        exact ⟨a1, a2⟩ : w7.cell? ⟨w.heap.size, 0, none⟩ = some (.pointer (some ⟨e, 0, none⟩)) ∧ w7.cell? ⟨w.heap.size + 1, 0, none⟩ = some (.string s)))))
 have F5 : Fr (fun _ => False) w w5 := HF1.out.same ((zlW (fun _ => False) W1).drew.same hf5); have hE5 := zf8 HE.out F5 (fun e => e) (fun _ _ e => e); have hB7 := zfT hp7 hE5 (HB1.out.fr ((zlW (fun _ => False) W1).drew.same hf5) (fun e => e)) (by decide) (by decide); have hp := put_from hp7 F5; obtain ⟨c1, c2⟩ := hc7.out
 have hR := HRG.out (fun k W => Put w e o xs (Lib.uvarint n ++ (l.take k).flatMap zbI) W ∧ Blk W w.heap.size 226 #[.pointer (some ⟨e, 0, none⟩)]) w7 (fun k W W' h hf => ⟨put_fr h.1 hf, h.2.fr hf (fun e => e)⟩) ⟨by simpa using hp, hB7⟩ (by
  rintro k x W hx ⟨hp, hb⟩ hb9; have hxs := HS.out x (zlf hx); obtain ⟨o1, he1, hf1, ho1⟩ := hp; have hlen : (xs ++ (Lib.uvarint n ++ (l.take k).flatMap zbI)).length ≤ 274877906944 := by
   have l1 := zln (x := n) (by omega); have l2 := zgb (l.take k) (fun p hp => HS.out p (List.mem_of_mem_take hp)); have l3 : (l.take k).length ≤ n := by rw [← HN.out, List.length_take]; exact Nat.min_le_right _ _
   have l4 : (l.take k).length * 2097172 ≤ 4096 * 2097172 := zlk _ (by omega); simp only [zk8] at *
   omega
  refine (enc1_any e w.heap.size o1 _ x W he1 hb hlen hxs.1 hxs.2).mono ?_; rintro r w' ⟨rfl, hp', hk⟩; refine ⟨rfl, ⟨?_, hk _ _ _ hb (by decide) (by decide)⟩, hk _ _ _ hb9 (by decide) (by decide)⟩; rw [fm_succ l k x hx, ← zla]
  exact Put.step he1 hf1 ho1 hp')
 clear F5 hE5 hB7 hp hp7 hf5 hc7; go_wp2_with (go_at_call 152; refine hR.mono ?_; rintro r w8 ⟨rfl, hj, _⟩)
 go_end0; refine ⟨rfl, ?_⟩; rw [zly] at hj; rw [zbe, HN.out]; exact hj
def zgE (s : Ser) : Prop := s.ref < 18446744073709551616 ∧ s.labs.length ≤ 12 ∧ (∀ p ∈ s.labs, p.1.size ≤ 600 ∧ p.2.size ≤ 600) ∧ s.labs.Pairwise (fun a b => a.1 ≠ b.1)
def zbS (s : Ser) : List UInt8 := Lib.beBytes 8 s.ref ++ zbe (zbH s.labs)
def zcz (l : List Ser) : List UInt8 := 1 :: l.flatMap zbS
theorem zaV {α : Type} (f : α → List UInt8) (m : Nat) : ∀ l : List α, (∀ x ∈ l, (f x).length ≤ m) → (l.flatMap f).length ≤ l.length * m
 | [], _ => by simp
 | x :: l, hf => by
   have h1 := zaV f m l (fun y hy => hf y (List.mem_cons_of_mem _ hy)); have h2 := hf x (List.mem_cons_self ..); rw [zlm, zk8, zlp, Nat.add_mul]; omega
theorem zf9 (s : ByteArray) (h : s.size < 18446744073709551616) : (zaI s).length ≤ 10 + s.size := by
 have := zln h; rw [zaI, zk8, ← Lib.size_eq]; omega
theorem zeU (l : List Lab) (hl : l.length ≤ 12) (hs : ∀ p ∈ l, p.1.size ≤ 600 ∧ p.2.size ≤ 600) : (zbe l).length ≤ 14650 := by
 have h0 := zln (x := l.length) (by omega)
 have h1 := zaV zbI 1220 l (fun p hp => by
  have := hs p hp; have a1 := zf9 p.1 (by omega); have a2 := zf9 p.2 (by omega)
  rw [zbI, zk8]; omega)
 have h2 : l.length * 1220 ≤ 12 * 1220 := zlk _ hl; rw [zbe, zk8]; omega
theorem zg0 (s : Ser) (h : zgE s) : (zbS s).length ≤ 20000 := by
 have hp := (zck ltL zdw zcW zcV s.labs).2; have := zeU (zbH s.labs) (by rw [zcI]; exact h.2.1) (fun p hm => h.2.2.1 p (hp.mem_iff.mp hm)); rw [zbS, zk8, zlh]; omega
theorem zjx (ep : Value) (sv : Value) (P : Nat → Prop) (v : Value) (xs : List UInt8) (l : List Ser) (w : World) (h : Sl P w sv 2 l.length (l.flatMap sero)) (hown : w.ownsRow 0 5 1 v xs.length (bc xs)) (hl : xs.length ≤ 536870912)
 (hsl : l.length ≤ 12) (hwf : ∀ s ∈ l, zgE s) (hP : ∀ g, P g → g < w.heap.size ∧ some g ≠ v.ownBlock) :
 Calls Tryz.prog 91 #[ep, sv, v] w (zbN w v.ownBlock (xs ++ zcz l)) := by
 obtain ⟨A, c, rfl, hlen, hnc, hr⟩ := h; obtain ⟨a', n', k', rfl⟩ := zae hown; obtain ⟨n, hn⟩ : ∃ n, l.length = n := ⟨_, rfl⟩; rw [hn] at hnc hr hsl ⊢; have hE := Enc.made (z := .int .u8 0) hown _ rfl; have hQ := zcn w.heap.size _ xs 1 _ hE (by omega); have e2 : ((1 : UInt8).toNat : Int) = 1 := rfl; rw [e2] at hQ; have HN := zk7 hn; have HR := zk7 hr; have HP := zk7 hP
 have HE := zk7 hE; clear hE hr e2 hn hlen hP; go_enter Tryz.func91, Tryz.ntmps91; go_wp2_with (go_at_call 180; refine hQ.mono ?_; rintro r1 w1 ⟨rfl, R⟩; refine Hid.out ?_)
 have HR1 := zk7 R; clear R hQ; refine zk7 ?_; go_wp2_with fail
 have hFW : Fr (fun k => some k = (Value.slice a' n' k').ownBlock) w (w.alloc (.cells #[.slice a' n' k', .int .u8 0, .int .u8 0, .int .u8 0, .int .u8 0, .int .u8 0, .int .u8 0, .int .u8 0, .int .u8 0, .int .u8 0, .int .u8 0] 224)) := (zlW _ w).alloc _; generalize hWB : w.alloc _ = WB at HE HR1 hFW; have hB : w.heap.size < WB.heap.size := by rw [← hWB]; simp
 clear hWB; have HFW := zk7 hFW; clear hFW; go_loopw [15] (fun i wr => ∃ k : Nat, k ≤ n ∧ i = .int .i64 k ∧ Put WB w.heap.size (Value.slice a' n' k').ownBlock xs ([1] ++ (l.take k).flatMap zbS) wr) (fun i _ => n - (intOf i).toNat)
 case atStart => exact ⟨0, zli _, rfl, by simpa using HR1.out⟩
 case round =>
  obtain ⟨k, hk, rfl, R⟩ := hrel; by_cases hlt : k < n
  ·obtain ⟨g, off, rfl, hPg, hcell⟩ := HR.out (by omega)
   have hg := HP.out g hPg; obtain ⟨x, hx⟩ : ∃ x, l[k]? = some x := ⟨_, zk9 (by rw [HN.out]; exact hlt)⟩; have hwx := hwf x (zlf hx)
   have hFk : Fr (fun k => some k = (Value.slice a' n' k').ownBlock) w wr := HFW.out.trans R.fr (fun k hk e => by
    rcases e with e | e
    ·omega
    ·exact e)
   have cc : ∀ j, j < 2 → ∀ u, (sero x)[j]? = some u → wr.cell? ⟨g, off + (k * 2 + j), none⟩ = some u := fun j hj u hu => by
    have := hcell (k * 2 + j) u (by rw [zci sero (fun _ => rfl) l k x hx j hj]; exact hu); rw [hFk.cell (p := ⟨g, off + (k * 2 + j), none⟩) hg.1 hg.2]; exact this
   have d0 : wr.cell? ⟨g, off + k * 2, none⟩ = some (.int .u64 x.ref) := cc 0 (by omega) _ rfl; have d1 : wr.cell? ⟨g, off + k * 2 + 1, none⟩ = some (.string (zas (zbH x.labs))) := cc 1 (by omega) _ rfl; have hyl : ([(1 : UInt8)] ++ (l.take k).flatMap zbS).length ≤ 1 + k * 20000 := by
    have h1 := zaV zbS 20000 (l.take k) (fun s hs => zg0 s (hwf s (List.mem_of_mem_take hs))); have h2 : (l.take k).length ≤ k := List.length_take_le _ _; have h3 : (l.take k).length * 20000 ≤ k * 20000 := zlk _ h2; rw [zk8, zlo]; omega
   have hk9 : k * 20000 ≤ 12 * 20000 := zlk _ (by omega); obtain ⟨Y, hY⟩ : ∃ Y, [(1 : UInt8)] ++ (l.take k).flatMap zbS = Y := ⟨_, rfl⟩; rw [hY] at hyl; rw [hY] at R; have HY := zk7 hY; have HX := zk7 hx; obtain ⟨st, hst⟩ : ∃ st, zas (zbH x.labs) = st := ⟨_, rfl⟩; rw [hst] at d1; have hBx := Blk.new wr 127 #[.int .u64 x.ref, .string st]
   have RA := R.alloc (.cells #[.int .u64 x.ref, .string st] 127); have HBX := zk7 hBx; have HRA := zk7 RA; have hyl2 : Y.length ≤ 240001 := by omega
   have HW := zk7 hwx
   have HLB := zk7 (fun (e : Nat) (o : Option Nat) (zs : List UInt8) (W : World) (h : Enc W e o zs) (hz : zs.length ≤ 1073741824) => by
    have := zdX e o zs (zbH x.labs) W h hz (by rw [zcI]; have := hwx.2.1; omega) (fun p hp => by have := hwx.2.2.1 p ((zck ltL zdw zcW zcV x.labs).2.mem_iff.mp hp); omega); rw [hst] at this
    exact this)
   clear hx hFk cc hBx hcell hY R RA hyl hk9 hwf hwx hst
   go_wp2_with (first
    | (go_at_call 181; refine (zag HRA.out (f := 181) (args := #[.pointer (some ⟨w.heap.size, 0, none⟩), .int .u64 x.ref]) (zs := Lib.beBytes 8 x.ref) (fun o2 he => zco _ o2 _ _ HW.out.1 _ he (by rw [zk8]; omega))).mono ?_; rintro rA wA ⟨rfl, R1, K1⟩
       have hB1 := K1.out _ _ _ (by decide) (by decide) HBX.out; have p1 := hB1.cell 1; have HR2 := zk7 R1; have hv2 : (Y ++ Lib.beBytes 8 x.ref).length ≤ 240009 := by rw [zk8, zlh]; omega
       clear R1 K1 hB1)
    | (go_at_call 115; refine (zag HR2.out (f := 115) (args := #[.pointer (some ⟨w.heap.size, 0, none⟩), .agg #[.string st]]) (zs := zbe (zbH x.labs)) (fun o2 he => HLB.out _ o2 _ _ he (by rw [zk8]; omega))).mono ?_; rintro rB wB ⟨rfl, R1, K1⟩
       have HR8 := zk7 R1
       clear R1 K1 HR2))
   have RE : Put WB w.heap.size (Value.slice a' n' k').ownBlock xs ([1] ++ (l.take (k + 1)).flatMap zbS) wB := by
    rw [zan zbS l k x HX.out, ← zla, HY.out]; simpa [zbS, zla] using HR8.out
   have HRE := zk7 RE; clear RE HR8; go_wp2; go_roundw
   case rel => exact ⟨k + 1, by omega, by go_num, HRE.out⟩
   case measure => simp [intOf]; omega
  ·obtain rfl : k = n := by omega
   obtain ⟨oZ, hEZ, hfZ, hoZ⟩ := R; have hG := zdY _ _ _ _ hEZ; have HEZ := zk7 hEZ; have HZ := zk7 hfZ; clear hEZ hfZ; go_wp2_with (go_at_call 116; refine hG.mono ?_; rintro rr w2 ⟨v2, rfl, rfl, hown2, hv2⟩)
   go_ret; refine ⟨v2, rfl, ?_, HFW.out.trans HZ.out (fun k hk e => ?_), ?_⟩
   ·have e1 : l.take k = l := zlg (by rw [HN.out]; exact zlj _)
    rw [e1] at hown2; simpa [zcz] using hown2
   ·rcases e with e | e
    ·omega
    ·exact e
   ·rw [hv2]
    rcases hoZ with h | ⟨k2, h, hk2⟩
    ·exact .inl h
    ·exact .inr ⟨k2, h, by omega⟩
def zfs (s : Exm) : Prop := s.ref < 18446744073709551616 ∧ -9223372036854775808 ≤ s.t ∧ s.t ≤ 9223372036854775807 ∧ s.v < 18446744073709551616 ∧ s.labs.length ≤ 12 ∧ (∀ p ∈ s.labs, p.1.size ≤ 600 ∧ p.2.size ≤ 600) ∧ s.labs.Pairwise (fun a b => a.1 ≠ b.1)
def xRef (f s : Exm) : Int := wrap64 (wrap64 s.ref - wrap64 f.ref)
def xT (f s : Exm) : Int := wrap64 (s.t - f.t)
def zbl (f s : Exm) : List UInt8 := Lib.uvarint (Lib.zigzag (xRef f s)) ++ (Lib.uvarint (Lib.zigzag (xT f s)) ++ (Lib.beBytes 8 s.v ++ zbe (zbH s.labs)))
def zbD (f : Exm) : List UInt8 := Lib.beBytes 8 f.ref ++ Lib.beBytes 8 (u64 f.t)
def encXs : List Exm → List UInt8
 | [] => []
 | f :: r => zbD f ++ (f :: r).flatMap (zbl f)
theorem zg6 (f s : Exm) (h : zfs s) : (zbl f s).length ≤ 20000 := by
 have hp := (zck ltL zdw zcW zcV s.labs).2; have h0 := zeU (zbH s.labs) (by rw [zcI]; exact h.2.2.2.2.1) (fun p hm => h.2.2.2.2.2.1 p (hp.mem_iff.mp hm)); have h1 := zdQ (xRef f s) (zaf _).1 (zaf _).2; have h2 := zdQ (xT f s) (zaf _).1 (zaf _).2; simp only [zbl, zk8, zlh]; omega
theorem zkM (ep : Value) (sv : Value) (P : Nat → Prop) (e : Nat) (o : Option Nat) (xs : List UInt8) (f : Exm) (r : List Exm) (w : World) (h : Sl P w sv 4 (r.length + 1) ((f :: r).flatMap exo)) (hE : Enc w e o xs) (hl : xs.length ≤ 536870913)
 (hsl : r.length + 1 ≤ 12) (hwf : ∀ s ∈ f :: r, zfs s) (hP : ∀ g, P g → g < w.heap.size ∧ ¬ (g = e ∨ some g = o)) :
 Calls Tryz.prog 184 #[ep, sv, .pointer (some ⟨e, 0, none⟩)] w (zbZ w e o xs (encXs (f :: r))) := by
 obtain ⟨A, c, rfl, hlen, hnc, hr⟩ := h; obtain ⟨n, hn⟩ : ∃ n, r.length + 1 = n := ⟨_, rfl⟩; rw [hn] at hnc hr hsl ⊢; obtain ⟨g, off, rfl, hPg, hcell⟩ := hr (by omega); have hg := hP g hPg; have HN := zk7 hn; have c0 : w.cell? ⟨g, off, none⟩ = some (.int .u64 f.ref) := by simpa using hcell 0 _ rfl
 have c1 : w.cell? ⟨g, off + 1, none⟩ = some (.int .i64 f.t) := hcell 1 _ rfl; have c2 : w.cell? ⟨g, off + 2, none⟩ = some (.float .f64 f.v) := hcell 2 _ rfl; have c3 : w.cell? ⟨g, off + 3, none⟩ = some (.string (zas (zbH f.labs))) := hcell 3 _ rfl; obtain ⟨sf, hsf9⟩ : ∃ st, zas (zbH f.labs) = st := ⟨_, rfl⟩; rw [hsf9] at c3; have hn1 : (0 : Int) < (n : Int) := by omega
 have HCELL := zk7 hcell; have hsf := zbu
 have hBF := Blk.new w 157 #[.int .u64 f.ref, .int .i64 f.t, .float .f64 f.v, .string sf]; have R0 := Put.refl (hE.alloc (.cells #[.int .u64 f.ref, .int .i64 f.t, .float .f64 f.v, .string sf] 157)); have hEA := hE.alloc (.cells #[.int .u64 f.ref, .int .i64 f.t, .float .f64 f.v, .string sf] 157); have HEA := zk7 hEA; have HBF := zk7 hBF; have HR0 := zk7 R0
 have elt : e < w.heap.size := by obtain ⟨_, _, hb, _⟩ := hE; exact hb.lt
 have HE := zk7 hE; have hwf0 := hwf f (List.mem_cons_self ..); have HW0 := zk7 hwf0; clear hr hn hlen hcell hBF R0 hEA hE hwf0 hsf9; go_enter Tryz.func184, Tryz.ntmps184
 go_wp2_with (go_at_call 181; refine (zag HR0.out (f := 181) (args := #[.pointer (some ⟨e, 0, none⟩), .int .u64 f.ref]) (zs := Lib.beBytes 8 f.ref) (fun o2 he => zco _ o2 _ _ HW0.out.1 _ he (by rw [zk8, List.length_nil]; omega))).mono ?_; rintro r1 w1 ⟨rfl, R1, K1⟩; refine Hid.out ?_)
 have hB1 := K1.out _ _ _ (by decide) (by decide) HBF.out; have b0 := hB1.cell 0; have b1 := hB1.cell 1; simp at b0 b1; have HB1 := zk7 hB1; have HR1 := zk7 R1; clear hB1 R1 K1 c0 c1 c2 c3; refine zk7 ?_
 go_wp2_with (go_at_call 182; refine (zag HR1.out (f := 182) (args := #[.pointer (some ⟨e, 0, none⟩), .int .i64 f.t]) (zs := Lib.beBytes 8 (u64 f.t)) (fun o2 he => zde _ o2 _ f.t _ he (by simp [zlh]; omega))).mono ?_; rintro r2 w2 ⟨rfl, R2, K2⟩; refine Hid.out ?_)
 have hB2 := K2.out _ _ _ (by decide) (by decide) HB1.out; have HR2 := zk7 R2; clear hB2 R2 K2 b0 b1 HB1 HR1; refine zk7 ?_; go_wp2_with fail
 have hFW : Fr (fun k => k = e ∨ some k = o) w (w.alloc (.cells #[.int .u64 f.ref, .int .i64 f.t, .float .f64 f.v, .string sf] 157)) := (zlW _ w).alloc _; have hws : w.heap.size < (w.alloc (.cells #[.int .u64 f.ref, .int .i64 f.t, .float .f64 f.v, .string sf] 157)).heap.size := by simp
 clear HR0; generalize hWB : w.alloc (.cells #[.int .u64 f.ref, .int .i64 f.t, .float .f64 f.v, .string sf] 157) = WB at HR2 HEA HBF hFW hws; clear hWB; have HFW := zk7 hFW; clear hFW; go_loopw [22] (fun i wr => ∃ k : Nat, k ≤ n ∧ i = .int .i64 k ∧ Put WB e o xs (zbD f ++ ((f :: r).take k).flatMap (zbl f)) wr) (fun i _ => n - (intOf i).toNat)
 case atStart => exact ⟨0, zli _, rfl, by simpa [zbD] using HR2.out⟩
 case round =>
  obtain ⟨k, hk, rfl, R⟩ := hrel; by_cases hlt : k < n
  ·obtain ⟨x, hx⟩ : ∃ x, (f :: r)[k]? = some x := ⟨_, zk9 (by rw [zlp, HN.out]; exact hlt)⟩
   have hwx := hwf x (zlf hx); have hFk : Fr (fun k => k = e ∨ some k = o) w wr := HFW.out.trans R.fr (fun k hk h => h); have cc : ∀ j, j < 4 → ∀ u, (exo x)[j]? = some u → wr.cell? ⟨g, off + (k * 4 + j), none⟩ = some u := fun j hj u hu => by
    rw [hFk.cell (p := ⟨g, off + (k * 4 + j), none⟩) hg.1 hg.2]; exact HCELL.out (k * 4 + j) u (by rw [zd1 exo (fun _ => rfl) (f :: r) k x hx j hj]; exact hu)
   have d0 : wr.cell? ⟨g, off + k * 4, none⟩ = some (.int .u64 x.ref) := cc 0 (by omega) _ rfl; have d1 : wr.cell? ⟨g, off + k * 4 + 1, none⟩ = some (.int .i64 x.t) := cc 1 (by omega) _ rfl; have d2 : wr.cell? ⟨g, off + k * 4 + 2, none⟩ = some (.float .f64 x.v) := cc 2 (by omega) _ rfl; have d3 : wr.cell? ⟨g, off + k * 4 + 3, none⟩ = some (.string (zas (zbH x.labs))) := cc 3 (by omega) _ rfl
   have hBk := R.blk HEA.out HBF.out (by decide) (by decide); have b0 := hBk.cell 0; have b1 := hBk.cell 1; simp at b0 b1; have hws2 := hBk.lt; have hyl : (zbD f ++ ((f :: r).take k).flatMap (zbl f)).length ≤ 16 + k * 20000 := by
    have h1 := zaV (zbl f) 20000 ((f :: r).take k) (fun s hs => zg6 f s (hwf s (List.mem_of_mem_take hs))); have h2 : ((f :: r).take k).length ≤ k := List.length_take_le _ _; have h3 : ((f :: r).take k).length * 20000 ≤ k * 20000 := zlk _ h2; have h4 : (zbD f).length = 16 := by simp [zbD, zlh]
    rw [zk8, h4]; omega
   have hk9 : k * 20000 ≤ 12 * 20000 := zlk _ (by omega); obtain ⟨Y, hY⟩ : ∃ Y, zbD f ++ ((f :: r).take k).flatMap (zbl f) = Y := ⟨_, rfl⟩; rw [hY] at hyl; rw [hY] at R; have HY := zk7 hY; have HX := zk7 hx; obtain ⟨st, hst⟩ : ∃ st, zas (zbH x.labs) = st := ⟨_, rfl⟩; rw [hst] at d3
   have hBx := Blk.new wr 157 #[.int .u64 x.ref, .int .i64 x.t, .float .f64 x.v, .string st]; have RA := R.alloc (.cells #[.int .u64 x.ref, .int .i64 x.t, .float .f64 x.v, .string st] 157); have HBK := zk7 (hBk.alloc (.cells #[.int .u64 x.ref, .int .i64 x.t, .float .f64 x.v, .string st] 157)); have HBX := zk7 hBx; have HRA := zk7 RA; have hyl2 : Y.length ≤ 240016 := by omega
   have HW := zk7 hwx
   have HLB := zk7 (fun (e : Nat) (o : Option Nat) (zs : List UInt8) (W : World) (h : Enc W e o zs) (hz : zs.length ≤ 1073741824) => by
    have := zdX e o zs (zbH x.labs) W h hz (by rw [zcI]; have := hwx.2.2.2.2.1; omega) (fun p hp => by have := hwx.2.2.2.2.2.1 p ((zck ltL zdw zcW zcV x.labs).2.mem_iff.mp hp); omega); rw [hst] at this
    exact this)
   obtain ⟨Q1, hQ1⟩ : ∃ Q, Lib.uvarint (Lib.zigzag (xRef f x)) = Q := ⟨_, rfl⟩; obtain ⟨Q2, hQ2⟩ : ∃ Q, Lib.uvarint (Lib.zigzag (xT f x)) = Q := ⟨_, rfl⟩; have hl1 := zdQ (xRef f x) (zaf _).1 (zaf _).2; have hl2 := zdQ (xT f x) (zaf _).1 (zaf _).2; rw [hQ1] at hl1; rw [hQ2] at hl2; have HQ1 := zk7 hQ1; have HQ2 := zk7 hQ2; have hr8 := zhW
   clear hx hFk cc hBx hBk hY R RA hyl hk9 hwf hwx hst hQ1 hQ2 HCELL
   go_wp2_with (first
    | (go_at_call 183; refine (zag HRA.out (f := 183) (args := #[.pointer (some ⟨e, 0, none⟩), .int .i64 (xRef f x)]) (zs := Q1) (fun o2 he => by have := zay _ o2 _ (xRef f x) (zaf _).1 (zaf _).2 _ he (by rw [zk8]; omega); rw [HQ1.out] at this; exact this)).mono ?_; rintro rA wA ⟨rfl, R1, K1⟩
       have hB1 := K1.out _ _ _ (by decide) (by decide) HBX.out; have hB2 := K1.out _ _ _ (by decide) (by decide) HBK.out; have p1 := hB1.cell 1; have q1 := hB2.cell 1; simp at p1 q1; have HBX1 := zk7 hB1; have HR2 := zk7 R1; have hv2 : (Y ++ Q1).length ≤ 240026 := by rw [zk8]; omega
       clear R1 K1 hB1 hB2 HRA b0 b1)
    | (go_at_call 183; refine (zag HR2.out (f := 183) (args := #[.pointer (some ⟨e, 0, none⟩), .int .i64 (xT f x)]) (zs := Q2) (fun o2 he => by have := zay _ o2 _ (xT f x) (zaf _).1 (zaf _).2 _ he (by rw [zk8]; omega); rw [HQ2.out] at this; exact this)).mono ?_; rintro rB wB ⟨rfl, R1, K1⟩
       have hB1 := K1.out _ _ _ (by decide) (by decide) HBX1.out; have p2 := hB1.cell 2; simp at p2; have HBX2 := zk7 hB1; have HR3 := zk7 R1; have hv3 : (Y ++ Q1 ++ Q2).length ≤ 240036 := by rw [zk8]; omega
       clear R1 K1 hB1 p1 q1 HR2 hv2 HBX1)
    | (go_at_call 181; refine (zag HR3.out (f := 181) (args := #[.pointer (some ⟨e, 0, none⟩), .int .u64 x.v]) (zs := Lib.beBytes 8 x.v) (fun o2 he => zco _ o2 _ _ HW.out.2.2.2.1 _ he (by rw [zk8]; omega))).mono ?_; rintro rC wC ⟨rfl, R1, K1⟩
       have hB1 := K1.out _ _ _ (by decide) (by decide) HBX2.out; have p3 := hB1.cell 3; simp at p3; have HR4 := zk7 R1; have hv4 : (Y ++ Q1 ++ Q2 ++ Lib.beBytes 8 x.v).length ≤ 240044 := by rw [zk8, zlh]; omega
       clear R1 K1 hB1 p2 HR3 hv3 HBX2)
    | (go_at_call 115; refine (zag HR4.out (f := 115) (args := #[.pointer (some ⟨e, 0, none⟩), .agg #[.string st]]) (zs := zbe (zbH x.labs)) (fun o2 he => HLB.out _ o2 _ _ he (by rw [zk8]; omega))).mono ?_; rintro rD wD ⟨rfl, R1, K1⟩
       have HR8 := zk7 R1
       clear R1 K1 HR4))
   have RE : Put WB e o xs (zbD f ++ ((f :: r).take (k + 1)).flatMap (zbl f)) wD := by
    rw [zan (zbl f) (f :: r) k x HX.out, ← zla, HY.out]; unfold zbl; rw [HQ1.out, HQ2.out]; simpa [zla] using HR8.out
   have HRE := zk7 RE; clear RE HR8; go_wp2; go_roundw
   case rel => exact ⟨k + 1, by omega, by go_num, HRE.out⟩
   case measure => simp [intOf]; omega
  ·obtain rfl : k = n := by omega
   go_wp2; go_end0; have e1 : (f :: r).take k = f :: r := zlg (by rw [zlp, HN.out]; exact zlj _); rw [e1] at R; obtain ⟨oZ, hEZ, hfZ, hoZ⟩ := R; refine ⟨rfl, oZ, hEZ, HFW.out.trans hfZ (fun k hk h => h), ?_⟩; rcases hoZ with h | ⟨k2, h, hk2⟩
   ·exact .inl h
   ·exact .inr ⟨k2, h, by omega⟩
def zb5 (l : List Exm) : List UInt8 := 4 :: encXs l
theorem zjz (ep : Value) (sv : Value) (P : Nat → Prop) (v : Value) (xs : List UInt8) (l : List Exm) (w : World) (h : Sl P w sv 4 l.length (l.flatMap exo)) (hown : w.ownsRow 0 5 1 v xs.length (bc xs)) (hl : xs.length ≤ 536870912)
 (hsl : l.length ≤ 12) (hwf : ∀ s ∈ l, zfs s) (hP : ∀ g, P g → g < w.heap.size ∧ some g ≠ v.ownBlock) :
 Calls Tryz.prog 94 #[ep, sv, v] w (zbN w v.ownBlock (xs ++ zb5 l)) := by
 have hsv : ∃ A m c, sv = .slice A m c := let ⟨A, c, h, _⟩ := h; ⟨A, _, c, h⟩
 have HS := zk7 h; obtain ⟨A, c, rfl, hlen, hnc, hr⟩ := h; obtain ⟨a', n', k', rfl⟩ := zae hown; have hE := Enc.made (z := .int .u8 0) hown _ rfl; have hQ := zcn w.heap.size _ xs 4 _ hE (by omega); have e2 : ((4 : UInt8).toNat : Int) = 4 := rfl; rw [e2] at hQ; have HE := zk7 hE; clear hE e2 hlen hr hsv
 have hFW : Fr (fun k => some k = (Value.slice a' n' k').ownBlock) w (w.alloc (.cells #[.slice a' n' k', .int .u8 0, .int .u8 0, .int .u8 0, .int .u8 0, .int .u8 0, .int .u8 0, .int .u8 0, .int .u8 0, .int .u8 0, .int .u8 0] 224)) := (zlW _ w).alloc _; have HFW := zk7 hFW; clear hFW; rcases l with _ | ⟨f, r⟩
 ·go_enter Tryz.func94, Tryz.ntmps94
  go_wp2_with (first | (go_at_call 180; refine hQ.mono ?_; rintro r1 w1 ⟨rfl, R⟩; obtain ⟨o1, hE1, hf1, ho1⟩ := R; have hG := zdY _ _ _ _ hE1) | (go_at_call 116; refine hG.mono ?_; rintro r w2 ⟨v2, rfl, rfl, hown2, hv2⟩))
  go_ret; refine ⟨v2, rfl, by simpa [zb5, encXs] using hown2, zdf (o1 := o1) hf1, ?_⟩; rw [hv2]; rcases ho1 with h | ⟨k, h, hk⟩
  ·exact .inl h
  ·exact .inr ⟨k, h, by simp at hk; omega⟩
 ·obtain ⟨n, hn⟩ : ∃ n, (f :: r).length = n := ⟨_, rfl⟩
  have hn2 : n = r.length + 1 := by rw [← hn]; rfl
  have HN := zk7 hn2; rw [hn] at HS hnc hsl ⊢; have hn0 : ((n : Int) == 0) = false := by simp; omega
  have HP := zk7 hP; have HW := zk7 hwf; clear hn hn2 hP hwf; go_enter Tryz.func94, Tryz.ntmps94
  go_wp2_with (first
   | (go_at_call 180; refine hQ.mono ?_; rintro r1 w1 ⟨rfl, R⟩
      have hws : w.heap.size < w1.heap.size := by have := R.fr.size; simp at this; omega
      obtain ⟨o1, hE1, hf1, ho1⟩ := R; have hB : ∀ g, P g → g < w1.heap.size ∧ ¬ (g = w.heap.size ∨ some g = o1) := fun g hg => by
       have h1 := HP.out g hg; refine ⟨by omega, ?_⟩; rintro (rfl | h)
       ·omega
       ·rcases ho1 with h2 | ⟨k, h2, hk⟩
        ·exact h1.2 (h.trans h2)
        ·rw [h2] at h; injection h with h; simp at hk; omega
      have hF1 := zdf (o1 := o1) hf1; have hSl1 := HS.out.fr hF1 (fun g hg => (HP.out g hg).2); rw [HN.out] at hSl1; have hX := zkM ep (.slice A n c) P w.heap.size o1 (xs ++ [4]) f r w1 (by rw [HN.out]; exact hSl1) hE1 (by rw [zk8, zlo]; omega) (by have := HN.out; omega) HW.out hB; have HF1 := zk7 hF1; have HO1 := zk7 ho1
      clear hSl1 hB hF1 ho1 hf1 hE1)
   | (go_at_call 184; refine hX.mono ?_; rintro r2 w2 ⟨rfl, oZ, hEZ, hfZ, hoZ⟩; have hG := zdY _ _ _ _ hEZ; have HZ := zk7 hfZ; clear hX hfZ)
   | (go_at_call 116; refine hG.mono ?_; rintro r w3 ⟨v2, rfl, rfl, hown2, hv2⟩))
  go_ret; refine ⟨v2, rfl, by simpa [zb5, zla] using hown2, HF1.out.trans HZ.out (fun k hk e => ?_), ?_⟩
  ·rcases e with e | e
   ·omega
   ·rcases HO1.out with h2 | ⟨k2, h2, hk2⟩
    ·rw [e, h2]
    ·rw [h2] at e; injection e with e; simp at hk2; omega
  ·rw [hv2]
   rcases hoZ with h | ⟨k2, h, hk2⟩
   ·rw [h]
    rcases HO1.out with h2 | ⟨k3, h2, hk3⟩
    ·exact .inl h2
    ·exact .inr ⟨k3, h2, by simp at hk3; omega⟩
   ·exact .inr ⟨k2, h, by omega⟩
def SerR (s : Ser) : Prop := s.ref < 18446744073709551616 ∧ LabOk s.labs 12 600
def ExmR (s : Exm) : Prop := (s.ref < 18446744073709551616 ∧ -9223372036854775808 ≤ s.t ∧ s.t ≤ 9223372036854775807 ∧ s.v < 18446744073709551616) ∧ LabOk s.labs 12 600
theorem SerR.lab {s : Ser} (h : SerR s) : LabOk s.labs 12 600 := h.2
theorem ExmR.lab {s : Exm} (h : ExmR s) : LabOk s.labs 12 600 := h.2
theorem SerR.ok {s : Ser} (h : SerR s) : zgE s := ⟨h.1, h.2.1, fun p hp => (h.2.2.1 p hp).2, h.2.2.2⟩
theorem ExmR.ok {s : Exm} (h : ExmR s) : zfs s := ⟨h.1.1, h.1.2.1, h.1.2.2.1, h.1.2.2.2, h.2.1, fun p hp => (h.2.2.1 p hp).2, h.2.2.2⟩
theorem zhc (bk bp bb br : Nat) (ep lp : Value) (P : Nat → Prop) (s0 s1 s2 s3 s4 s5 s6 v z : Value) (xs : List UInt8) (lv : List (Ser × Value)) (w : World) (hk : Blk w bk 3 #[.int .i64 1]) (hp : Blk w bp 54 #[s0, s1, s2, s3, s4, s5, s6]) (hb : Blk w bb 44 #[v]) (hr : Blk w br 44 #[z])
 (hown : w.ownsRow 0 5 1 v xs.length (bc xs)) (hs : SlR P w s0 lv) (hl : xs.length ≤ 536870912) (hsl : (lv.map Prod.fst).length ≤ 12) (hwf : ∀ s ∈ (lv.map Prod.fst), SerR s) (hbr : bb ≠ br) :
 Calls Tryz.prog 90 #[.pointer (some ⟨bk, 0, none⟩), ep, .pointer (some ⟨bp, 0, none⟩), .pointer (some ⟨bb, 0, none⟩), .pointer (some ⟨br, 0, none⟩), lp] w (zcu w br v.ownBlock (xs ++ zcz (lv.map Prod.fst))) := by
 have hpr : bp ≠ br := Blk.ne_ hp hr (by decide); have k0 := hk.cell 0; have p1 := hp.cell 0; have b0 := hb.cell 0; simp at k0 p1 b0; obtain ⟨a', n', k', rfl⟩ := zae hown; have hs1 : ∃ A m c, s0 = .slice A m c := let ⟨A, c, h, _⟩ := hs.1; ⟨A, _, c, h⟩
 obtain ⟨A, m, c, rfl⟩ := hs1; have hQ := zeJ P (.slice A m c) lv w.drew hs (by rw [zlv] at hsl; omega) (fun p hp => (hwf p.1 (zlD.2 ⟨p, hp, rfl⟩)).lab); have HB := zk7 hb; have HP := zk7 hp; have HR := zk7 hr; have HO := zk7 hown; have p1d : w.drew.cell? ⟨bp, 0, none⟩ = some (.slice A m c) := p1
 have b0d : w.drew.cell? ⟨bb, 0, none⟩ = some (.slice a' n' k') := b0; clear hk hp hb hr hown hs; go_enter Tryz.func90, Tryz.ntmps90; go_wp2_with fail
 have HW := zk7 hwf; clear hwf; go_region_held3 (fun w' => w'.cell? ⟨bp, 0, none⟩ = some (.slice A m c) ∧ w'.cell? ⟨bb, 0, none⟩ = some (.slice a' n' k'))
  ((first | (go_split_ands; refine ⟨?_, ?_⟩ <;> first | exact ((HP.out.drew).fr hf1 (fun e => e)).cell 0 | exact ((HB.out.drew).fr hf1 (fun e => e)).cell 0) | (go_split_ands; refine ⟨?_, ?_⟩ <;> first | exact KP.out.cell 0 | exact KB.out.cell 0) | (go_split_ands; refine ⟨?_, ?_⟩ <;> first | exact (KP.out.far (p := ⟨br, 0, none⟩) hpr _).cell 0 | exact (KB.out.far (p := ⟨br, 0, none⟩) hbr _).cell 0) | go_keep))
  ((first
    | (go_at_call 69; refine hQ.mono ?_; rintro r1 w1 ⟨v1, rfl, hown1, hf1⟩)
    | (go_at_call 91; refine (zjx ep v1 (fun g => v1.ownBlock = some g) (.slice a' n' k') xs (lv.map Prod.fst) w1 (Sl.ofOwn hown1) (zah (World.ownsRow.drew HO.out) hf1 (fun _ _ e => e)) hl hsl (fun s hs => (HW.out s hs).ok) (zcY hown1 HO.out (zlj _))).mono ?_; rintro r2 w2 ⟨v2, rfl, hown2, hf2, hat2⟩; obtain ⟨KP, KB, KR⟩ := za7 HP.out HB.out HR.out HO.out hf1 hf2; have q0 := KR.out.cell 0; simp at q0; have q1 := KR.out.frozen 0; obtain ⟨a2, n2, k2, rfl⟩ := zae hown2)))
 have HE : Fr (fun k => some k = (Value.slice a' n' k').ownBlock ∨ k = br) w (w2.setCell ⟨br, 0, none⟩ (.slice a2 n2 k2)) :=
  ((((zlW (fun k => some k = (Value.slice a' n' k').ownBlock ∨ k = br) w).drew).trans hf1 (fun _ _ e => e.elim)).trans hf2 (fun _ _ e => .inl e)).setCell (p := ⟨br, 0, none⟩) (.inl (.inr rfl)) _
 have HV : Blk (w2.setCell ⟨br, 0, none⟩ (.slice a2 n2 k2)) br 44 #[.slice a2 n2 k2] := by simpa using KR.out.set_ 0 (.slice a2 n2 k2)
 have HF := zk7 HE; have HVV := zk7 HV; have HOW : (w2.setCell ⟨br, 0, none⟩ (.slice a2 n2 k2)).ownsRow 0 5 1 (.slice a2 n2 k2) (xs ++ zcz (lv.map Prod.fst)).length (bc (xs ++ zcz (lv.map Prod.fst))) := zah hown2 (Fr.put_ w2 br 0 _) (fun g hg e => zak hown2 KR.out (by decide) (by rw [hg, e])); have HOWW := zk7 HOW; have hsz := hf1.size; have HAT := zk7 hat2
 clear HE HV HOW hown1 hf1 hown2 hf2 hat2 q0 q1 hQ p1 p1d b0 b0d; go_wp2; go_end0; refine ⟨rfl, _, HVV.out, HOWW.out, HF.out, ?_⟩; rcases HAT.out with h | ⟨k, h, hk⟩
 ·exact .inl h
 ·exact .inr ⟨k, h, by simp at hsz; omega⟩
theorem zeL (s0 s1 s2 s3 s4 s5 s6 bv : Value) (xs : List UInt8) (lv : List (Ser × Value)) (P : Nat → Prop) (w : World) (hb : Sl P w bv 1 xs.length (bc xs)) (hxl : xs.length ≤ 536870912)
 (hsl : ∀ s ∈ [s0, s1, s2, s3, s4, s5, s6], ∃ A m c, s = .slice A m c) (hs : SlR P w s0 lv) (hll : (lv.map Prod.fst).length ≤ 12) (hwf : ∀ s ∈ (lv.map Prod.fst), SerR s) :
 Calls Tryz.prog 31 #[.int .i64 1, .agg #[s0, s1, s2, s3, s4, s5, s6], bv] w (zbK (fun lv _ => lv = .slice none 0 0) w (xs ++ zcz (lv.map Prod.fst))) := by
 refine zaK 1 s0 s1 s2 s3 s4 s5 s6 bv xs _ P _ w hb (by omega) hsl (by rintro lv W rfl; exact ⟨_, _, _, rfl⟩) (fun _ _ _ h _ => h) ?_; intro bk be bp bb br bl v W hk hp hb' hr hl hown hbr hF
 exact (zhc bk bp bb br _ _ P s0 s1 s2 s3 s4 s5 s6 v _ xs lv W hk hp hb' hr (zai hown (zli _)) (hs.fr hF (fun _ _ e => e)) hxl hll hwf hbr).mono fun r w' h => zc7 (zai hown (zli _)) hr hl h
theorem zfh (bk bp bb br : Nat) (ep lp : Value) (P : Nat → Prop) (s0 s1 s2 s3 s4 s5 s6 v z : Value) (xs : List UInt8) (lv : List (Exm × Value)) (w : World) (hk : Blk w bk 3 #[.int .i64 4]) (hp : Blk w bp 54 #[s0, s1, s2, s3, s4, s5, s6]) (hb : Blk w bb 44 #[v]) (hr : Blk w br 44 #[z])
 (hown : w.ownsRow 0 5 1 v xs.length (bc xs)) (hs : SlX P w s3 lv) (hl : xs.length ≤ 536870912) (hsl : (lv.map Prod.fst).length ≤ 12) (hwf : ∀ s ∈ (lv.map Prod.fst), ExmR s) (hbr : bb ≠ br) :
 Calls Tryz.prog 90 #[.pointer (some ⟨bk, 0, none⟩), ep, .pointer (some ⟨bp, 0, none⟩), .pointer (some ⟨bb, 0, none⟩), .pointer (some ⟨br, 0, none⟩), lp] w (zcu w br v.ownBlock (xs ++ zb5 (lv.map Prod.fst))) := by
 have hpr : bp ≠ br := Blk.ne_ hp hr (by decide); have k0 := hk.cell 0; have p1 := hp.cell 3; have b0 := hb.cell 0; simp at k0 p1 b0; obtain ⟨a', n', k', rfl⟩ := zae hown; have hs1 : ∃ A m c, s3 = .slice A m c := let ⟨A, c, h, _⟩ := hs.1; ⟨A, _, c, h⟩
 obtain ⟨A, m, c, rfl⟩ := hs1; have hQ := zdT P (.slice A m c) lv w.drew hs (by rw [zlv] at hsl; omega) (fun p hp => (hwf p.1 (zlD.2 ⟨p, hp, rfl⟩)).lab); have HB := zk7 hb; have HP := zk7 hp; have HR := zk7 hr; have HO := zk7 hown; have p1d : w.drew.cell? ⟨bp, 3, none⟩ = some (.slice A m c) := p1
 have b0d : w.drew.cell? ⟨bb, 0, none⟩ = some (.slice a' n' k') := b0; clear hk hp hb hr hown hs; go_enter Tryz.func90, Tryz.ntmps90; go_wp2_with fail
 have HW := zk7 hwf; clear hwf; go_region_held3 (fun w' => w'.cell? ⟨bp, 3, none⟩ = some (.slice A m c) ∧ w'.cell? ⟨bb, 0, none⟩ = some (.slice a' n' k'))
  ((first | (go_split_ands; refine ⟨?_, ?_⟩ <;> first | exact ((HP.out.drew).fr hf1 (fun e => e)).cell 3 | exact ((HB.out.drew).fr hf1 (fun e => e)).cell 0) | (go_split_ands; refine ⟨?_, ?_⟩ <;> first | exact KP.out.cell 3 | exact KB.out.cell 0) | (go_split_ands; refine ⟨?_, ?_⟩ <;> first | exact (KP.out.far (p := ⟨br, 0, none⟩) hpr _).cell 3 | exact (KB.out.far (p := ⟨br, 0, none⟩) hbr _).cell 0) | go_keep))
  ((first
    | (go_at_call 78; refine hQ.mono ?_; rintro r1 w1 ⟨v1, rfl, hown1, hf1⟩)
    | (go_at_call 94; refine (zjz ep v1 (fun g => v1.ownBlock = some g) (.slice a' n' k') xs (lv.map Prod.fst) w1 (Sl.ofOwn hown1) (zah (World.ownsRow.drew HO.out) hf1 (fun _ _ e => e)) hl hsl (fun s hs => (HW.out s hs).ok) (zcY hown1 HO.out (zlj _))).mono ?_; rintro r2 w2 ⟨v2, rfl, hown2, hf2, hat2⟩; obtain ⟨KP, KB, KR⟩ := za7 HP.out HB.out HR.out HO.out hf1 hf2; have q0 := KR.out.cell 0; simp at q0; have q1 := KR.out.frozen 0; obtain ⟨a2, n2, k2, rfl⟩ := zae hown2)))
 have HE : Fr (fun k => some k = (Value.slice a' n' k').ownBlock ∨ k = br) w (w2.setCell ⟨br, 0, none⟩ (.slice a2 n2 k2)) :=
  ((((zlW (fun k => some k = (Value.slice a' n' k').ownBlock ∨ k = br) w).drew).trans hf1 (fun _ _ e => e.elim)).trans hf2 (fun _ _ e => .inl e)).setCell (p := ⟨br, 0, none⟩) (.inl (.inr rfl)) _
 have HV : Blk (w2.setCell ⟨br, 0, none⟩ (.slice a2 n2 k2)) br 44 #[.slice a2 n2 k2] := by simpa using KR.out.set_ 0 (.slice a2 n2 k2)
 have HF := zk7 HE; have HVV := zk7 HV; have HOW : (w2.setCell ⟨br, 0, none⟩ (.slice a2 n2 k2)).ownsRow 0 5 1 (.slice a2 n2 k2) (xs ++ zb5 (lv.map Prod.fst)).length (bc (xs ++ zb5 (lv.map Prod.fst))) := zah hown2 (Fr.put_ w2 br 0 _) (fun g hg e => zak hown2 KR.out (by decide) (by rw [hg, e])); have HOWW := zk7 HOW; have hsz := hf1.size; have HAT := zk7 hat2
 clear HE HV HOW hown1 hf1 hown2 hf2 hat2 q0 q1 hQ p1 p1d b0 b0d; go_wp2; go_end0; refine ⟨rfl, _, HVV.out, HOWW.out, HF.out, ?_⟩; rcases HAT.out with h | ⟨k, h, hk⟩
 ·exact .inl h
 ·exact .inr ⟨k, h, by simp at hsz; omega⟩
theorem zd5 (s0 s1 s2 s3 s4 s5 s6 bv : Value) (xs : List UInt8) (lv : List (Exm × Value)) (P : Nat → Prop) (w : World) (hb : Sl P w bv 1 xs.length (bc xs)) (hxl : xs.length ≤ 536870912)
 (hsl : ∀ s ∈ [s0, s1, s2, s3, s4, s5, s6], ∃ A m c, s = .slice A m c) (hs : SlX P w s3 lv) (hll : (lv.map Prod.fst).length ≤ 12) (hwf : ∀ s ∈ (lv.map Prod.fst), ExmR s) :
 Calls Tryz.prog 31 #[.int .i64 4, .agg #[s0, s1, s2, s3, s4, s5, s6], bv] w (zbK (fun lv _ => lv = .slice none 0 0) w (xs ++ zb5 (lv.map Prod.fst))) := by
 refine zaK 4 s0 s1 s2 s3 s4 s5 s6 bv xs _ P _ w hb (by omega) hsl (by rintro lv W rfl; exact ⟨_, _, _, rfl⟩) (fun _ _ _ h _ => h) ?_; intro bk be bp bb br bl v W hk hp hb' hr hl hown hbr hF
 exact (zfh bk bp bb br _ _ P s0 s1 s2 s3 s4 s5 s6 v _ xs lv W hk hp hb' hr (zai hown (zli _)) (hs.fr hF (fun _ _ e => e)) hxl hll hwf hbr).mono fun r w' h => zc7 (zai hown (zli _)) hr hl h
theorem zfB (bk bp bb br : Nat) (ep lp : Value) (P : Nat → Prop) (s0 s1 s2 s3 s4 s5 s6 v z : Value) (xs : List UInt8) (l : List Mta) (w : World) (hk : Blk w bk 3 #[.int .i64 6]) (hp : Blk w bp 54 #[s0, s1, s2, s3, s4, s5, s6]) (hb : Blk w bb 44 #[v]) (hr : Blk w br 44 #[z])
 (hown : w.ownsRow 0 5 1 v xs.length (bc xs)) (hs : Sl P w s4 4 l.length (l.flatMap Mta.c)) (hl : xs.length ≤ 536870912) (hsl : l.length ≤ 1048576) (hwf : ∀ s ∈ l, s.wf) (hbr : bb ≠ br) :
 Calls Tryz.prog 90 #[.pointer (some ⟨bk, 0, none⟩), ep, .pointer (some ⟨bp, 0, none⟩), .pointer (some ⟨bb, 0, none⟩), .pointer (some ⟨br, 0, none⟩), lp] w (zcu w br v.ownBlock (xs ++ zb2 l)) := by
 have hpr : bp ≠ br := Blk.ne_ hp hr (by decide); have k0 := hk.cell 0; have p1 := hp.cell 4; have b0 := hb.cell 0; simp at k0 p1 b0; obtain ⟨a', n', k', rfl⟩ := zae hown; have hs1 : ∃ A m c, s4 = .slice A m c := let ⟨A, c, h, _⟩ := hs; ⟨A, _, c, h⟩
 obtain ⟨A, m, c, rfl⟩ := hs1; have hQ := zd4 P (.slice A m c) l w.drew hs (by omega); have HB := zk7 hb; have HP := zk7 hp; have HR := zk7 hr; have HO := zk7 hown; have p1d : w.drew.cell? ⟨bp, 4, none⟩ = some (.slice A m c) := p1; have b0d : w.drew.cell? ⟨bb, 0, none⟩ = some (.slice a' n' k') := b0; clear hk hp hb hr hown hs; go_enter Tryz.func90, Tryz.ntmps90
 go_wp2_with fail
 have HW := zk7 hwf; clear hwf; go_region_held3 (fun w' => w'.cell? ⟨bp, 4, none⟩ = some (.slice A m c) ∧ w'.cell? ⟨bb, 0, none⟩ = some (.slice a' n' k'))
  ((first | (go_split_ands; refine ⟨?_, ?_⟩ <;> first | exact ((HP.out.drew).fr hf1 (fun e => e)).cell 4 | exact ((HB.out.drew).fr hf1 (fun e => e)).cell 0) | (go_split_ands; refine ⟨?_, ?_⟩ <;> first | exact KP.out.cell 4 | exact KB.out.cell 0) | (go_split_ands; refine ⟨?_, ?_⟩ <;> first | exact (KP.out.far (p := ⟨br, 0, none⟩) hpr _).cell 4 | exact (KB.out.far (p := ⟨br, 0, none⟩) hbr _).cell 0) | go_keep))
  ((first
    | (go_at_call 82; refine hQ.mono ?_; rintro r1 w1 ⟨v1, rfl, hown1, hf1⟩)
    | (go_at_call 96; refine (zio ep v1 (fun g => v1.ownBlock = some g) (.slice a' n' k') xs l w1 (Sl.ofOwn hown1) (zah (World.ownsRow.drew HO.out) hf1 (fun _ _ e => e)) (by omega) hsl HW.out (zcY hown1 HO.out (zlj _))).mono ?_; rintro r2 w2 ⟨v2, rfl, hown2, hf2, hat2⟩; obtain ⟨KP, KB, KR⟩ := za7 HP.out HB.out HR.out HO.out hf1 hf2; have q0 := KR.out.cell 0; simp at q0; have q1 := KR.out.frozen 0; obtain ⟨a2, n2, k2, rfl⟩ := zae hown2)))
 have HE : Fr (fun k => some k = (Value.slice a' n' k').ownBlock ∨ k = br) w (w2.setCell ⟨br, 0, none⟩ (.slice a2 n2 k2)) :=
  ((((zlW (fun k => some k = (Value.slice a' n' k').ownBlock ∨ k = br) w).drew).trans hf1 (fun _ _ e => e.elim)).trans hf2 (fun _ _ e => .inl e)).setCell (p := ⟨br, 0, none⟩) (.inl (.inr rfl)) _
 have HV : Blk (w2.setCell ⟨br, 0, none⟩ (.slice a2 n2 k2)) br 44 #[.slice a2 n2 k2] := by simpa using KR.out.set_ 0 (.slice a2 n2 k2)
 have HF := zk7 HE; have HVV := zk7 HV; have HOW : (w2.setCell ⟨br, 0, none⟩ (.slice a2 n2 k2)).ownsRow 0 5 1 (.slice a2 n2 k2) (xs ++ zb2 l).length (bc (xs ++ zb2 l)) := zah hown2 (Fr.put_ w2 br 0 _) (fun g hg e => zak hown2 KR.out (by decide) (by rw [hg, e])); have HOWW := zk7 HOW; have hsz := hf1.size; have HAT := zk7 hat2
 clear HE HV HOW hown1 hf1 hown2 hf2 hat2 q0 q1 hQ p1 p1d b0 b0d; go_wp2; go_end0; refine ⟨rfl, _, HVV.out, HOWW.out, HF.out, ?_⟩; rcases HAT.out with h | ⟨k, h, hk⟩
 ·exact .inl h
 ·exact .inr ⟨k, h, by simp at hsz; omega⟩
theorem zei (s0 s1 s2 s3 s4 s5 s6 bv : Value) (xs : List UInt8) (l : List Mta) (P : Nat → Prop) (w : World) (hb : Sl P w bv 1 xs.length (bc xs)) (hxl : xs.length ≤ 536870912)
 (hsl : ∀ s ∈ [s0, s1, s2, s3, s4, s5, s6], ∃ A m c, s = .slice A m c) (hs : Sl P w s4 4 l.length (l.flatMap Mta.c)) (hll : l.length ≤ 1048576) (hwf : ∀ s ∈ l, s.wf) :
 Calls Tryz.prog 31 #[.int .i64 6, .agg #[s0, s1, s2, s3, s4, s5, s6], bv] w (zbK (fun lv _ => lv = .slice none 0 0) w (xs ++ zb2 l)) := by
 refine zaK 6 s0 s1 s2 s3 s4 s5 s6 bv xs _ P _ w hb (by omega) hsl (by rintro lv W rfl; exact ⟨_, _, _, rfl⟩) (fun _ _ _ h _ => h) ?_; intro bk be bp bb br bl v W hk hp hb' hr hl hown hbr hF
 exact (zfB bk bp bb br _ _ P s0 s1 s2 s3 s4 s5 s6 v _ xs l W hk hp hb' hr (zai hown (zli _)) (hs.fr hF (fun _ _ e => e)) hxl hll hwf hbr).mono fun r w' h => zc7 (zai hown (zli _)) hr hl h
def ivc (p : Int × Int) : List Value := [.int .i64 p.1, .int .i64 p.2]
theorem Tryz.info279 : (Tryz.prog.info? 279).map (fun i => (i.zero, i.size, i.bytes)) = some (some (.agg #[.int .i64 0, .int .i64 0]), 2, 16) := by kernel_rfl
theorem Tryz.info281 : (Tryz.prog.info? 281).map (fun i => (i.zero, i.size, i.bytes)) = some (some (.agg #[.int .i64 0, .int .i64 0]), 2, 16) := by kernel_rfl
def IvEnds (t : TypeId) (w : World) (l : List (Int × Int)) (r : Ending) (w' : World) : Prop :=
 ∃ v, r = .returned v ∧ w'.ownsRow w.heap.size t 2 v l.length (l.flatMap ivc) ∧ Fr (fun _ => False) w w'
theorem zhq (P : Nat → Prop) (v : Value) (l : List (Int × Int)) (w : World) (h : Sl P w v 2 l.length (l.flatMap ivc)) (hl : l.length ≤ 1099511627776) :
 Calls Tryz.prog 169 #[v] w (IvEnds 279 w l) := by
 obtain ⟨A, c, rfl, hlen, hnc, hr⟩ := h; obtain ⟨n, hn⟩ : ∃ n, l.length = n := ⟨_, rfl⟩; rw [hn] at hr hnc hl ⊢; have HN := zk7 hn; have HR := zk7 hr; obtain ⟨i0, hi0, hz0, hz1, hz2⟩ := info_parts Tryz.info279; clear hn hr hlen; go_enter Tryz.func169, Tryz.ntmps169; go_wp2
 go_loopw [3, 8] (fun v i wr => ∃ k : Nat, k ≤ n ∧ i = .int .i64 k ∧ wr.ownsRow w.heap.size 279 2 v k ((l.take k).flatMap ivc) ∧ Fr (fun _ => False) w wr) (fun _ i _ => n - (intOf i).toNat)
 case atStart => exact ⟨0, zli _, rfl, zll _ _ _ _, zlW _ _⟩
 case round =>
  obtain ⟨k, hk, rfl, hown, hf⟩ := hrel; by_cases hlt : k < n
  ·obtain ⟨g, off, rfl, _, hcell⟩ := HR.out (by omega)
   obtain ⟨x, hx⟩ : ∃ x, l[k]? = some x := ⟨_, zk9 (by rw [HN.out]; exact hlt)⟩; have cc : ∀ j, j < 2 → ∀ u, (ivc x)[j]? = some u → wr.cell? ⟨g, off + (k * 2 + j), none⟩ = some u := fun j hj u hu => by
    have := hcell (k * 2 + j) u (by rw [zci ivc (fun _ => rfl) l k x hx j hj]; exact hu); rw [hf.cell (p := ⟨g, off + (k * 2 + j), none⟩) (zle w _ this) (fun e => e)]; exact this
   have c0 : wr.cell? ⟨g, off + k * 2, none⟩ = some (.int .i64 x.1) := cc 0 (by omega) _ rfl; have c1 : wr.cell? ⟨g, off + k * 2 + 1, none⟩ = some (.int .i64 x.2) := cc 1 (by omega) _ rfl; have HC := zk7 hcell; have HO := zk7 hown; have HX := zk7 hx; obtain ⟨a', n', k', rfl⟩ := zae hown; clear hcell cc hown hx; go_wp2_with (at_builtin; refine Hid.out ?_)
   refine zk7 ?_; refine zad _ rfl _ _ 145 145 rfl w.heap.size 279 i0 _ 2 16 Tryz.underlying145 hi0 hz0 hz1 hz2 rfl (by decide) _ k ((l.take k).flatMap ivc) rfl ((HO.out.alloc _).alloc _) _ 1 (ivc x) rfl (zaF Tryz.underlying145 (za6 wr _ 279 (ivc x).toArray) rfl (by simp [ivc, Value.oneCell'])) (by unfold maxLen; omega) (by omega) (by have := hf.size; simp; omega) ?_
   intro v' w2 hown' hgrow hat
   have hown2 : w2.ownsRow w.heap.size 279 2 v' (k + 1) ((l.take (k + 1)).flatMap ivc) := by rw [zao ivc l k x HX.out]; exact hown'
   have hf2 : Fr (fun _ => False) w w2 := ((hf.alloc _).alloc _).grown hgrow (fun g hg => .inr (((HO.out.lt g hg)).1)); have HO2 := zk7 hown2; have HF2 := zk7 hf2; clear hown' hgrow hown2 hf2 hf c0 c1 hat
   go_wp2; go_roundw
   case rel => exact ⟨k + 1, by omega, by go_num, HO2.out, HF2.out⟩
   case measure => simp [intOf]; omega
  ·go_wp2
   go_ret; obtain rfl : k = n := by omega
   refine ⟨_, rfl, ?_, hf⟩; rw [← HN.out] at hown ⊢; rw [zly] at hown; exact hown
theorem zfD (P : Nat → Prop) (v : Value) (l : List (Int × Int)) (w : World) (h : Sl P w v 2 l.length (l.flatMap ivc)) (hl : l.length ≤ 1099511627776) :
 Calls Tryz.prog 76 #[v] w (IvEnds 281 w l) := by
 obtain ⟨A, c, rfl, hlen, hnc, hr⟩ := h; obtain ⟨n, hn⟩ : ∃ n, l.length = n := ⟨_, rfl⟩; rw [hn] at hr hnc hl ⊢; have HN := zk7 hn; have HR := zk7 hr; obtain ⟨i0, hi0, hz0, hz1, hz2⟩ := info_parts Tryz.info281; clear hn hr hlen; go_enter Tryz.func76, Tryz.ntmps76; go_wp2
 go_loopw [3, 8] (fun v i wr => ∃ k : Nat, k ≤ n ∧ i = .int .i64 k ∧ wr.ownsRow w.heap.size 281 2 v k ((l.take k).flatMap ivc) ∧ Fr (fun _ => False) w wr) (fun _ i _ => n - (intOf i).toNat)
 case atStart => exact ⟨0, zli _, rfl, zll _ _ _ _, zlW _ _⟩
 case round =>
  obtain ⟨k, hk, rfl, hown, hf⟩ := hrel; by_cases hlt : k < n
  ·obtain ⟨g, off, rfl, _, hcell⟩ := HR.out (by omega)
   obtain ⟨x, hx⟩ : ∃ x, l[k]? = some x := ⟨_, zk9 (by rw [HN.out]; exact hlt)⟩; have cc : ∀ j, j < 2 → ∀ u, (ivc x)[j]? = some u → wr.cell? ⟨g, off + (k * 2 + j), none⟩ = some u := fun j hj u hu => by
    have := hcell (k * 2 + j) u (by rw [zci ivc (fun _ => rfl) l k x hx j hj]; exact hu); rw [hf.cell (p := ⟨g, off + (k * 2 + j), none⟩) (zle w _ this) (fun e => e)]; exact this
   have c0 : wr.cell? ⟨g, off + k * 2, none⟩ = some (.int .i64 x.1) := cc 0 (by omega) _ rfl; have c1 : wr.cell? ⟨g, off + k * 2 + 1, none⟩ = some (.int .i64 x.2) := cc 1 (by omega) _ rfl; have HC := zk7 hcell; have HO := zk7 hown; have HX := zk7 hx; obtain ⟨a', n', k', rfl⟩ := zae hown; clear hcell cc hown hx; go_wp2_with (at_builtin; refine Hid.out ?_)
   refine zk7 ?_; refine zad _ rfl _ _ 148 148 rfl w.heap.size 281 i0 _ 2 16 Tryz.underlying148 hi0 hz0 hz1 hz2 rfl (by decide) _ k ((l.take k).flatMap ivc) rfl ((HO.out.alloc _).alloc _) _ 1 (ivc x) rfl (zaF Tryz.underlying148 (za6 wr _ 281 (ivc x).toArray) rfl (by simp [ivc, Value.oneCell'])) (by unfold maxLen; omega) (by omega) (by have := hf.size; simp; omega) ?_
   intro v' w2 hown' hgrow hat
   have hown2 : w2.ownsRow w.heap.size 281 2 v' (k + 1) ((l.take (k + 1)).flatMap ivc) := by rw [zao ivc l k x HX.out]; exact hown'
   have hf2 : Fr (fun _ => False) w w2 := ((hf.alloc _).alloc _).grown hgrow (fun g hg => .inr (((HO.out.lt g hg)).1)); have HO2 := zk7 hown2; have HF2 := zk7 hf2; clear hown' hgrow hown2 hf2 hf c0 c1 hat
   go_wp2; go_roundw
   case rel => exact ⟨k + 1, by omega, by go_num, HO2.out, HF2.out⟩
   case measure => simp [intOf]; omega
  ·go_wp2
   go_ret; obtain rfl : k = n := by omega
   refine ⟨_, rfl, ?_, hf⟩; rw [← HN.out] at hown ⊢; rw [zly] at hown; exact hown
structure Ston where
 ref : Nat
 ivs : List (Int × Int)
def stc (p : Ston × Value) : List Value := [.int .u64 p.1.ref, p.2]
def SlS (P : Nat → Prop) (w : World) (v : Value) (lv : List (Ston × Value)) : Prop :=
 Sl P w v 2 lv.length (lv.flatMap stc) ∧ ∀ p ∈ lv, Sl P w p.2 2 p.1.ivs.length (p.1.ivs.flatMap ivc)
def OwnS (base te ti : Nat) (w : World) (v : Value) (lv : List (Ston × Value)) : Prop :=
 w.ownsRow base te 2 v lv.length (lv.flatMap stc) ∧ ∀ p ∈ lv, w.ownsRow base ti 2 p.2 p.1.ivs.length (p.1.ivs.flatMap ivc)
theorem Tryz.info147 : (Tryz.prog.info? 147).map (fun i => (i.zero, i.size, i.bytes)) = some (some (.agg #[.int .u64 0, .slice none 0 0]), 2, 32) := by kernel_rfl
theorem Tryz.info151 : (Tryz.prog.info? 151).map (fun i => (i.zero, i.size, i.bytes)) = some (some (.agg #[.int .u64 0, .slice none 0 0]), 2, 32) := by kernel_rfl
theorem SlS.fr {P S : Nat → Prop} {w w' : World} {v : Value} {lv : List (Ston × Value)} (h : SlS P w v lv) (hf : Fr S w w') (hs : ∀ g, P g → ¬ S g) : SlS P w' v lv :=
 ⟨h.1.fr hf hs, fun p hp => (h.2 p hp).fr hf hs⟩
theorem OwnS.fr {S : Nat → Prop} {base te ti : Nat} {w w' : World} {v : Value} {lv : List (Ston × Value)} (h : OwnS base te ti w v lv) (hf : Fr S w w') (hs : ∀ k, base ≤ k → k < w.heap.size → ¬ S k) : OwnS base te ti w' v lv :=
 ⟨zah h.1 hf (fun g hg => hs g (h.1.lt g hg).1 (zav h.1 hg)), fun p hp => zah (h.2 p hp) hf (fun g hg => hs g ((h.2 p hp).lt g hg).1 (zav (h.2 p hp) hg))⟩
theorem OwnS.mono {base base' te ti : Nat} {w : World} {v : Value} {lv : List (Ston × Value)} (h : OwnS base te ti w v lv) (hb : base' ≤ base) : OwnS base' te ti w v lv :=
 ⟨zai h.1 hb, fun p hp => zai (h.2 p hp) hb⟩
theorem OwnS.nil (base te ti : Nat) (w : World) : OwnS base te ti w (.slice none 0 0) [] := ⟨zll _ _ _ _, fun p hp => by cases hp⟩
theorem OwnS.sl {base te ti : Nat} {w : World} {v : Value} {lv : List (Ston × Value)} (h : OwnS base te ti w v lv) : SlS (fun g => base ≤ g ∧ g < w.heap.size) w v lv :=
 ⟨(Sl.ofOwn h.1).mono (fun g hg => ⟨(h.1.lt g hg).1, zav h.1 hg⟩), fun p hp => (Sl.ofOwn (h.2 p hp)).mono (fun g hg => ⟨((h.2 p hp).lt g hg).1, zav (h.2 p hp) hg⟩)⟩
theorem OwnS.push {base te ti : Nat} {w w2 : World} {v v' : Value} {lv : List (Ston × Value)} {p : Ston × Value} (h : OwnS base te ti w v lv) (hp : w.ownsRow base ti 2 p.2 p.1.ivs.length (p.1.ivs.flatMap ivc)) (hg : w.grownBy w2 v.ownBlock)
 (ho : w2.ownsRow base te 2 v' (lv.length + 1) (lv.flatMap stc ++ stc p)) (hne : ti ≠ te) : OwnS base te ti w2 v' (lv ++ [p]) := by
 have hf : Fr (fun k => some k = v.ownBlock) w w2 := (zlW (fun k => some k = v.ownBlock) w).grown hg (fun k hk => .inl hk.symm); refine ⟨by simpa using ho, fun q hq => ?_⟩; rcases zlN.1 hq with hq | hq
 ·exact zah (h.2 q hq) hf (fun g hgq e => zbU (h.2 q hq) h.1 hne g hgq e.symm)
 ·rw [zlO] at hq
  subst hq; exact zah hp hf (fun g hgq e => zbU hp h.1 hne g hgq e.symm)
def zhM (w : World) (l : List Ston) (r : Ending) (w' : World) : Prop :=
 ∃ v lv, r = .returned v ∧ lv.map Prod.fst = l ∧ OwnS w.heap.size 147 279 w' v lv ∧ Fr (fun _ => False) w w'
theorem zeI (P : Nat → Prop) (v : Value) (lv : List (Ston × Value)) (w : World) (h : SlS P w v lv) (hl : lv.length ≤ 1099511627776) (hil : ∀ p ∈ lv, p.1.ivs.length ≤ 1099511627776) :
 Calls Tryz.prog 75 #[v] w (zhM w (lv.map Prod.fst)) := by
 obtain ⟨⟨A, c, rfl, hlen, hnc, hr⟩, hin⟩ := h; obtain ⟨n, hn⟩ : ∃ n, lv.length = n := ⟨_, rfl⟩; rw [hn] at hr hnc hl ⊢; have HN := zk7 hn; have HR := zk7 hr; have HI := zk7 hin
 have HIL := zk7 hil; obtain ⟨i0, hi0, hz0, hz1, hz2⟩ := info_parts Tryz.info147; clear hn hr hlen hin hil; go_enter Tryz.func75, Tryz.ntmps75; go_wp2
 go_loopw [2, 7] (fun v i wr => ∃ (k : Nat) (lo : List (Ston × Value)), k ≤ n ∧ i = .int .i64 k ∧ Hid (lo.map Prod.fst = (lv.take k).map Prod.fst) ∧ Hid (lo.length = k) ∧ Hid (OwnS w.heap.size 147 279 wr v lo) ∧ Hid (Fr (fun _ => False) w wr)) (fun _ i _ => n - (intOf i).toNat)
 case atStart => exact ⟨0, [], zli _, rfl, zk7 rfl, zk7 rfl, zk7 (OwnS.nil _ _ _ _), zk7 (zlW _ _)⟩
 case round =>
  obtain ⟨k, lo, hk, rfl, HM, HLO, HO, HF⟩ := hrel; by_cases hlt : k < n
  ·obtain ⟨g, off, rfl, _, hcell⟩ := HR.out (by omega)
   obtain ⟨x, hx⟩ : ∃ x, lv[k]? = some x := ⟨_, zk9 (by rw [HN.out]; exact hlt)⟩; have cc : ∀ j, j < 2 → ∀ u, (stc x)[j]? = some u → wr.cell? ⟨g, off + (k * 2 + j), none⟩ = some u := fun j hj u hu => by
    have := hcell (k * 2 + j) u (by rw [zci stc (fun _ => rfl) lv k x hx j hj]; exact hu); rw [HF.out.cell (p := ⟨g, off + (k * 2 + j), none⟩) (zle w _ this) (fun e => e)]; exact this
   have c0 : wr.cell? ⟨g, off + k * 2, none⟩ = some (.int .u64 x.1.ref) := cc 0 (by omega) _ rfl; have c1 : wr.cell? ⟨g, off + k * 2 + 1, none⟩ = some x.2 := cc 1 (by omega) _ rfl; have hxm := zlf hx; have hiv := HI.out x hxm; have hivl := HIL.out x hxm; obtain ⟨⟨ref, ivs⟩, iv⟩ := x; simp only [] at c0 c1 hiv hivl
   have hiv1 : ∃ A m c, iv = .slice A m c := let ⟨A, c, h, _⟩ := hiv; ⟨A, _, c, h⟩
   obtain ⟨Ai, mi, ci, rfl⟩ := hiv1; have HX := zk7 hx; obtain ⟨a', n', k', rfl⟩ := zae HO.out.1; clear hcell cc hx hxm; go_wp2_with fail
   have hB8 := Blk.new wr 151 #[.int .u64 ref, .slice Ai mi ci]; have s0 := hB8.cell 0; have s1 := hB8.cell 1; simp only [zls, zlq, zlr] at s0 s1; have hsz := HF.out.size; have HB8 := zk7 hB8
   have hC := zhq P (.slice Ai mi ci) ivs (wr.alloc (.cells #[.int .u64 ref, .slice Ai mi ci] 151)).drew (hiv.fr (HF.out.alloc _).drew (fun _ _ e => e)) hivl; have HLO2 := HLO.out; clear hB8 hiv; have hwz : (wr.alloc (.cells #[.int .u64 ref, .slice Ai mi ci] 151)).drew.heap.size = wr.heap.size + 1 := by simp
   have hloz : lo.length ≤ 1099511627776 := by omega
   go_region_held3 (fun w' => w'.cell? ⟨wr.heap.size, 0, none⟩ = some (.int .u64 ref) ∧ w'.cell? ⟨wr.heap.size, 1, none⟩ = some (.slice Ai mi ci))
    ((first | (go_split_ands; refine ⟨?_, ?_⟩ <;> first | exact KX9.out.cell 0 | exact KX9.out.cell 1) | (go_split_ands; refine ⟨?_, ?_⟩ <;> first | exact (KX5.out.alloc _).cell 0 | exact (KX5.out.alloc _).cell 1) | (go_split_ands; refine ⟨?_, ?_⟩ <;> first | exact KX5.out.cell 0 | exact KX5.out.cell 1) | go_keep))
    ((first
      | (go_at_call 169; refine hC.mono ?_; rintro r5 w5 ⟨v5, rfl, hown5, hf5⟩; obtain ⟨a5, k5, rfl⟩ := zaa hown5; have KX5 := zk7 (HB8.out.drew.fr hf5 (fun e => e)); have F5 := zk7 (((zlW (fun _ => False) wr).alloc (.cells #[.int .u64 ref, .slice Ai mi ci] 151)).drew.same hf5); have O5 := zk7 (HO.out.fr F5.out (fun _ _ _ e => e)); have HN5 := zk7 (zai hown5 (base' := w.heap.size) (by rw [hwz]; omega)); have hz5 := F5.out.size)
      | (refine zat _ (by rfl) _ _ 139 139 (by rfl) w.heap.size 147 i0 _ 2 32 Tryz.underlying139 hi0 hz0 hz1 hz2 rfl (by decide) (.slice a' n' k') lo.length (lo.flatMap stc) (by rfl) (O5.out.1.alloc _) _ 1 (stc (⟨ref, ivs⟩, .slice a5 ivs.length k5)) (by rfl) (zaF Tryz.underlying139 (Blk.new w5 147 (stc (⟨ref, ivs⟩, .slice a5 ivs.length k5)).toArray) rfl (by simp [stc, Value.oneCell'])) (by unfold maxLen; omega) (by omega) (by simp; omega) ?_; intro v' w2 hown' hgrow hat; have KX9 := zk7 ((KX5.out.alloc (.cells (stc (⟨ref, ivs⟩, .slice a5 ivs.length k5)).toArray 147)).grown hgrow (fun e => zlR _ (zav HO.out.1 e.symm))))))
   have newO : OwnS w.heap.size 147 279 w2 v' (lo ++ [(⟨ref, ivs⟩, .slice a5 ivs.length k5)]) :=
    OwnS.push (p := (⟨ref, ivs⟩, .slice a5 ivs.length k5)) (O5.out.fr ((zlW (fun _ => False) w5).alloc (.cells (stc (⟨ref, ivs⟩, .slice a5 ivs.length k5)).toArray 147)) (fun _ _ _ e => e)) (HN5.out.alloc _) hgrow hown' (by decide)
   have newF : Fr (fun _ => False) w w2 := ((HF.out.same F5.out).alloc _).grown hgrow (fun g hg => .inr ((HO.out.1.lt g hg).1)); have newM : (lo ++ [((⟨ref, ivs⟩ : Ston), Value.slice a5 ivs.length k5)]).map Prod.fst = (lv.take (k + 1)).map Prod.fst := by
    rw [zlI, HX.out, zlx, zlx, HM.out]; rfl
   have newN : (lo ++ [((⟨ref, ivs⟩ : Ston), Value.slice a5 ivs.length k5)]).length = k + 1 := by rw [zk8, HLO.out]; rfl
   have NO := zk7 newO; have NF := zk7 newF; have NM := zk7 newM; have NN := zk7 newN; clear newO newF newM newN hown' hgrow hat c0 c1 s0 s1 hC hown5 hf5 KX9 O5 HN5; go_wp2; go_roundw
   case rel => exact ⟨k + 1, _, by omega, by go_num, NM, NN, NO, NF⟩
   case measure => simp [intOf]; omega
  ·go_wp2
   go_ret; obtain rfl : k = n := by omega
   refine ⟨_, lo, rfl, ?_, HO.out, HF.out⟩; rw [HM.out, ← HN.out, zly]
theorem zam {w : World} {b : Nat} {a0 a1 a2 a3 a4 a5 a6 : Value} (h : Blk w b 54 #[a0, a1, a2, a3, a4, a5, a6]) :
 w.cell? ⟨b, 0, none⟩ = some a0 ∧ w.cell? ⟨b, 1, none⟩ = some a1 ∧ w.cell? ⟨b, 2, none⟩ = some a2 ∧ w.cell? ⟨b, 3, none⟩ = some a3 ∧ w.cell? ⟨b, 4, none⟩ = some a4 ∧ w.cell? ⟨b, 5, none⟩ = some a5 ∧ w.cell? ⟨b, 6, none⟩ = some a6 :=
 ⟨h.cell 0, h.cell 1, h.cell 2, h.cell 3, h.cell 4, h.cell 5, h.cell 6⟩
def zhO (n : Int) (w : World) (r : Ending) (w' : World) : Prop := r = .returned (.int .i64 n) ∧ Fr (fun _ => False) w w'
theorem zem (c : Nat) (hc : c < 256) (w : World) :
 Calls Tryz.prog 35 #[.int .u8 c] w (zhO (1 + (c : Int) % 10) w) := by
 have h0 : (0 : Int) ≤ (c : Int) := by omega
 have h1 : (c : Int) < 256 := by omega
 go_enter Tryz.func35, Tryz.ntmps35; go_wp2; go_ret; exact ⟨rfl, zlW _ w⟩
def zeg (l : List Lab) : Prop := l.length ≤ 2147483647 ∧ ∀ p ∈ l, Fit p
def zeW (l : List Lab) : Prop := l.length ≤ 9223372036854775807 ∧ ∀ p ∈ l, p.1.size ≤ 9223372036854775807 ∧ p.2.size ≤ 9223372036854775807
theorem zkG (P : Nat → Prop) (ref : Nat) (v : Value) (l : List Lab) (w : World) (h : Sl P w v 2 l.length (l.flatMap zbv)) (hs : zeW l) :
 Calls Tryz.prog 193 #[.agg #[.int .u64 ref, v]] w (zau (zeg l) w) := by
 have hC := zgV P v l (w.alloc (.cells #[.int .u64 ref, v] 130)) (h.fr ((zlW (fun _ => False) w).alloc _) (fun _ _ e => e)) hs.1 hs.2; obtain ⟨A, c, rfl, _, _, _⟩ := h; go_enter Tryz.func193, Tryz.ntmps193; go_wp2_with (go_at_call 21; refine hC.mono ?_; rintro r w1 ⟨b, rfl, hb, hf1⟩; refine Hid.out ?_)
 have HF := zk7 (((zlW (fun _ => False) w).alloc (.cells #[.int .u64 ref, .slice A l.length c] 130)).same hf1); have HB := zk7 hb; clear hf1 hb hC; rcases b with _ | _
 ·refine zk7 ?_
  go_wp2; go_ret; exact ⟨false, rfl, HB.out, HF.out⟩
 ·refine zk7 ?_
  go_wp2; go_ret; exact ⟨true, rfl, ⟨fun _ => HB.out.1 (by trivial), fun _ => rfl⟩, HF.out⟩
theorem zkH (P : Nat → Prop) (v : Value) (lv : List (Ser × Value)) (w : World) (h : SlR P w v lv) (hl : lv.length ≤ 9223372036854775807) (hs : ∀ p ∈ lv, zeW p.1.labs) :
 Calls Tryz.prog 106 #[v] w (zau (lv.length ≤ 2147483647 ∧ ∀ p ∈ lv, zeg p.1.labs) w) := by
 have HS := zk7 h; obtain ⟨⟨A, c, rfl, _, hc, hr⟩, _⟩ := h; obtain ⟨n, hn⟩ : ∃ n, lv.length = n := ⟨_, rfl⟩; rw [hn] at hr hc hl HS ⊢; have HN := zk7 hn; have HI := zk7 hs; clear hn hr hs; by_cases hbig : 2147483647 < n
 ·have hbig' : (2147483647 : Int) < n := by omega
  go_enter Tryz.func106, Tryz.ntmps106; go_wp2; go_ret; exact ⟨false, rfl, ⟨fun h => (by cases h), fun h => absurd h.1 (by omega)⟩, zlW _ _⟩
 ·have hbig' : ¬ (2147483647 : Int) < n := by omega
  go_enter Tryz.func106, Tryz.ntmps106; go_wp2; go_loopw [10] (fun vi wr => ∃ k : Nat, k ≤ n ∧ vi = .int .i64 k ∧ Hid (∀ j p, j < k → lv[j]? = some p → zeg p.1.labs) ∧ Hid (Fr (fun _ => False) w wr)) (fun vi _ => n - (intOf vi).toNat)
  case atStart => exact ⟨0, zli _, rfl, zk7 (fun j p h => absurd h (zlS _)), zk7 (zlW _ _)⟩
  case round =>
   obtain ⟨k, hk, rfl, RG, RF⟩ := hrel; by_cases hlt : k < n
   ·have hS := HS.out.fr RF.out (fun _ _ e => e)
    have hiv := hS.2; obtain ⟨⟨A', c', e2, _, hc', hr⟩, _⟩ := hS; injection e2 with e2 e2n e2c; obtain ⟨g, off, rfl, _, hcell⟩ := hr (by have := HN.out; omega); obtain ⟨x, hx⟩ : ∃ x, lv[k]? = some x := ⟨_, zk9 (by rw [HN.out]; exact hlt)⟩; have hxm := zlf hx
    have q0 : wr.cell? ⟨g, off + k * 2, none⟩ = some (.int .u64 x.1.ref) := by simpa using hcell (k * 2 + 0) _ (by rw [zci zi6 (fun _ => rfl) lv k x hx 0 (by omega)]; rfl)
    have q1 : wr.cell? ⟨g, off + k * 2 + 1, none⟩ = some x.2 := hcell (k * 2 + 1) _ (by rw [zci zi6 (fun _ => rfl) lv k x hx 1 (by omega)]; rfl); have hivx := hiv x hxm; have hil := HI.out x hxm; have HXM := zk7 hxm; have HX := zk7 hx; clear hiv hx hxm; obtain ⟨⟨ref, labs⟩, iv⟩ := x; simp only [] at q0 q1 hivx hil
    have hC := zkG P ref iv labs (wr.alloc (.cells #[.int .u64 ref, iv] 130)) (hivx.fr ((zlW (fun _ => False) wr).alloc _) (fun _ _ e => e)) hil; obtain ⟨Ai, ci, rfl, _, _, _⟩ := hivx; subst e2; clear hcell hr e2n e2c hil; go_wp2_with (go_at_call 193; refine hC.mono ?_; rintro r5 w5 ⟨b, rfl, hb5, hf5⟩; refine Hid.out ?_)
    have H5 := zk7 ((RF.out.alloc (.cells #[.int .u64 ref, .slice Ai labs.length ci] 130)).same hf5); have HB5 := zk7 hb5; clear hf5 hb5 hC q0 q1; rcases b with _ | _
    ·refine zk7 ?_
     go_wp2; go_ret; exact ⟨false, rfl, ⟨fun h => (by cases h), fun h => absurd (HB5.out.2 (h.2 _ HXM.out)) (by decide)⟩, H5.out⟩
    ·refine zk7 ?_
     go_wp2; go_roundw
     case rel => exact ⟨k + 1, by omega, by go_num, zk7 (fun j p h h2 => by
      rcases zlA j k with h3 | h3
      ·exact RG.out j p h3 h2
      ·obtain rfl : j = k := by omega
       have h4 := h2.symm.trans HX.out; injection h4 with h4; rw [h4]
       exact HB5.out.1 rfl), H5⟩
     case measure => simp [intOf]; omega
   ·obtain rfl : k = n := by omega
    go_wp2; go_ret; refine ⟨true, rfl, ⟨fun _ => ⟨by omega, fun p hp => ?_⟩, fun _ => rfl⟩, RF.out⟩; obtain ⟨j, hj, e⟩ := List.getElem_of_mem hp; exact RG.out j p (by rw [← HN.out]; exact hj) (by rw [zk9 hj, e])
end Go.Proofs.YtbkookiigkckdaaGreatDoor
