/- Texts of this seat, merged and shortened. -/
import Derived.Test.YtbkookiigkckdaaGreatDoorKC20
set_option linter.unusedVariables false
set_option linter.unusedSimpArgs false
set_option maxRecDepth 100000
set_option maxHeartbeats 8000000
namespace Go.Proofs.YtbkookiigkckdaaGreatDoor
open Go.RowKit Go.Proofs.Tryz
theorem fits6_raw (hint : UInt8) (schema : Int) (thr sum zc cnt : Nat) (A1 A2 A3 A4 A5 A6 A7 : Option Addr) (n1 n2 n3 n4 n5 n6 n7 c1 c2 c3 c4 c5 c6 c7 : Nat) (w : World) (p : Prop) (hp : p ↔ (n1 <= 2147483647 /\ n2 <= 2147483647 /\ n3 <= 2147483647 /\ n4 <= 2147483647 /\ n5 <= 2147483647 /\ n6 <= 2147483647 /\ n7 <= 2147483647)) :
 Calls prog 245 #[.agg #[.int .u8 hint.toNat, .int .i32 schema, .int .u64 thr, .int .u64 sum, .int .u64 zc, .int .u64 cnt, .slice A1 n1 c1, .slice A2 n2 c2, .slice A3 n3 c3, .slice A4 n4 c4, .slice A5 n5 c5, .slice A6 n6 c6, .slice A7 n7 c7]] w (zav p w) := by
 have HP := zmk hp; clear hp; by_cases h1 : 2147483647 < n1
 ·have g1 : (2147483647 : Int) < (n1 : Int) := by omega
  have HA := zmk h1; clear h1; go_enter func245, ntmps245; go_wp2; go_ret; refine ⟨_, rfl, ?_, (znq _ w).alloc _⟩; rw [HP.out]; exact zmR (by intro h; cases h) (fun h => by have h2 := h.1; have := HA.out; omega)
 have g1 : ¬ (2147483647 : Int) < (n1 : Int) := by omega
 by_cases h2 : 2147483647 < n2
 ·have g2 : (2147483647 : Int) < (n2 : Int) := by omega
  have HA := zmk h2; clear h2; go_enter func245, ntmps245; go_wp2; go_ret; refine ⟨_, rfl, ?_, (znq _ w).alloc _⟩; rw [HP.out]; exact zmR (by intro h; cases h) (fun h => by have h2 := h.2.1; have := HA.out; omega)
 have g2 : ¬ (2147483647 : Int) < (n2 : Int) := by omega
 by_cases h3 : 2147483647 < n3
 ·have g3 : (2147483647 : Int) < (n3 : Int) := by omega
  have HA := zmk h3; clear h3; go_enter func245, ntmps245; go_wp2; go_ret; refine ⟨_, rfl, ?_, (znq _ w).alloc _⟩; rw [HP.out]; exact zmR (by intro h; cases h) (fun h => by have h2 := h.2.2.1; have := HA.out; omega)
 have g3 : ¬ (2147483647 : Int) < (n3 : Int) := by omega
 by_cases h4 : 2147483647 < n4
 ·have g4 : (2147483647 : Int) < (n4 : Int) := by omega
  have HA := zmk h4; clear h4; go_enter func245, ntmps245; go_wp2; go_ret; refine ⟨_, rfl, ?_, (znq _ w).alloc _⟩; rw [HP.out]; exact zmR (by intro h; cases h) (fun h => by have h2 := h.2.2.2.1; have := HA.out; omega)
 have g4 : ¬ (2147483647 : Int) < (n4 : Int) := by omega
 by_cases h5 : 2147483647 < n5
 ·have g5 : (2147483647 : Int) < (n5 : Int) := by omega
  have HA := zmk h5; clear h5; go_enter func245, ntmps245; go_wp2; go_ret; refine ⟨_, rfl, ?_, (znq _ w).alloc _⟩; rw [HP.out]; exact zmR (by intro h; cases h) (fun h => by have h2 := h.2.2.2.2.1; have := HA.out; omega)
 have g5 : ¬ (2147483647 : Int) < (n5 : Int) := by omega
 by_cases h6 : 2147483647 < n6
 ·have g6 : (2147483647 : Int) < (n6 : Int) := by omega
  have HA := zmk h6; clear h6; go_enter func245, ntmps245; go_wp2; go_ret; refine ⟨_, rfl, ?_, (znq _ w).alloc _⟩; rw [HP.out]; exact zmR (by intro h; cases h) (fun h => by have h2 := h.2.2.2.2.2.1; have := HA.out; omega)
 have g6 : ¬ (2147483647 : Int) < (n6 : Int) := by omega
 by_cases h7 : 2147483647 < n7
 ·have g7 : (2147483647 : Int) < (n7 : Int) := by omega
  have HA := zmk h7; clear h7; go_enter func245, ntmps245; go_wp2; go_ret; refine ⟨_, rfl, ?_, (znq _ w).alloc _⟩; rw [HP.out]; exact zmR (by intro h; cases h) (fun h => by have h2 := h.2.2.2.2.2.2; have := HA.out; omega)
 have g7 : ¬ (2147483647 : Int) < (n7 : Int) := by omega
 have HA := zmk (znc h1 (znc h2 (znc h3 (znc h4 (znc h5 (znc h6 h7)))))); clear h1 h2 h3 h4 h5 h6 h7; go_enter func245, ntmps245; go_wp2; go_ret; refine ⟨_, rfl, ?_, (znq _ w).alloc _⟩; rw [HP.out]
 exact zmS rfl (by obtain ⟨a1, a2, a3, a4, a5, a6, a7⟩ := HA.out; exact ⟨by omega, by omega, by omega, by omega, by omega, by omega, by omega⟩)
theorem fits6_any (P : Nat -> Prop) (h : Hst) (s : Hsl) (w : World) (hs : SlHs P w h s) : Calls prog 245 #[.agg (hic h s).toArray] w (zav (h.few 2147483647) w) := by
 obtain ⟨z1, z2, z3, z4, z5, z6, z7⟩ := hs; obtain ⟨sp, sn, su, sd, lM, lN, sc⟩ := s; simp only [] at z1 z2 z3 z4 z5 z6 z7; obtain ⟨A1, c1, rfl⟩ := z1.shape; obtain ⟨A2, c2, rfl⟩ := z2.shape; obtain ⟨A3, c3, rfl⟩ := z3.shape; obtain ⟨A4, c4, rfl⟩ := z4.shape; obtain ⟨A5, c5, rfl⟩ := z5.shape; obtain ⟨A6, c6, rfl⟩ := z6.shape; obtain ⟨A7, c7, rfl⟩ := z7.shape
 exact fits6_raw h.hint h.schema h.thr h.sum h.zc h.cnt A1 A2 A3 A4 A5 A6 A7 _ _ _ _ _ _ _ c1 c2 c3 c4 c5 c6 c7 w _ Iff.rfl
theorem zlH (P : Nat -> Prop) (p : Rhs) (s : Hsl) (w : World) (hs : SlHs P w p.h s) : Calls prog 197 #[.agg (hsc (p, s)).toArray] w (zav (p.h.few 2147483647) w) := by
 obtain ⟨ref, t, ⟨hint, schema, thr, sum, zc, cnt, pos, neg, ups, downs, fups, fdowns, cus⟩⟩ := p; have hC := fun W (hW : Fr (fun _ => False) w W) => fits6_any P _ _ W (hs.fr hW (fun _ _ e => e)); obtain ⟨z1, z2, z3, z4, z5, z6, z7⟩ := hs; obtain ⟨sp, sn, su, sd, lM, lN, sc⟩ := s; simp only [] at z1 z2 z3 z4 z5 z6 z7; obtain ⟨A1, c1, rfl⟩ := z1.shape; obtain ⟨A2, c2, rfl⟩ := z2.shape
 obtain ⟨A3, c3, rfl⟩ := z3.shape; obtain ⟨A4, c4, rfl⟩ := z4.shape; obtain ⟨A5, c5, rfl⟩ := z5.shape; obtain ⟨A6, c6, rfl⟩ := z6.shape; obtain ⟨A7, c7, rfl⟩ := z7.shape; simp only [hsc, hic] at hC ⊢; generalize Hst.few _ _ = p at hC ⊢; obtain ⟨n1, e1⟩ := exE pos.length; obtain ⟨n2, e2⟩ := exE neg.length; obtain ⟨n3, e3⟩ := exE ups.length; obtain ⟨n4, e4⟩ := exE downs.length
 obtain ⟨n5, e5⟩ := exE fups.length; obtain ⟨n6, e6⟩ := exE fdowns.length; obtain ⟨n7, e7⟩ := exE cus.length; rw [e1, e2, e3, e4, e5, e6, e7] at hC ⊢
 have HC := zmk (hC _ ((znq (fun _ => False) w).alloc (.cells #[.int .u64 ref, .int .i64 t, .int .u8 hint.toNat, .int .i32 schema, .int .u64 thr, .int .u64 sum, .int .u64 zc, .int .u64 cnt, .slice A1 n1 c1, .slice A2 n2 c2, .slice A3 n3 c3, .slice A4 n4 c4, .slice A5 n5 c5, .slice A6 n6 c6, .slice A7 n7 c7] 194))); clear z1 z2 z3 z4 z5 z6 z7 e1 e2 e3 e4 e5 e6 e7 hC
 go_enter func197, ntmps197; go_wp2_with (go_at_call 245; refine HC.out.mono ?_; rintro r5 w5 ⟨b, rfl, cg, aq⟩; refine Hid.out ?_)
 have cu := zmk cg; have jg := zmk (((znq (fun _ => False) w).alloc (.cells #[.int .u64 ref, .int .i64 t, .int .u8 hint.toNat, .int .i32 schema, .int .u64 thr, .int .u64 sum, .int .u64 zc, .int .u64 cnt, .slice A1 n1 c1, .slice A2 n2 c2, .slice A3 n3 c3, .slice A4 n4 c4, .slice A5 n5 c5, .slice A6 n6 c6, .slice A7 n7 c7] 194)).same aq); clear cg aq; rcases b with _ | _
 ·refine zmk ?_
  go_wp2; go_ret; exact ⟨false, rfl, by simpa using cu.out, jg.out⟩
 ·refine zmk ?_
  go_wp2; go_ret; exact ⟨true, rfl, by simpa using cu.out, jg.out⟩
theorem zlI (P : Nat -> Prop) (v : Value) (lv : List (Rhs × Hsl)) (w : World) (h : SlH P w v lv) (hl : lv.length <= 9223372036854775807) :
 Calls prog 110 #[v] w (zav (lv.length <= 2147483647 /\ ∀ p ∈ lv, p.1.h.few 2147483647) w) := by
 have HS := zmk h; obtain ⟨⟨A, c, rfl, _, hc, hr⟩, _⟩ := h; obtain ⟨n, hn⟩ := exE lv.length; rw [hn] at hr hc hl HS ⊢; have HN := zmk hn; clear hn hr; by_cases hbig : 2147483647 < n
 ·have cL : (2147483647 : Int) < n := by omega
  go_enter func110, ntmps110; go_wp2; go_ret; exact ⟨false, rfl, ⟨fun h => (by cases h), fun h => absurd h.1 (by omega)⟩, znq _ _⟩
 ·have cL : ¬ (2147483647 : Int) < n := by omega
  go_enter func110, ntmps110; go_wp2; go_loopw [10] (fun vi wr => ∃ k : Nat, k <= n /\ vi = .int .i64 k /\ Hid (∀ j p, j < k -> lv[j]? = some p -> p.1.h.few 2147483647) /\ Hid (Fr (fun _ => False) w wr)) (fun vi _ => n - (intOf vi).toNat)
  case atStart => exact ⟨0, zmv _, rfl, zmk (fun j p h => absurd h (zm5 _)), zmk (znq _ _)⟩
  case round =>
   obtain ⟨k, hk, rfl, RG, RF⟩ := hrel; by_cases hlt : k < n
   ·have hS := HS.out.fr RF.out (fun _ _ e => e)
    have b8 := hS.2; obtain ⟨g, off, rfl, _, aa⟩ := (show Sl P wr (.slice A n c) 15 lv.length (lv.flatMap hsc) from hS.1).at (by have := HN.out; omega); obtain ⟨x, hx⟩ : ∃ x, lv[k]? = some x := ⟨_, zmm (by rw [HN.out]; exact hlt)⟩; have aH := zms hx
    have cc : ∀ j, j < 15 -> ∀ u, (hsc x)[j]? = some u -> wr.cell? ⟨g, off + (k * 15 + j), none⟩ = some u := fun j hj u hu => aa (k * 15 + j) u (by rw [zgS 15 hsc (fun _ => rfl) lv k x hx j hj]; exact hu); have q0 : wr.cell? ⟨g, off + k * 15, none⟩ = some (.int .u64 x.1.ref) := cc 0 (by omega) _ rfl; have q1 : wr.cell? ⟨g, off + k * 15 + 1, none⟩ = some (.int .i64 x.1.t) := cc 1 (by omega) _ rfl
    have q2 : wr.cell? ⟨g, off + k * 15 + 2, none⟩ = some (.int .u8 x.1.h.hint.toNat) := cc 2 (by omega) _ rfl; have q3 : wr.cell? ⟨g, off + k * 15 + 3, none⟩ = some (.int .i32 x.1.h.schema) := cc 3 (by omega) _ rfl; have q4 : wr.cell? ⟨g, off + k * 15 + 4, none⟩ = some (.int .u64 x.1.h.thr) := cc 4 (by omega) _ rfl
    have q5 : wr.cell? ⟨g, off + k * 15 + 5, none⟩ = some (.int .u64 x.1.h.sum) := cc 5 (by omega) _ rfl; have q6 : wr.cell? ⟨g, off + k * 15 + 6, none⟩ = some (.int .u64 x.1.h.zc) := cc 6 (by omega) _ rfl; have q7 : wr.cell? ⟨g, off + k * 15 + 7, none⟩ = some (.int .u64 x.1.h.cnt) := cc 7 (by omega) _ rfl; have q8 : wr.cell? ⟨g, off + k * 15 + 8, none⟩ = some x.2.p := cc 8 (by omega) _ rfl
    have q9 : wr.cell? ⟨g, off + k * 15 + 9, none⟩ = some x.2.n := cc 9 (by omega) _ rfl; have q10 : wr.cell? ⟨g, off + k * 15 + 10, none⟩ = some x.2.u := cc 10 (by omega) _ rfl; have q11 : wr.cell? ⟨g, off + k * 15 + 11, none⟩ = some x.2.d := cc 11 (by omega) _ rfl; have q12 : wr.cell? ⟨g, off + k * 15 + 12, none⟩ = some x.2.fu := cc 12 (by omega) _ rfl
    have q13 : wr.cell? ⟨g, off + k * 15 + 13, none⟩ = some x.2.fd := cc 13 (by omega) _ rfl; have q14 : wr.cell? ⟨g, off + k * 15 + 14, none⟩ = some x.2.c := cc 14 (by omega) _ rfl; have bn := b8 x aH; have ft := zmk aH; have HX := zmk hx; clear b8 hx aH cc aa hS
    obtain ⟨⟨ref, t, ⟨hint, schema, thr, sum, zc, cnt, pos, neg, ups, downs, fups, fdowns, cus⟩⟩, ⟨sp, sn, su, sd, lM, lN, sc⟩⟩ := x; simp only [] at q0 q1 q2 q3 q4 q5 q6 q7 q8 q9 q10 q11 q12 q13 q14 bn; have hC := fun W (hW : Fr (fun _ => False) wr W) => zlH P ⟨ref, t, ⟨hint, schema, thr, sum, zc, cnt, pos, neg, ups, downs, fups, fdowns, cus⟩⟩ _ W (bn.fr hW (fun _ _ e => e))
    obtain ⟨pp, ol⟩ : ∃ pp : Prop, Hst.few ⟨hint, schema, thr, sum, zc, cnt, pos, neg, ups, downs, fups, fdowns, cus⟩ 2147483647 = pp := ⟨_, rfl⟩; have ga := zmk ol; simp only [hsc, hic, ol] at hC; obtain ⟨z1, z2, z3, z4, z5, z6, z7⟩ := bn; simp only [] at z1 z2 z3 z4 z5 z6 z7; obtain ⟨A1, c1, rfl⟩ := z1.shape; obtain ⟨A2, c2, rfl⟩ := z2.shape; obtain ⟨A3, c3, rfl⟩ := z3.shape
    obtain ⟨A4, c4, rfl⟩ := z4.shape; obtain ⟨A5, c5, rfl⟩ := z5.shape; obtain ⟨A6, c6, rfl⟩ := z6.shape; obtain ⟨A7, c7, rfl⟩ := z7.shape; obtain ⟨n1, e1⟩ := exE pos.length; rw [e1] at q8 hC; obtain ⟨n2, e2⟩ := exE neg.length; rw [e2] at q9 hC; obtain ⟨n3, e3⟩ := exE ups.length; rw [e3] at q10 hC; obtain ⟨n4, e4⟩ := exE downs.length; rw [e4] at q11 hC; obtain ⟨n5, e5⟩ := exE fups.length
    rw [e5] at q12 hC; obtain ⟨n6, e6⟩ := exE fdowns.length; rw [e6] at q13 hC; obtain ⟨n7, e7⟩ := exE cus.length; rw [e7] at q14 hC
    have HC := zmk (hC _ ((znq (fun _ => False) wr).alloc (.cells #[.int .u64 ref, .int .i64 t, .int .u8 hint.toNat, .int .i32 schema, .int .u64 thr, .int .u64 sum, .int .u64 zc, .int .u64 cnt, .slice A1 n1 c1, .slice A2 n2 c2, .slice A3 n3 c3, .slice A4 n4 c4, .slice A5 n5 c5, .slice A6 n6 c6, .slice A7 n7 c7] 194))); clear z1 z2 z3 z4 z5 z6 z7 e1 e2 e3 e4 e5 e6 e7 hC ol
    go_wp2_with (go_at_call 197; refine HC.out.mono ?_; rintro r5 w5 ⟨b, rfl, cg, aq⟩; refine Hid.out ?_)
    have H5 := zmk ((RF.out.alloc (.cells #[.int .u64 ref, .int .i64 t, .int .u8 hint.toNat, .int .i32 schema, .int .u64 thr, .int .u64 sum, .int .u64 zc, .int .u64 cnt, .slice A1 n1 c1, .slice A2 n2 c2, .slice A3 n3 c3, .slice A4 n4 c4, .slice A5 n5 c5, .slice A6 n6 c6, .slice A7 n7 c7] 194)).same aq); have cu := zmk cg; clear aq cg q0 q1 q2 q3 q4 q5 q6 q7 q8 q9 q10 q11 q12 q13 q14
    rcases b with _ | _
    ·refine zmk ?_
     go_wp2; go_ret; exact ⟨false, rfl, ⟨fun h => (by cases h), fun h => absurd (cu.out.2 (by rw [<- ga.out]; exact h.2 _ ft.out)) (by decide)⟩, H5.out⟩
    ·refine zmk ?_
     go_wp2; go_roundw
     case rel => exact ⟨k + 1, by omega, by go_num, zmk (fun j p h h2 => by
      rcases zmN j k with h3 | h3
      ·exact RG.out j p h3 h2
      ·obtain rfl : j = k := by omega
       have h4 := h2.symm.trans HX.out; injection h4 with h4; rw [h4]; have h5 := cu.out.1 rfl; rw [<- ga.out] at h5
       exact h5), H5⟩
     case measure => simp [intOf]; omega
   ·obtain rfl : k = n := by omega
    go_wp2; go_ret; refine ⟨true, rfl, ⟨fun _ => ⟨by omega, fun p hp => ?_⟩, fun _ => rfl⟩, RF.out⟩; obtain ⟨j, hj, e⟩ := zng hp; exact RG.out j p (by rw [<- HN.out]; exact hj) (by rw [zmm hj, e])
theorem zah {w : World} {b : Nat} {a0 a1 a2 a3 a4 a5 a6 : Value} (h : Blk w b 54 #[a0, a1, a2, a3, a4, a5, a6]) :
 w.cell? ⟨b, 0, none⟩ = some a0 /\ w.cell? ⟨b, 1, none⟩ = some a1 /\ w.cell? ⟨b, 2, none⟩ = some a2 /\ w.cell? ⟨b, 3, none⟩ = some a3 /\ w.cell? ⟨b, 4, none⟩ = some a4 /\ w.cell? ⟨b, 5, none⟩ = some a5 /\ w.cell? ⟨b, 6, none⟩ = some a6 :=
 ⟨h.cell 0, h.cell 1, h.cell 2, h.cell 3, h.cell 4, h.cell 5, h.cell 6⟩
def ziK (n : Int) (w : World) (r : Ending) (w' : World) : Prop := r = .returned (.int .i64 n) /\ Fr (fun _ => False) w w'
theorem zhk (c : Nat) (hc : c < 256) (w : World) :
 Calls prog 35 #[.int .u8 c] w (ziK (1 + (c : Int) % 10) w) := by
 have h0 : (0 : Int) <= (c : Int) := by omega
 have h1 : (c : Int) < 256 := by omega
 go_enter func35, ntmps35; go_wp2; go_ret; exact ⟨rfl, znq _ w⟩
def zeu (l : List Lab) : Prop := l.length <= 2147483647 /\ ∀ p ∈ l, Fit p
def zfj (l : List Lab) : Prop := l.length <= 9223372036854775807 /\ ∀ p ∈ l, p.1.size <= 9223372036854775807 /\ p.2.size <= 9223372036854775807
theorem zlP (P : Nat -> Prop) (ref : Nat) (v : Value) (l : List Lab) (w : World) (h : Sl P w v 2 l.length (l.flatMap zaJ)) (hs : zfj l) :
 Calls prog 193 #[.agg #[.int .u64 ref, v]] w (zav (zeu l) w) := by
 have hC := zhM P v l (w.alloc (.cells #[.int .u64 ref, v] 130)) (h.fr ((znq (fun _ => False) w).alloc _) (fun _ _ e => e)) hs.1 hs.2; obtain ⟨A, c, rfl, _, _, _⟩ := h; go_enter func193, ntmps193; go_wp2_with (go_at_call 21; refine hC.mono ?_; rintro r w1 ⟨b, rfl, hb, ai⟩; refine Hid.out ?_)
 have HF := zmk (((znq (fun _ => False) w).alloc (.cells #[.int .u64 ref, .slice A l.length c] 130)).same ai); have HB := zmk hb; clear ai hb hC; rcases b with _ | _
 ·refine zmk ?_
  go_wp2; go_ret; exact ⟨false, rfl, HB.out, HF.out⟩
 ·refine zmk ?_
  go_wp2; go_ret; exact ⟨true, rfl, ⟨fun _ => HB.out.1 (by trivial), fun _ => rfl⟩, HF.out⟩
theorem zlQ (P : Nat -> Prop) (v : Value) (lv : List (Ser × Value)) (w : World) (h : SlR P w v lv) (hl : lv.length <= 9223372036854775807) (hs : ∀ p ∈ lv, zfj p.1.labs) :
 Calls prog 106 #[v] w (zav (lv.length <= 2147483647 /\ ∀ p ∈ lv, zeu p.1.labs) w) := by
 have HS := zmk h; obtain ⟨⟨A, c, rfl, _, hc, hr⟩, _⟩ := h; obtain ⟨n, hn⟩ := exE lv.length; rw [hn] at hr hc hl HS ⊢; have HN := zmk hn; have HI := zmk hs; clear hn hr hs; by_cases hbig : 2147483647 < n
 ·have cL : (2147483647 : Int) < n := by omega
  go_enter func106, ntmps106; go_wp2; go_ret; exact ⟨false, rfl, ⟨fun h => (by cases h), fun h => absurd h.1 (by omega)⟩, znq _ _⟩
 ·have cL : ¬ (2147483647 : Int) < n := by omega
  go_enter func106, ntmps106; go_wp2; go_loopw [10] (fun vi wr => ∃ k : Nat, k <= n /\ vi = .int .i64 k /\ Hid (∀ j p, j < k -> lv[j]? = some p -> zeu p.1.labs) /\ Hid (Fr (fun _ => False) w wr)) (fun vi _ => n - (intOf vi).toNat)
  case atStart => exact ⟨0, zmv _, rfl, zmk (fun j p h => absurd h (zm5 _)), zmk (znq _ _)⟩
  case round =>
   obtain ⟨k, hk, rfl, RG, RF⟩ := hrel; by_cases hlt : k < n
   ·have hS := HS.out.fr RF.out (fun _ _ e => e)
    have b8 := hS.2; obtain ⟨⟨A', c', e2, _, hc', hr⟩, _⟩ := hS; injection e2 with e2 iL iM; obtain ⟨g, off, rfl, _, aa⟩ := hr (by have := HN.out; omega); obtain ⟨x, hx⟩ : ∃ x, lv[k]? = some x := ⟨_, zmm (by rw [HN.out]; exact hlt)⟩; have aH := zms hx
    have q0 : wr.cell? ⟨g, off + k * 2, none⟩ = some (.int .u64 x.1.ref) := by simpa using aa (k * 2 + 0) _ (by rw [zbE ziL (fun _ => rfl) lv k x hx 0 (by omega)]; rfl)
    have q1 : wr.cell? ⟨g, off + k * 2 + 1, none⟩ = some x.2 := aa (k * 2 + 1) _ (by rw [zbE ziL (fun _ => rfl) lv k x hx 1 (by omega)]; rfl); have bn := b8 x aH; have aP := HI.out x aH; have ft := zmk aH; have HX := zmk hx; clear b8 hx aH; obtain ⟨⟨ref, labs⟩, iv⟩ := x; simp only [] at q0 q1 bn aP
    have hC := zlP P ref iv labs (wr.alloc (.cells #[.int .u64 ref, iv] 130)) (bn.fr ((znq (fun _ => False) wr).alloc _) (fun _ _ e => e)) aP; obtain ⟨Ai, ci, rfl, _, _, _⟩ := bn; subst e2; clear aa hr iL iM aP; go_wp2_with (go_at_call 193; refine hC.mono ?_; rintro r5 w5 ⟨b, rfl, cg, aq⟩; refine Hid.out ?_)
    have H5 := zmk ((RF.out.alloc (.cells #[.int .u64 ref, .slice Ai labs.length ci] 130)).same aq); have cu := zmk cg; clear aq cg hC q0 q1; rcases b with _ | _
    ·refine zmk ?_
     go_wp2; go_ret; exact ⟨false, rfl, ⟨fun h => (by cases h), fun h => absurd (cu.out.2 (h.2 _ ft.out)) (by decide)⟩, H5.out⟩
    ·refine zmk ?_
     go_wp2; go_roundw
     case rel => exact ⟨k + 1, by omega, by go_num, zmk (fun j p h h2 => by
      rcases zmN j k with h3 | h3
      ·exact RG.out j p h3 h2
      ·obtain rfl : j = k := by omega
       have h4 := h2.symm.trans HX.out; injection h4 with h4; rw [h4]
       exact cu.out.1 rfl), H5⟩
     case measure => simp [intOf]; omega
   ·obtain rfl : k = n := by omega
    go_wp2; go_ret; refine ⟨true, rfl, ⟨fun _ => ⟨by omega, fun p hp => ?_⟩, fun _ => rfl⟩, RF.out⟩; obtain ⟨j, hj, e⟩ := zng hp; exact RG.out j p (by rw [<- HN.out]; exact hj) (by rw [zmm hj, e])
theorem zlL (P : Nat -> Prop) (ref : Nat) (t : Int) (vv : Nat) (v : Value) (l : List Lab) (w : World) (h : Sl P w v 2 l.length (l.flatMap zaJ)) (hs : zfj l) :
 Calls prog 195 #[.agg #[.int .u64 ref, .int .i64 t, .int .u64 vv, v]] w (zav (zeu l) w) := by
 have hC := zhM P v l (w.alloc (.cells #[.int .u64 ref, .int .i64 t, .int .u64 vv, v] 159)) (h.fr ((znq (fun _ => False) w).alloc _) (fun _ _ e => e)) hs.1 hs.2; obtain ⟨A, c, rfl, _, _, _⟩ := h; go_enter func195, ntmps195; go_wp2_with (go_at_call 21; refine hC.mono ?_; rintro r w1 ⟨b, rfl, hb, ai⟩; refine Hid.out ?_)
 have HF := zmk (((znq (fun _ => False) w).alloc (.cells #[.int .u64 ref, .int .i64 t, .int .u64 vv, .slice A l.length c] 159)).same ai); have HB := zmk hb; clear ai hb hC; rcases b with _ | _
 ·refine zmk ?_
  go_wp2; go_ret; exact ⟨false, rfl, HB.out, HF.out⟩
 ·refine zmk ?_
  go_wp2; go_ret; exact ⟨true, rfl, ⟨fun _ => HB.out.1 (by trivial), fun _ => rfl⟩, HF.out⟩
theorem zlM (P : Nat -> Prop) (v : Value) (lv : List (Exm × Value)) (w : World) (h : SlX P w v lv) (hl : lv.length <= 9223372036854775807) (hs : ∀ p ∈ lv, zfj p.1.labs) :
 Calls prog 108 #[v] w (zav (lv.length <= 2147483647 /\ ∀ p ∈ lv, zeu p.1.labs) w) := by
 have HS := zmk h; obtain ⟨⟨A, c, rfl, _, hc, hr⟩, _⟩ := h; obtain ⟨n, hn⟩ := exE lv.length; rw [hn] at hr hc hl HS ⊢; have HN := zmk hn; have HI := zmk hs; clear hn hr hs; by_cases hbig : 2147483647 < n
 ·have cL : (2147483647 : Int) < n := by omega
  go_enter func108, ntmps108; go_wp2; go_ret; exact ⟨false, rfl, ⟨fun h => (by cases h), fun h => absurd h.1 (by omega)⟩, znq _ _⟩
 ·have cL : ¬ (2147483647 : Int) < n := by omega
  go_enter func108, ntmps108; go_wp2; go_loopw [10] (fun vi wr => ∃ k : Nat, k <= n /\ vi = .int .i64 k /\ Hid (∀ j p, j < k -> lv[j]? = some p -> zeu p.1.labs) /\ Hid (Fr (fun _ => False) w wr)) (fun vi _ => n - (intOf vi).toNat)
  case atStart => exact ⟨0, zmv _, rfl, zmk (fun j p h => absurd h (zm5 _)), zmk (znq _ _)⟩
  case round =>
   obtain ⟨k, hk, rfl, RG, RF⟩ := hrel; by_cases hlt : k < n
   ·have hS := HS.out.fr RF.out (fun _ _ e => e)
    have b8 := hS.2; obtain ⟨⟨A', c', e2, _, hc', hr⟩, _⟩ := hS; injection e2 with e2 iL iM; obtain ⟨g, off, rfl, _, aa⟩ := hr (by have := HN.out; omega); obtain ⟨x, hx⟩ : ∃ x, lv[k]? = some x := ⟨_, zmm (by rw [HN.out]; exact hlt)⟩; have aH := zms hx
    have q0 : wr.cell? ⟨g, off + k * 4, none⟩ = some (.int .u64 x.1.ref) := by simpa using aa (k * 4 + 0) _ (by rw [zdA exc (fun _ => rfl) lv k x hx 0 (by omega)]; rfl)
    have q1 : wr.cell? ⟨g, off + k * 4 + 1, none⟩ = some (.int .i64 x.1.t) := aa (k * 4 + 1) _ (by rw [zdA exc (fun _ => rfl) lv k x hx 1 (by omega)]; rfl); have q2 : wr.cell? ⟨g, off + k * 4 + 2, none⟩ = some (.int .u64 x.1.v) := aa (k * 4 + 2) _ (by rw [zdA exc (fun _ => rfl) lv k x hx 2 (by omega)]; rfl)
    have q3 : wr.cell? ⟨g, off + k * 4 + 3, none⟩ = some x.2 := aa (k * 4 + 3) _ (by rw [zdA exc (fun _ => rfl) lv k x hx 3 (by omega)]; rfl); have bn := b8 x aH; have aP := HI.out x aH; have ft := zmk aH; have HX := zmk hx; clear b8 hx aH; obtain ⟨⟨ref, t, vv, labs⟩, iv⟩ := x; simp only [] at q0 q1 q2 q3 bn aP
    have hC := zlL P ref t vv iv labs (wr.alloc (.cells #[.int .u64 ref, .int .i64 t, .int .u64 vv, iv] 159)) (bn.fr ((znq (fun _ => False) wr).alloc _) (fun _ _ e => e)) aP; obtain ⟨Ai, ci, rfl, _, _, _⟩ := bn; subst e2; clear aa hr iL iM aP; go_wp2_with (go_at_call 195; refine hC.mono ?_; rintro r5 w5 ⟨b, rfl, cg, aq⟩; refine Hid.out ?_)
    have H5 := zmk ((RF.out.alloc (.cells #[.int .u64 ref, .int .i64 t, .int .u64 vv, .slice Ai labs.length ci] 159)).same aq); have cu := zmk cg; clear aq cg hC q0 q1 q2 q3; rcases b with _ | _
    ·refine zmk ?_
     go_wp2; go_ret; exact ⟨false, rfl, ⟨fun h => (by cases h), fun h => absurd (cu.out.2 (h.2 _ ft.out)) (by decide)⟩, H5.out⟩
    ·refine zmk ?_
     go_wp2; go_roundw
     case rel => exact ⟨k + 1, by omega, by go_num, zmk (fun j p h h2 => by
      rcases zmN j k with h3 | h3
      ·exact RG.out j p h3 h2
      ·obtain rfl : j = k := by omega
       have h4 := h2.symm.trans HX.out; injection h4 with h4; rw [h4]
       exact cu.out.1 rfl), H5⟩
     case measure => simp [intOf]; omega
   ·obtain rfl : k = n := by omega
    go_wp2; go_ret; refine ⟨true, rfl, ⟨fun _ => ⟨by omega, fun p hp => ?_⟩, fun _ => rfl⟩, RF.out⟩; obtain ⟨j, hj, e⟩ := zng hp; exact RG.out j p (by rw [<- HN.out]; exact hj) (by rw [zmm hj, e])
end Go.Proofs.YtbkookiigkckdaaGreatDoor
