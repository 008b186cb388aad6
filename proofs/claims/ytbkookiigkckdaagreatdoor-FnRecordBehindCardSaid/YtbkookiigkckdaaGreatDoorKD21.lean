/- Merged. -/
import Derived.Test.YtbkookiigkckdaaGreatDoorKD15
import Derived.Test.YtbkookiigkckdaaGreatDoorKD16
set_option linter.unusedVariables false
set_option linter.unusedSimpArgs false
set_option maxRecDepth 100000
set_option maxHeartbeats 8000000
namespace Go.Proofs.YtbkookiigkckdaaGreatDoor
open Go.RowKit Go.Proofs.Tryz
theorem fits6_raw (hint : UInt8) (schema : Int) (thr sum zc cnt : Nat) (A1 A2 A3 A4 A5 A6 A7 : Option Addr) (n1 n2 n3 n4 n5 n6 n7 c1 c2 c3 c4 c5 c6 c7 : Nat) (w : World) (p : Prop) (hp : p ↔ (n1 <= 2147483647 /\ n2 <= 2147483647 /\ n3 <= 2147483647 /\ n4 <= 2147483647 /\ n5 <= 2147483647 /\ n6 <= 2147483647 /\ n7 <= 2147483647)) :
 Calls prog 245 #[.agg #[.int .u8 hint.toNat, .int .i32 schema, .int .u64 thr, .int .u64 sum, .int .u64 zc, .int .u64 cnt, .slice A1 n1 c1, .slice A2 n2 c2, .slice A3 n3 c3, .slice A4 n4 c4, .slice A5 n5 c5, .slice A6 n6 c6, .slice A7 n7 c7]] w (zas p w) := by
 have HP := zmh hp; clear hp; by_cases h1 : 2147483647 < n1
 ·have g1 : (2147483647 : Int) < (n1 : Int) := by omega
  have HA := zmh h1; clear h1; go_enter func245, ntmps245; go_wp2; go_ret; refine ⟨_, rfl, ?_, (znl _ w).alloc _⟩; rw [HP.out]; exact zmO (by intro h; cases h) (fun h => by have h2 := h.1; have := HA.out; omega)
 have g1 : ¬ (2147483647 : Int) < (n1 : Int) := by omega
 by_cases h2 : 2147483647 < n2
 ·have g2 : (2147483647 : Int) < (n2 : Int) := by omega
  have HA := zmh h2; clear h2; go_enter func245, ntmps245; go_wp2; go_ret; refine ⟨_, rfl, ?_, (znl _ w).alloc _⟩; rw [HP.out]; exact zmO (by intro h; cases h) (fun h => by have h2 := h.2.1; have := HA.out; omega)
 have g2 : ¬ (2147483647 : Int) < (n2 : Int) := by omega
 by_cases h3 : 2147483647 < n3
 ·have g3 : (2147483647 : Int) < (n3 : Int) := by omega
  have HA := zmh h3; clear h3; go_enter func245, ntmps245; go_wp2; go_ret; refine ⟨_, rfl, ?_, (znl _ w).alloc _⟩; rw [HP.out]; exact zmO (by intro h; cases h) (fun h => by have h2 := h.2.2.1; have := HA.out; omega)
 have g3 : ¬ (2147483647 : Int) < (n3 : Int) := by omega
 by_cases h4 : 2147483647 < n4
 ·have g4 : (2147483647 : Int) < (n4 : Int) := by omega
  have HA := zmh h4; clear h4; go_enter func245, ntmps245; go_wp2; go_ret; refine ⟨_, rfl, ?_, (znl _ w).alloc _⟩; rw [HP.out]; exact zmO (by intro h; cases h) (fun h => by have h2 := h.2.2.2.1; have := HA.out; omega)
 have g4 : ¬ (2147483647 : Int) < (n4 : Int) := by omega
 by_cases h5 : 2147483647 < n5
 ·have g5 : (2147483647 : Int) < (n5 : Int) := by omega
  have HA := zmh h5; clear h5; go_enter func245, ntmps245; go_wp2; go_ret; refine ⟨_, rfl, ?_, (znl _ w).alloc _⟩; rw [HP.out]; exact zmO (by intro h; cases h) (fun h => by have h2 := h.2.2.2.2.1; have := HA.out; omega)
 have g5 : ¬ (2147483647 : Int) < (n5 : Int) := by omega
 by_cases h6 : 2147483647 < n6
 ·have g6 : (2147483647 : Int) < (n6 : Int) := by omega
  have HA := zmh h6; clear h6; go_enter func245, ntmps245; go_wp2; go_ret; refine ⟨_, rfl, ?_, (znl _ w).alloc _⟩; rw [HP.out]; exact zmO (by intro h; cases h) (fun h => by have h2 := h.2.2.2.2.2.1; have := HA.out; omega)
 have g6 : ¬ (2147483647 : Int) < (n6 : Int) := by omega
 by_cases h7 : 2147483647 < n7
 ·have g7 : (2147483647 : Int) < (n7 : Int) := by omega
  have HA := zmh h7; clear h7; go_enter func245, ntmps245; go_wp2; go_ret; refine ⟨_, rfl, ?_, (znl _ w).alloc _⟩; rw [HP.out]; exact zmO (by intro h; cases h) (fun h => by have h2 := h.2.2.2.2.2.2; have := HA.out; omega)
 have g7 : ¬ (2147483647 : Int) < (n7 : Int) := by omega
 have HA := zmh (zm8 h1 (zm8 h2 (zm8 h3 (zm8 h4 (zm8 h5 (zm8 h6 h7)))))); clear h1 h2 h3 h4 h5 h6 h7; go_enter func245, ntmps245; go_wp2; go_ret; refine ⟨_, rfl, ?_, (znl _ w).alloc _⟩; rw [HP.out]
 exact zmP rfl (by obtain ⟨a1, a2, a3, a4, a5, a6, a7⟩ := HA.out; exact ⟨by omega, by omega, by omega, by omega, by omega, by omega, by omega⟩)
theorem fits6_any (P : Nat -> Prop) (h : Hst) (s : Hsl) (w : World) (hs : SlHs P w h s) : Calls prog 245 #[.agg (hic h s).toArray] w (zas (h.few 2147483647) w) := by
 obtain ⟨z1, z2, z3, z4, z5, z6, z7⟩ := hs; obtain ⟨sp, sn, su, sd, lX, lY, sc⟩ := s; simp only [] at z1 z2 z3 z4 z5 z6 z7; obtain ⟨A1, c1, rfl⟩ := z1.shape; obtain ⟨A2, c2, rfl⟩ := z2.shape; obtain ⟨A3, c3, rfl⟩ := z3.shape; obtain ⟨A4, c4, rfl⟩ := z4.shape; obtain ⟨A5, c5, rfl⟩ := z5.shape; obtain ⟨A6, c6, rfl⟩ := z6.shape; obtain ⟨A7, c7, rfl⟩ := z7.shape
 exact fits6_raw h.hint h.schema h.thr h.sum h.zc h.cnt A1 A2 A3 A4 A5 A6 A7 _ _ _ _ _ _ _ c1 c2 c3 c4 c5 c6 c7 w _ Iff.rfl
theorem zlB (P : Nat -> Prop) (p : Rhs) (s : Hsl) (w : World) (hs : SlHs P w p.h s) : Calls prog 197 #[.agg (hsc (p, s)).toArray] w (zas (p.h.few 2147483647) w) := by
 obtain ⟨ref, t, ⟨hint, schema, thr, sum, zc, cnt, pos, neg, ups, downs, fups, fdowns, cus⟩⟩ := p; have hC := fun W (hW : z_F w W) => fits6_any P _ _ W (hs.fr hW z_i); obtain ⟨z1, z2, z3, z4, z5, z6, z7⟩ := hs; obtain ⟨sp, sn, su, sd, lX, lY, sc⟩ := s; simp only [] at z1 z2 z3 z4 z5 z6 z7; obtain ⟨A1, c1, rfl⟩ := z1.shape; obtain ⟨A2, c2, rfl⟩ := z2.shape
 obtain ⟨A3, c3, rfl⟩ := z3.shape; obtain ⟨A4, c4, rfl⟩ := z4.shape; obtain ⟨A5, c5, rfl⟩ := z5.shape; obtain ⟨A6, c6, rfl⟩ := z6.shape; obtain ⟨A7, c7, rfl⟩ := z7.shape; simp only [hsc, hic] at hC ⊢; generalize Hst.few _ _ = p at hC ⊢; obtain ⟨n1, e1⟩ := exE pos.length; obtain ⟨n2, e2⟩ := exE neg.length; obtain ⟨n3, e3⟩ := exE ups.length; obtain ⟨n4, e4⟩ := exE downs.length
 obtain ⟨n5, e5⟩ := exE fups.length; obtain ⟨n6, e6⟩ := exE fdowns.length; obtain ⟨n7, e7⟩ := exE cus.length; rw [e1, e2, e3, e4, e5, e6, e7] at hC ⊢
 have HC := zmh (hC _ ((znl (fun _ => False) w).alloc (.cells #[.int .u64 ref, .int .i64 t, .int .u8 hint.toNat, .int .i32 schema, .int .u64 thr, .int .u64 sum, .int .u64 zc, .int .u64 cnt, .slice A1 n1 c1, .slice A2 n2 c2, .slice A3 n3 c3, .slice A4 n4 c4, .slice A5 n5 c5, .slice A6 n6 c6, .slice A7 n7 c7] 194))); clear z1 z2 z3 z4 z5 z6 z7 e1 e2 e3 e4 e5 e6 e7 hC
 go_enter func197, ntmps197; go_wp2_with (go_at_call 245; refine HC.out.mono ?_; rintro r5 w5 ⟨b, rfl, cg, ap⟩; refine Hid.out ?_)
 have cj := zmh cg; have gk := zmh (((znl (fun _ => False) w).alloc (.cells #[.int .u64 ref, .int .i64 t, .int .u8 hint.toNat, .int .i32 schema, .int .u64 thr, .int .u64 sum, .int .u64 zc, .int .u64 cnt, .slice A1 n1 c1, .slice A2 n2 c2, .slice A3 n3 c3, .slice A4 n4 c4, .slice A5 n5 c5, .slice A6 n6 c6, .slice A7 n7 c7] 194)).same ap); clear cg ap; rcases b with _ | _
 ·refine zmh ?_
  go_wp2; go_ret; exact ⟨false, rfl, by simpa using cj.out, gk.out⟩
 ·refine zmh ?_
  go_wp2; go_ret; exact ⟨true, rfl, by simpa using cj.out, gk.out⟩
theorem zlC (P : Nat -> Prop) (v : Value) (lv : List (Rhs × Hsl)) (w : World) (h : SlH P w v lv) (hl : lv.length <= 9223372036854775807) :
 Calls prog 110 #[v] w (zas (lv.length <= 2147483647 /\ ∀ p ∈ lv, p.1.h.few 2147483647) w) := by
 have HS := zmh h; obtain ⟨⟨A, c, rfl, _, hc, hr⟩, _⟩ := h; obtain ⟨n, hn⟩ := exE lv.length; rw [hn] at hr hc hl HS ⊢; have HN := zmh hn; clear hn hr; by_cases hbig : 2147483647 < n
 ·have cJ : (2147483647 : Int) < n := by omega
  go_enter func110, ntmps110; go_wp2; go_ret; exact ⟨false, rfl, ⟨fun h => (by cases h), fun h => absurd h.1 (by omega)⟩, znl _ _⟩
 ·have cJ : ¬ (2147483647 : Int) < n := by omega
  go_enter func110, ntmps110; go_wp2; go_loopw [10] (fun vi wr => ∃ k : Nat, k <= n /\ vi = .int .i64 k /\ Hid (∀ j p, j < k -> lv[j]? = some p -> p.1.h.few 2147483647) /\ Hid (z_F w wr)) (fun vi _ => n - (intOf vi).toNat)
  case atStart => exact ⟨0, zms _, rfl, zmh (fun j p h => absurd h (zm2 _)), zmh (znl _ _)⟩
  case round =>
   obtain ⟨k, hk, rfl, RG, RF⟩ := hrel; by_cases hlt : k < n
   ·have hS := HS.out.fr RF.out z_i
    have aY := hS.2; obtain ⟨g, off, rfl, _, aa⟩ := (show Sl P wr (.slice A n c) 15 lv.length (lv.flatMap hsc) from hS.1).at (by have := HN.out; omega); obtain ⟨x, hx⟩ : ∃ x, lv[k]? = some x := ⟨_, zmj (by rw [HN.out]; exact hlt)⟩; have aF := zmp hx
    have cc : ∀ j, j < 15 -> ∀ u, (hsc x)[j]? = some u -> wr.cell? ⟨g, off + (k * 15 + j), none⟩ = some u := fun j hj u hu => aa (k * 15 + j) u (by rw [zgE 15 hsc (fun _ => rfl) lv k x hx j hj]; exact hu); have q0 : wr.cell? ⟨g, off + k * 15, none⟩ = some (.int .u64 x.1.ref) := cc 0 (by omega) _ rfl; have q1 : wr.cell? ⟨g, off + k * 15 + 1, none⟩ = some (.int .i64 x.1.t) := cc 1 (by omega) _ rfl
    have q2 : wr.cell? ⟨g, off + k * 15 + 2, none⟩ = some (.int .u8 x.1.h.hint.toNat) := cc 2 (by omega) _ rfl; have q3 : wr.cell? ⟨g, off + k * 15 + 3, none⟩ = some (.int .i32 x.1.h.schema) := cc 3 (by omega) _ rfl; have q4 : wr.cell? ⟨g, off + k * 15 + 4, none⟩ = some (.int .u64 x.1.h.thr) := cc 4 (by omega) _ rfl
    have q5 : wr.cell? ⟨g, off + k * 15 + 5, none⟩ = some (.int .u64 x.1.h.sum) := cc 5 (by omega) _ rfl; have q6 : wr.cell? ⟨g, off + k * 15 + 6, none⟩ = some (.int .u64 x.1.h.zc) := cc 6 (by omega) _ rfl; have q7 : wr.cell? ⟨g, off + k * 15 + 7, none⟩ = some (.int .u64 x.1.h.cnt) := cc 7 (by omega) _ rfl; have q8 : wr.cell? ⟨g, off + k * 15 + 8, none⟩ = some x.2.p := cc 8 (by omega) _ rfl
    have q9 : wr.cell? ⟨g, off + k * 15 + 9, none⟩ = some x.2.n := cc 9 (by omega) _ rfl; have q10 : wr.cell? ⟨g, off + k * 15 + 10, none⟩ = some x.2.u := cc 10 (by omega) _ rfl; have q11 : wr.cell? ⟨g, off + k * 15 + 11, none⟩ = some x.2.d := cc 11 (by omega) _ rfl; have q12 : wr.cell? ⟨g, off + k * 15 + 12, none⟩ = some x.2.fu := cc 12 (by omega) _ rfl
    have q13 : wr.cell? ⟨g, off + k * 15 + 13, none⟩ = some x.2.fd := cc 13 (by omega) _ rfl; have q14 : wr.cell? ⟨g, off + k * 15 + 14, none⟩ = some x.2.c := cc 14 (by omega) _ rfl; have bz := aY x aF; have fx := zmh aF; have HX := zmh hx; clear aY hx aF cc aa hS
    obtain ⟨⟨ref, t, ⟨hint, schema, thr, sum, zc, cnt, pos, neg, ups, downs, fups, fdowns, cus⟩⟩, ⟨sp, sn, su, sd, lX, lY, sc⟩⟩ := x; simp only [] at q0 q1 q2 q3 q4 q5 q6 q7 q8 q9 q10 q11 q12 q13 q14 bz; have hC := fun W (hW : z_F wr W) => zlB P ⟨ref, t, ⟨hint, schema, thr, sum, zc, cnt, pos, neg, ups, downs, fups, fdowns, cus⟩⟩ _ W (bz.fr hW z_i)
    obtain ⟨pp, oI⟩ : ∃ pp : Prop, Hst.few ⟨hint, schema, thr, sum, zc, cnt, pos, neg, ups, downs, fups, fdowns, cus⟩ 2147483647 = pp := ⟨_, rfl⟩; have gi := zmh oI; simp only [hsc, hic, oI] at hC; obtain ⟨z1, z2, z3, z4, z5, z6, z7⟩ := bz; simp only [] at z1 z2 z3 z4 z5 z6 z7; obtain ⟨A1, c1, rfl⟩ := z1.shape; obtain ⟨A2, c2, rfl⟩ := z2.shape; obtain ⟨A3, c3, rfl⟩ := z3.shape
    obtain ⟨A4, c4, rfl⟩ := z4.shape; obtain ⟨A5, c5, rfl⟩ := z5.shape; obtain ⟨A6, c6, rfl⟩ := z6.shape; obtain ⟨A7, c7, rfl⟩ := z7.shape; obtain ⟨n1, e1⟩ := exE pos.length; rw [e1] at q8 hC; obtain ⟨n2, e2⟩ := exE neg.length; rw [e2] at q9 hC; obtain ⟨n3, e3⟩ := exE ups.length; rw [e3] at q10 hC; obtain ⟨n4, e4⟩ := exE downs.length; rw [e4] at q11 hC; obtain ⟨n5, e5⟩ := exE fups.length
    rw [e5] at q12 hC; obtain ⟨n6, e6⟩ := exE fdowns.length; rw [e6] at q13 hC; obtain ⟨n7, e7⟩ := exE cus.length; rw [e7] at q14 hC
    have HC := zmh (hC _ ((znl (fun _ => False) wr).alloc (.cells #[.int .u64 ref, .int .i64 t, .int .u8 hint.toNat, .int .i32 schema, .int .u64 thr, .int .u64 sum, .int .u64 zc, .int .u64 cnt, .slice A1 n1 c1, .slice A2 n2 c2, .slice A3 n3 c3, .slice A4 n4 c4, .slice A5 n5 c5, .slice A6 n6 c6, .slice A7 n7 c7] 194))); clear z1 z2 z3 z4 z5 z6 z7 e1 e2 e3 e4 e5 e6 e7 hC oI
    go_wp2_with (go_at_call 197; refine HC.out.mono ?_; rintro r5 w5 ⟨b, rfl, cg, ap⟩; refine Hid.out ?_)
    have H5 := zmh ((RF.out.alloc (.cells #[.int .u64 ref, .int .i64 t, .int .u8 hint.toNat, .int .i32 schema, .int .u64 thr, .int .u64 sum, .int .u64 zc, .int .u64 cnt, .slice A1 n1 c1, .slice A2 n2 c2, .slice A3 n3 c3, .slice A4 n4 c4, .slice A5 n5 c5, .slice A6 n6 c6, .slice A7 n7 c7] 194)).same ap); have cj := zmh cg; clear ap cg q0 q1 q2 q3 q4 q5 q6 q7 q8 q9 q10 q11 q12 q13 q14
    rcases b with _ | _
    ·refine zmh ?_
     go_wp2; go_ret; exact ⟨false, rfl, ⟨fun h => (by cases h), fun h => absurd (cj.out.2 (by rw [<- gi.out]; exact h.2 _ fx.out)) (by decide)⟩, H5.out⟩
    ·refine zmh ?_
     go_wp2; go_roundw
     case rel => exact ⟨k + 1, by omega, by go_num, zmh (fun j p h h2 => by
      rcases zmK j k with h3 | h3
      ·exact RG.out j p h3 h2
      ·obtain rfl : j = k := by omega
       have h4 := h2.symm.trans HX.out; injection h4 with h4; rw [h4]; have h5 := cj.out.1 rfl; rw [<- gi.out] at h5
       exact h5), H5⟩
     case measure => simp [intOf]; omega
   ·obtain rfl : k = n := by omega
    go_wp2; go_ret; refine ⟨true, rfl, ⟨fun _ => ⟨by omega, fun p hp => ?_⟩, fun _ => rfl⟩, RF.out⟩; obtain ⟨j, hj, e⟩ := znc hp; exact RG.out j p (by rw [<- HN.out]; exact hj) (by rw [zmj hj, e])
end Go.Proofs.YtbkookiigkckdaaGreatDoor
