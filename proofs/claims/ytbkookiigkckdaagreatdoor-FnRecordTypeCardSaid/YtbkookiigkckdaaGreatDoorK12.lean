/- Texts of this seat, merged: H12, H5, Ns. -/
import Derived.Test.YtbkookiigkckdaaGreatDoorK09
import Derived.Test.YtbkookiigkckdaaGreatDoorK11
import Derived.Test.YtbkookiigkckdaaGreatDoorK10
/- laws.zzFits6 245, zzFits44 197, zzFits43 110 (histograms). Printed by gen_h12.py. -/
namespace Go.Proofs.YtbkookiigkckdaaGreatDoor
open Go.RowKit
set_option linter.unusedVariables false
set_option linter.unusedSimpArgs false


set_option maxHeartbeats 2000000 in
set_option maxRecDepth 100000 in
theorem fits6_raw (hint : UInt8) (schema : Int) (thr sum zc cnt : Nat) (A1 A2 A3 A4 A5 A6 A7 : Option Addr) (n1 n2 n3 n4 n5 n6 n7 c1 c2 c3 c4 c5 c6 c7 : Nat) (w : World) (p : Prop) (hp : p ↔ (n1 ≤ 2147483647 ∧ n2 ≤ 2147483647 ∧ n3 ≤ 2147483647 ∧ n4 ≤ 2147483647 ∧ n5 ≤ 2147483647 ∧ n6 ≤ 2147483647 ∧ n7 ≤ 2147483647)) :
    Calls Tryz.prog 245 #[.agg #[.int .u8 hint.toNat, .int .i32 schema, .int .u64 thr, .int .u64 sum, .int .u64 zc, .int .u64 cnt, .slice A1 n1 c1, .slice A2 n2 c2, .slice A3 n3 c3, .slice A4 n4 c4, .slice A5 n5 c5, .slice A6 n6 c6, .slice A7 n7 c7]] w (BoolEnds p w) := by
  have HP := Lib.hid hp
  clear hp
  by_cases h1 : 2147483647 < n1
  · have g1 : (2147483647 : Int) < (n1 : Int) := by omega
    have HA := Lib.hid h1
    clear h1
    go_enter Tryz.func245, Tryz.ntmps245
    go_wp2
    go_ret
    refine ⟨_, rfl, ?_, (Fr.refl _ w).alloc _⟩
    rw [HP.out]
    exact iff_of_false (by intro h; cases h) (fun h => by have h2 := h.1; have := HA.out; omega)
  have g1 : ¬ (2147483647 : Int) < (n1 : Int) := by omega
  by_cases h2 : 2147483647 < n2
  · have g2 : (2147483647 : Int) < (n2 : Int) := by omega
    have HA := Lib.hid h2
    clear h2
    go_enter Tryz.func245, Tryz.ntmps245
    go_wp2
    go_ret
    refine ⟨_, rfl, ?_, (Fr.refl _ w).alloc _⟩
    rw [HP.out]
    exact iff_of_false (by intro h; cases h) (fun h => by have h2 := h.2.1; have := HA.out; omega)
  have g2 : ¬ (2147483647 : Int) < (n2 : Int) := by omega
  by_cases h3 : 2147483647 < n3
  · have g3 : (2147483647 : Int) < (n3 : Int) := by omega
    have HA := Lib.hid h3
    clear h3
    go_enter Tryz.func245, Tryz.ntmps245
    go_wp2
    go_ret
    refine ⟨_, rfl, ?_, (Fr.refl _ w).alloc _⟩
    rw [HP.out]
    exact iff_of_false (by intro h; cases h) (fun h => by have h2 := h.2.2.1; have := HA.out; omega)
  have g3 : ¬ (2147483647 : Int) < (n3 : Int) := by omega
  by_cases h4 : 2147483647 < n4
  · have g4 : (2147483647 : Int) < (n4 : Int) := by omega
    have HA := Lib.hid h4
    clear h4
    go_enter Tryz.func245, Tryz.ntmps245
    go_wp2
    go_ret
    refine ⟨_, rfl, ?_, (Fr.refl _ w).alloc _⟩
    rw [HP.out]
    exact iff_of_false (by intro h; cases h) (fun h => by have h2 := h.2.2.2.1; have := HA.out; omega)
  have g4 : ¬ (2147483647 : Int) < (n4 : Int) := by omega
  by_cases h5 : 2147483647 < n5
  · have g5 : (2147483647 : Int) < (n5 : Int) := by omega
    have HA := Lib.hid h5
    clear h5
    go_enter Tryz.func245, Tryz.ntmps245
    go_wp2
    go_ret
    refine ⟨_, rfl, ?_, (Fr.refl _ w).alloc _⟩
    rw [HP.out]
    exact iff_of_false (by intro h; cases h) (fun h => by have h2 := h.2.2.2.2.1; have := HA.out; omega)
  have g5 : ¬ (2147483647 : Int) < (n5 : Int) := by omega
  by_cases h6 : 2147483647 < n6
  · have g6 : (2147483647 : Int) < (n6 : Int) := by omega
    have HA := Lib.hid h6
    clear h6
    go_enter Tryz.func245, Tryz.ntmps245
    go_wp2
    go_ret
    refine ⟨_, rfl, ?_, (Fr.refl _ w).alloc _⟩
    rw [HP.out]
    exact iff_of_false (by intro h; cases h) (fun h => by have h2 := h.2.2.2.2.2.1; have := HA.out; omega)
  have g6 : ¬ (2147483647 : Int) < (n6 : Int) := by omega
  by_cases h7 : 2147483647 < n7
  · have g7 : (2147483647 : Int) < (n7 : Int) := by omega
    have HA := Lib.hid h7
    clear h7
    go_enter Tryz.func245, Tryz.ntmps245
    go_wp2
    go_ret
    refine ⟨_, rfl, ?_, (Fr.refl _ w).alloc _⟩
    rw [HP.out]
    exact iff_of_false (by intro h; cases h) (fun h => by have h2 := h.2.2.2.2.2.2; have := HA.out; omega)
  have g7 : ¬ (2147483647 : Int) < (n7 : Int) := by omega
  have HA := Lib.hid (And.intro h1 (And.intro h2 (And.intro h3 (And.intro h4 (And.intro h5 (And.intro h6 h7))))))
  clear h1 h2 h3 h4 h5 h6 h7
  go_enter Tryz.func245, Tryz.ntmps245
  go_wp2
  go_ret
  refine ⟨_, rfl, ?_, (Fr.refl _ w).alloc _⟩
  rw [HP.out]
  exact iff_of_true rfl (by obtain ⟨a1, a2, a3, a4, a5, a6, a7⟩ := HA.out; exact ⟨by omega, by omega, by omega, by omega, by omega, by omega, by omega⟩)

theorem fits6_any (P : Nat → Prop) (h : Hst) (s : Hsl) (w : World) (hs : SlHs P w h s) : Calls Tryz.prog 245 #[.agg (hic h s).toArray] w (BoolEnds (h.few 2147483647) w) := by
  obtain ⟨z1, z2, z3, z4, z5, z6, z7⟩ := hs
  obtain ⟨sp, sn, su, sd, sfu, sfd, sc⟩ := s
  simp only [] at z1 z2 z3 z4 z5 z6 z7
  obtain ⟨A1, c1, rfl⟩ := z1.shape
  obtain ⟨A2, c2, rfl⟩ := z2.shape
  obtain ⟨A3, c3, rfl⟩ := z3.shape
  obtain ⟨A4, c4, rfl⟩ := z4.shape
  obtain ⟨A5, c5, rfl⟩ := z5.shape
  obtain ⟨A6, c6, rfl⟩ := z6.shape
  obtain ⟨A7, c7, rfl⟩ := z7.shape
  exact fits6_raw h.hint h.schema h.thr h.sum h.zc h.cnt A1 A2 A3 A4 A5 A6 A7 _ _ _ _ _ _ _ c1 c2 c3 c4 c5 c6 c7 w _ Iff.rfl


set_option maxHeartbeats 2000000 in
set_option maxRecDepth 100000 in
theorem fits44_any (P : Nat → Prop) (p : Rhs) (s : Hsl) (w : World) (hs : SlHs P w p.h s) : Calls Tryz.prog 197 #[.agg (hsc (p, s)).toArray] w (BoolEnds (p.h.few 2147483647) w) := by
  obtain ⟨ref, t, ⟨hint, schema, thr, sum, zc, cnt, pos, neg, ups, downs, fups, fdowns, cus⟩⟩ := p
  have hC := fun W (hW : Fr (fun _ => False) w W) => fits6_any P _ _ W (hs.fr hW (fun _ _ e => e))
  obtain ⟨z1, z2, z3, z4, z5, z6, z7⟩ := hs
  obtain ⟨sp, sn, su, sd, sfu, sfd, sc⟩ := s
  simp only [] at z1 z2 z3 z4 z5 z6 z7
  obtain ⟨A1, c1, rfl⟩ := z1.shape
  obtain ⟨A2, c2, rfl⟩ := z2.shape
  obtain ⟨A3, c3, rfl⟩ := z3.shape
  obtain ⟨A4, c4, rfl⟩ := z4.shape
  obtain ⟨A5, c5, rfl⟩ := z5.shape
  obtain ⟨A6, c6, rfl⟩ := z6.shape
  obtain ⟨A7, c7, rfl⟩ := z7.shape
  simp only [hsc, hic] at hC ⊢
  generalize Hst.few _ _ = p at hC ⊢
  obtain ⟨n1, e1⟩ : ∃ n, pos.length = n := ⟨_, rfl⟩
  obtain ⟨n2, e2⟩ : ∃ n, neg.length = n := ⟨_, rfl⟩
  obtain ⟨n3, e3⟩ : ∃ n, ups.length = n := ⟨_, rfl⟩
  obtain ⟨n4, e4⟩ : ∃ n, downs.length = n := ⟨_, rfl⟩
  obtain ⟨n5, e5⟩ : ∃ n, fups.length = n := ⟨_, rfl⟩
  obtain ⟨n6, e6⟩ : ∃ n, fdowns.length = n := ⟨_, rfl⟩
  obtain ⟨n7, e7⟩ : ∃ n, cus.length = n := ⟨_, rfl⟩
  rw [e1, e2, e3, e4, e5, e6, e7] at hC ⊢
  have HC := Lib.hid (hC _ ((Fr.refl (fun _ => False) w).alloc (.cells #[.int .u64 ref, .int .i64 t, .int .u8 hint.toNat, .int .i32 schema, .int .u64 thr, .int .u64 sum, .int .u64 zc, .int .u64 cnt, .slice A1 n1 c1, .slice A2 n2 c2, .slice A3 n3 c3, .slice A4 n4 c4, .slice A5 n5 c5, .slice A6 n6 c6, .slice A7 n7 c7] 194)))
  clear z1 z2 z3 z4 z5 z6 z7 e1 e2 e3 e4 e5 e6 e7 hC
  go_enter Tryz.func197, Tryz.ntmps197
  go_wp2_with (go_at_call 245; refine HC.out.mono ?_; rintro r5 w5 ⟨b, rfl, hb5, hf5⟩; refine Hid.out ?_)
  have HB5 := Lib.hid hb5
  have HF5 := Lib.hid (((Fr.refl (fun _ => False) w).alloc (.cells #[.int .u64 ref, .int .i64 t, .int .u8 hint.toNat, .int .i32 schema, .int .u64 thr, .int .u64 sum, .int .u64 zc, .int .u64 cnt, .slice A1 n1 c1, .slice A2 n2 c2, .slice A3 n3 c3, .slice A4 n4 c4, .slice A5 n5 c5, .slice A6 n6 c6, .slice A7 n7 c7] 194)).same hf5)
  clear hb5 hf5
  rcases b with _ | _
  · refine Lib.hid ?_
    go_wp2
    go_ret
    exact ⟨false, rfl, by simpa using HB5.out, HF5.out⟩
  · refine Lib.hid ?_
    go_wp2
    go_ret
    exact ⟨true, rfl, by simpa using HB5.out, HF5.out⟩


set_option maxRecDepth 100000 in
set_option maxHeartbeats 4000000 in
theorem fits43_any (P : Nat → Prop) (v : Value) (lv : List (Rhs × Hsl)) (w : World) (h : SlH P w v lv) (hl : lv.length ≤ 9223372036854775807) :
    Calls Tryz.prog 110 #[v] w (BoolEnds (lv.length ≤ 2147483647 ∧ ∀ p ∈ lv, p.1.h.few 2147483647) w) := by
  have HS := Lib.hid h
  obtain ⟨⟨A, c, rfl, _, hc, hr⟩, _⟩ := h
  obtain ⟨n, hn⟩ : ∃ n, lv.length = n := ⟨_, rfl⟩
  rw [hn] at hr hc hl HS ⊢
  have HN := Lib.hid hn
  clear hn hr
  by_cases hbig : 2147483647 < n
  · have hbig' : (2147483647 : Int) < n := by omega
    go_enter Tryz.func110, Tryz.ntmps110
    go_wp2
    go_ret
    exact ⟨false, rfl, ⟨fun h => (by cases h), fun h => absurd h.1 (by omega)⟩, Fr.refl _ _⟩
  · have hbig' : ¬ (2147483647 : Int) < n := by omega
    go_enter Tryz.func110, Tryz.ntmps110
    go_wp2
    go_loopw [10] (fun vi wr => ∃ k : Nat, k ≤ n ∧ vi = .int .i64 k ∧ Hid (∀ j p, j < k → lv[j]? = some p → p.1.h.few 2147483647) ∧ Hid (Fr (fun _ => False) w wr)) (fun vi _ => n - (intOf vi).toNat)
    case atStart => exact ⟨0, Nat.zero_le _, rfl, Lib.hid (fun j p h => absurd h (Nat.not_lt_zero _)), Lib.hid (Fr.refl _ _)⟩
    case round =>
      obtain ⟨k, hk, rfl, RG, RF⟩ := hrel
      by_cases hlt : k < n
      · have hS := HS.out.fr RF.out (fun _ _ e => e)
        have hiv := hS.2
        obtain ⟨g, off, rfl, _, hcell⟩ := (show Sl P wr (.slice A n c) 15 lv.length (lv.flatMap hsc) from hS.1).at (by have := HN.out; omega)
        obtain ⟨x, hx⟩ : ∃ x, lv[k]? = some x := ⟨_, List.getElem?_eq_getElem (by rw [HN.out]; exact hlt)⟩
        have hxm := List.mem_of_getElem? hx
        have cc : ∀ j, j < 15 → ∀ u, (hsc x)[j]? = some u → wr.cell? ⟨g, off + (k * 15 + j), none⟩ = some u := fun j hj u hu => hcell (k * 15 + j) u (by rw [flatN 15 hsc (fun _ => rfl) lv k x hx j hj]; exact hu)
        have q0 : wr.cell? ⟨g, off + k * 15, none⟩ = some (.int .u64 x.1.ref) := cc 0 (by omega) _ rfl
        have q1 : wr.cell? ⟨g, off + k * 15 + 1, none⟩ = some (.int .i64 x.1.t) := cc 1 (by omega) _ rfl
        have q2 : wr.cell? ⟨g, off + k * 15 + 2, none⟩ = some (.int .u8 x.1.h.hint.toNat) := cc 2 (by omega) _ rfl
        have q3 : wr.cell? ⟨g, off + k * 15 + 3, none⟩ = some (.int .i32 x.1.h.schema) := cc 3 (by omega) _ rfl
        have q4 : wr.cell? ⟨g, off + k * 15 + 4, none⟩ = some (.int .u64 x.1.h.thr) := cc 4 (by omega) _ rfl
        have q5 : wr.cell? ⟨g, off + k * 15 + 5, none⟩ = some (.int .u64 x.1.h.sum) := cc 5 (by omega) _ rfl
        have q6 : wr.cell? ⟨g, off + k * 15 + 6, none⟩ = some (.int .u64 x.1.h.zc) := cc 6 (by omega) _ rfl
        have q7 : wr.cell? ⟨g, off + k * 15 + 7, none⟩ = some (.int .u64 x.1.h.cnt) := cc 7 (by omega) _ rfl
        have q8 : wr.cell? ⟨g, off + k * 15 + 8, none⟩ = some x.2.p := cc 8 (by omega) _ rfl
        have q9 : wr.cell? ⟨g, off + k * 15 + 9, none⟩ = some x.2.n := cc 9 (by omega) _ rfl
        have q10 : wr.cell? ⟨g, off + k * 15 + 10, none⟩ = some x.2.u := cc 10 (by omega) _ rfl
        have q11 : wr.cell? ⟨g, off + k * 15 + 11, none⟩ = some x.2.d := cc 11 (by omega) _ rfl
        have q12 : wr.cell? ⟨g, off + k * 15 + 12, none⟩ = some x.2.fu := cc 12 (by omega) _ rfl
        have q13 : wr.cell? ⟨g, off + k * 15 + 13, none⟩ = some x.2.fd := cc 13 (by omega) _ rfl
        have q14 : wr.cell? ⟨g, off + k * 15 + 14, none⟩ = some x.2.c := cc 14 (by omega) _ rfl
        have hivx := hiv x hxm
        have HXM := Lib.hid hxm
        have HX := Lib.hid hx
        clear hiv hx hxm cc hcell hS
        obtain ⟨⟨ref, t, ⟨hint, schema, thr, sum, zc, cnt, pos, neg, ups, downs, fups, fdowns, cus⟩⟩, ⟨sp, sn, su, sd, sfu, sfd, sc⟩⟩ := x
        simp only [] at q0 q1 q2 q3 q4 q5 q6 q7 q8 q9 q10 q11 q12 q13 q14 hivx
        have hC := fun W (hW : Fr (fun _ => False) wr W) => fits44_any P ⟨ref, t, ⟨hint, schema, thr, sum, zc, cnt, pos, neg, ups, downs, fups, fdowns, cus⟩⟩ _ W (hivx.fr hW (fun _ _ e => e))
        obtain ⟨pp, hpp⟩ : ∃ pp : Prop, Hst.few ⟨hint, schema, thr, sum, zc, cnt, pos, neg, ups, downs, fups, fdowns, cus⟩ 2147483647 = pp := ⟨_, rfl⟩
        have HPP := Lib.hid hpp
        simp only [hsc, hic, hpp] at hC
        obtain ⟨z1, z2, z3, z4, z5, z6, z7⟩ := hivx
        simp only [] at z1 z2 z3 z4 z5 z6 z7
        obtain ⟨A1, c1, rfl⟩ := z1.shape
        obtain ⟨A2, c2, rfl⟩ := z2.shape
        obtain ⟨A3, c3, rfl⟩ := z3.shape
        obtain ⟨A4, c4, rfl⟩ := z4.shape
        obtain ⟨A5, c5, rfl⟩ := z5.shape
        obtain ⟨A6, c6, rfl⟩ := z6.shape
        obtain ⟨A7, c7, rfl⟩ := z7.shape
        obtain ⟨n1, e1⟩ : ∃ n, pos.length = n := ⟨_, rfl⟩
        rw [e1] at q8 hC
        obtain ⟨n2, e2⟩ : ∃ n, neg.length = n := ⟨_, rfl⟩
        rw [e2] at q9 hC
        obtain ⟨n3, e3⟩ : ∃ n, ups.length = n := ⟨_, rfl⟩
        rw [e3] at q10 hC
        obtain ⟨n4, e4⟩ : ∃ n, downs.length = n := ⟨_, rfl⟩
        rw [e4] at q11 hC
        obtain ⟨n5, e5⟩ : ∃ n, fups.length = n := ⟨_, rfl⟩
        rw [e5] at q12 hC
        obtain ⟨n6, e6⟩ : ∃ n, fdowns.length = n := ⟨_, rfl⟩
        rw [e6] at q13 hC
        obtain ⟨n7, e7⟩ : ∃ n, cus.length = n := ⟨_, rfl⟩
        rw [e7] at q14 hC
        have HC := Lib.hid (hC _ ((Fr.refl (fun _ => False) wr).alloc (.cells #[.int .u64 ref, .int .i64 t, .int .u8 hint.toNat, .int .i32 schema, .int .u64 thr, .int .u64 sum, .int .u64 zc, .int .u64 cnt, .slice A1 n1 c1, .slice A2 n2 c2, .slice A3 n3 c3, .slice A4 n4 c4, .slice A5 n5 c5, .slice A6 n6 c6, .slice A7 n7 c7] 194)))
        clear z1 z2 z3 z4 z5 z6 z7 e1 e2 e3 e4 e5 e6 e7 hC hpp
        go_wp2_with (go_at_call 197; refine HC.out.mono ?_; rintro r5 w5 ⟨b, rfl, hb5, hf5⟩; refine Hid.out ?_)
        have H5 := Lib.hid ((RF.out.alloc (.cells #[.int .u64 ref, .int .i64 t, .int .u8 hint.toNat, .int .i32 schema, .int .u64 thr, .int .u64 sum, .int .u64 zc, .int .u64 cnt, .slice A1 n1 c1, .slice A2 n2 c2, .slice A3 n3 c3, .slice A4 n4 c4, .slice A5 n5 c5, .slice A6 n6 c6, .slice A7 n7 c7] 194)).same hf5)
        have HB5 := Lib.hid hb5
        clear hf5 hb5 q0 q1 q2 q3 q4 q5 q6 q7 q8 q9 q10 q11 q12 q13 q14
        rcases b with _ | _
        · refine Lib.hid ?_
          go_wp2
          go_ret
          exact ⟨false, rfl, ⟨fun h => (by cases h), fun h => absurd (HB5.out.2 (by rw [← HPP.out]; exact h.2 _ HXM.out)) (by decide)⟩, H5.out⟩
        · refine Lib.hid ?_
          go_wp2
          go_roundw
          case rel => exact ⟨k + 1, by omega, by go_num, Lib.hid (fun j p h h2 => by
            rcases Nat.lt_or_ge j k with h3 | h3
            · exact RG.out j p h3 h2
            · obtain rfl : j = k := by omega
              have h4 := h2.symm.trans HX.out
              injection h4 with h4
              rw [h4]
              have h5 := HB5.out.1 rfl
              rw [← HPP.out] at h5
              exact h5), H5⟩
          case measure => simp [intOf]; omega
      · obtain rfl : k = n := by omega
        go_wp2
        go_ret
        refine ⟨true, rfl, ⟨fun _ => ⟨by omega, fun p hp => ?_⟩, fun _ => rfl⟩, RF.out⟩
        obtain ⟨j, hj, e⟩ := List.getElem_of_mem hp
        exact RG.out j p (by rw [← HN.out]; exact hj) (by rw [List.getElem?_eq_getElem hj, e])

end Go.Proofs.YtbkookiigkckdaaGreatDoor

/- Histograms: Encoder.CustomBucketsHistogramSamples 99, .CustomBucketsFloatHistogramSamples 100. Printed by gen_h5.py. -/
namespace Go.Proofs.YtbkookiigkckdaaGreatDoor
open Go.RowKit
set_option linter.unusedVariables false
set_option linter.unusedSimpArgs false

def hRef (f s : Rhs) : Int := wrap64 (wrap64 s.ref - wrap64 f.ref)
def hT (f s : Rhs) : Int := wrap64 (s.t - f.t)
def Rhs.ok (s : Rhs) : Prop := s.ref < 18446744073709551616 ∧ -9223372036854775808 ≤ s.t ∧ s.t ≤ 9223372036854775807 ∧ s.h.ok
def encHHdr (f : Rhs) : List UInt8 := Lib.beBytes 8 f.ref ++ Lib.beBytes 8 (u64 f.t)
theorem put_more3 {e : Nat} {o : Option Nat} {w w1 : World} {xs ys zs : List UInt8} (h : Put w e o xs ys w1) {f : FuncId} {args : Array Value}
    (hc : ∀ o1, Enc w1 e o1 (xs ++ ys) → (o1 = o ∨ ∃ k, o1 = some k ∧ w.heap.size ≤ k) → Calls Tryz.prog f args w1 (PutEnds w1 e o1 (xs ++ ys) zs)) : Calls Tryz.prog f args w1 fun r w2 => r = .returned (.tuple #[]) ∧ Put w e o xs (ys ++ zs) w2 ∧ Hid (Keeps w1 w2) := by
  obtain ⟨o1, he, hf, ho⟩ := h
  exact (hc o1 he ho).mono fun r w2 ⟨hr, h2⟩ => ⟨hr, Put.step he hf ho h2, h2.keeps he⟩
theorem spans_len (l : List (Int × Nat)) (n : Nat) (hn : l.length ≤ n) (hn2 : n ≤ 60) (h : ∀ p ∈ l, -2147483648 ≤ p.1 ∧ p.1 ≤ 2147483647 ∧ p.2 < 4294967296) : (encSpans l).length ≤ 1210 := by
  have h1 := flatMap_lenM encSpan 20 l (fun p hp => encSpan_len p (h p hp))
  have h2 := Lib.uvarint_length64 (x := l.length) (by omega)
  have h3 : l.length * 20 ≤ 60 * 20 := Nat.mul_le_mul_right _ (by omega)
  rw [encSpans, List.length_append]; omega
theorem ints_len (l : List Int) (hn : l.length ≤ 60) (h : ∀ x ∈ l, -9223372036854775808 ≤ x ∧ x ≤ 9223372036854775807) : (encInts l).length ≤ 610 := by
  have h1 := flatMap_lenM zzu 10 l (fun x hx => zzu_len x (h x hx).1 (h x hx).2)
  have h2 := Lib.uvarint_length64 (x := l.length) (by omega)
  have h3 : l.length * 10 ≤ 60 * 10 := Nat.mul_le_mul_right _ (by omega)
  rw [encInts, List.length_append]; omega
theorem bits_len (l : List Nat) (hn : l.length ≤ 60) : (encBits l).length ≤ 610 := by
  have h1 := flatMap_lenM (Lib.beBytes 8) 8 l (fun x hx => by simp [Lib.beBytes_length])
  have h2 := Lib.uvarint_length64 (x := l.length) (by omega)
  have h3 : l.length * 8 ≤ 60 * 8 := Nat.mul_le_mul_right _ (by omega)
  rw [encBits, List.length_append]; omega
theorem cus_len (h : Hst) (k : h.ok) : (encCus h).length ≤ 610 := by
  have := bits_len h.cus k.few.2.2.2.2.2.2
  unfold encCus
  split
  · exact this
  · exact Nat.zero_le _


theorem encHistW_len (h : Hst) (k : h.ok) : (encHistW h).length ≤ 5000 := by
  have a1 := zzu_len h.schema (by have := k.s0; omega) (by have := k.s1; omega)
  have a2 := Lib.uvarint_length64 k.zc
  have a3 := Lib.uvarint_length64 k.cnt
  have a4 := spans_len h.pos 60 k.few.1 (by omega) k.pos
  have a5 := spans_len h.neg 60 k.few.2.1 (by omega) k.neg
  have a6 := ints_len h.ups k.few.2.2.1 k.ups
  have a7 := ints_len h.downs k.few.2.2.2.1 k.downs
  have a8 := cus_len h k
  have a9 : (Lib.beBytes 8 h.thr).length = 8 := by simp [Lib.beBytes_length]
  have a10 : (Lib.beBytes 8 h.sum).length = 8 := by simp [Lib.beBytes_length]
  simp only [encHistW, List.length_append, List.length_singleton]
  omega
def encRhW (f s : Rhs) : List UInt8 := zzu (hRef f s) ++ (zzu (hT f s) ++ encHistW s.h)
theorem encRhW_len (f s : Rhs) (h : s.ok) : (encRhW f s).length ≤ 5020 := by
  have h1 := zzu_len (hRef f s) (wrap64_bd _).1 (wrap64_bd _).2
  have h2 := zzu_len (hT f s) (wrap64_bd _).1 (wrap64_bd _).2
  have h3 := encHistW_len s.h h.2.2.2
  simp only [encRhW, List.length_append]
  omega
/-- The record of the samples q of l. -/
def encRecW (kind : UInt8) (q : Rhs → Bool) : List Rhs → List UInt8
  | [] => [kind]
  | f :: r => [kind] ++ (encHHdr f ++ ((f :: r).filter q).flatMap (encRhW f))

set_option maxRecDepth 100000 in
set_option maxHeartbeats 8000000 in
theorem encCusW_any (ep : Value) (sv : Value) (P : Nat → Prop) (v : Value) (xs : List UInt8) (lo : List (Rhs × Value)) (w : World) (h : RdHW P w sv lo) (hown : w.ownsRow 0 5 1 v xs.length (bc xs)) (hl : xs.length ≤ 536870912)
    (hsl : lo.length ≤ 12) (hwf : ∀ p ∈ lo, p.1.ok) (hP : ∀ g, P g → g < w.heap.size ∧ some g ≠ v.ownBlock) :
    Calls Tryz.prog 99 #[ep, sv, v] w (EncodeEnds w v.ownBlock (xs ++ encRecW 9 (fun _ => true) (lo.map Prod.fst))) := by
  obtain ⟨h, hin⟩ := h
  obtain ⟨A, c, rfl⟩ := h.shape
  obtain ⟨a', n', k', rfl⟩ := own_slice hown
  have hE := Enc.made (z := .int .u8 0) hown _ rfl
  have hQ := putByte w.heap.size _ xs 9 _ hE (by omega)
  have e2 : ((9 : UInt8).toNat : Int) = 9 := rfl
  rw [e2] at hQ
  have hFW : Fr (fun k => some k = (Value.slice a' n' k').ownBlock) w (w.alloc (.cells #[.slice a' n' k', .int .u8 0, .int .u8 0, .int .u8 0, .int .u8 0, .int .u8 0, .int .u8 0, .int .u8 0, .int .u8 0, .int .u8 0, .int .u8 0] 224)) := (Fr.refl _ w).alloc _
  rcases lo with _ | ⟨f, r⟩
  · clear hE hFW e2 h hin hwf
    go_enter Tryz.func99, Tryz.ntmps99
    go_wp2_with (first | (go_at_call 180; refine hQ.mono ?_; rintro r1 w1 ⟨rfl, R⟩; obtain ⟨o1, hE1, hf1, ho1⟩ := R; have hG := encGet _ _ _ _ hE1) | (go_at_call 116; refine hG.mono ?_; rintro r w2 ⟨v2, rfl, rfl, hown2, hv2⟩))
    go_ret
    refine ⟨v2, rfl, by simpa [encRecW] using hown2, made_end (o1 := o1) hf1, ?_⟩
    rw [hv2]
    rcases ho1 with h | ⟨k, h, hk⟩
    · exact .inl h
    · exact .inr ⟨k, h, by simp at hk; omega⟩
  · obtain ⟨n, hn⟩ : ∃ n, (f :: r).length = n := ⟨_, rfl⟩
    rw [hn] at h hsl ⊢
    obtain ⟨LO, hLO⟩ : ∃ LO, f :: r = LO := ⟨_, rfl⟩
    have hn1 : (0 : Int) < (n : Int) := by rw [← hn]; simp
    have hn0 : ((n : Int) == 0) = false := by simp; omega
    have hfm : f ∈ LO := by rw [← hLO]; exact List.mem_cons_self ..
    have hf0 : LO[0]? = some f := by rw [← hLO]; rfl
    have hmap : (f :: r).map Prod.fst = f.1 :: r.map Prod.fst := rfl
    have hwf2 : ∀ p ∈ LO, p.1.ok := by rw [← hLO]; exact hwf
    have hin2 : ∀ p ∈ LO, RdW P w p.1.h p.2 := by rw [← hLO]; exact hin
    rw [hLO] at h hn
    have henc : encRecW 9 (fun _ => true) ((f :: r).map Prod.fst) = [9] ++ (encHHdr f.1 ++ LO.flatMap (fun p => encRhW f.1 p.1)) := by
      rw [← hLO]
      have e1 : ∀ l : List Rhs, l.filter (fun _ => true) = l := fun l => List.filter_eq_self.2 (fun _ _ => rfl)
      rw [hmap, encRecW, e1, List.flatMap_cons, List.flatMap_cons, List.flatMap_map]
    rw [henc]
    obtain ⟨hrf, htf0, htf1, _⟩ := hwf2 f hfm
    obtain ⟨g, off, rfl, hPg, hcell⟩ := h.at (by omega)
    have hg := hP g hPg
    obtain ⟨f1, fv⟩ := f
    simp only [] at hrf htf0 htf1
    have c0 : w.cell? ⟨g, off, none⟩ = some (.int .u64 f1.ref) := hcell 0 _ (by exact flat3 rhc (fun _ => rfl) LO 0 (f1, fv) hf0 0 (by omega))
    have c1 : w.cell? ⟨g, off + 1, none⟩ = some (.int .i64 f1.t) := hcell 1 _ (by exact flat3 rhc (fun _ => rfl) LO 0 (f1, fv) hf0 1 (by omega))
    have c2 : w.cell? ⟨g, off + 2, none⟩ = some fv := hcell 2 _ (by exact flat3 rhc (fun _ => rfl) LO 0 (f1, fv) hf0 2 (by omega))
    obtain ⟨gf, _, hfv, _⟩ := hin2 _ hfm
    simp only [] at hfv
    subst hfv
    have HN := Lib.hid hn
    have HP := Lib.hid hP
    have HE := Lib.hid hE
    have HFW := Lib.hid hFW
    have HCELL := Lib.hid hcell
    have HIN := Lib.hid hin2
    have HWF := Lib.hid hwf2
    clear hE hFW e2 h hin hwf hwf2 hin2 hn hmap henc hcell hLO hfm hf0 hP
    generalize hWB : w.alloc (.cells #[.slice a' n' k', .int .u8 0, .int .u8 0, .int .u8 0, .int .u8 0, .int .u8 0, .int .u8 0, .int .u8 0, .int .u8 0, .int .u8 0, .int .u8 0] 224) = WB at hQ HE HFW
    have hB : w.heap.size < WB.heap.size := by rw [← hWB]; simp
    rw [← hWB] at hQ
    have HWB := Lib.hid hWB
    clear hWB
    go_enter Tryz.func99, Tryz.ntmps99
    go_wp2_with (go_at_call 180; refine hQ.mono ?_; rintro r1 w1 ⟨rfl, R⟩; refine Hid.out ?_)
    rw [HWB.out] at R
    clear hQ HWB
    have HFT := Lib.hid (fun (W : World) (hf : Fr (fun k => k = w.heap.size ∨ some k = (Value.slice a' n' k').ownBlock) WB W) => HFW.out.trans hf (fun k hk e => by
      rcases e with e | e
      · omega
      · exact e))
    have hF1 := HFT.out w1 R.fr
    have d0 : w1.cell? ⟨g, off, none⟩ = some (.int .u64 f1.ref) := by rw [hF1.cell (p := ⟨g, off, none⟩) hg.1 hg.2]; exact c0
    have d1 : w1.cell? ⟨g, off + 1, none⟩ = some (.int .i64 f1.t) := by rw [hF1.cell (p := ⟨g, off + 1, none⟩) hg.1 hg.2]; exact c1
    have d2 : w1.cell? ⟨g, off + 2, none⟩ = some (.pointer (some ⟨gf, 0, none⟩)) := by rw [hF1.cell (p := ⟨g, off + 2, none⟩) hg.1 hg.2]; exact c2
    have HR1 := Lib.hid (R.alloc (.cells #[.int .u64 f1.ref, .int .i64 f1.t, .pointer (some ⟨gf, 0, none⟩)] 290))
    have HBF := Lib.hid (Blk.new w1 290 #[.int .u64 f1.ref, .int .i64 f1.t, .pointer (some ⟨gf, 0, none⟩)])
    have hsz1 := R.fr.size
    clear R hF1 c0 c1 c2
    refine Lib.hid ?_
    go_wp2_with (first
      | (go_at_call 181; refine (put_more2 HR1.out (f := 181) (args := #[.pointer (some ⟨w.heap.size, 0, none⟩), .int .u64 f1.ref]) (zs := Lib.beBytes 8 f1.ref) (fun o2 he => putBE64 _ o2 _ f1.ref hrf _ he (by rw [List.length_append, List.length_singleton]; omega))).mono ?_; rintro r2 w2 ⟨rfl, R2, K2⟩
         have hB2 := K2.out _ _ _ (by decide) (by decide) HBF.out
         have b1 : w2.cell? ⟨w1.heap.size, 1, none⟩ = some (.int .i64 f1.t) := hB2.cell 1
         have HB2 := Lib.hid hB2
         have HR2 := Lib.hid R2
         clear hB2 R2 K2 HR1 d0 d1 d2)
      | (go_at_call 182; refine (put_more2 HR2.out (f := 182) (args := #[.pointer (some ⟨w.heap.size, 0, none⟩), .int .i64 f1.t]) (zs := Lib.beBytes 8 (u64 f1.t)) (fun o2 he => putBE64int64 _ o2 _ f1.t _ he (by simp [Lib.beBytes_length]; omega))).mono ?_; rintro r3 w3 ⟨rfl, R3, K3⟩
         have HB3 := Lib.hid (K3.out _ _ _ (by decide) (by decide) HB2.out)
         have HR3 := Lib.hid R3
         clear R3 K3 HR2 b1 HB2))
    clear HBF
    generalize hbf : w1.heap.size = bf at HB3 hsz1
    clear hbf
    go_loopw [29] (fun i wr => ∃ k : Nat, k ≤ n ∧ i = .int .i64 k ∧ Hid (Put WB w.heap.size (Value.slice a' n' k').ownBlock xs ([9] ++ encHHdr f1 ++ (LO.take k).flatMap (fun p => encRhW f1 p.1)) wr) ∧ Hid (Blk wr bf 290 #[.int .u64 f1.ref, .int .i64 f1.t, .pointer (some ⟨gf, 0, none⟩)])) (fun i _ => n - (intOf i).toNat)
    case atStart => exact ⟨0, Nat.zero_le _, rfl, Lib.hid (by simpa [encHHdr] using HR3.out), HB3⟩
    case round =>
      obtain ⟨k, hk, rfl, HR, HBk⟩ := hrel
      by_cases hlt : k < n
      · obtain ⟨x, hx⟩ : ∃ x, LO[k]? = some x := ⟨_, List.getElem?_eq_getElem (by rw [HN.out]; exact hlt)⟩
        have hxm := List.mem_of_getElem? hx
        have hFk := HFT.out wr HR.out.fr
        have cc : ∀ j, j < 3 → ∀ u, (rhc x)[j]? = some u → wr.cell? ⟨g, off + (k * 3 + j), none⟩ = some u := fun j hj u hu => by
          rw [hFk.cell (p := ⟨g, off + (k * 3 + j), none⟩) hg.1 hg.2]
          exact HCELL.out (k * 3 + j) u (by rw [flat3 rhc (fun _ => rfl) LO k x hx j hj]; exact hu)
        have d0 : wr.cell? ⟨g, off + k * 3, none⟩ = some (.int .u64 x.1.ref) := cc 0 (by omega) _ rfl
        have d1 : wr.cell? ⟨g, off + k * 3 + 1, none⟩ = some (.int .i64 x.1.t) := cc 1 (by omega) _ rfl
        have d2 : wr.cell? ⟨g, off + k * 3 + 2, none⟩ = some x.2 := cc 2 (by omega) _ rfl
        have hrd := HIN.out x hxm
        have hxo := HWF.out x hxm
        obtain ⟨x1, xv⟩ := x
        simp only [] at d0 d1 d2 hrd hxo
        have hrd2 := hrd
        obtain ⟨gx, _, rfl, _⟩ := hrd2
        have b0 : wr.cell? ⟨bf, 0, none⟩ = some (.int .u64 f1.ref) := HBk.out.cell 0
        have b1 : wr.cell? ⟨bf, 1, none⟩ = some (.int .i64 f1.t) := HBk.out.cell 1
        have hbl := HBk.out.lt
        have hyl : ([(9 : UInt8)] ++ encHHdr f1 ++ (LO.take k).flatMap (fun p => encRhW f1 p.1)).length ≤ 17 + k * 5020 := by
          have h1 := take_len_le (fun p : Rhs × Value => encRhW f1 p.1) 5020 LO k (fun p hp => encRhW_len f1 p.1 (HWF.out p hp))
          have h4 : (encHHdr f1).length = 16 := by simp [encHHdr, Lib.beBytes_length]
          rw [List.length_append, List.length_append, h4, List.length_singleton]; omega
        have hk9 : k * 5020 ≤ 12 * 5020 := Nat.mul_le_mul_right _ (by omega)
        obtain ⟨Y, hY⟩ : ∃ Y, [(9 : UInt8)] ++ encHHdr f1 ++ (LO.take k).flatMap (fun p => encRhW f1 p.1) = Y := ⟨_, rfl⟩
        rw [hY] at hyl HR
        have HY := Lib.hid hY
        have HX := Lib.hid hx
        have HBX := Lib.hid (Blk.new wr 290 #[.int .u64 x1.ref, .int .i64 x1.t, .pointer (some ⟨gx, 0, none⟩)])
        have HRA := Lib.hid (HR.out.alloc (.cells #[.int .u64 x1.ref, .int .i64 x1.t, .pointer (some ⟨gx, 0, none⟩)] 290))
        have HBK := Lib.hid (HBk.out.alloc (.cells #[.int .u64 x1.ref, .int .i64 x1.t, .pointer (some ⟨gx, 0, none⟩)] 290))
        have hyl2 : Y.length ≤ 60300 := by omega
        obtain ⟨Q1, hQ1⟩ : ∃ Q, zzu (hRef f1 x1) = Q := ⟨_, rfl⟩
        obtain ⟨Q2, hQ2⟩ : ∃ Q, zzu (hT f1 x1) = Q := ⟨_, rfl⟩
        have hl1 := zzu_len (hRef f1 x1) (wrap64_bd _).1 (wrap64_bd _).2
        have hl2 := zzu_len (hT f1 x1) (wrap64_bd _).1 (wrap64_bd _).2
        rw [hQ1] at hl1
        rw [hQ2] at hl2
        have HQ1 := Lib.hid hQ1
        have HQ2 := Lib.hid hQ2
        have HRD := Lib.hid hrd
        have HXO := Lib.hid hxo
        clear hx hFk cc hY hyl hk9 hQ1 hQ2 hxm hrd hxo HR HBk
        go_wp2_with (first
          | (go_at_call 183; refine (put_more2 HRA.out (f := 183) (args := #[.pointer (some ⟨w.heap.size, 0, none⟩), .int .i64 (hRef f1 x1)]) (zs := Q1) (fun o2 he => by have := putVarint64 _ o2 _ (hRef f1 x1) (wrap64_bd _).1 (wrap64_bd _).2 _ he (by rw [List.length_append]; omega); rw [show Lib.uvarint (Lib.zigzag (hRef f1 x1)) = Q1 from HQ1.out] at this; exact this)).mono ?_; rintro rA wA ⟨rfl, R1, K1⟩
             have hB1 := K1.out _ _ _ (by decide) (by decide) HBX.out
             have hB2 := K1.out _ _ _ (by decide) (by decide) HBK.out
             have p1 : wA.cell? ⟨wr.heap.size, 1, none⟩ = some (.int .i64 x1.t) := hB1.cell 1
             have q1 : wA.cell? ⟨bf, 1, none⟩ = some (.int .i64 f1.t) := hB2.cell 1
             have HBX1 := Lib.hid hB1
             have HBK1 := Lib.hid hB2
             have HR2 := Lib.hid R1
             have hv2 : (Y ++ Q1).length ≤ 60310 := by rw [List.length_append]; omega
             clear R1 K1 hB1 hB2 HRA b0 b1 HBX HBK)
          | (go_at_call 183; refine (put_more2 HR2.out (f := 183) (args := #[.pointer (some ⟨w.heap.size, 0, none⟩), .int .i64 (hT f1 x1)]) (zs := Q2) (fun o2 he => by have := putVarint64 _ o2 _ (hT f1 x1) (wrap64_bd _).1 (wrap64_bd _).2 _ he (by rw [List.length_append]; omega); rw [show Lib.uvarint (Lib.zigzag (hT f1 x1)) = Q2 from HQ2.out] at this; exact this)).mono ?_; rintro rB wB ⟨rfl, R1, K1⟩
             have hB1 := K1.out _ _ _ (by decide) (by decide) HBX1.out
             have HBK2 := Lib.hid (K1.out _ _ _ (by decide) (by decide) HBK1.out)
             have p2 : wB.cell? ⟨wr.heap.size, 2, none⟩ = some (.pointer (some ⟨gx, 0, none⟩)) := hB1.cell 2
             have HR3 := Lib.hid R1
             have hv3 : (Y ++ Q1 ++ Q2).length ≤ 60320 := by rw [List.length_append]; omega
             have HH := Lib.hid (HRD.out.fr (HFT.out wB R1.fr) (fun g hg => (HP.out g hg).2))
             clear R1 K1 hB1 p1 q1 HR2 hv2 HBX1 HBK1)
          | (go_at_call 189; refine (put_more3 HR3.out (f := 189) (args := #[.pointer (some ⟨w.heap.size, 0, none⟩), .pointer (some ⟨gx, 0, none⟩)]) (zs := encHistW x1.h) (fun o2 he ho2 => encHistW_any P _ o2 _ x1.h _ _ HH.out he (by rw [List.length_append]; omega) HXO.out.2.2.2 (fun g hg => by
               have h1 := HP.out g hg
               rintro (rfl | h2)
               · omega
               · rcases ho2 with h3 | ⟨k, h3, hk⟩
                 · exact h1.2 (h2.trans h3)
                 · rw [h3] at h2; injection h2 with h2; omega))).mono ?_; rintro rD wD ⟨rfl, R1, K1⟩
             have HR8 := Lib.hid R1
             have HBK8 := Lib.hid (K1.out _ _ _ (by decide) (by decide) HBK2.out)
             clear R1 K1 HR3 HBK2))
        have HRE : Hid (Put WB w.heap.size (Value.slice a' n' k').ownBlock xs ([9] ++ encHHdr f1 ++ (LO.take (k + 1)).flatMap (fun p => encRhW f1 p.1)) wD) := Lib.hid (by
          rw [flatMap_take_succ' (fun p : Rhs × Value => encRhW f1 p.1) LO k _ HX.out, ← List.append_assoc, HY.out]
          unfold encRhW
          rw [HQ1.out, HQ2.out]
          simpa [List.append_assoc] using HR8.out)
        clear HR8
        go_wp2
        go_roundw
        case rel => exact ⟨k + 1, by omega, by go_num, HRE, HBK8⟩
        case measure => simp [intOf]; omega
      · obtain rfl : k = n := by omega
        obtain ⟨oZ, hEZ, hfZ, hoZ⟩ := HR.out
        have hG := encGet _ _ _ _ hEZ
        have HZ := Lib.hid hfZ
        clear hEZ hfZ
        go_wp2_with (go_at_call 116; refine hG.mono ?_; rintro rr w9 ⟨v2, rfl, rfl, hown2, hv2⟩)
        go_ret
        refine ⟨v2, rfl, ?_, HFT.out _ HZ.out, ?_⟩
        · have e1 : LO.take k = LO := List.take_of_length_le (by rw [HN.out]; exact Nat.le_refl _)
          rw [e1] at hown2
          simpa [List.append_assoc] using hown2
        · rw [hv2]
          rcases hoZ with h | ⟨k2, h, hk2⟩
          · exact .inl h
          · exact .inr ⟨k2, h, by omega⟩


theorem encHistF_len (h : Hst) (k : h.ok) : (encHistF h).length ≤ 5000 := by
  have a1 := zzu_len h.schema (by have := k.s0; omega) (by have := k.s1; omega)
  have a2 := (show (Lib.beBytes 8 h.zc).length ≤ 10 by simp [Lib.beBytes_length])
  have a3 := (show (Lib.beBytes 8 h.cnt).length ≤ 10 by simp [Lib.beBytes_length])
  have a4 := spans_len h.pos 60 k.few.1 (by omega) k.pos
  have a5 := spans_len h.neg 60 k.few.2.1 (by omega) k.neg
  have a6 := bits_len h.fups k.few.2.2.2.2.1
  have a7 := bits_len h.fdowns k.few.2.2.2.2.2.1
  have a8 := cus_len h k
  have a9 : (Lib.beBytes 8 h.thr).length = 8 := by simp [Lib.beBytes_length]
  have a10 : (Lib.beBytes 8 h.sum).length = 8 := by simp [Lib.beBytes_length]
  simp only [encHistF, List.length_append, List.length_singleton]
  omega
def encRhF (f s : Rhs) : List UInt8 := zzu (hRef f s) ++ (zzu (hT f s) ++ encHistF s.h)
theorem encRhF_len (f s : Rhs) (h : s.ok) : (encRhF f s).length ≤ 5020 := by
  have h1 := zzu_len (hRef f s) (wrap64_bd _).1 (wrap64_bd _).2
  have h2 := zzu_len (hT f s) (wrap64_bd _).1 (wrap64_bd _).2
  have h3 := encHistF_len s.h h.2.2.2
  simp only [encRhF, List.length_append]
  omega
/-- The record of the samples q of l. -/
def encRecF (kind : UInt8) (q : Rhs → Bool) : List Rhs → List UInt8
  | [] => [kind]
  | f :: r => [kind] ++ (encHHdr f ++ ((f :: r).filter q).flatMap (encRhF f))

set_option maxRecDepth 100000 in
set_option maxHeartbeats 8000000 in
theorem encCusF_any (ep : Value) (sv : Value) (P : Nat → Prop) (v : Value) (xs : List UInt8) (lo : List (Rhs × Value)) (w : World) (h : RdHF P w sv lo) (hown : w.ownsRow 0 5 1 v xs.length (bc xs)) (hl : xs.length ≤ 536870912)
    (hsl : lo.length ≤ 12) (hwf : ∀ p ∈ lo, p.1.ok) (hP : ∀ g, P g → g < w.heap.size ∧ some g ≠ v.ownBlock) :
    Calls Tryz.prog 100 #[ep, sv, v] w (EncodeEnds w v.ownBlock (xs ++ encRecF 10 (fun _ => true) (lo.map Prod.fst))) := by
  obtain ⟨h, hin⟩ := h
  obtain ⟨A, c, rfl⟩ := h.shape
  obtain ⟨a', n', k', rfl⟩ := own_slice hown
  have hE := Enc.made (z := .int .u8 0) hown _ rfl
  have hQ := putByte w.heap.size _ xs 10 _ hE (by omega)
  have e2 : ((10 : UInt8).toNat : Int) = 10 := rfl
  rw [e2] at hQ
  have hFW : Fr (fun k => some k = (Value.slice a' n' k').ownBlock) w (w.alloc (.cells #[.slice a' n' k', .int .u8 0, .int .u8 0, .int .u8 0, .int .u8 0, .int .u8 0, .int .u8 0, .int .u8 0, .int .u8 0, .int .u8 0, .int .u8 0] 224)) := (Fr.refl _ w).alloc _
  rcases lo with _ | ⟨f, r⟩
  · clear hE hFW e2 h hin hwf
    go_enter Tryz.func100, Tryz.ntmps100
    go_wp2_with (first | (go_at_call 180; refine hQ.mono ?_; rintro r1 w1 ⟨rfl, R⟩; obtain ⟨o1, hE1, hf1, ho1⟩ := R; have hG := encGet _ _ _ _ hE1) | (go_at_call 116; refine hG.mono ?_; rintro r w2 ⟨v2, rfl, rfl, hown2, hv2⟩))
    go_ret
    refine ⟨v2, rfl, by simpa [encRecF] using hown2, made_end (o1 := o1) hf1, ?_⟩
    rw [hv2]
    rcases ho1 with h | ⟨k, h, hk⟩
    · exact .inl h
    · exact .inr ⟨k, h, by simp at hk; omega⟩
  · obtain ⟨n, hn⟩ : ∃ n, (f :: r).length = n := ⟨_, rfl⟩
    rw [hn] at h hsl ⊢
    obtain ⟨LO, hLO⟩ : ∃ LO, f :: r = LO := ⟨_, rfl⟩
    have hn1 : (0 : Int) < (n : Int) := by rw [← hn]; simp
    have hn0 : ((n : Int) == 0) = false := by simp; omega
    have hfm : f ∈ LO := by rw [← hLO]; exact List.mem_cons_self ..
    have hf0 : LO[0]? = some f := by rw [← hLO]; rfl
    have hmap : (f :: r).map Prod.fst = f.1 :: r.map Prod.fst := rfl
    have hwf2 : ∀ p ∈ LO, p.1.ok := by rw [← hLO]; exact hwf
    have hin2 : ∀ p ∈ LO, RdF P w p.1.h p.2 := by rw [← hLO]; exact hin
    rw [hLO] at h hn
    have henc : encRecF 10 (fun _ => true) ((f :: r).map Prod.fst) = [10] ++ (encHHdr f.1 ++ LO.flatMap (fun p => encRhF f.1 p.1)) := by
      rw [← hLO]
      have e1 : ∀ l : List Rhs, l.filter (fun _ => true) = l := fun l => List.filter_eq_self.2 (fun _ _ => rfl)
      rw [hmap, encRecF, e1, List.flatMap_cons, List.flatMap_cons, List.flatMap_map]
    rw [henc]
    obtain ⟨hrf, htf0, htf1, _⟩ := hwf2 f hfm
    obtain ⟨g, off, rfl, hPg, hcell⟩ := h.at (by omega)
    have hg := hP g hPg
    obtain ⟨f1, fv⟩ := f
    simp only [] at hrf htf0 htf1
    have c0 : w.cell? ⟨g, off, none⟩ = some (.int .u64 f1.ref) := hcell 0 _ (by exact flat3 rhc (fun _ => rfl) LO 0 (f1, fv) hf0 0 (by omega))
    have c1 : w.cell? ⟨g, off + 1, none⟩ = some (.int .i64 f1.t) := hcell 1 _ (by exact flat3 rhc (fun _ => rfl) LO 0 (f1, fv) hf0 1 (by omega))
    have c2 : w.cell? ⟨g, off + 2, none⟩ = some fv := hcell 2 _ (by exact flat3 rhc (fun _ => rfl) LO 0 (f1, fv) hf0 2 (by omega))
    obtain ⟨gf, _, hfv, _⟩ := hin2 _ hfm
    simp only [] at hfv
    subst hfv
    have HN := Lib.hid hn
    have HP := Lib.hid hP
    have HE := Lib.hid hE
    have HFW := Lib.hid hFW
    have HCELL := Lib.hid hcell
    have HIN := Lib.hid hin2
    have HWF := Lib.hid hwf2
    clear hE hFW e2 h hin hwf hwf2 hin2 hn hmap henc hcell hLO hfm hf0 hP
    generalize hWB : w.alloc (.cells #[.slice a' n' k', .int .u8 0, .int .u8 0, .int .u8 0, .int .u8 0, .int .u8 0, .int .u8 0, .int .u8 0, .int .u8 0, .int .u8 0, .int .u8 0] 224) = WB at hQ HE HFW
    have hB : w.heap.size < WB.heap.size := by rw [← hWB]; simp
    rw [← hWB] at hQ
    have HWB := Lib.hid hWB
    clear hWB
    go_enter Tryz.func100, Tryz.ntmps100
    go_wp2_with (go_at_call 180; refine hQ.mono ?_; rintro r1 w1 ⟨rfl, R⟩; refine Hid.out ?_)
    rw [HWB.out] at R
    clear hQ HWB
    have HFT := Lib.hid (fun (W : World) (hf : Fr (fun k => k = w.heap.size ∨ some k = (Value.slice a' n' k').ownBlock) WB W) => HFW.out.trans hf (fun k hk e => by
      rcases e with e | e
      · omega
      · exact e))
    have hF1 := HFT.out w1 R.fr
    have d0 : w1.cell? ⟨g, off, none⟩ = some (.int .u64 f1.ref) := by rw [hF1.cell (p := ⟨g, off, none⟩) hg.1 hg.2]; exact c0
    have d1 : w1.cell? ⟨g, off + 1, none⟩ = some (.int .i64 f1.t) := by rw [hF1.cell (p := ⟨g, off + 1, none⟩) hg.1 hg.2]; exact c1
    have d2 : w1.cell? ⟨g, off + 2, none⟩ = some (.pointer (some ⟨gf, 0, none⟩)) := by rw [hF1.cell (p := ⟨g, off + 2, none⟩) hg.1 hg.2]; exact c2
    have HR1 := Lib.hid (R.alloc (.cells #[.int .u64 f1.ref, .int .i64 f1.t, .pointer (some ⟨gf, 0, none⟩)] 298))
    have HBF := Lib.hid (Blk.new w1 298 #[.int .u64 f1.ref, .int .i64 f1.t, .pointer (some ⟨gf, 0, none⟩)])
    have hsz1 := R.fr.size
    clear R hF1 c0 c1 c2
    refine Lib.hid ?_
    go_wp2_with (first
      | (go_at_call 181; refine (put_more2 HR1.out (f := 181) (args := #[.pointer (some ⟨w.heap.size, 0, none⟩), .int .u64 f1.ref]) (zs := Lib.beBytes 8 f1.ref) (fun o2 he => putBE64 _ o2 _ f1.ref hrf _ he (by rw [List.length_append, List.length_singleton]; omega))).mono ?_; rintro r2 w2 ⟨rfl, R2, K2⟩
         have hB2 := K2.out _ _ _ (by decide) (by decide) HBF.out
         have b1 : w2.cell? ⟨w1.heap.size, 1, none⟩ = some (.int .i64 f1.t) := hB2.cell 1
         have HB2 := Lib.hid hB2
         have HR2 := Lib.hid R2
         clear hB2 R2 K2 HR1 d0 d1 d2)
      | (go_at_call 182; refine (put_more2 HR2.out (f := 182) (args := #[.pointer (some ⟨w.heap.size, 0, none⟩), .int .i64 f1.t]) (zs := Lib.beBytes 8 (u64 f1.t)) (fun o2 he => putBE64int64 _ o2 _ f1.t _ he (by simp [Lib.beBytes_length]; omega))).mono ?_; rintro r3 w3 ⟨rfl, R3, K3⟩
         have HB3 := Lib.hid (K3.out _ _ _ (by decide) (by decide) HB2.out)
         have HR3 := Lib.hid R3
         clear R3 K3 HR2 b1 HB2))
    clear HBF
    generalize hbf : w1.heap.size = bf at HB3 hsz1
    clear hbf
    go_loopw [29] (fun i wr => ∃ k : Nat, k ≤ n ∧ i = .int .i64 k ∧ Hid (Put WB w.heap.size (Value.slice a' n' k').ownBlock xs ([10] ++ encHHdr f1 ++ (LO.take k).flatMap (fun p => encRhF f1 p.1)) wr) ∧ Hid (Blk wr bf 298 #[.int .u64 f1.ref, .int .i64 f1.t, .pointer (some ⟨gf, 0, none⟩)])) (fun i _ => n - (intOf i).toNat)
    case atStart => exact ⟨0, Nat.zero_le _, rfl, Lib.hid (by simpa [encHHdr] using HR3.out), HB3⟩
    case round =>
      obtain ⟨k, hk, rfl, HR, HBk⟩ := hrel
      by_cases hlt : k < n
      · obtain ⟨x, hx⟩ : ∃ x, LO[k]? = some x := ⟨_, List.getElem?_eq_getElem (by rw [HN.out]; exact hlt)⟩
        have hxm := List.mem_of_getElem? hx
        have hFk := HFT.out wr HR.out.fr
        have cc : ∀ j, j < 3 → ∀ u, (rhc x)[j]? = some u → wr.cell? ⟨g, off + (k * 3 + j), none⟩ = some u := fun j hj u hu => by
          rw [hFk.cell (p := ⟨g, off + (k * 3 + j), none⟩) hg.1 hg.2]
          exact HCELL.out (k * 3 + j) u (by rw [flat3 rhc (fun _ => rfl) LO k x hx j hj]; exact hu)
        have d0 : wr.cell? ⟨g, off + k * 3, none⟩ = some (.int .u64 x.1.ref) := cc 0 (by omega) _ rfl
        have d1 : wr.cell? ⟨g, off + k * 3 + 1, none⟩ = some (.int .i64 x.1.t) := cc 1 (by omega) _ rfl
        have d2 : wr.cell? ⟨g, off + k * 3 + 2, none⟩ = some x.2 := cc 2 (by omega) _ rfl
        have hrd := HIN.out x hxm
        have hxo := HWF.out x hxm
        obtain ⟨x1, xv⟩ := x
        simp only [] at d0 d1 d2 hrd hxo
        have hrd2 := hrd
        obtain ⟨gx, _, rfl, _⟩ := hrd2
        have b0 : wr.cell? ⟨bf, 0, none⟩ = some (.int .u64 f1.ref) := HBk.out.cell 0
        have b1 : wr.cell? ⟨bf, 1, none⟩ = some (.int .i64 f1.t) := HBk.out.cell 1
        have hbl := HBk.out.lt
        have hyl : ([(10 : UInt8)] ++ encHHdr f1 ++ (LO.take k).flatMap (fun p => encRhF f1 p.1)).length ≤ 17 + k * 5020 := by
          have h1 := take_len_le (fun p : Rhs × Value => encRhF f1 p.1) 5020 LO k (fun p hp => encRhF_len f1 p.1 (HWF.out p hp))
          have h4 : (encHHdr f1).length = 16 := by simp [encHHdr, Lib.beBytes_length]
          rw [List.length_append, List.length_append, h4, List.length_singleton]; omega
        have hk9 : k * 5020 ≤ 12 * 5020 := Nat.mul_le_mul_right _ (by omega)
        obtain ⟨Y, hY⟩ : ∃ Y, [(10 : UInt8)] ++ encHHdr f1 ++ (LO.take k).flatMap (fun p => encRhF f1 p.1) = Y := ⟨_, rfl⟩
        rw [hY] at hyl HR
        have HY := Lib.hid hY
        have HX := Lib.hid hx
        have HBX := Lib.hid (Blk.new wr 298 #[.int .u64 x1.ref, .int .i64 x1.t, .pointer (some ⟨gx, 0, none⟩)])
        have HRA := Lib.hid (HR.out.alloc (.cells #[.int .u64 x1.ref, .int .i64 x1.t, .pointer (some ⟨gx, 0, none⟩)] 298))
        have HBK := Lib.hid (HBk.out.alloc (.cells #[.int .u64 x1.ref, .int .i64 x1.t, .pointer (some ⟨gx, 0, none⟩)] 298))
        have hyl2 : Y.length ≤ 60300 := by omega
        obtain ⟨Q1, hQ1⟩ : ∃ Q, zzu (hRef f1 x1) = Q := ⟨_, rfl⟩
        obtain ⟨Q2, hQ2⟩ : ∃ Q, zzu (hT f1 x1) = Q := ⟨_, rfl⟩
        have hl1 := zzu_len (hRef f1 x1) (wrap64_bd _).1 (wrap64_bd _).2
        have hl2 := zzu_len (hT f1 x1) (wrap64_bd _).1 (wrap64_bd _).2
        rw [hQ1] at hl1
        rw [hQ2] at hl2
        have HQ1 := Lib.hid hQ1
        have HQ2 := Lib.hid hQ2
        have HRD := Lib.hid hrd
        have HXO := Lib.hid hxo
        clear hx hFk cc hY hyl hk9 hQ1 hQ2 hxm hrd hxo HR HBk
        go_wp2_with (first
          | (go_at_call 183; refine (put_more2 HRA.out (f := 183) (args := #[.pointer (some ⟨w.heap.size, 0, none⟩), .int .i64 (hRef f1 x1)]) (zs := Q1) (fun o2 he => by have := putVarint64 _ o2 _ (hRef f1 x1) (wrap64_bd _).1 (wrap64_bd _).2 _ he (by rw [List.length_append]; omega); rw [show Lib.uvarint (Lib.zigzag (hRef f1 x1)) = Q1 from HQ1.out] at this; exact this)).mono ?_; rintro rA wA ⟨rfl, R1, K1⟩
             have hB1 := K1.out _ _ _ (by decide) (by decide) HBX.out
             have hB2 := K1.out _ _ _ (by decide) (by decide) HBK.out
             have p1 : wA.cell? ⟨wr.heap.size, 1, none⟩ = some (.int .i64 x1.t) := hB1.cell 1
             have q1 : wA.cell? ⟨bf, 1, none⟩ = some (.int .i64 f1.t) := hB2.cell 1
             have HBX1 := Lib.hid hB1
             have HBK1 := Lib.hid hB2
             have HR2 := Lib.hid R1
             have hv2 : (Y ++ Q1).length ≤ 60310 := by rw [List.length_append]; omega
             clear R1 K1 hB1 hB2 HRA b0 b1 HBX HBK)
          | (go_at_call 183; refine (put_more2 HR2.out (f := 183) (args := #[.pointer (some ⟨w.heap.size, 0, none⟩), .int .i64 (hT f1 x1)]) (zs := Q2) (fun o2 he => by have := putVarint64 _ o2 _ (hT f1 x1) (wrap64_bd _).1 (wrap64_bd _).2 _ he (by rw [List.length_append]; omega); rw [show Lib.uvarint (Lib.zigzag (hT f1 x1)) = Q2 from HQ2.out] at this; exact this)).mono ?_; rintro rB wB ⟨rfl, R1, K1⟩
             have hB1 := K1.out _ _ _ (by decide) (by decide) HBX1.out
             have HBK2 := Lib.hid (K1.out _ _ _ (by decide) (by decide) HBK1.out)
             have p2 : wB.cell? ⟨wr.heap.size, 2, none⟩ = some (.pointer (some ⟨gx, 0, none⟩)) := hB1.cell 2
             have HR3 := Lib.hid R1
             have hv3 : (Y ++ Q1 ++ Q2).length ≤ 60320 := by rw [List.length_append]; omega
             have HH := Lib.hid (HRD.out.fr (HFT.out wB R1.fr) (fun g hg => (HP.out g hg).2))
             clear R1 K1 hB1 p1 q1 HR2 hv2 HBX1 HBK1)
          | (go_at_call 192; refine (put_more3 HR3.out (f := 192) (args := #[.pointer (some ⟨w.heap.size, 0, none⟩), .pointer (some ⟨gx, 0, none⟩)]) (zs := encHistF x1.h) (fun o2 he ho2 => encHistF_any P _ o2 _ x1.h _ _ HH.out he (by rw [List.length_append]; omega) HXO.out.2.2.2 (fun g hg => by
               have h1 := HP.out g hg
               rintro (rfl | h2)
               · omega
               · rcases ho2 with h3 | ⟨k, h3, hk⟩
                 · exact h1.2 (h2.trans h3)
                 · rw [h3] at h2; injection h2 with h2; omega))).mono ?_; rintro rD wD ⟨rfl, R1, K1⟩
             have HR8 := Lib.hid R1
             have HBK8 := Lib.hid (K1.out _ _ _ (by decide) (by decide) HBK2.out)
             clear R1 K1 HR3 HBK2))
        have HRE : Hid (Put WB w.heap.size (Value.slice a' n' k').ownBlock xs ([10] ++ encHHdr f1 ++ (LO.take (k + 1)).flatMap (fun p => encRhF f1 p.1)) wD) := Lib.hid (by
          rw [flatMap_take_succ' (fun p : Rhs × Value => encRhF f1 p.1) LO k _ HX.out, ← List.append_assoc, HY.out]
          unfold encRhF
          rw [HQ1.out, HQ2.out]
          simpa [List.append_assoc] using HR8.out)
        clear HR8
        go_wp2
        go_roundw
        case rel => exact ⟨k + 1, by omega, by go_num, HRE, HBK8⟩
        case measure => simp [intOf]; omega
      · obtain rfl : k = n := by omega
        obtain ⟨oZ, hEZ, hfZ, hoZ⟩ := HR.out
        have hG := encGet _ _ _ _ hEZ
        have HZ := Lib.hid hfZ
        clear hEZ hfZ
        go_wp2_with (go_at_call 116; refine hG.mono ?_; rintro rr w9 ⟨v2, rfl, rfl, hown2, hv2⟩)
        go_ret
        refine ⟨v2, rfl, ?_, HFT.out _ HZ.out, ?_⟩
        · have e1 : LO.take k = LO := List.take_of_length_le (by rw [HN.out]; exact Nat.le_refl _)
          rw [e1] at hown2
          simpa [List.append_assoc] using hown2
        · rw [hv2]
          rcases hoZ with h | ⟨k2, h, hk2⟩
          · exact .inl h
          · exact .inr ⟨k2, h, by omega⟩

end Go.Proofs.YtbkookiigkckdaaGreatDoor

/- Series: impl.refSeries 69. Printed by gen_ns.py. -/
namespace Go.Proofs.YtbkookiigkckdaaGreatDoor
open Go.RowKit
set_option linter.unusedVariables false
set_option linter.unusedSimpArgs false

/-- A part of a record of series. -/
structure Ser where
  ref : Nat
  labs : List Lab
def serc (p : Ser × Value) : List Value := [.int .u64 p.1.ref, p.2]
/-- A slice that reads as series. -/
def SlR (P : Nat → Prop) (w : World) (v : Value) (lv : List (Ser × Value)) : Prop :=
  Sl P w v 2 lv.length (lv.flatMap serc) ∧ ∀ p ∈ lv, Sl P w p.2 2 p.1.labs.length (p.1.labs.flatMap labc)
theorem SlR.fr {P S : Nat → Prop} {w w' : World} {v : Value} {lv : List (Ser × Value)} (h : SlR P w v lv) (hf : Fr S w w') (hs : ∀ g, P g → ¬ S g) : SlR P w' v lv :=
  ⟨h.1.fr hf hs, fun p hp => (h.2 p hp).fr hf hs⟩
/-- A series as the package keeps it. -/
def sero (x : Ser) : List Value := [.int .u64 x.ref, .string (labStr (sortL x.labs))]
theorem Tryz.info127 : (Tryz.prog.info? 127).map (fun i => (i.zero, i.size, i.bytes)) = some (some (.agg #[.int .u64 0, .string ⟨#[]⟩]), 2, 24) := by kernel_rfl

theorem made_ok (P : Nat → Prop) (v : Value) (l : List Lab) (w : World) (h : Sl P w v 2 l.length (l.flatMap labc)) (hl : LabOk l 12 600) :
    Calls Tryz.prog 54 #[v] w fun r w' => r = .returned (.agg #[.string (labStr (sortL l))]) ∧ Fr (fun _ => False) w w' := by
  refine (made_any P v l w h hl.1 (fun p hp => by have := hl.2.1 p hp; omega)).mono ?_
  rintro r w' ⟨l', h1, h2, rfl, hf⟩
  exact ⟨by rw [sorted_same l l' h1 h2 hl.2.2], hf⟩

def RefSeriesEnds (w : World) (l : List Ser) (r : Ending) (w' : World) : Prop :=
  ∃ v, r = .returned v ∧ w'.ownsRow w.heap.size 127 2 v l.length (l.flatMap sero) ∧ Fr (fun _ => False) w w'

set_option maxHeartbeats 4000000 in
set_option maxRecDepth 100000 in
theorem refSeries_any (P : Nat → Prop) (v : Value) (lv : List (Ser × Value)) (w : World) (h : SlR P w v lv) (hl : lv.length ≤ 1099511627776) (hil : ∀ p ∈ lv, LabOk p.1.labs 12 600) :
    Calls Tryz.prog 69 #[v] w (RefSeriesEnds w (lv.map Prod.fst)) := by
  have mixed : Tryz.prog.follows .mixedOrders = true := by kernel_rfl
  obtain ⟨⟨A, c, rfl, hlen, hnc, hr⟩, hin⟩ := h
  obtain ⟨n, hn⟩ : ∃ n, lv.length = n := ⟨_, rfl⟩
  rw [hn] at hr hnc hl ⊢
  have HN := Lib.hid hn
  have HR := Lib.hid hr
  have HI := Lib.hid hin
  have HIL := Lib.hid hil
  obtain ⟨i0, hi0, hz0, hz1, hz2⟩ := info_parts Tryz.info127
  clear hn hr hlen hin hil
  go_enter Tryz.func69, Tryz.ntmps69
  go_wp2
  go_loopw [2, 7] (fun v i wr => ∃ k : Nat, k ≤ n ∧ i = .int .i64 k ∧ Hid (wr.ownsRow w.heap.size 127 2 v k (((lv.map Prod.fst).take k).flatMap sero)) ∧ Hid (Fr (fun _ => False) w wr)) (fun _ i _ => n - (intOf i).toNat)
  case atStart => exact ⟨0, Nat.zero_le _, rfl, Lib.hid (World.ownsRow_nil _ _ _ _), Lib.hid (Fr.refl _ _)⟩
  case round =>
    obtain ⟨k, hk, rfl, HO, HF⟩ := hrel
    by_cases hlt : k < n
    · obtain ⟨g, off, rfl, _, hcell⟩ := HR.out (by omega)
      obtain ⟨x, hx⟩ : ∃ x, lv[k]? = some x := ⟨_, List.getElem?_eq_getElem (by rw [HN.out]; exact hlt)⟩
      have cc : ∀ j, j < 2 → ∀ u, (serc x)[j]? = some u → wr.cell? ⟨g, off + (k * 2 + j), none⟩ = some u := fun j hj u hu => by
        have := hcell (k * 2 + j) u (by rw [flat2 serc (fun _ => rfl) lv k x hx j hj]; exact hu)
        rw [HF.out.cell (p := ⟨g, off + (k * 2 + j), none⟩) (World.block_lt_of_cell? w _ this) (fun e => e)]
        exact this
      have c0 : wr.cell? ⟨g, off + k * 2, none⟩ = some (.int .u64 x.1.ref) := cc 0 (by omega) _ rfl
      have c1 : wr.cell? ⟨g, off + k * 2 + 1, none⟩ = some x.2 := cc 1 (by omega) _ rfl
      have hxm := List.mem_of_getElem? hx
      have hiv := HI.out x hxm
      have hivl := HIL.out x hxm
      have hxf : (lv.map Prod.fst)[k]? = some x.1 := by rw [List.getElem?_map, hx]; rfl
      obtain ⟨⟨ref, labs⟩, iv⟩ := x
      simp only [] at c0 c1 hiv hivl hxf
      have hiv1 : ∃ A m c, iv = .slice A m c := let ⟨A, c, h, _⟩ := hiv; ⟨A, _, c, h⟩
      obtain ⟨Ai, mi, ci, rfl⟩ := hiv1
      have HX := Lib.hid hxf
      obtain ⟨a', n', k', rfl⟩ := own_slice HO.out
      clear hcell cc hx hxm hxf
      go_wp2_with fail
      have hB8 := Blk.new wr 130 #[.int .u64 ref, .slice Ai mi ci]
      have s0 := hB8.cell 0
      have s1 := hB8.cell 1
      simp only [List.getElem?_toArray, List.getElem?_cons_zero, List.getElem?_cons_succ] at s0 s1
      have hsz := HF.out.size
      have HB8 := Lib.hid hB8
      have hC := made_ok P (.slice Ai mi ci) labs (wr.alloc (.cells #[.int .u64 ref, .slice Ai mi ci] 130)).drew (hiv.fr (HF.out.alloc _).drew (fun _ _ e => e)) hivl
      obtain ⟨st, hst⟩ : ∃ st, labStr (sortL labs) = st := ⟨_, rfl⟩
      rw [hst] at hC
      have HST := Lib.hid hst
      clear hB8 hiv hst hivl
      have hwz : (wr.alloc (.cells #[.int .u64 ref, .slice Ai mi ci] 130)).drew.heap.size = wr.heap.size + 1 := by simp
      go_region_held3 (fun w' => w'.cell? ⟨wr.heap.size, 0, none⟩ = some (.int .u64 ref) ∧ w'.cell? ⟨wr.heap.size, 1, none⟩ = some (.slice Ai mi ci))
        ((first | (go_split_ands; refine ⟨?_, ?_⟩ <;> first | exact KX9.out.cell 0 | exact KX9.out.cell 1) | (go_split_ands; refine ⟨?_, ?_⟩ <;> first | exact (KX5.out.alloc _).cell 0 | exact (KX5.out.alloc _).cell 1) | (go_split_ands; refine ⟨?_, ?_⟩ <;> first | exact KX5.out.cell 0 | exact KX5.out.cell 1) | go_keep))
        ((first
          | (go_at_call 54; refine hC.mono ?_; rintro r5 w5 ⟨rfl, hf5⟩; have KX5 := Lib.hid (HB8.out.drew.fr hf5 (fun e => e)); have F5 := Lib.hid (((Fr.refl (fun _ => False) wr).alloc (.cells #[.int .u64 ref, .slice Ai mi ci] 130)).drew.same hf5); have O5 := Lib.hid (own_fr HO.out F5.out (fun _ _ e => e)); have hz5 := F5.out.size)
          | (refine step_append_src _ (by rfl) _ _ 121 121 (by rfl) w.heap.size 127 i0 _ 2 24 Tryz.underlying121 hi0 hz0 hz1 hz2 rfl (by decide) (.slice a' n' k') k (((lv.map Prod.fst).take k).flatMap sero) (by rfl) (O5.out.alloc _) _ 1 [.int .u64 ref, .string st] (by rfl) (src_blk Tryz.underlying121 (Blk.new w5 127 #[.int .u64 ref, .string st]) rfl (by simp [Value.oneCell'])) (by unfold maxLen; omega) (by omega) (by simp; omega) ?_; intro v' w2 hown' hgrow hat; have KX9 := Lib.hid ((KX5.out.alloc (.cells #[.int .u64 ref, .string st] 127)).grown hgrow (fun e => Nat.lt_irrefl _ (own_lt HO.out e.symm))))))
      have NO : Hid (w2.ownsRow w.heap.size 127 2 v' (k + 1) (((lv.map Prod.fst).take (k + 1)).flatMap sero)) := Lib.hid (by
        rw [flatMap_take_succ sero _ k _ HX.out]
        unfold sero
        rw [HST.out]
        exact hown')
      have NF : Hid (Fr (fun _ => False) w w2) := Lib.hid (((HF.out.same F5.out).alloc _).grown hgrow (fun g hg => .inr ((HO.out.lt g hg).1)))
      clear hown' hgrow hat c0 c1 s0 s1 hC hf5 KX9 O5
      go_wp2
      go_roundw
      case rel => exact ⟨k + 1, by omega, by go_num, NO, NF⟩
      case measure => simp [intOf]; omega
    · go_wp2
      go_ret
      obtain rfl : k = n := by omega
      have h := HO.out
      have e : (lv.map Prod.fst).take k = lv.map Prod.fst := List.take_of_length_le (by rw [List.length_map, HN.out]; exact Nat.le_refl _)
      rw [e] at h
      refine ⟨_, rfl, ?_, HF.out⟩
      rw [List.length_map, HN.out]
      exact h
end Go.Proofs.YtbkookiigkckdaaGreatDoor

