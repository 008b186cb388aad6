/- Texts of this seat, merged: H10. -/
import Derived.Test.YtbkookiigkckdaaGreatDoorK16
import Derived.Test.YtbkookiigkckdaaGreatDoorK17
import Derived.Test.YtbkookiigkckdaaGreatDoorK11
/- Histograms: spec.short 89, spec.Custom 36. Printed by gen_h10.py. -/
namespace Go.Proofs.YtbkookiigkckdaaGreatDoor
open Go.RowKit
set_option linter.unusedVariables false
set_option linter.unusedSimpArgs false

def Hst.total (h : Hst) : Nat := h.pos.length + h.neg.length + h.ups.length + h.downs.length + h.fups.length + h.fdowns.length + h.cus.length
/-- What spec.short asks. -/
def ShortH (fl : Bool) (h : Hst) : Prop :=
  h.total ≤ 60 ∧ (h.schema = -53 ∨ (-4 ≤ h.schema ∧ h.schema ≤ 8 ∧ h.cus.length = 0)) ∧ (if fl then h.ups.length + h.downs.length = 0 else h.fups.length + h.fdowns.length = 0)


set_option maxHeartbeats 2000000 in
set_option maxRecDepth 100000 in
theorem short_raw (fl : Bool) (hint : UInt8) (schema : Int) (thr sum zc cnt : Nat) (A1 A2 A3 A4 A5 A6 A7 : Option Addr) (n1 n2 n3 n4 n5 n6 n7 c1 c2 c3 c4 c5 c6 c7 : Nat) (w : World) (p : Prop) (hp : p ↔ (n1 + n2 + n3 + n4 + n5 + n6 + n7 ≤ 60 ∧ (schema = -53 ∨ (-4 ≤ schema ∧ schema ≤ 8 ∧ n7 = 0)) ∧ (if fl then n3 + n4 = 0 else n5 + n6 = 0)))
    (h1 : n1 ≤ 1099511627776) (h2 : n2 ≤ 1099511627776) (h3 : n3 ≤ 1099511627776) (h4 : n4 ≤ 1099511627776) (h5 : n5 ≤ 1099511627776) (h6 : n6 ≤ 1099511627776) (h7 : n7 ≤ 1099511627776) :
    Calls Tryz.prog 89 #[.agg #[.int .u8 hint.toNat, .int .i32 schema, .int .u64 thr, .int .u64 sum, .int .u64 zc, .int .u64 cnt, .slice A1 n1 c1, .slice A2 n2 c2, .slice A3 n3 c3, .slice A4 n4 c4, .slice A5 n5 c5, .slice A6 n6 c6, .slice A7 n7 c7], .bool fl] w (BoolEnds p w) := by
  have HP := Lib.hid hp
  clear hp
  by_cases ht : n1 + n2 + n3 + n4 + n5 + n6 + n7 ≤ 60
  · have hx : ¬ (60 : Int) < (n1 : Int) + n2 + n3 + n4 + n5 + n6 + n7 := by omega
    have HT := Lib.hid ht
    clear ht
    by_cases hs : schema = -53
    · subst hs
      cases fl
      · by_cases he : n5 + n6 = 0
        · have HE := Lib.hid he
          have hz : ((n5 : Int) + n6 == 0) = true := by simp; omega
          clear he
          go_enter Tryz.func89, Tryz.ntmps89
          go_wp2
          go_ret
          refine ⟨_, rfl, ?_, (Fr.refl _ w).alloc _⟩
          rw [HP.out]
          exact iff_of_true (by first | rfl | exact hz | (simp <;> omega) | (simp at hz ⊢; omega)) ⟨HT.out, .inl (by first | rfl | trivial), by simpa using HE.out⟩
        · have HE := Lib.hid he
          have hz : ((n5 : Int) + n6 == 0) = false := by simp; omega
          clear he
          go_enter Tryz.func89, Tryz.ntmps89
          go_wp2
          go_ret
          refine ⟨_, rfl, ?_, (Fr.refl _ w).alloc _⟩
          rw [HP.out]
          exact iff_of_false (by first | (intro h; cases h; done) | (rw [hz]; decide) | (simp <;> omega) | (simp at hz ⊢; omega)) (fun h => absurd h.2.2 (by simpa using HE.out))
      · by_cases he : n3 + n4 = 0
        · have HE := Lib.hid he
          have hz : ((n3 : Int) + n4 == 0) = true := by simp; omega
          clear he
          go_enter Tryz.func89, Tryz.ntmps89
          go_wp2
          go_ret
          refine ⟨_, rfl, ?_, (Fr.refl _ w).alloc _⟩
          rw [HP.out]
          exact iff_of_true (by first | rfl | exact hz | (simp <;> omega) | (simp at hz ⊢; omega)) ⟨HT.out, .inl (by first | rfl | trivial), by simpa using HE.out⟩
        · have HE := Lib.hid he
          have hz : ((n3 : Int) + n4 == 0) = false := by simp; omega
          clear he
          go_enter Tryz.func89, Tryz.ntmps89
          go_wp2
          go_ret
          refine ⟨_, rfl, ?_, (Fr.refl _ w).alloc _⟩
          rw [HP.out]
          exact iff_of_false (by first | (intro h; cases h; done) | (rw [hz]; decide) | (simp <;> omega) | (simp at hz ⊢; omega)) (fun h => absurd h.2.2 (by simpa using HE.out))
    · have hs2 : (schema != -53) = true := by simpa using hs
      have HS := Lib.hid hs
      clear hs
      by_cases hlo : schema < -4
      · have HA := Lib.hid hlo
        go_enter Tryz.func89, Tryz.ntmps89
        go_wp2
        go_ret
        refine ⟨_, rfl, ?_, (Fr.refl _ w).alloc _⟩
        rw [HP.out]
        exact iff_of_false (by intro h; cases h) (fun h => by have := HS.out; have := HA.out; rcases h.2.1 with h | h <;> omega)
      · by_cases hhi : 8 < schema
        · have HA := Lib.hid hhi
          go_enter Tryz.func89, Tryz.ntmps89
          go_wp2
          go_ret
          refine ⟨_, rfl, ?_, (Fr.refl _ w).alloc _⟩
          rw [HP.out]
          exact iff_of_false (by intro h; cases h) (fun h => by have := HS.out; have := HA.out; rcases h.2.1 with h | h <;> omega)
        · by_cases h70 : (0 : Int) < (n7 : Int)
          · have HA := Lib.hid h70
            go_enter Tryz.func89, Tryz.ntmps89
            go_wp2
            go_ret
            refine ⟨_, rfl, ?_, (Fr.refl _ w).alloc _⟩
            rw [HP.out]
            exact iff_of_false (by intro h; cases h) (fun h => by have := HS.out; have := HA.out; rcases h.2.1 with h | h <;> omega)
          · have HOK : Hid (-4 ≤ schema ∧ schema ≤ 8 ∧ n7 = 0) := Lib.hid ⟨by omega, by omega, by omega⟩
            cases fl
            · by_cases he : n5 + n6 = 0
              · have HE := Lib.hid he
                have hz : ((n5 : Int) + n6 == 0) = true := by simp; omega
                clear he
                go_enter Tryz.func89, Tryz.ntmps89
                go_wp2
                go_ret
                refine ⟨_, rfl, ?_, (Fr.refl _ w).alloc _⟩
                rw [HP.out]
                exact iff_of_true (by first | rfl | exact hz | (simp <;> omega) | (simp at hz ⊢; omega)) ⟨HT.out, .inr HOK.out, by simpa using HE.out⟩
              · have HE := Lib.hid he
                have hz : ((n5 : Int) + n6 == 0) = false := by simp; omega
                clear he
                go_enter Tryz.func89, Tryz.ntmps89
                go_wp2
                go_ret
                refine ⟨_, rfl, ?_, (Fr.refl _ w).alloc _⟩
                rw [HP.out]
                exact iff_of_false (by first | (intro h; cases h; done) | (rw [hz]; decide) | (simp <;> omega) | (simp at hz ⊢; omega)) (fun h => absurd h.2.2 (by simpa using HE.out))
            · by_cases he : n3 + n4 = 0
              · have HE := Lib.hid he
                have hz : ((n3 : Int) + n4 == 0) = true := by simp; omega
                clear he
                go_enter Tryz.func89, Tryz.ntmps89
                go_wp2
                go_ret
                refine ⟨_, rfl, ?_, (Fr.refl _ w).alloc _⟩
                rw [HP.out]
                exact iff_of_true (by first | rfl | exact hz | (simp <;> omega) | (simp at hz ⊢; omega)) ⟨HT.out, .inr HOK.out, by simpa using HE.out⟩
              · have HE := Lib.hid he
                have hz : ((n3 : Int) + n4 == 0) = false := by simp; omega
                clear he
                go_enter Tryz.func89, Tryz.ntmps89
                go_wp2
                go_ret
                refine ⟨_, rfl, ?_, (Fr.refl _ w).alloc _⟩
                rw [HP.out]
                exact iff_of_false (by first | (intro h; cases h; done) | (rw [hz]; decide) | (simp <;> omega) | (simp at hz ⊢; omega)) (fun h => absurd h.2.2 (by simpa using HE.out))
  · have hx : (60 : Int) < (n1 : Int) + n2 + n3 + n4 + n5 + n6 + n7 := by omega
    have HT := Lib.hid ht
    clear ht
    go_enter Tryz.func89, Tryz.ntmps89
    go_wp2
    go_ret
    refine ⟨_, rfl, ?_, (Fr.refl _ w).alloc _⟩
    rw [HP.out]
    exact iff_of_false (by intro h; cases h) (fun h => absurd h.1 HT.out)

theorem short_any (fl : Bool) (P : Nat → Prop) (h : Hst) (s : Hsl) (w : World) (hs : SlHs P w h s) (hl : h.few 1099511627776) :
    Calls Tryz.prog 89 #[.agg (hic h s).toArray, .bool fl] w (BoolEnds (ShortH fl h) w) := by
  obtain ⟨z1, z2, z3, z4, z5, z6, z7⟩ := hs
  obtain ⟨sp, sn, su, sd, sfu, sfd, sc⟩ := s
  obtain ⟨l1, l2, l3, l4, l5, l6, l7⟩ := hl
  simp only [] at z1 z2 z3 z4 z5 z6 z7
  obtain ⟨A1, c1, rfl⟩ := z1.shape
  obtain ⟨A2, c2, rfl⟩ := z2.shape
  obtain ⟨A3, c3, rfl⟩ := z3.shape
  obtain ⟨A4, c4, rfl⟩ := z4.shape
  obtain ⟨A5, c5, rfl⟩ := z5.shape
  obtain ⟨A6, c6, rfl⟩ := z6.shape
  obtain ⟨A7, c7, rfl⟩ := z7.shape
  exact short_raw fl h.hint h.schema h.thr h.sum h.zc h.cnt A1 A2 A3 A4 A5 A6 A7 _ _ _ _ _ _ _ c1 c2 c3 c4 c5 c6 c7 w _ Iff.rfl l1 l2 l3 l4 l5 l6 l7


/-- What spec.Custom keeps. -/
def keepsC (c : Bool) (p : Rhs × Hsl) : Bool := isCus p.1 == c
def CustomEnds (w : World) (lc : List (Rhs × Hsl)) (r : Ending) (w' : World) : Prop :=
  ∃ v, r = .returned v ∧ w'.ownsRow w.heap.size 194 15 v lc.length (lc.flatMap hsc) ∧ Fr (fun _ => False) w w'

set_option maxHeartbeats 4000000 in
set_option maxRecDepth 100000 in
theorem custom_any (c : Bool) (P : Nat → Prop) (v : Value) (lv : List (Rhs × Hsl)) (w : World) (h : SlH P w v lv) (hl : lv.length ≤ 1048576) :
    Calls Tryz.prog 36 #[v, .bool c] w (CustomEnds w (lv.filter (keepsC c))) := by
  obtain ⟨⟨A, cp, rfl, hlen, hnc, hr⟩, hin⟩ := h
  obtain ⟨n, hn⟩ : ∃ n, lv.length = n := ⟨_, rfl⟩
  rw [hn] at hr hnc hl ⊢
  have HN := Lib.hid hn
  have HR := Lib.hid hr
  have HI := Lib.hid hin
  obtain ⟨i0, hi0, hz0, hz1, hz2⟩ := info_parts Tryz.info194
  clear hn hr hlen hin
  go_enter Tryz.func36, Tryz.ntmps36
  go_wp2
  go_loopw [5, 6] (fun v i wr => ∃ (k m : Nat), k ≤ n ∧ i = .int .i64 k ∧ m ≤ k ∧ Hid (((lv.take k).filter (keepsC c)).length = m) ∧ Hid (wr.ownsRow w.heap.size 194 15 v m (((lv.take k).filter (keepsC c)).flatMap hsc)) ∧ Hid (Fr (fun _ => False) w wr)) (fun _ i _ => n - (intOf i).toNat)
  case atStart => exact ⟨0, 0, Nat.zero_le _, rfl, Nat.le_refl _, Lib.hid rfl, Lib.hid (World.ownsRow_nil _ _ _ _), Lib.hid (Fr.refl _ _)⟩
  case round =>
    obtain ⟨k, m, hk, rfl, hmk, HM, HO, HF⟩ := hrel
    by_cases hlt : k < n
    · obtain ⟨g, off, rfl, _, hcell⟩ := HR.out (by omega)
      obtain ⟨x, hx⟩ : ∃ x, lv[k]? = some x := ⟨_, List.getElem?_eq_getElem (by rw [HN.out]; exact hlt)⟩
      have cc : ∀ j, j < 15 → ∀ u, (hsc x)[j]? = some u → wr.cell? ⟨g, off + (k * 15 + j), none⟩ = some u := fun j hj u hu => by
        have := hcell (k * 15 + j) u (by rw [flatN 15 hsc (fun _ => rfl) lv k x hx j hj]; exact hu)
        rw [HF.out.cell (p := ⟨g, off + (k * 15 + j), none⟩) (World.block_lt_of_cell? w _ this) (fun e => e)]
        exact this
      have c00 : wr.cell? ⟨g, off + k * 15, none⟩ = some (.int .u64 x.1.ref) := cc 0 (by omega) _ rfl
      have c10 : wr.cell? ⟨g, off + k * 15 + 1, none⟩ = some (.int .i64 x.1.t) := cc 1 (by omega) _ rfl
      have c20 : wr.cell? ⟨g, off + k * 15 + 2, none⟩ = some (.int .u8 x.1.h.hint.toNat) := cc 2 (by omega) _ rfl
      have c30 : wr.cell? ⟨g, off + k * 15 + 3, none⟩ = some (.int .i32 x.1.h.schema) := cc 3 (by omega) _ rfl
      have c40 : wr.cell? ⟨g, off + k * 15 + 4, none⟩ = some (.int .u64 x.1.h.thr) := cc 4 (by omega) _ rfl
      have c50 : wr.cell? ⟨g, off + k * 15 + 5, none⟩ = some (.int .u64 x.1.h.sum) := cc 5 (by omega) _ rfl
      have c60 : wr.cell? ⟨g, off + k * 15 + 6, none⟩ = some (.int .u64 x.1.h.zc) := cc 6 (by omega) _ rfl
      have c70 : wr.cell? ⟨g, off + k * 15 + 7, none⟩ = some (.int .u64 x.1.h.cnt) := cc 7 (by omega) _ rfl
      have c80 : wr.cell? ⟨g, off + k * 15 + 8, none⟩ = some x.2.p := cc 8 (by omega) _ rfl
      have c90 : wr.cell? ⟨g, off + k * 15 + 9, none⟩ = some x.2.n := cc 9 (by omega) _ rfl
      have c100 : wr.cell? ⟨g, off + k * 15 + 10, none⟩ = some x.2.u := cc 10 (by omega) _ rfl
      have c110 : wr.cell? ⟨g, off + k * 15 + 11, none⟩ = some x.2.d := cc 11 (by omega) _ rfl
      have c120 : wr.cell? ⟨g, off + k * 15 + 12, none⟩ = some x.2.fu := cc 12 (by omega) _ rfl
      have c130 : wr.cell? ⟨g, off + k * 15 + 13, none⟩ = some x.2.fd := cc 13 (by omega) _ rfl
      have c140 : wr.cell? ⟨g, off + k * 15 + 14, none⟩ = some x.2.c := cc 14 (by omega) _ rfl
      have hiv := HI.out x (List.mem_of_getElem? hx)
      have HX := Lib.hid hx
      rcases hkc : keepsC c x with _ | _
      · have hee : ((x.1.h.schema == -53) == c) = false := hkc
        have HK := Lib.hid hkc
        clear hcell cc hx hiv hkc
        go_wp2
        go_roundw
        case rel => exact ⟨k + 1, m, by omega, by go_num, by omega, Lib.hid (by rw [filt_no (keepsC c) lv k x HX.out HK.out]; exact HM.out), Lib.hid (by rw [filt_no (keepsC c) lv k x HX.out HK.out]; exact HO.out), HF⟩
        case measure => simp [intOf]; omega
      · have hee : ((x.1.h.schema == -53) == c) = true := hkc
        have HK := Lib.hid hkc
        have hsz := HF.out.size
        obtain ⟨y, hy⟩ : ∃ y, y = x := ⟨_, rfl⟩
        rw [← hy] at HX HK
        have HY := Lib.hid hy
        clear hkc hy
        obtain ⟨⟨ref, t, ⟨hint, schema, thr, sum, zc, cnt, pos, neg, ups, downs, fups, fdowns, cus⟩⟩, ⟨sp, sn, su, sd, sfu, sfd, sc⟩⟩ := x
        obtain ⟨z1, z2, z3, z4, z5, z6, z7⟩ := hiv
        simp only [] at c00 c10 c20 c30 c40 c50 c60 c70 c80 c90 c100 c110 c120 c130 c140 hee z1 z2 z3 z4 z5 z6 z7
        obtain ⟨A1, c1, rfl⟩ := z1.shape
        obtain ⟨A2, c2, rfl⟩ := z2.shape
        obtain ⟨A3, c3, rfl⟩ := z3.shape
        obtain ⟨A4, c4, rfl⟩ := z4.shape
        obtain ⟨A5, c5, rfl⟩ := z5.shape
        obtain ⟨A6, c6, rfl⟩ := z6.shape
        obtain ⟨A7, c7, rfl⟩ := z7.shape
        obtain ⟨m1, e1⟩ : ∃ n, pos.length = n := ⟨_, rfl⟩
        rw [e1] at c80
        obtain ⟨m2, e2⟩ : ∃ n, neg.length = n := ⟨_, rfl⟩
        rw [e2] at c90
        obtain ⟨m3, e3⟩ : ∃ n, ups.length = n := ⟨_, rfl⟩
        rw [e3] at c100
        obtain ⟨m4, e4⟩ : ∃ n, downs.length = n := ⟨_, rfl⟩
        rw [e4] at c110
        obtain ⟨m5, e5⟩ : ∃ n, fups.length = n := ⟨_, rfl⟩
        rw [e5] at c120
        obtain ⟨m6, e6⟩ : ∃ n, fdowns.length = n := ⟨_, rfl⟩
        rw [e6] at c130
        obtain ⟨m7, e7⟩ : ∃ n, cus.length = n := ⟨_, rfl⟩
        rw [e7] at c140
        have HE := Lib.hid (And.intro e1 (And.intro e2 (And.intro e3 (And.intro e4 (And.intro e5 (And.intro e6 e7))))))
        obtain ⟨a', n', k', rfl⟩ := own_slice HO.out
        clear hcell cc hx z1 z2 z3 z4 z5 z6 z7 e1 e2 e3 e4 e5 e6 e7
        go_wp2_with (at_builtin; refine Hid.out ?_)
        refine Lib.hid ?_
        refine wpList_append_src _ rfl _ _ 52 52 rfl w.heap.size 194 i0 _ 15 224 Tryz.underlying52 hi0 hz0 hz1 hz2 rfl (by decide) _ m (((lv.take k).filter (keepsC c)).flatMap hsc) rfl (HO.out.alloc _) _ 1 [.int .u64 ref, .int .i64 t, .int .u8 hint.toNat, .int .i32 schema, .int .u64 thr, .int .u64 sum, .int .u64 zc, .int .u64 cnt, .slice A1 m1 c1, .slice A2 m2 c2, .slice A3 m3 c3, .slice A4 m4 c4, .slice A5 m5 c5, .slice A6 m6 c6, .slice A7 m7 c7] rfl (src_blk Tryz.underlying52 (Blk.new wr 194 #[.int .u64 ref, .int .i64 t, .int .u8 hint.toNat, .int .i32 schema, .int .u64 thr, .int .u64 sum, .int .u64 zc, .int .u64 cnt, .slice A1 m1 c1, .slice A2 m2 c2, .slice A3 m3 c3, .slice A4 m4 c4, .slice A5 m5 c5, .slice A6 m6 c6, .slice A7 m7 c7]) rfl (by simp [Value.oneCell'])) (by unfold maxLen; omega) (by omega) (by simp; omega) ?_
        intro v' w2 hown' hgrow hat
        have HM8 : Hid (((lv.take (k + 1)).filter (keepsC c)).length = m + 1) := Lib.hid (by
          rw [filt_yes (keepsC c) lv k _ HX.out HK.out, List.length_append, HM.out]; rfl)
        have HN8 : Hid (w2.ownsRow w.heap.size 194 15 v' (m + 1) (((lv.take (k + 1)).filter (keepsC c)).flatMap hsc)) := Lib.hid (by
          obtain ⟨rfl, rfl, rfl, rfl, rfl, rfl, rfl⟩ := HE.out
          rw [filt_yes (keepsC c) lv k _ HX.out HK.out, List.flatMap_append, HY.out, List.flatMap_cons, List.flatMap_nil, List.append_nil]
          exact hown')
        have HF8 := Lib.hid ((HF.out.alloc (.cells #[.int .u64 ref, .int .i64 t, .int .u8 hint.toNat, .int .i32 schema, .int .u64 thr, .int .u64 sum, .int .u64 zc, .int .u64 cnt, .slice A1 m1 c1, .slice A2 m2 c2, .slice A3 m3 c3, .slice A4 m4 c4, .slice A5 m5 c5, .slice A6 m6 c6, .slice A7 m7 c7] 194)).grown hgrow (fun g hg => .inr ((HO.out.lt g hg).1)))
        clear hown' hgrow hat c00 c10 c20 c30 c40 c50 c60 c70 c80 c90 c100 c110 c120 c130 c140
        go_wp2
        go_roundw
        case rel => exact ⟨k + 1, m + 1, by omega, by go_num, by omega, HM8, HN8, HF8⟩
        case measure => simp [intOf]; omega
    · obtain rfl : k = n := by omega
      go_wp2
      go_ret
      have e1 : lv.take k = lv := List.take_of_length_le (by rw [HN.out]; exact Nat.le_refl _)
      have ho := HO.out
      have hm := HM.out
      rw [e1] at ho hm
      exact ⟨_, rfl, by rw [hm]; exact ho, HF.out⟩

end Go.Proofs.YtbkookiigkckdaaGreatDoor

