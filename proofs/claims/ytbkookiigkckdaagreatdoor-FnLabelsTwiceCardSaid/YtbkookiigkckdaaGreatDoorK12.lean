/- Texts of this seat, merged: Sa, Lt, Lf, Lb. -/
import Derived.Test.YtbkookiigkckdaaGreatDoorK02
import Derived.Test.YtbkookiigkckdaaGreatDoorK11
import Derived.Test.YtbkookiigkckdaaGreatDoorK08
import Derived.Test.YtbkookiigkckdaaGreatDoorK09
import Derived.BigRegion
import Derived.OrdersHeld
import Derived.StillTail
import Derived.Deep.RegionHeld3
import Derived.RowKit
/- SameParts: its callees at lists that are the same. -/
namespace Go.Proofs.YtbkookiigkckdaaGreatDoor
open Go.RowKit
set_option linter.unusedVariables false
set_option linter.unusedSimpArgs false

def TrueEnds (w : World) (r : Ending) (w' : World) : Prop := r = .returned (.bool true) ∧ Fr (fun _ => False) w w'

theorem same103_nil (A B : Option Addr) (c d : Nat) (w : World) : Calls Tryz.prog 103 #[.slice A 0 c, .slice B 0 d] w (TrueEnds w) := by
  go_enter Tryz.func103, Tryz.ntmps103
  go_wp2
  go_loopw [5] (fun i wr => i = .int .i64 0 ∧ wr = w) (fun i _ => 0)
  case atStart => exact ⟨rfl, rfl⟩
  case round =>
    obtain ⟨rfl, rfl⟩ := hrel
    go_wp2
    go_ret
    exact ⟨rfl, Fr.refl _ _⟩
theorem same104_nil (A B : Option Addr) (c d : Nat) (w : World) : Calls Tryz.prog 104 #[.slice A 0 c, .slice B 0 d] w (TrueEnds w) := by
  go_enter Tryz.func104, Tryz.ntmps104
  go_wp2
  go_loopw [5] (fun i wr => i = .int .i64 0 ∧ wr = w) (fun i _ => 0)
  case atStart => exact ⟨rfl, rfl⟩
  case round =>
    obtain ⟨rfl, rfl⟩ := hrel
    go_wp2
    go_ret
    exact ⟨rfl, Fr.refl _ _⟩
theorem same102_nil (A B : Option Addr) (c d : Nat) (w : World) : Calls Tryz.prog 102 #[.slice A 0 c, .slice B 0 d] w (TrueEnds w) := by
  go_enter Tryz.func102, Tryz.ntmps102
  go_wp2
  go_loopw [5] (fun i wr => i = .int .i64 0 ∧ wr = w) (fun i _ => 0)
  case atStart => exact ⟨rfl, rfl⟩
  case round =>
    obtain ⟨rfl, rfl⟩ := hrel
    go_wp2
    go_ret
    exact ⟨rfl, Fr.refl _ _⟩
theorem same37_nil (A B : Option Addr) (c d : Nat) (w : World) : Calls Tryz.prog 37 #[.slice A 0 c, .slice B 0 d] w (TrueEnds w) := by
  go_enter Tryz.func37, Tryz.ntmps37
  go_wp2
  go_loopw [5] (fun i wr => i = .int .i64 0 ∧ wr = w) (fun i _ => 0)
  case atStart => exact ⟨rfl, rfl⟩
  case round =>
    obtain ⟨rfl, rfl⟩ := hrel
    go_wp2
    go_ret
    exact ⟨rfl, Fr.refl _ _⟩

/-- The elements of two slices that read alike: same says true. -/
theorem same101_any (P Q : Nat → Prop) (u v : Value) (l : List Smp) (w : World) (hu : Sl P w u 3 l.length (l.flatMap Smp.a)) (hv : Sl Q w v 3 l.length (l.flatMap Smp.a)) (hl : l.length ≤ 1099511627776) : Calls Tryz.prog 101 #[u, v] w (TrueEnds w) := by
  obtain ⟨A, c, rfl, _, hc, hr⟩ := hu
  obtain ⟨B, d, rfl, _, hd, hs⟩ := hv
  obtain ⟨n, hn⟩ : ∃ n, l.length = n := ⟨_, rfl⟩
  rw [hn] at hr hs hc hd hl ⊢
  have HN := Lib.hid hn
  have HR := Lib.hid hr
  have HS := Lib.hid hs
  clear hn hr hs
  go_enter Tryz.func101, Tryz.ntmps101
  go_wp2
  go_loopw [5] (fun i wr => ∃ k : Nat, k ≤ n ∧ i = .int .i64 k ∧ Fr (fun _ => False) w wr) (fun i _ => n - (intOf i).toNat)
  case atStart => exact ⟨0, Nat.zero_le _, rfl, Fr.refl _ _⟩
  case round =>
    obtain ⟨k, hk, rfl, hf⟩ := hrel
    by_cases hlt : k < n
    · obtain ⟨g, off, rfl, _, hcell⟩ := HR.out (by omega)
      obtain ⟨g2, off2, rfl, _, hcell2⟩ := HS.out (by omega)
      obtain ⟨x, hx⟩ : ∃ x, l[k]? = some x := ⟨_, List.getElem?_eq_getElem (by rw [HN.out]; exact hlt)⟩
      have key : ∀ {g off : Nat}, (∀ j u, (l.flatMap Smp.a)[j]? = some u → w.cell? ⟨g, off + j, none⟩ = some u) → ∀ j, j < 3 → ∀ u, (Smp.a x)[j]? = some u → wr.drew.cell? ⟨g, off + (k * 3 + j), none⟩ = some u := fun {g off} hcell j hj u hu => by
        have := hcell (k * 3 + j) u (by rw [flat3 Smp.a (fun _ => rfl) l k x hx j hj]; exact hu)
        rw [hf.drew.cell (p := ⟨g, off + (k * 3 + j), none⟩) (World.block_lt_of_cell? w _ this) (fun e => e)]
        exact this
      have c0 : wr.drew.cell? ⟨g, off + k * 3, none⟩ = some (.int .u64 x.ref) := key hcell 0 (by omega) _ rfl
      have c1 : wr.drew.cell? ⟨g, off + k * 3 + 1, none⟩ = some (.int .i64 x.t) := key hcell 1 (by omega) _ rfl
      have c2 : wr.drew.cell? ⟨g, off + k * 3 + 2, none⟩ = some (.int .u64 x.v) := key hcell 2 (by omega) _ rfl
      have d0 : wr.drew.cell? ⟨g2, off2 + k * 3, none⟩ = some (.int .u64 x.ref) := key hcell2 0 (by omega) _ rfl
      have d1 : wr.drew.cell? ⟨g2, off2 + k * 3 + 1, none⟩ = some (.int .i64 x.t) := key hcell2 1 (by omega) _ rfl
      have d2 : wr.drew.cell? ⟨g2, off2 + k * 3 + 2, none⟩ = some (.int .u64 x.v) := key hcell2 2 (by omega) _ rfl
      have hf2 := Lib.hid hf.drew
      clear hcell hcell2 key hf hx
      go_wp2
      go_region
      go_wp2
      go_roundw
      case rel => exact ⟨k + 1, by omega, by go_num, hf2.out⟩
      case measure => simp [intOf]; omega
    · obtain rfl : k = n := by omega
      go_wp2
      go_ret
      exact ⟨rfl, hf⟩

set_option maxRecDepth 100000 in
set_option maxHeartbeats 2000000 in
theorem sameParts_of (A0 B0 A3 B3 : Option Addr) (c0 d0 c3 d3 : Nat) (p1 p2 p4 p5 p6 q1 q2 q4 q5 q6 : Value) (w : World)
    (hsl : ∀ s ∈ [p1, p2, p4, p5, p6, q1, q2, q4, q5, q6], ∃ A m c, s = .slice A m c)
    (h1 : ∀ W, Fr (fun _ => False) w W → Calls Tryz.prog 101 #[p1, q1] W (TrueEnds W)) (h2 : ∀ W, Fr (fun _ => False) w W → Calls Tryz.prog 102 #[p2, q2] W (TrueEnds W)) (h4 : ∀ W, Fr (fun _ => False) w W → Calls Tryz.prog 103 #[p4, q4] W (TrueEnds W))
    (h5 : ∀ W, Fr (fun _ => False) w W → Calls Tryz.prog 104 #[p5, q5] W (TrueEnds W)) (h6 : ∀ W, Fr (fun _ => False) w W → Calls Tryz.prog 37 #[p6, q6] W (TrueEnds W)) :
    Calls Tryz.prog 32 #[.agg #[.slice A0 0 c0, p1, p2, .slice A3 0 c3, p4, p5, p6], .agg #[.slice B0 0 d0, q1, q2, .slice B3 0 d3, q4, q5, q6]] w (TrueEnds w) := by
  obtain ⟨a1, m1, k1, rfl⟩ := hsl p1 (by simp)
  obtain ⟨a2, m2, k2, rfl⟩ := hsl p2 (by simp)
  obtain ⟨a4, m4, k4, rfl⟩ := hsl p4 (by simp)
  obtain ⟨a5, m5, k5, rfl⟩ := hsl p5 (by simp)
  obtain ⟨a6, m6, k6, rfl⟩ := hsl p6 (by simp)
  obtain ⟨b1, n1, j1, rfl⟩ := hsl q1 (by simp)
  obtain ⟨b2, n2, j2, rfl⟩ := hsl q2 (by simp)
  obtain ⟨b4, n4, j4, rfl⟩ := hsl q4 (by simp)
  obtain ⟨b5, n5, j5, rfl⟩ := hsl q5 (by simp)
  obtain ⟨b6, n6, j6, rfl⟩ := hsl q6 (by simp)
  have H1 := Lib.hid h1
  have H2 := Lib.hid h2
  have H4 := Lib.hid h4
  have H5 := Lib.hid h5
  have H6 := Lib.hid h6
  clear hsl h1 h2 h4 h5 h6
  go_enter Tryz.func32, Tryz.ntmps32
  go_wp2_with fail
  have hP := (Blk.new w 54 #[.slice A0 0 c0, .slice a1 m1 k1, .slice a2 m2 k2, .slice A3 0 c3, .slice a4 m4 k4, .slice a5 m5 k5, .slice a6 m6 k6]).alloc (.cells #[.slice B0 0 d0, .slice b1 n1 j1, .slice b2 n2 j2, .slice B3 0 d3, .slice b4 n4 j4, .slice b5 n5 j5, .slice b6 n6 j6] 54)
  have hQ := Blk.new (w.alloc (.cells #[.slice A0 0 c0, .slice a1 m1 k1, .slice a2 m2 k2, .slice A3 0 c3, .slice a4 m4 k4, .slice a5 m5 k5, .slice a6 m6 k6] 54)) 54 #[.slice B0 0 d0, .slice b1 n1 j1, .slice b2 n2 j2, .slice B3 0 d3, .slice b4 n4 j4, .slice b5 n5 j5, .slice b6 n6 j6]
  obtain ⟨W, hW⟩ : ∃ W, (w.alloc (.cells #[.slice A0 0 c0, .slice a1 m1 k1, .slice a2 m2 k2, .slice A3 0 c3, .slice a4 m4 k4, .slice a5 m5 k5, .slice a6 m6 k6] 54)).alloc (.cells #[.slice B0 0 d0, .slice b1 n1 j1, .slice b2 n2 j2, .slice B3 0 d3, .slice b4 n4 j4, .slice b5 n5 j5, .slice b6 n6 j6] 54) = W := ⟨_, rfl⟩
  have hF : Fr (fun _ => False) w W := hW ▸ ((Fr.refl _ w).alloc _).alloc _
  rw [hW] at hP hQ ⊢
  have e1 : ∀ (w : World) (o : Obj), (w.alloc o).heap.size = w.heap.size + 1 := fun w o => by simp
  rw [e1] at hQ
  have x0 := hP.cell 0
  have x1 := hP.cell 1
  have x2 := hP.cell 2
  have x3 := hP.cell 3
  have x4 := hP.cell 4
  have x5 := hP.cell 5
  have x6 := hP.cell 6
  have y0 := hQ.cell 0
  have y1 := hQ.cell 1
  have y2 := hQ.cell 2
  have y3 := hQ.cell 3
  have y4 := hQ.cell 4
  have y5 := hQ.cell 5
  have y6 := hQ.cell 6
  simp only [List.getElem?_toArray, List.getElem?_cons_zero, List.getElem?_cons_succ] at x0 x1 x2 x3 x4 x5 x6 y0 y1 y2 y3 y4 y5 y6
  have HP := Lib.hid hP
  have HQ := Lib.hid hQ
  have HF := Lib.hid hF
  clear hW hP hQ hF e1
  go_loopw [5] (fun i wr => i = .int .i64 0 ∧ wr = W) (fun i _ => 0)
  case atStart => exact ⟨rfl, rfl⟩
  case round =>
    obtain ⟨rfl, rfl⟩ := hrel
    go_wp2_with fail
    go_loopw [6] (fun i w' => i = .int .i64 0 ∧ w' = wr) (fun i _ => 0)
    case atStart => exact ⟨rfl, rfl⟩
    case round =>
      obtain ⟨rfl, rfl⟩ := hrel
      go_wp2_with (go_at_call 101; refine (H1.out _ HF.out).mono ?_; rintro r W1 ⟨rfl, hf1⟩; refine Hid.out ?_)
      have F1 := Lib.hid (HF.out.same hf1)
      have hP1 := HP.out.fr hf1 (fun e => e)
      have hQ1 := HQ.out.fr hf1 (fun e => e)
      have P1 := Lib.hid hP1
      have Q1 := Lib.hid hQ1
      have u1 := hP1.cell 2
      have v1 := hQ1.cell 2
      simp only [List.getElem?_toArray, List.getElem?_cons_zero, List.getElem?_cons_succ] at u1 v1
      clear hf1 hP1 hQ1
      refine Lib.hid ?_
      go_wp2_with (go_at_call 102; refine (H2.out _ F1.out).mono ?_; rintro r W2 ⟨rfl, hf2⟩; refine Hid.out ?_)
      have F2 := Lib.hid (F1.out.same hf2)
      have hP2 := P1.out.fr hf2 (fun e => e)
      have hQ2 := Q1.out.fr hf2 (fun e => e)
      have P2 := Lib.hid hP2
      have Q2 := Lib.hid hQ2
      have u2 := hP2.cell 4
      have v2 := hQ2.cell 4
      simp only [List.getElem?_toArray, List.getElem?_cons_zero, List.getElem?_cons_succ] at u2 v2
      clear hf2 hP2 hQ2
      refine Lib.hid ?_
      go_wp2_with (go_at_call 103; refine (H4.out _ F2.out).mono ?_; rintro r W3 ⟨rfl, hf3⟩; refine Hid.out ?_)
      have F3 := Lib.hid (F2.out.same hf3)
      have hP3 := P2.out.fr hf3 (fun e => e)
      have hQ3 := Q2.out.fr hf3 (fun e => e)
      have P3 := Lib.hid hP3
      have Q3 := Lib.hid hQ3
      have u3 := hP3.cell 5
      have v3 := hQ3.cell 5
      simp only [List.getElem?_toArray, List.getElem?_cons_zero, List.getElem?_cons_succ] at u3 v3
      clear hf3 hP3 hQ3
      refine Lib.hid ?_
      go_wp2_with (go_at_call 104; refine (H5.out _ F3.out).mono ?_; rintro r W4 ⟨rfl, hf4⟩; refine Hid.out ?_)
      have F4 := Lib.hid (F3.out.same hf4)
      have hP4 := P3.out.fr hf4 (fun e => e)
      have hQ4 := Q3.out.fr hf4 (fun e => e)
      have P4 := Lib.hid hP4
      have Q4 := Lib.hid hQ4
      have u4 := hP4.cell 6
      have v4 := hQ4.cell 6
      simp only [List.getElem?_toArray, List.getElem?_cons_zero, List.getElem?_cons_succ] at u4 v4
      clear hf4 hP4 hQ4
      refine Lib.hid ?_
      go_wp2_with (go_at_call 37; refine (H6.out _ F4.out).mono ?_; rintro r W5 ⟨rfl, hf5⟩; refine Hid.out ?_)
      have F5 := Lib.hid (F4.out.same hf5)
      have hP5 := P4.out.fr hf5 (fun e => e)
      have hQ5 := Q4.out.fr hf5 (fun e => e)
      have P5 := Lib.hid hP5
      have Q5 := Lib.hid hQ5
      clear hf5 hP5 hQ5
      refine Lib.hid ?_
      go_wp2
      go_ret
      exact ⟨rfl, F5.out⟩
end Go.Proofs.YtbkookiigkckdaaGreatDoor

/- spec.SameLabels at equal labels, spec.LabelsRight, spec.Sorted. -/
namespace Go.Proofs.YtbkookiigkckdaaGreatDoor
open Go.RowKit
set_option linter.unusedVariables false
set_option linter.unusedSimpArgs false

set_option maxHeartbeats 400000 in
/-- The elements of two slices that read alike: SameLabels says true. -/
theorem sameLabels_any (P Q : Nat → Prop) (u v : Value) (l : List Lab) (w : World) (hu : Sl P w u 2 l.length (l.flatMap labc)) (hv : Sl Q w v 2 l.length (l.flatMap labc)) (hl : l.length ≤ 1099511627776) : Calls Tryz.prog 25 #[u, v] w (TrueEnds w) := by
  obtain ⟨A, c, rfl, _, hc, hr⟩ := hu
  obtain ⟨B, d, rfl, _, hd, hs⟩ := hv
  obtain ⟨n, hn⟩ : ∃ n, l.length = n := ⟨_, rfl⟩
  rw [hn] at hr hs hc hd hl ⊢
  have HN := Lib.hid hn
  have HR := Lib.hid hr
  have HS := Lib.hid hs
  clear hn hr hs
  go_enter Tryz.func25, Tryz.ntmps25
  go_wp2
  go_loopw [5] (fun i wr => ∃ k : Nat, k ≤ n ∧ i = .int .i64 k ∧ Fr (fun _ => False) w wr) (fun i _ => n - (intOf i).toNat)
  case atStart => exact ⟨0, Nat.zero_le _, rfl, Fr.refl _ _⟩
  case round =>
    obtain ⟨k, hk, rfl, hf⟩ := hrel
    by_cases hlt : k < n
    · obtain ⟨g, off, rfl, _, hcell⟩ := HR.out (by omega)
      obtain ⟨g2, off2, rfl, _, hcell2⟩ := HS.out (by omega)
      obtain ⟨x, hx⟩ : ∃ x, l[k]? = some x := ⟨_, List.getElem?_eq_getElem (by rw [HN.out]; exact hlt)⟩
      have key : ∀ {g off : Nat}, (∀ j u, (l.flatMap labc)[j]? = some u → w.cell? ⟨g, off + j, none⟩ = some u) → ∀ j, j < 2 → ∀ u, (labc x)[j]? = some u → wr.drew.cell? ⟨g, off + (k * 2 + j), none⟩ = some u := fun {g off} hcell j hj u hu => by
        have := hcell (k * 2 + j) u (by rw [flat2 labc (fun _ => rfl) l k x hx j hj]; exact hu)
        rw [hf.drew.cell (p := ⟨g, off + (k * 2 + j), none⟩) (World.block_lt_of_cell? w _ this) (fun e => e)]
        exact this
      have c0 : wr.drew.cell? ⟨g, off + k * 2, none⟩ = some (.string x.1) := key hcell 0 (by omega) _ rfl
      have c1 : wr.drew.cell? ⟨g, off + k * 2 + 1, none⟩ = some (.string x.2) := key hcell 1 (by omega) _ rfl
      have d0 : wr.drew.cell? ⟨g2, off2 + k * 2, none⟩ = some (.string x.1) := key hcell2 0 (by omega) _ rfl
      have d1 : wr.drew.cell? ⟨g2, off2 + k * 2 + 1, none⟩ = some (.string x.2) := key hcell2 1 (by omega) _ rfl
      have hf2 := Lib.hid hf.drew
      clear hcell hcell2 key hf hx
      go_wp2
      go_region
      go_wp2
      go_roundw
      case rel => exact ⟨k + 1, by omega, by go_num, hf2.out⟩
      case measure => simp [intOf]; omega
    · obtain rfl : k = n := by omega
      go_wp2
      go_ret
      exact ⟨rfl, hf⟩

/-- Labels that are spoken of. -/
def LabOk (l : List Lab) (most bytes : Nat) : Prop := l.length ≤ most ∧ (∀ p ∈ l, p.1.size ≠ 0 ∧ p.1.size ≤ bytes ∧ p.2.size ≤ bytes) ∧ l.Pairwise (fun a b => a.1 ≠ b.1)
def RightEnds (l : List Lab) (most bytes : Nat) (w : World) (r : Ending) (w' : World) : Prop := ∃ b : Bool, r = .returned (.bool b) ∧ (b = true ↔ LabOk l most bytes) ∧ Fr (fun _ => False) w w'
def LabPre (l : List Lab) (bytes k : Nat) : Prop :=
  (∀ (i : Nat) (x : Lab), i < k → l[i]? = some x → x.1.size ≠ 0 ∧ x.1.size ≤ bytes ∧ x.2.size ≤ bytes) ∧ ∀ (i j : Nat) (x y : Lab), j < i → i < k → l[i]? = some x → l[j]? = some y → y.1 ≠ x.1
theorem LabPre.ok {l : List Lab} {most bytes : Nat} (h : LabPre l bytes l.length) (hl : l.length ≤ most) : LabOk l most bytes := by
  refine ⟨hl, fun p hp => ?_, ?_⟩
  · obtain ⟨i, hi⟩ := List.mem_iff_getElem?.mp hp
    exact h.1 i p (List.getElem?_eq_some_iff.mp hi).1 hi
  · rw [List.pairwise_iff_getElem]
    intro i j hi hj hij
    exact h.2 j i _ _ hij hj (List.getElem?_eq_getElem hj) (List.getElem?_eq_getElem hi)
theorem LabOk.at {l : List Lab} {most bytes : Nat} (h : LabOk l most bytes) (k : Nat) (x : Lab) (hx : l[k]? = some x) : x.1.size ≠ 0 ∧ x.1.size ≤ bytes ∧ x.2.size ≤ bytes := h.2.1 x (List.mem_of_getElem? hx)
theorem LabOk.ne {l : List Lab} {most bytes : Nat} (h : LabOk l most bytes) (k j : Nat) (x y : Lab) (hx : l[k]? = some x) (hy : l[j]? = some y) (hj : j < k) : y.1 ≠ x.1 := by
  obtain ⟨hk, rfl⟩ := List.getElem?_eq_some_iff.mp hx
  obtain ⟨hj', rfl⟩ := List.getElem?_eq_some_iff.mp hy
  exact List.pairwise_iff_getElem.mp h.2.2 j k hj' hk hj

theorem empty_iff (s : ByteArray) : s.toList.isEmpty = decide (s.size = 0) := by
  rw [Lib.toList_data, Lib.size_eq]
  cases s.data.toList <;> simp

set_option maxRecDepth 100000 in
set_option maxHeartbeats 2000000 in
theorem labelsRight_any (P : Nat → Prop) (v : Value) (l : List Lab) (most bytes : Nat) (w : World) (h : Sl P w v 2 l.length (l.flatMap labc)) (hl : l.length ≤ 1099511627776) (hm : most ≤ 1099511627776) (hb : bytes ≤ 1099511627776) :
    Calls Tryz.prog 53 #[v, .int .i64 most, .int .i64 bytes] w (RightEnds l most bytes w) := by
  obtain ⟨A, c, rfl, _, hc, hr⟩ := h
  obtain ⟨n, hn⟩ : ∃ n, l.length = n := ⟨_, rfl⟩
  rw [hn] at hr hc hl ⊢
  have HN := Lib.hid hn
  have HR := Lib.hid hr
  clear hn hr
  by_cases hmn : most < n
  · have hmn' : (most : Int) < n := by omega
    go_enter Tryz.func53, Tryz.ntmps53
    go_wp2
    go_ret
    exact ⟨false, rfl, ⟨fun h => (by cases h), fun h => absurd h.1 (by rw [HN.out]; omega)⟩, Fr.refl _ _⟩
  · have hmn' : ¬ (most : Int) < n := by omega
    go_enter Tryz.func53, Tryz.ntmps53
    go_wp2
    go_loopw [7] (fun i wr => ∃ k : Nat, k ≤ n ∧ i = .int .i64 k ∧ Hid (LabPre l bytes k) ∧ Hid (Fr (fun _ => False) w wr)) (fun i _ => n - (intOf i).toNat)
    case atStart => exact ⟨0, Nat.zero_le _, rfl, Lib.hid ⟨fun i x h => absurd h (Nat.not_lt_zero _), fun i j x y _ h => absurd h (Nat.not_lt_zero _)⟩, Lib.hid (Fr.refl _ _)⟩
    case round =>
      obtain ⟨k, hk, rfl, HP, HF⟩ := hrel
      by_cases hlt : k < n
      · obtain ⟨g, off, rfl, _, hcell⟩ := HR.out (by omega)
        obtain ⟨x, hx⟩ : ∃ x, l[k]? = some x := ⟨_, List.getElem?_eq_getElem (by rw [HN.out]; exact hlt)⟩
        have key : ∀ (i : Nat) (z : Lab), l[i]? = some z → ∀ W, Fr (fun _ => False) w W → W.cell? ⟨g, off + i * 2, none⟩ = some (.string z.1) ∧ W.cell? ⟨g, off + i * 2 + 1, none⟩ = some (.string z.2) := fun i z hz W hF => by
          have cc : ∀ j, j < 2 → ∀ u, (labc z)[j]? = some u → W.cell? ⟨g, off + (i * 2 + j), none⟩ = some u := fun j hj u hu => by
            have := hcell (i * 2 + j) u (by rw [flat2 labc (fun _ => rfl) l i z hz j hj]; exact hu)
            rw [hF.cell (p := ⟨g, off + (i * 2 + j), none⟩) (World.block_lt_of_cell? w _ this) (fun e => e)]
            exact this
          exact ⟨cc 0 (by omega) _ rfl, cc 1 (by omega) _ rfl⟩
        obtain ⟨c0, c1⟩ := key k x hx wr HF.out
        have HK := Lib.hid key
        have HX := Lib.hid hx
        clear key hcell hx
        by_cases e0 : x.1.size = 0
        · have e0' : x.1.toList.isEmpty = true := by rw [empty_iff]; exact decide_eq_true e0
          go_wp2
          go_ret
          exact ⟨false, rfl, ⟨fun h => (by cases h), fun h => absurd e0 (h.at k x HX.out).1⟩, HF.out⟩
        · have e0' : x.1.toList.isEmpty = false := by rw [empty_iff]; exact decide_eq_false e0
          by_cases h1 : bytes < x.1.size
          · have h1' : (bytes : Int) < x.1.size := by omega
            go_wp2
            go_ret
            exact ⟨false, rfl, ⟨fun h => (by cases h), fun h => absurd h1 (by have := (h.at k x HX.out).2.1; omega)⟩, HF.out⟩
          · have h1' : ¬ (bytes : Int) < x.1.size := by omega
            by_cases h2 : bytes < x.2.size
            · have h2' : (bytes : Int) < x.2.size := by omega
              go_wp2
              go_ret
              exact ⟨false, rfl, ⟨fun h => (by cases h), fun h => absurd h2 (by have := (h.at k x HX.out).2.2; omega)⟩, HF.out⟩
            · have h2' : ¬ (bytes : Int) < x.2.size := by omega
              go_wp2
              clear c0 c1
              go_loopw [8] (fun i w' => ∃ j : Nat, j ≤ k ∧ i = .int .i64 j ∧ Hid (∀ (i : Nat) (y : Lab), i < j → l[i]? = some y → y.1 ≠ x.1) ∧ Hid (Fr (fun _ => False) w w')) (fun i _ => k - (intOf i).toNat)
              case atStart => exact ⟨0, Nat.zero_le _, rfl, Lib.hid (fun i y h => absurd h (Nat.not_lt_zero _)), HF⟩
              case round =>
                obtain ⟨j, hj, rfl, HJ, HF2⟩ := hrel
                by_cases hlt2 : j < k
                · obtain ⟨y, hy⟩ : ∃ y, l[j]? = some y := ⟨_, List.getElem?_eq_getElem (by rw [HN.out]; omega)⟩
                  obtain ⟨c0, _⟩ := HK.out k x HX.out wr HF2.out
                  obtain ⟨b0, _⟩ := HK.out j y hy wr HF2.out
                  obtain ⟨d0, _⟩ := HK.out k x HX.out wr.drew HF2.out.drew
                  obtain ⟨d1, _⟩ := HK.out j y hy wr.drew HF2.out.drew
                  have HY := Lib.hid hy
                  have HF3 := Lib.hid HF2.out.drew
                  clear hy
                  by_cases he : y.1 = x.1
                  · have HE := Lib.hid he
                    go_wp2
                    go_region
                    all_goals go_wp2
                    go_ret
                    exact ⟨false, rfl, ⟨fun h => (by cases h), fun h => absurd HE.out (h.ne k j x y HX.out HY.out hlt2)⟩, HF3.out⟩
                  · have he1 : (y.1.toList == x.1.toList) = false := by rw [beq_eq_false_iff_ne, Lib.toList_data, Lib.toList_data]; exact fun e => he (ByteArray.ext (Array.toList_inj.1 e))
                    have HE := Lib.hid he
                    go_wp2
                    go_region
                    all_goals go_wp2
                    refine ⟨⟨j + 1, hlt2, rfl, Lib.hid ?_, HF3⟩, ?_⟩
                    · intro i z hi hz
                      by_cases e : i = j
                      · subst e
                        have := HY.out
                        rw [hz] at this
                        injection this with this
                        rw [this]; exact HE.out
                      · exact HJ.out i z (by omega) hz
                    · show k - ((j : Int) + 1).toNat < k - (j : Int).toNat; omega
                · obtain rfl : j = k := by omega
                  go_wp2
                  go_roundw
                  case rel =>
                    refine ⟨j + 1, by omega, by go_num, Lib.hid ?_, HF2⟩
                    have hp := HP.out
                    refine ⟨fun i z hi hz => ?_, fun i j' z y hji hi hz hy => ?_⟩
                    · by_cases e : i = j
                      · subst e
                        have := HX.out
                        rw [hz] at this
                        injection this with this
                        rw [this]; exact ⟨e0, by omega, by omega⟩
                      · exact hp.1 i z (by omega) hz
                    · by_cases e : i = j
                      · subst e
                        have := HX.out
                        rw [hz] at this
                        injection this with this
                        rw [this]; exact HJ.out j' y hji hy
                      · exact hp.2 i j' z y hji (by omega) hz hy
                  case measure => simp [intOf]; omega
      · obtain rfl : k = n := by omega
        go_wp2
        go_ret
        refine ⟨true, rfl, ⟨fun _ => ?_, fun _ => rfl⟩, HF.out⟩
        have hp := HP.out
        rw [← HN.out] at hp
        exact hp.ok (by rw [HN.out]; omega)
end Go.Proofs.YtbkookiigkckdaaGreatDoor

/- Labels in a record: what is written is what is read, in plain Lean. -/
namespace Go.Proofs.YtbkookiigkckdaaGreatDoor
open Go.RowKit
set_option linter.unusedVariables false
set_option linter.unusedSimpArgs false

def encStr (s : ByteArray) : List UInt8 := Lib.uvarint s.size ++ s.data.toList
def encLab (p : Lab) : List UInt8 := encStr p.1 ++ encStr p.2
/-- What EncodeLabels writes. -/
def encLabs (l : List Lab) : List UInt8 := Lib.uvarint l.length ++ l.flatMap encLab

/-- Decbuf.UvarintBytes. -/
def gStr (st : St) : ByteArray × St := match (gUv st).2 with
  | none => (⟨#[]⟩, none)
  | some r => if r.length < (gUv st).1 then (⟨#[]⟩, none) else (⟨(r.take (gUv st).1).toArray⟩, some (r.drop (gUv st).1))
theorem gStr_enc (s : ByteArray) (r : List UInt8) (h : s.size < 18446744073709551616) : gStr (some (encStr s ++ r)) = (s, some r) := by
  have e : s.data.toList.length = s.size := by rw [← Lib.size_eq]
  have e2 : some (encStr s ++ r) = some (Lib.uvarint s.size ++ (s.data.toList ++ r)) := by rw [encStr, List.append_assoc]
  unfold gStr
  rw [e2, gUv_uv _ h]
  simp only []
  rw [if_neg (by rw [List.length_append]; omega), List.take_left' e, List.drop_left' e]
theorem gStr_size (l : List UInt8) (s : ByteArray) (st : St) (h : gStr (some l) = (s, st)) : s.size ≤ l.length ∧ ∀ r, st = some r → r.length ≤ l.length := by
  unfold gStr at h
  have hle : ∀ r, (gUv (some l)).2 = some r → r.length ≤ l.length := fun r hr => by
    unfold gUv at hr
    simp only [] at hr
    split at hr
    · injection hr with hr
      rw [← hr, List.length_drop]; omega
    · cases hr
  split at h
  · injection h with h1 h2
    subst h1 h2
    exact ⟨Nat.zero_le _, fun r hr => by cases hr⟩
  · rename_i r hr
    have := hle r hr
    split at h
    · injection h with h1 h2
      subst h1 h2
      exact ⟨Nat.zero_le _, fun r hr => by cases hr⟩
    · injection h with h1 h2
      subst h1 h2
      refine ⟨?_, fun r' hr' => ?_⟩
      · show (r.take _).toArray.size ≤ _
        simp; omega
      · injection hr' with hr'
        rw [← hr', List.length_drop]; omega
def gLab (st : St) : Lab × St := (((gStr st).1, (gStr (gStr st).2).1), (gStr (gStr st).2).2)
theorem gLab_enc (p : Lab) (r : List UInt8) (h1 : p.1.size < 18446744073709551616) (h2 : p.2.size < 18446744073709551616) : gLab (some (encLab p ++ r)) = (p, some r) := by
  unfold gLab encLab
  rw [List.append_assoc, gStr_enc _ _ h1]
  simp only []
  rw [gStr_enc _ _ h2]
def gLabs (st : St) : Nat → List Lab × St
  | 0 => ([], st)
  | k + 1 => ((gLabs st k).1 ++ [(gLab (gLabs st k).2).1], (gLab (gLabs st k).2).2)
theorem gLabs_enc (l : List Lab) (r : List UInt8) (hs : ∀ p ∈ l, p.1.size < 18446744073709551616 ∧ p.2.size < 18446744073709551616) :
    ∀ k, k ≤ l.length → gLabs (some (l.flatMap encLab ++ r)) k = (l.take k, some ((l.drop k).flatMap encLab ++ r))
  | 0, _ => by simp [gLabs]
  | k + 1, hk => by
    have ih := gLabs_enc l r hs k (by omega)
    have hx : l[k]? = some l[k] := List.getElem?_eq_getElem (by omega)
    have hm := hs _ (List.mem_of_getElem? hx)
    rw [gLabs, ih]
    simp only []
    rw [List.drop_eq_getElem_cons (by omega : k < l.length), List.flatMap_cons, List.append_assoc, gLab_enc _ _ hm.1 hm.2]
    simp only []
    rw [List.take_succ_eq_append_getElem (by omega)]
end Go.Proofs.YtbkookiigkckdaaGreatDoor

/- A region that draws its order: loads are taken first where nobody writes their cells AHEAD of them; what comes behind them (an append and the store of what it hands back) may write. -/
namespace Go.Proofs.YtbkookiigkckdaaGreatDoor
open Go Go.RowKit
set_option linter.unusedVariables false
section
variable {P : Program} {ops : Array Oper} {Q : Exit → Act → World → Prop} {md : Region.Mode} {S : World → Prop} {c : Nat}

/-- Whatever order is picked, and S holds behind every operation as long as number c has not come up. -/
def wpBut (P : Program) (md : Region.Mode) (ops : Array Oper) (Q : Exit → Act → World → Prop) (S : World → Prop) (c : Nat) : Nat → Array Bool → Act → World → Prop
  | 0, listed, a, w => Region.ready md ops listed = [] ∧ Q .normal a w
  | fuel + 1, listed, a, w =>
    (Region.ready md ops listed = [] → Q .normal a w) ∧
    ∀ i ∈ Region.ready md ops listed, wpOp P ops Q i (fun a' w' => ((listed.setIfInBounds i true).getD c false = false → S w') ∧ wpBut P md ops Q S c fuel (listed.setIfInBounds i true) a' w') a w

theorem wpAny_of_but : ∀ (fuel : Nat) (listed : Array Bool) (a : Act) (w : World), wpBut P md ops Q S c fuel listed a w → wpAny P md ops Q fuel listed a w
  | 0, _, _, _, h => h
  | fuel + 1, _, _, _, h => ⟨h.1, fun i hi => wpOp_mono (fun a' w' h' => wpAny_of_but fuel _ a' w' h'.2) (h.2 i hi)⟩

/-- Every operation of C waits for i, or for another one of C. -/
def behind (md : Region.Mode) (ops : Array Oper) (i : Nat) (C : List Nat) : Bool :=
  C.all fun j => Region.waitsFor md ops j i || C.any fun k => Region.waitsFor md ops j k

theorem not_ready_behind {C : List Nat} {i j : Nat} {listed : Array Bool} (hb : behind md ops i C = true) (hi : listed.getD i false = false) (hC : ∀ k ∈ C, listed.getD k false = false) (hj : j ∈ Region.ready md ops listed) : j ∉ C := by
  intro hjC
  obtain ⟨_, oj, hoj, hall⟩ := mem_ready.1 hj
  have h1 := List.all_eq_true.1 hb j hjC
  rw [Bool.or_eq_true] at h1
  have key : ∀ k, listed.getD k false = false → Region.waitsFor md ops j k = true → False := fun k hk hw => by
    obtain ⟨oj', hoj', e, he, hbd, hon⟩ := Region.waitsFor_spec hw
    have : oj' = oj := Option.some.inj (hoj'.symm.trans hoj)
    subst this
    have h2 := hall e he hbd
    rw [hon, hk] at h2
    cases h2
  rcases h1 with h1 | h1
  · exact key i hi h1
  · obtain ⟨k, hk, hw⟩ := List.any_eq_true.1 h1
    exact key k (hC k hk) hw

/-- A load is taken first: nothing that may come ahead of it writes its cell. -/
theorem wpBut_first {C : List Nat} {i : Nat} {oi : Oper} {v : Value} (hi : ops[i]? = some oi) (hsel : ∀ (j : Nat) (o : Oper) cs b, ops[j]? = some o → o.op ≠ .select cs b)
    (hQ : ∀ c a w, Q (.panic c) (a.put oi.dst v) w → Q (.panic c) a w) (hb : behind md ops i C = true) (hc : c ∈ C) (hic : i ≠ c) :
    ∀ (fuel : Nat) (listed : Array Bool) (a : Act) (w : World),
      (∀ j oj, ops[j]? = some oj → j ≠ i → listed.getD j true = false → (∀ e ∈ oj.after, Region.binds md e = true → e.on ≠ i) → oi.apart ops oj = true) →
      (∀ k ∈ C, listed.getD k false = false) → i ∈ Region.ready md ops listed → YieldsIf P ops S oi v a → S w →
      wpBut P md ops Q S c fuel (listed.setIfInBounds i true) (a.put oi.dst v) w → wpBut P md ops Q S c (fuel + 1) listed a w := by
  intro fuel
  induction fuel with
  | zero =>
    intro listed a w _ _ hr hy hS H
    refine ⟨fun h => (by rw [h] at hr; cases hr), fun j hj => ?_⟩
    by_cases hji : j = i
    · subst hji; exact hy.wpOp hi hS ⟨fun _ => hS, H⟩
    · have := ready_mono hj hji
      rw [H.1] at this
      cases this
  | succ fuel ih =>
    intro listed a w hfree hC hr hy hS H
    refine ⟨fun h => (by rw [h] at hr; cases hr), fun j hj => ?_⟩
    by_cases hji : j = i
    · subst hji; exact hy.wpOp hi hS ⟨fun _ => hS, H⟩
    · have h1 := H.2 j (ready_mono hj hji)
      obtain ⟨hjun, oj, hoj, hall⟩ := mem_ready.1 hj
      have hiun := getD_both (mem_ready.1 hr).1
      have hjC : j ∉ C := not_ready_behind hb hiun hC hj
      have hjc : j ≠ c := by rintro rfl; exact hjC hc
      have hnot : ∀ e ∈ oj.after, Region.binds md e = true → e.on ≠ i := fun e he hb heq => by
        have h1 := hall e he hb
        rw [heq, hiun] at h1
        cases h1
      have h2 := wpOp_putIf hoj (hfree j oj hoj hji hjun hnot) (fun cs b => hsel i oi cs b hi) (fun cs b => hsel j oj cs b hoj) hQ hy h1
      have hfree' : ∀ k ok, ops[k]? = some ok → k ≠ i → (listed.setIfInBounds j true).getD k true = false →
          (∀ e ∈ ok.after, Region.binds md e = true → e.on ≠ i) → oi.apart ops ok = true := fun k ok hk hki hun hno => by
        refine hfree k ok hk hki ?_ hno
        by_cases hjk : j = k
        · subst hjk; exact hjun
        · rw [getD_set_ne true hjk] at hun; exact hun
      have hC' : ∀ k ∈ C, (listed.setIfInBounds j true).getD k false = false := fun k hk => by
        have hkj : j ≠ k := by rintro rfl; exact hjC hk
        rw [getD_set_ne false hkj]; exact hC k hk
      have hcu : ((listed.setIfInBounds i true).setIfInBounds j true).getD c false = false := by
        rw [getD_set_ne false hjc, getD_set_ne false hic]; exact hC c hc
      refine wpOp_mono (fun a' w' h3 => ⟨fun _ => h3.2.1 hcu, ih (listed.setIfInBounds j true) a' w' hfree' hC' (ready_mono hr (Ne.symm hji)) h3.1 (h3.2.1 hcu) ?_⟩) h2
      rw [Array.setIfInBounds_comm _ _ hji]
      exact h3.2.2

/-- An operation that yields whatever the world is taken first. -/
theorem wpBut_early {i : Nat} {oi : Oper} {v : Value} (hi : ops[i]? = some oi) (hsel : ∀ (j : Nat) (o : Oper) cs b, ops[j]? = some o → o.op ≠ .select cs b)
    (hQ : ∀ c a w, Q (.panic c) (a.put oi.dst v) w → Q (.panic c) a w) (hic : i ≠ c) :
    ∀ (fuel : Nat) (listed : Array Bool) (a : Act) (w : World),
      (∀ j oj, ops[j]? = some oj → j ≠ i → listed.getD j true = false → (∀ e ∈ oj.after, Region.binds md e = true → e.on ≠ i) → oi.apart ops oj = true) →
      (listed.getD c false = false → S w) → i ∈ Region.ready md ops listed → Yields P ops oi v a →
      wpBut P md ops Q S c fuel (listed.setIfInBounds i true) (a.put oi.dst v) w → wpBut P md ops Q S c (fuel + 1) listed a w := by
  have hset : ∀ (l : Array Bool), (l.setIfInBounds i true).getD c false = l.getD c false := fun l => getD_set_ne false hic
  intro fuel
  induction fuel with
  | zero =>
    intro listed a w _ hI hr hy H
    refine ⟨fun h => (by rw [h] at hr; cases hr), fun j hj => ?_⟩
    by_cases hji : j = i
    · subst hji; exact hy.wpOp hi ⟨fun h => hI (by rw [hset] at h; exact h), H⟩
    · have := ready_mono hj hji
      rw [H.1] at this
      cases this
  | succ fuel ih =>
    intro listed a w hfree hI hr hy H
    refine ⟨fun h => (by rw [h] at hr; cases hr), fun j hj => ?_⟩
    by_cases hji : j = i
    · subst hji; exact hy.wpOp hi ⟨fun h => hI (by rw [hset] at h; exact h), H⟩
    · have h1 := H.2 j (ready_mono hj hji)
      obtain ⟨hjun, oj, hoj, hall⟩ := mem_ready.1 hj
      have hiun := getD_both (mem_ready.1 hr).1
      have hnot : ∀ e ∈ oj.after, Region.binds md e = true → e.on ≠ i := fun e he hb heq => by
        have h1 := hall e he hb
        rw [heq, hiun] at h1
        cases h1
      have h2 := wpOp_put hoj (hfree j oj hoj hji hjun hnot) (fun cs b => hsel i oi cs b hi) (fun cs b => hsel j oj cs b hoj) hQ hy h1
      have hfree' : ∀ k ok, ops[k]? = some ok → k ≠ i → (listed.setIfInBounds j true).getD k true = false →
          (∀ e ∈ ok.after, Region.binds md e = true → e.on ≠ i) → oi.apart ops ok = true := fun k ok hk hki hun hno => by
        refine hfree k ok hk hki ?_ hno
        by_cases hjk : j = k
        · subst hjk; exact hjun
        · rw [getD_set_ne true hjk] at hun; exact hun
      have hsw : ((listed.setIfInBounds i true).setIfInBounds j true).getD c false = (listed.setIfInBounds j true).getD c false := by
        rw [Array.setIfInBounds_comm _ _ (Ne.symm hji), hset]
      refine wpOp_mono (fun a' w' h3 => ⟨fun h => h3.2.1 (by rw [hsw]; exact h), ih (listed.setIfInBounds j true) a' w' hfree' (fun h => h3.2.1 (by rw [hsw]; exact h)) (ready_mono hr (Ne.symm hji)) h3.1 ?_⟩) h2
      rw [Array.setIfInBounds_comm _ _ hji]
      exact h3.2.2

theorem wpBut_load (i : Nat) (C : List Nat) {oi : Oper} (v : Value) {fuel : Nat} {listed : Array Bool} {a : Act} {w : World} (hi : ops[i]? = some oi)
    (hs : Region.noSelect ops = true) (hf : Region.free md ops listed i = true) (hr : (Region.ready md ops listed).contains i = true) (hb : behind md ops i C = true) (hC : (C.all fun k => !listed.getD k false) = true) (hc : C.contains c = true) (hic : (i == c) = false)
    (hQ : ∀ c a w, Q (.panic c) (a.put oi.dst v) w → Q (.panic c) a w) (hw : Region.wanted oi (yielded ops a.tmps) = true) (hy : ∀ w, S w → (execOp a.eval oi).run P w = .ok (.value v) w) (hS : S w)
    (h : wpBut P md ops Q S c fuel (listed.setIfInBounds i true) (a.put oi.dst v) w) : wpBut P md ops Q S c (fuel + 1) listed a w :=
  wpBut_first hi (Region.noSelect_spec hs) hQ hb (by simpa using hc) (by simpa using hic) fuel listed a w (Region.free_spec hi hf) (fun k hk => by simpa using List.all_eq_true.1 hC k hk) (by simpa using hr) (.inl ⟨hw, hy⟩) hS h
theorem wpBut_take (i : Nat) {oi : Oper} (v : Value) {fuel : Nat} {listed : Array Bool} {a : Act} {w : World} (hi : ops[i]? = some oi)
    (hs : Region.noSelect ops = true) (hf : Region.free md ops listed i = true) (hr : (Region.ready md ops listed).contains i = true) (hic : (i == c) = false)
    (hQ : ∀ c a w, Q (.panic c) (a.put oi.dst v) w → Q (.panic c) a w) (hw : Region.wanted oi (yielded ops a.tmps) = true) (hy : ∀ w, (execOp a.eval oi).run P w = .ok (.value v) w) (hS : S w)
    (h : wpBut P md ops Q S c fuel (listed.setIfInBounds i true) (a.put oi.dst v) w) : wpBut P md ops Q S c (fuel + 1) listed a w :=
  wpBut_early hi (Region.noSelect_spec hs) hQ (by simpa using hic) fuel listed a w (Region.free_spec hi hf) (fun _ => hS) (by simpa using hr) (.inl ⟨hw, hy⟩) h

/-- One operation alone may come up, ahead of number c. -/
theorem wpBut_one (i : Nat) {fuel : Nat} {listed : Array Bool} {a : Act} {w : World} {o : Oper} (hr : Region.ready md ops listed = [i]) (ho : ops[i]? = some o)
    (hw : Region.wanted o (yielded ops a.tmps) = true)
    (h : ∀ K' : Act → World → Prop, Shut (∀ a w, S w → wpBut P md ops Q S c fuel (listed.setIfInBounds i true) a w → K' a w) → Oper.wp P o a w K' Q) : wpBut P md ops Q S c (fuel + 1) listed a w := by
  refine ⟨fun h0 => (by rw [hr] at h0; cases h0), fun j hj => ?_⟩
  rw [hr, List.mem_singleton] at hj
  subst hj
  unfold wpOp
  simp only [ho, hw, if_true]
  exact .inl (h _ (fun a w hS hW => ⟨fun _ => hS, hW⟩))
/-- One operation alone may come up: number c, or behind it: S is not asked. -/
theorem wpBut_last (i : Nat) {fuel : Nat} {listed : Array Bool} {a : Act} {w : World} {o : Oper} (hr : Region.ready md ops listed = [i]) (ho : ops[i]? = some o) (hc : (listed.setIfInBounds i true).getD c false = true)
    (hw : Region.wanted o (yielded ops a.tmps) = true)
    (h : ∀ K' : Act → World → Prop, Shut (∀ a w, wpBut P md ops Q S c fuel (listed.setIfInBounds i true) a w → K' a w) → Oper.wp P o a w K' Q) : wpBut P md ops Q S c (fuel + 1) listed a w := by
  refine ⟨fun h0 => (by rw [hr] at h0; cases h0), fun j hj => ?_⟩
  rw [hr, List.mem_singleton] at hj
  subst hj
  unfold wpOp
  simp only [ho, hw, if_true]
  exact .inl (h _ (fun a w hW => ⟨fun hn => (by rw [hc] at hn; cases hn), hW⟩))
theorem wpBut_done {listed : Array Bool} {a : Act} {w : World} (hr : Region.ready md ops listed = []) (h : Q .normal a w) :
    ∀ fuel, wpBut P md ops Q S c fuel listed a w
  | 0 => ⟨hr, h⟩
  | _ + 1 => ⟨fun _ => h, by rw [hr]; simp⟩

theorem wp_region_but (S : World → Prop) (c : Nat) {id : Nat} {a : Act} {w : World} (hm : P.follows .mixedOrders = true) (hS : S w.drew)
    (h : S w.drew → wpBut P .any ops Q S c ops.size (Array.replicate ops.size false) a w.drew) : (Code.region id ops true).wp P Q a w :=
  wp_region_any hm (wpAny_of_but _ _ _ _ (h hS))
end
end Go.Proofs.YtbkookiigkckdaaGreatDoor

