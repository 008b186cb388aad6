/- SameParts: its callees at lists that are the same. -/
import Derived.Test.YtbkookiigkckdaaGreatDoorSmp
import Derived.BigRegion
namespace Go.Proofs.YtbkookiigkckdaaGreatDoor
open Go.RowKit
set_option linter.unusedVariables false
set_option linter.unusedSimpArgs false

def TrueEnds (w : World) (r : Ending) (w' : World) : Prop := r = .returned (.bool true) ∧ Fr (fun _ => False) w w'

theorem same103_nil (A B : Option Addr) (c d : Nat) (w : World) : Calls Tryz.prog 103 #[.slice A 0 c, .slice B 0 d] w (TrueEnds w) := by
  go_enter Tryz.func103, Tryz.ntmps103
  go_wp2
  go_loopw [5] (fun i wr => i = .int .i64 0 ∧ wr = w) (fun i _ => 0)
  case atStart => exact ⟨rfl, rfl⟩
  case round =>
    obtain ⟨rfl, rfl⟩ := hrel
    go_wp2
    go_ret
    exact ⟨rfl, Fr.refl _ _⟩
theorem same104_nil (A B : Option Addr) (c d : Nat) (w : World) : Calls Tryz.prog 104 #[.slice A 0 c, .slice B 0 d] w (TrueEnds w) := by
  go_enter Tryz.func104, Tryz.ntmps104
  go_wp2
  go_loopw [5] (fun i wr => i = .int .i64 0 ∧ wr = w) (fun i _ => 0)
  case atStart => exact ⟨rfl, rfl⟩
  case round =>
    obtain ⟨rfl, rfl⟩ := hrel
    go_wp2
    go_ret
    exact ⟨rfl, Fr.refl _ _⟩
theorem same102_nil (A B : Option Addr) (c d : Nat) (w : World) : Calls Tryz.prog 102 #[.slice A 0 c, .slice B 0 d] w (TrueEnds w) := by
  go_enter Tryz.func102, Tryz.ntmps102
  go_wp2
  go_loopw [5] (fun i wr => i = .int .i64 0 ∧ wr = w) (fun i _ => 0)
  case atStart => exact ⟨rfl, rfl⟩
  case round =>
    obtain ⟨rfl, rfl⟩ := hrel
    go_wp2
    go_ret
    exact ⟨rfl, Fr.refl _ _⟩
theorem same37_nil (A B : Option Addr) (c d : Nat) (w : World) : Calls Tryz.prog 37 #[.slice A 0 c, .slice B 0 d] w (TrueEnds w) := by
  go_enter Tryz.func37, Tryz.ntmps37
  go_wp2
  go_loopw [5] (fun i wr => i = .int .i64 0 ∧ wr = w) (fun i _ => 0)
  case atStart => exact ⟨rfl, rfl⟩
  case round =>
    obtain ⟨rfl, rfl⟩ := hrel
    go_wp2
    go_ret
    exact ⟨rfl, Fr.refl _ _⟩

/-- The elements of two slices that read alike: same says true. -/
theorem same101_any (P Q : Nat → Prop) (u v : Value) (l : List Smp) (w : World) (hu : Sl P w u 3 l.length (l.flatMap Smp.a)) (hv : Sl Q w v 3 l.length (l.flatMap Smp.a)) (hl : l.length ≤ 1099511627776) : Calls Tryz.prog 101 #[u, v] w (TrueEnds w) := by
  obtain ⟨A, c, rfl, _, hc, hr⟩ := hu
  obtain ⟨B, d, rfl, _, hd, hs⟩ := hv
  obtain ⟨n, hn⟩ : ∃ n, l.length = n := ⟨_, rfl⟩
  rw [hn] at hr hs hc hd hl ⊢
  have HN := Lib.hid hn
  have HR := Lib.hid hr
  have HS := Lib.hid hs
  clear hn hr hs
  go_enter Tryz.func101, Tryz.ntmps101
  go_wp2
  go_loopw [5] (fun i wr => ∃ k : Nat, k ≤ n ∧ i = .int .i64 k ∧ Fr (fun _ => False) w wr) (fun i _ => n - (intOf i).toNat)
  case atStart => exact ⟨0, Nat.zero_le _, rfl, Fr.refl _ _⟩
  case round =>
    obtain ⟨k, hk, rfl, hf⟩ := hrel
    by_cases hlt : k < n
    · obtain ⟨g, off, rfl, _, hcell⟩ := HR.out (by omega)
      obtain ⟨g2, off2, rfl, _, hcell2⟩ := HS.out (by omega)
      obtain ⟨x, hx⟩ : ∃ x, l[k]? = some x := ⟨_, List.getElem?_eq_getElem (by rw [HN.out]; exact hlt)⟩
      have key : ∀ {g off : Nat}, (∀ j u, (l.flatMap Smp.a)[j]? = some u → w.cell? ⟨g, off + j, none⟩ = some u) → ∀ j, j < 3 → ∀ u, (Smp.a x)[j]? = some u → wr.drew.cell? ⟨g, off + (k * 3 + j), none⟩ = some u := fun {g off} hcell j hj u hu => by
        have := hcell (k * 3 + j) u (by rw [flat3 Smp.a (fun _ => rfl) l k x hx j hj]; exact hu)
        rw [hf.drew.cell (p := ⟨g, off + (k * 3 + j), none⟩) (World.block_lt_of_cell? w _ this) (fun e => e)]
        exact this
      have c0 : wr.drew.cell? ⟨g, off + k * 3, none⟩ = some (.int .u64 x.ref) := key hcell 0 (by omega) _ rfl
      have c1 : wr.drew.cell? ⟨g, off + k * 3 + 1, none⟩ = some (.int .i64 x.t) := key hcell 1 (by omega) _ rfl
      have c2 : wr.drew.cell? ⟨g, off + k * 3 + 2, none⟩ = some (.int .u64 x.v) := key hcell 2 (by omega) _ rfl
      have d0 : wr.drew.cell? ⟨g2, off2 + k * 3, none⟩ = some (.int .u64 x.ref) := key hcell2 0 (by omega) _ rfl
      have d1 : wr.drew.cell? ⟨g2, off2 + k * 3 + 1, none⟩ = some (.int .i64 x.t) := key hcell2 1 (by omega) _ rfl
      have d2 : wr.drew.cell? ⟨g2, off2 + k * 3 + 2, none⟩ = some (.int .u64 x.v) := key hcell2 2 (by omega) _ rfl
      have hf2 := Lib.hid hf.drew
      clear hcell hcell2 key hf hx
      go_wp2
      go_region
      go_wp2
      go_roundw
      case rel => exact ⟨k + 1, by omega, by go_num, hf2.out⟩
      case measure => simp [intOf]; omega
    · obtain rfl : k = n := by omega
      go_wp2
      go_ret
      exact ⟨rfl, hf⟩

set_option maxRecDepth 100000 in
set_option maxHeartbeats 2000000 in
theorem sameParts_of (A0 B0 A3 B3 : Option Addr) (c0 d0 c3 d3 : Nat) (p1 p2 p4 p5 p6 q1 q2 q4 q5 q6 : Value) (w : World)
    (hsl : ∀ s ∈ [p1, p2, p4, p5, p6, q1, q2, q4, q5, q6], ∃ A m c, s = .slice A m c)
    (h1 : ∀ W, Fr (fun _ => False) w W → Calls Tryz.prog 101 #[p1, q1] W (TrueEnds W)) (h2 : ∀ W, Fr (fun _ => False) w W → Calls Tryz.prog 102 #[p2, q2] W (TrueEnds W)) (h4 : ∀ W, Fr (fun _ => False) w W → Calls Tryz.prog 103 #[p4, q4] W (TrueEnds W))
    (h5 : ∀ W, Fr (fun _ => False) w W → Calls Tryz.prog 104 #[p5, q5] W (TrueEnds W)) (h6 : ∀ W, Fr (fun _ => False) w W → Calls Tryz.prog 37 #[p6, q6] W (TrueEnds W)) :
    Calls Tryz.prog 32 #[.agg #[.slice A0 0 c0, p1, p2, .slice A3 0 c3, p4, p5, p6], .agg #[.slice B0 0 d0, q1, q2, .slice B3 0 d3, q4, q5, q6]] w (TrueEnds w) := by
  obtain ⟨a1, m1, k1, rfl⟩ := hsl p1 (by simp)
  obtain ⟨a2, m2, k2, rfl⟩ := hsl p2 (by simp)
  obtain ⟨a4, m4, k4, rfl⟩ := hsl p4 (by simp)
  obtain ⟨a5, m5, k5, rfl⟩ := hsl p5 (by simp)
  obtain ⟨a6, m6, k6, rfl⟩ := hsl p6 (by simp)
  obtain ⟨b1, n1, j1, rfl⟩ := hsl q1 (by simp)
  obtain ⟨b2, n2, j2, rfl⟩ := hsl q2 (by simp)
  obtain ⟨b4, n4, j4, rfl⟩ := hsl q4 (by simp)
  obtain ⟨b5, n5, j5, rfl⟩ := hsl q5 (by simp)
  obtain ⟨b6, n6, j6, rfl⟩ := hsl q6 (by simp)
  have H1 := Lib.hid h1
  have H2 := Lib.hid h2
  have H4 := Lib.hid h4
  have H5 := Lib.hid h5
  have H6 := Lib.hid h6
  clear hsl h1 h2 h4 h5 h6
  go_enter Tryz.func32, Tryz.ntmps32
  go_wp2_with fail
  have hP := (Blk.new w 54 #[.slice A0 0 c0, .slice a1 m1 k1, .slice a2 m2 k2, .slice A3 0 c3, .slice a4 m4 k4, .slice a5 m5 k5, .slice a6 m6 k6]).alloc (.cells #[.slice B0 0 d0, .slice b1 n1 j1, .slice b2 n2 j2, .slice B3 0 d3, .slice b4 n4 j4, .slice b5 n5 j5, .slice b6 n6 j6] 54)
  have hQ := Blk.new (w.alloc (.cells #[.slice A0 0 c0, .slice a1 m1 k1, .slice a2 m2 k2, .slice A3 0 c3, .slice a4 m4 k4, .slice a5 m5 k5, .slice a6 m6 k6] 54)) 54 #[.slice B0 0 d0, .slice b1 n1 j1, .slice b2 n2 j2, .slice B3 0 d3, .slice b4 n4 j4, .slice b5 n5 j5, .slice b6 n6 j6]
  obtain ⟨W, hW⟩ : ∃ W, (w.alloc (.cells #[.slice A0 0 c0, .slice a1 m1 k1, .slice a2 m2 k2, .slice A3 0 c3, .slice a4 m4 k4, .slice a5 m5 k5, .slice a6 m6 k6] 54)).alloc (.cells #[.slice B0 0 d0, .slice b1 n1 j1, .slice b2 n2 j2, .slice B3 0 d3, .slice b4 n4 j4, .slice b5 n5 j5, .slice b6 n6 j6] 54) = W := ⟨_, rfl⟩
  have hF : Fr (fun _ => False) w W := hW ▸ ((Fr.refl _ w).alloc _).alloc _
  rw [hW] at hP hQ ⊢
  have e1 : ∀ (w : World) (o : Obj), (w.alloc o).heap.size = w.heap.size + 1 := fun w o => by simp
  rw [e1] at hQ
  have x0 := hP.cell 0
  have x1 := hP.cell 1
  have x2 := hP.cell 2
  have x3 := hP.cell 3
  have x4 := hP.cell 4
  have x5 := hP.cell 5
  have x6 := hP.cell 6
  have y0 := hQ.cell 0
  have y1 := hQ.cell 1
  have y2 := hQ.cell 2
  have y3 := hQ.cell 3
  have y4 := hQ.cell 4
  have y5 := hQ.cell 5
  have y6 := hQ.cell 6
  simp only [List.getElem?_toArray, List.getElem?_cons_zero, List.getElem?_cons_succ] at x0 x1 x2 x3 x4 x5 x6 y0 y1 y2 y3 y4 y5 y6
  have HP := Lib.hid hP
  have HQ := Lib.hid hQ
  have HF := Lib.hid hF
  clear hW hP hQ hF e1
  go_loopw [5] (fun i wr => i = .int .i64 0 ∧ wr = W) (fun i _ => 0)
  case atStart => exact ⟨rfl, rfl⟩
  case round =>
    obtain ⟨rfl, rfl⟩ := hrel
    go_wp2_with fail
    go_loopw [6] (fun i w' => i = .int .i64 0 ∧ w' = wr) (fun i _ => 0)
    case atStart => exact ⟨rfl, rfl⟩
    case round =>
      obtain ⟨rfl, rfl⟩ := hrel
      go_wp2_with (go_at_call 101; refine (H1.out _ HF.out).mono ?_; rintro r W1 ⟨rfl, hf1⟩; refine Hid.out ?_)
      have F1 := Lib.hid (HF.out.same hf1)
      have hP1 := HP.out.fr hf1 (fun e => e)
      have hQ1 := HQ.out.fr hf1 (fun e => e)
      have P1 := Lib.hid hP1
      have Q1 := Lib.hid hQ1
      have u1 := hP1.cell 2
      have v1 := hQ1.cell 2
      simp only [List.getElem?_toArray, List.getElem?_cons_zero, List.getElem?_cons_succ] at u1 v1
      clear hf1 hP1 hQ1
      refine Lib.hid ?_
      go_wp2_with (go_at_call 102; refine (H2.out _ F1.out).mono ?_; rintro r W2 ⟨rfl, hf2⟩; refine Hid.out ?_)
      have F2 := Lib.hid (F1.out.same hf2)
      have hP2 := P1.out.fr hf2 (fun e => e)
      have hQ2 := Q1.out.fr hf2 (fun e => e)
      have P2 := Lib.hid hP2
      have Q2 := Lib.hid hQ2
      have u2 := hP2.cell 4
      have v2 := hQ2.cell 4
      simp only [List.getElem?_toArray, List.getElem?_cons_zero, List.getElem?_cons_succ] at u2 v2
      clear hf2 hP2 hQ2
      refine Lib.hid ?_
      go_wp2_with (go_at_call 103; refine (H4.out _ F2.out).mono ?_; rintro r W3 ⟨rfl, hf3⟩; refine Hid.out ?_)
      have F3 := Lib.hid (F2.out.same hf3)
      have hP3 := P2.out.fr hf3 (fun e => e)
      have hQ3 := Q2.out.fr hf3 (fun e => e)
      have P3 := Lib.hid hP3
      have Q3 := Lib.hid hQ3
      have u3 := hP3.cell 5
      have v3 := hQ3.cell 5
      simp only [List.getElem?_toArray, List.getElem?_cons_zero, List.getElem?_cons_succ] at u3 v3
      clear hf3 hP3 hQ3
      refine Lib.hid ?_
      go_wp2_with (go_at_call 104; refine (H5.out _ F3.out).mono ?_; rintro r W4 ⟨rfl, hf4⟩; refine Hid.out ?_)
      have F4 := Lib.hid (F3.out.same hf4)
      have hP4 := P3.out.fr hf4 (fun e => e)
      have hQ4 := Q3.out.fr hf4 (fun e => e)
      have P4 := Lib.hid hP4
      have Q4 := Lib.hid hQ4
      have u4 := hP4.cell 6
      have v4 := hQ4.cell 6
      simp only [List.getElem?_toArray, List.getElem?_cons_zero, List.getElem?_cons_succ] at u4 v4
      clear hf4 hP4 hQ4
      refine Lib.hid ?_
      go_wp2_with (go_at_call 37; refine (H6.out _ F4.out).mono ?_; rintro r W5 ⟨rfl, hf5⟩; refine Hid.out ?_)
      have F5 := Lib.hid (F4.out.same hf5)
      have hP5 := P4.out.fr hf5 (fun e => e)
      have hQ5 := Q4.out.fr hf5 (fun e => e)
      have P5 := Lib.hid hP5
      have Q5 := Lib.hid hQ5
      clear hf5 hP5 hQ5
      refine Lib.hid ?_
      go_wp2
      go_ret
      exact ⟨rfl, F5.out⟩
end Go.Proofs.YtbkookiigkckdaaGreatDoor
