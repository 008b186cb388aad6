/- spec.Written at samples, tombstones, markers. -/
import Derived.Test.YtbkookiigkckdaaGreatDoorFl
import Derived.Test.YtbkookiigkckdaaGreatDoorPr
import Derived.Test.YtbkookiigkckdaaGreatDoorRd
namespace Go.Proofs.YtbkookiigkckdaaGreatDoor
open Go.RowKit
set_option linter.unusedVariables false
set_option linter.unusedSimpArgs false

def WrittenEnds (L : Value → World → Prop) (p0 p1 p3 p4 p5 p6 : Value) (w : World) (r : Ending) (w' : World) : Prop :=
  ∃ v, r = .returned (.agg #[p0, p1, v, p3, p4, p5, p6]) ∧ (∃ A m c, v = .slice A m c) ∧ L v w' ∧ Fr (fun _ => False) w w'

set_option maxRecDepth 100000 in
set_option maxHeartbeats 4000000 in
theorem written_of (kind : Int) (hk : kind = 2 ∨ kind = 3 ∨ kind = 5) (p0 p1 p2 p3 p4 p5 p6 : Value) (L : Value → World → Prop) (w : World)
    (hsl : ∀ s ∈ [p0, p1, p2, p3, p4, p5, p6], ∃ A m c, s = .slice A m c)
    (hL : ∀ v W W', L v W → Fr (fun k => ∃ cs, Blk W k 54 cs) W W' → L v W')
    (hc : ∀ W, Fr (fun _ => False) w W → Calls Tryz.prog 105 #[p2] W (fun r w' => ∃ v, r = .returned v ∧ (∃ A m c, v = .slice A m c) ∧ L v w' ∧ Fr (fun _ => False) W w')) :
    Calls Tryz.prog 33 #[.int .i64 kind, .agg #[p0, p1, p2, p3, p4, p5, p6]] w (WrittenEnds L p0 p1 p3 p4 p5 p6 w) := by
  obtain ⟨A0, m0, c0, rfl⟩ := hsl p0 (by simp)
  obtain ⟨A1, m1, c1, rfl⟩ := hsl p1 (by simp)
  obtain ⟨A2, m2, c2, rfl⟩ := hsl p2 (by simp)
  obtain ⟨A3, m3, c3, rfl⟩ := hsl p3 (by simp)
  obtain ⟨A4, m4, c4, rfl⟩ := hsl p4 (by simp)
  obtain ⟨A5, m5, c5, rfl⟩ := hsl p5 (by simp)
  obtain ⟨A6, m6, c6, rfl⟩ := hsl p6 (by simp)
  have HC := Lib.hid hc
  have HL := Lib.hid hL
  clear hsl hc hL
  rcases hk with rfl | rfl | rfl
  all_goals
    go_enter Tryz.func33, Tryz.ntmps33
    go_wp2_with (go_at_call 105; refine Hid.out ?_)
    have hB0 := (Blk.new w 54 #[.slice A0 m0 c0, .slice A1 m1 c1, .slice A2 m2 c2, .slice A3 m3 c3, .slice A4 m4 c4, .slice A5 m5 c5, .slice A6 m6 c6]).alloc (.cells nils 54)
    have hB1 := blk_new2 w (.cells #[.slice A0 m0 c0, .slice A1 m1 c1, .slice A2 m2 c2, .slice A3 m3 c3, .slice A4 m4 c4, .slice A5 m5 c5, .slice A6 m6 c6] 54) 54 nils
    have hF0 : Fr (fun _ => False) w ((w.alloc (.cells #[.slice A0 m0 c0, .slice A1 m1 c1, .slice A2 m2 c2, .slice A3 m3 c3, .slice A4 m4 c4, .slice A5 m5 c5, .slice A6 m6 c6] 54)).alloc (.cells nils 54)) := ((Fr.refl _ w).alloc _).alloc _
    unfold nils at hB0 hB1 hF0
    generalize World.alloc _ (Obj.cells #[.slice none 0 0, .slice none 0 0, .slice none 0 0, .slice none 0 0, .slice none 0 0, .slice none 0 0, .slice none 0 0] 54) = W at hB0 hB1 hF0 ⊢
    refine Lib.hid ?_
    refine (HC.out W hF0).mono ?_
    rintro r w1 ⟨v, rfl, ⟨Av, mv, cv, rfl⟩, hLv, hf1⟩
    have hC0 := hB0.fr hf1 (fun e => e)
    have hC1 := hB1.fr hf1 (fun e => e)
    have hF1 := hF0.same hf1
    have D0 := hC0.set_ 2 (.slice Av mv cv)
    have D0' : Blk (w1.setCell ⟨w.heap.size, 2, none⟩ (.slice Av mv cv)) w.heap.size 54 #[.slice A0 m0 c0, .slice A1 m1 c1, .slice Av mv cv, .slice A3 m3 c3, .slice A4 m4 c4, .slice A5 m5 c5, .slice A6 m6 c6] := by simpa using D0
    have D1 := hC1.far (p := ⟨w.heap.size, 2, none⟩) (by show w.heap.size + 1 ≠ w.heap.size; omega) (.slice Av mv cv)
    have y2 := hC0.cell 2
    have z2 := hC0.frozen 2
    simp at y2
    have FD := hF1.setCell (p := ⟨w.heap.size, 2, none⟩) (.inr (Nat.le_refl _)) (.slice Av mv cv)
    have LD := HL.out _ _ (w1.setCell ⟨w.heap.size, 2, none⟩ (.slice Av mv cv)) hLv ((Fr.refl _ w1).setCell (p := ⟨w.heap.size, 2, none⟩) (.inl ⟨_, hC0⟩) _)
    have HD0 := Lib.hid D0'
    have HD1 := Lib.hid D1
    have HFD := Lib.hid FD
    have HLD := Lib.hid LD
    obtain ⟨x0, x1, x2, x3, x4, x5, x6⟩ := seven_cells D0'
    obtain ⟨u0, u1, u2, u3, u4, u5, u6⟩ := seven_cells D1
    have t0 := D1.frozen 0
    have t1 := D1.frozen 1
    have t2 := D1.frozen 2
    have t3 := D1.frozen 3
    have t4 := D1.frozen 4
    have t5 := D1.frozen 5
    have t6 := D1.frozen 6
    clear hB0 hB1 hF0 hf1 hC0 hC1 hF1 D0 D0' D1 FD LD hLv
    go_wp2_with fail
    have g7 := blk_set7 (.slice A0 m0 c0) (.slice A1 m1 c1) (.slice Av mv cv) (.slice A3 m3 c3) (.slice A4 m4 c4) (.slice A5 m5 c5) (.slice A6 m6 c6) HD1.out
    have F7 := fr_set7 (.slice A0 m0 c0) (.slice A1 m1 c1) (.slice Av mv cv) (.slice A3 m3 c3) (.slice A4 m4 c4) (.slice A5 m5 c5) (.slice A6 m6 c6) HFD.out (b := w.heap.size + 1) (.inr (by omega))
    have V7 := fr_set7 (.slice A0 m0 c0) (.slice A1 m1 c1) (.slice Av mv cv) (.slice A3 m3 c3) (.slice A4 m4 c4) (.slice A5 m5 c5) (.slice A6 m6 c6) (Fr.refl (fun k => ∃ cs, Blk (w1.setCell ⟨w.heap.size, 2, none⟩ (.slice Av mv cv)) k 54 cs) (w1.setCell ⟨w.heap.size, 2, none⟩ (.slice Av mv cv))) (b := w.heap.size + 1) (.inl ⟨_, HD1.out⟩)
    have L7 := HL.out _ _ _ HLD.out V7
    generalize (World.setCell (World.setCell _ _ _) ⟨w.heap.size + 1, 6, none⟩ _) = w7 at g7 F7 L7 ⊢
    obtain ⟨q0, q1, q2, q3, q4, q5, q6⟩ := seven_cells g7
    have HF7 := Lib.hid F7
    have HL7 := Lib.hid L7
    clear F7 L7 V7 g7 x0 x1 x2 x3 x4 x5 x6 u0 u1 u2 u3 u4 u5 u6 t0 t1 t2 t3 t4 t5 t6
    simp [Exit.then, bodyPost, results, Tryz.results33, go_sem, q0, q1, q2, q3, q4, q5, q6]
    exact ⟨_, rfl, ⟨_, _, _, rfl⟩, HL7.out, HF7.out⟩

theorem slices7 {A0 A1 A2 A3 A4 A5 A6 : Option Addr} {m0 m1 m2 m3 m4 m5 m6 c0 c1 c2 c3 c4 c5 c6 : Nat} : ∀ s ∈ [Value.slice A0 m0 c0, .slice A1 m1 c1, .slice A2 m2 c2, .slice A3 m3 c3, .slice A4 m4 c4, .slice A5 m5 c5, .slice A6 m6 c6], ∃ A m c, s = .slice A m c := by
  intro s hs
  simp only [List.mem_cons, List.mem_nil_iff, or_false] at hs
  rcases hs with rfl | rfl | rfl | rfl | rfl | rfl | rfl <;> exact ⟨_, _, _, rfl⟩

/-- Written of parts without tombstones. -/
theorem written_none (kind : Int) (hk : kind = 2 ∨ kind = 3 ∨ kind = 5) (A0 A1 A2 A3 A4 A5 A6 : Option Addr) (m0 m1 m3 m4 m5 m6 c0 c1 c2 c3 c4 c5 c6 : Nat) (w : World) :
    Calls Tryz.prog 33 #[.int .i64 kind, .agg #[.slice A0 m0 c0, .slice A1 m1 c1, .slice A2 0 c2, .slice A3 m3 c3, .slice A4 m4 c4, .slice A5 m5 c5, .slice A6 m6 c6]] w
      (WrittenEnds (fun v _ => v = .slice none 0 0) (.slice A0 m0 c0) (.slice A1 m1 c1) (.slice A3 m3 c3) (.slice A4 m4 c4) (.slice A5 m5 c5) (.slice A6 m6 c6) w) :=
  written_of kind hk _ _ _ _ _ _ _ _ w slices7 (fun _ _ _ h _ => h) (fun W _ => (flat_nil c2 A2 W).mono fun r w' h => ⟨_, h.1, ⟨_, _, _, rfl⟩, rfl, h.2 ▸ Fr.refl _ _⟩)
/-- Written of parts that hold tombstones. -/
theorem written_stones (P : Nat → Prop) (lv : List (Ston × Value)) (A0 A1 A2 A3 A4 A5 A6 : Option Addr) (m0 m1 m2 m3 m4 m5 m6 c0 c1 c2 c3 c4 c5 c6 : Nat) (w : World) (h : SlS P w (.slice A2 m2 c2) lv) (hl : lv.length ≤ 4096) (hil : ∀ p ∈ lv, p.1.ivs.length ≤ 4096) :
    Calls Tryz.prog 33 #[.int .i64 3, .agg #[.slice A0 m0 c0, .slice A1 m1 c1, .slice A2 m2 c2, .slice A3 m3 c3, .slice A4 m4 c4, .slice A5 m5 c5, .slice A6 m6 c6]] w
      (WrittenEnds (fun v W => ∃ lo, lo.map Prod.fst = (flatS (lv.map Prod.fst)).map one ∧ OwnS w.heap.size 151 281 W v lo) (.slice A0 m0 c0) (.slice A1 m1 c1) (.slice A3 m3 c3) (.slice A4 m4 c4) (.slice A5 m5 c5) (.slice A6 m6 c6) w) := by
  refine written_of 3 (.inr (.inl rfl)) _ _ _ _ _ _ _ _ w slices7 ?_ ?_
  · rintro v W W' ⟨lo, hm, ho⟩ hf
    refine ⟨lo, hm, own_fr ho.1 hf ?_, fun p hp => own_fr (ho.2 p hp) hf ?_⟩
    · rintro g hg ⟨cs, hb⟩; exact own_ne ho.1 hb (by decide) hg
    · rintro g hg ⟨cs, hb⟩; exact own_ne (ho.2 p hp) hb (by decide) hg
  · intro W hF
    refine (flat_any P _ lv W (h.fr hF (fun _ _ e => e)) hl hil).mono ?_
    rintro r w' ⟨v, lo, rfl, hm, ho, hf⟩
    obtain ⟨a, k, rfl⟩ := own_slice' ho.1
    exact ⟨_, rfl, ⟨_, _, _, rfl⟩, ⟨lo, hm, OwnS.mono ho hF.size⟩, hf⟩
end Go.Proofs.YtbkookiigkckdaaGreatDoor
