/- RecordRead at samples; recordAlive; FnRecordMetrics. -/
import Derived.Test.YtbkookiigkckdaaGreatDoorRr
import Derived.Test.YtbkookiigkckdaaGreatDoorRd
import Derived.Test.YtbkookiigkckdaaGreatDoorSa
import Derived.Test.YtbkookiigkckdaaGreatDoorPs
import Derived.Test.YtbkookiigkckdaaGreatDoorTm
import Derived.Test.YtbkookiigkckdaaGreatDoorTy
namespace Go.Proofs.YtbkookiigkckdaaGreatDoor
open Go.RowKit
set_option linter.unusedVariables false
set_option linter.unusedSimpArgs false

/-- Parts that hold samples alone, in memory of the call's own. -/
def SmpParts (base : Nat) (l : List Smp) (ps : Array Value) (w : World) : Prop :=
  ∃ lv, ps = #[.slice none 0 0, lv, .slice none 0 0, .slice none 0 0, .slice none 0 0, .slice none 0 0, .slice none 0 0] ∧ w.ownsRow base 113 3 lv l.length (l.flatMap Smp.a)

theorem seven_of {lv : Value} (h : ∃ A m c, lv = .slice A m c) : Seven #[.slice none 0 0, lv, .slice none 0 0, .slice none 0 0, .slice none 0 0, .slice none 0 0, .slice none 0 0] := by
  obtain ⟨A, m, c, rfl⟩ := h
  exact ⟨_, _, _, _, _, _, _, _, _, _, _, _, _, _, _, _, _, _, _, _, _, rfl⟩

theorem recordRead_samples (te : TypeId) (pe : Value) (q0 q1 q2 q3 q4 q5 q6 bv : Value) (xs : List UInt8) (P : Nat → Prop) (w : World) (hb : Sl P w bv 1 xs.length (bc xs)) (hxl : xs.length ≤ 1073741824) (hP : ∀ g, P g → g < w.heap.size)
    (hsl : ∀ s ∈ [q0, q1, q2, q3, q4, q5, q6], ∃ A m c, s = .slice A m c) (hs : Sl P w q1 3 0 []) (hE : w.cell? ⟨2, 0, none⟩ = some (.iface te pe)) :
    Calls Tryz.prog 29 #[.int .i64 2, bv, .agg #[q0, q1, q2, q3, q4, q5, q6]] w (ReadDone (SmpParts w.heap.size ((decSamples xs).getD [])) (decSamples xs).isSome w) := by
  have h2 := World.block_lt_of_cell? w _ hE
  refine recordRead_of 2 q0 q1 q2 q3 q4 q5 q6 bv xs P _ _ w hb hsl ?_ ?_
  · rintro ps W W' ⟨lv, rfl, ho⟩ hv
    refine ⟨lv, rfl, own_fr ho hv ?_⟩
    rintro g hg ⟨cs, h | h⟩
    · exact own_ne ho h (by decide) hg
    · exact own_ne ho h (by decide) hg
  · intro bb bk bq bp bo W hk hb' hq hp ho hbb hbp hbo hpq hF
    have hEW : W.cell? ⟨2, 0, none⟩ = some (.iface te pe) := by rw [hF.cell (p := ⟨2, 0, none⟩) h2 (fun e => e)]; exact hE
    refine (read1_samples te pe bb bk bq bp bo P q0 q1 q2 q3 q4 q5 q6 bv xs W hb' (hb.fr hF (fun _ _ e => e)) hk hq (hs.fr hF (fun _ _ e => e)) hp ho hEW hxl (fun g hg e => by have := hP g hg; omega) hpq (by simp only [] at h2; omega)).mono ?_
    rintro r w' ⟨rfl, hf, hbo', lv, hbp', hown⟩
    have hz := hF.size
    obtain ⟨a, c, hlv⟩ := own_slice' hown
    exact ⟨rfl, hf, hbo', _, seven_of ⟨_, _, _, hlv⟩, hbp', lv, rfl, own_mono hown hz⟩

def aliveS : List Smp := [⟨1, 2, 3⟩]
theorem aliveS_wf : ∀ s ∈ aliveS, s.wf := by
  intro s hs
  simp only [aliveS, List.mem_singleton] at hs
  subst hs
  exact ⟨by decide, by decide, by decide, by decide⟩
theorem aliveS_dec : decSamples (encSamples aliveS) = some aliveS := dec_enc _ aliveS_wf

set_option maxRecDepth 100000 in
set_option maxHeartbeats 2000000 in
theorem recordAlive_any (te : TypeId) (pe : Value) (w : World) (hE : w.cell? ⟨2, 0, none⟩ = some (.iface te pe)) : Calls Tryz.prog 28 #[] w (TrueEnds w) := by
  have HE := Lib.hid hE
  clear hE
  go_enter Tryz.func28, Tryz.ntmps28
  go_wp2_with fail
  have hX := (Blk.new w 113 #[.int .u64 1, .int .i64 2, .int .u64 3]).alloc (.cells #[.slice none 0 0, .slice (some ⟨w.heap.size, 0, none⟩) 1 1, .slice none 0 0, .slice none 0 0, .slice none 0 0, .slice none 0 0, .slice none 0 0] 54)
  have hY := blk_new2 w (.cells #[.int .u64 1, .int .i64 2, .int .u64 3] 113) 54 #[.slice none 0 0, .slice (some ⟨w.heap.size, 0, none⟩) 1 1, .slice none 0 0, .slice none 0 0, .slice none 0 0, .slice none 0 0, .slice none 0 0]
  have hF0 : Fr (fun _ => False) w ((w.alloc (.cells #[.int .u64 1, .int .i64 2, .int .u64 3] 113)).alloc (.cells #[.slice none 0 0, .slice (some ⟨w.heap.size, 0, none⟩) 1 1, .slice none 0 0, .slice none 0 0, .slice none 0 0, .slice none 0 0, .slice none 0 0] 54)) := ((Fr.refl _ w).alloc _).alloc _
  generalize World.alloc _ (Obj.cells #[.slice none 0 0, .slice (some ⟨w.heap.size, 0, none⟩) 1 1, .slice none 0 0, .slice none 0 0, .slice none 0 0, .slice none 0 0, .slice none 0 0] 54) = W at hX hY hF0 ⊢
  have hsl1 : Sl (fun g => g = w.heap.size) W (.slice (some ⟨w.heap.size, 0, none⟩) 1 1) 3 aliveS.length (aliveS.flatMap Smp.a) := by
    refine ⟨_, _, rfl, rfl, Nat.le_refl _, fun _ => ⟨_, 0, rfl, rfl, fun j u hu => ?_⟩⟩
    rw [Nat.zero_add, hX.cell, ← hu, ← List.getElem?_toArray]
    rfl
  have hnil : ∀ (P : Nat → Prop) (W : World) (s : Nat), Sl P W (.slice none 0 0) s 0 [] := fun P W s => ⟨_, _, rfl, by simp, Nat.le_refl _, fun h => absurd h (by omega)⟩
  have hC1 := recordWrite_samples (.slice none 0 0) (.slice (some ⟨w.heap.size, 0, none⟩) 1 1) (.slice none 0 0) (.slice none 0 0) (.slice none 0 0) (.slice none 0 0) (.slice none 0 0) (.slice none 0 0) [] aliveS (fun g => g = w.heap.size) W (hnil _ _ _) (by simp) (by
    intro s hs
    simp only [List.mem_cons, List.mem_nil_iff, or_false] at hs
    rcases hs with rfl | rfl | rfl | rfl | rfl | rfl | rfl <;> exact ⟨_, _, _, rfl⟩) hsl1 (by decide) aliveS_wf
  rw [List.nil_append] at hC1
  have HSL1 := Lib.hid hsl1
  have HY := Lib.hid hY
  have HF0 := Lib.hid hF0
  have HNIL := Lib.hid hnil
  have hWl := hF0.size
  have hXl := hX.lt
  clear hsl1 hX hY hF0 hnil
  refine hC1.mono ?_
  rintro r w1 ⟨v1, lv1, rfl, rfl, hown1, hf1⟩
  clear hC1
  obtain ⟨b1, k1, rfl⟩ := own_slice' hown1
  have hE1 : w1.cell? ⟨2, 0, none⟩ = some (.iface te pe) := by
    have h2 := World.block_lt_of_cell? w _ HE.out
    rw [(HF0.out.same hf1).cell (p := ⟨2, 0, none⟩) h2 (fun e => e)]; exact HE.out
  have hlen : (encSamples aliveS).length ≤ 200 := by
    have h1 := flatMap_len (encSmp ⟨1, 2, 3⟩) 28 (encSmp_len _) aliveS
    have h2 : (encSamples aliveS).length = 1 + (16 + (aliveS.flatMap (encSmp ⟨1, 2, 3⟩)).length) := by
      show ([2] ++ (encHdr ⟨1, 2, 3⟩ ++ aliveS.flatMap (encSmp ⟨1, 2, 3⟩))).length = _
      rw [List.length_append, List.length_append]
      simp only [encHdr, List.length_append, Lib.beBytes_length, List.length_singleton]
    rw [h2]
    have : aliveS.length = 1 := rfl
    omega
  have hS1 := Sl.ofOwn hown1
  have hC2 := recordRead_samples te pe (.slice none 0 0) (.slice none 0 0) (.slice none 0 0) (.slice none 0 0) (.slice none 0 0) (.slice none 0 0) (.slice none 0 0) _ (encSamples aliveS) _ w1 hS1 (by omega) (fun g hg => own_lt hown1 hg) (by
    intro s hs
    simp only [List.mem_cons, List.mem_nil_iff, or_false] at hs
    rcases hs with rfl | rfl | rfl | rfl | rfl | rfl | rfl <;> exact ⟨_, _, _, rfl⟩) (HNIL.out (fun g => (Value.slice b1 (encSamples aliveS).length k1).ownBlock = some g) w1 3) hE1
  rw [aliveS_dec] at hC2
  have HS1 := Lib.hid hS1
  have F1 := Lib.hid hf1
  have HO1 := Lib.hid hown1
  have hty : typeOf (encSamples aliveS) = 2 := rfl
  have HTY := Lib.hid hty
  clear hE1 hS1 hf1 hown1 hty
  generalize encSamples aliveS = xs at hC2 HS1 HO1 hlen HTY ⊢
  have hw1 := F1.out.size
  go_wp2_with (go_at_call 29; refine hC2.mono ?_; rintro r w2 ⟨ps, rfl, hps, hL, _, hf2⟩; refine Hid.out ?_)
  obtain ⟨lv, rfl, hown2⟩ := hL rfl
  clear hL hps hC2
  obtain ⟨b2, k2, rfl⟩ := own_slice' hown2
  have hw2 := hf2.size
  have F2 := Lib.hid hf2
  have HO2 := Lib.hid hown2
  clear hf2 hown2
  refine Lib.hid ?_
  have hS2 : Sl (fun g => (Value.slice b1 xs.length k1).ownBlock = some g) (w2.alloc (.cells #[.slice none 0 0, .slice b2 aliveS.length k2, .slice none 0 0, .slice none 0 0, .slice none 0 0, .slice none 0 0, .slice none 0 0] 54)) (.slice b1 xs.length k1) 1 xs.length (bc xs) := HS1.out.fr (F2.out.alloc _) (fun _ _ e => e)
  have hC3 := recordType_any _ _ xs _ hS2
  rw [HTY.out] at hC3
  clear hS2
  go_wp2_with (go_at_call 42; refine hC3.mono ?_; rintro r w3 ⟨v3, rfl, rfl, hf3⟩; refine Hid.out ?_)
  have F12 := HF0.out.same (F1.out.same F2.out)
  have F23 : Fr (fun _ => False) w2 w3 := ((Fr.refl _ w2).alloc _).same hf3
  have B3 : Blk w3 w2.heap.size 54 #[.slice none 0 0, .slice b2 aliveS.length k2, .slice none 0 0, .slice none 0 0, .slice none 0 0, .slice none 0 0, .slice none 0 0] := (Blk.new w2 54 _).fr hf3 (fun e => e)
  have A3 := HY.out.fr ((F1.out.same F2.out).same F23) (fun e => e)
  have F3 := F12.same F23
  have x0 := A3.cell 0
  have x1 := A3.cell 1
  have x2 := A3.cell 2
  have x3 := A3.cell 3
  have x4 := A3.cell 4
  have x5 := A3.cell 5
  have x6 := A3.cell 6
  have y0 := B3.cell 0
  have y1 := B3.cell 1
  have y2 := B3.cell 2
  have y3 := B3.cell 3
  have y4 := B3.cell 4
  have y5 := B3.cell 5
  have y6 := B3.cell 6
  simp only [List.getElem?_toArray, List.getElem?_cons_zero, List.getElem?_cons_succ] at x0 x1 x2 x3 x4 x5 x6 y0 y1 y2 y3 y4 y5 y6
  have hC4 := sameParts_of none none none none 0 0 0 0 (.slice (some ⟨w.heap.size, 0, none⟩) 1 1) (.slice none 0 0) (.slice none 0 0) (.slice none 0 0) (.slice none 0 0) (.slice b2 aliveS.length k2) (.slice none 0 0) (.slice none 0 0) (.slice none 0 0) (.slice none 0 0) w3 (by
    intro s hs
    simp only [List.mem_cons, List.mem_nil_iff, or_false] at hs
    rcases hs with rfl | rfl | rfl | rfl | rfl | rfl | rfl | rfl | rfl | rfl <;> exact ⟨_, _, _, rfl⟩)
    (fun W' hW' => same101_any _ _ _ _ aliveS W' (HSL1.out.fr (((F1.out.same F2.out).same F23).same hW') (fun _ _ e => e)) ((Sl.ofOwn HO2.out).fr (F23.same hW') (fun _ _ e => e)) (by decide))
    (fun W' _ => same102_nil _ _ _ _ W') (fun W' _ => same103_nil _ _ _ _ W') (fun W' _ => same104_nil _ _ _ _ W') (fun W' _ => same37_nil _ _ _ _ W')
  have HB3 := Lib.hid B3
  have HF3 := Lib.hid F3
  have hal : aliveS.length = 1 := rfl
  rw [hal] at y1 hC4 HB3 ⊢
  clear B3 A3 F3 F12 F23 hf3 hC3 HS1 HO2 HSL1 HY HF0 F1 F2 HO1 HNIL
  refine Lib.hid ?_
  go_wp2_with (go_at_call 32; refine hC4.mono ?_; rintro r w4 ⟨rfl, hf4⟩; have y1' := (HB3.out.fr hf4 (fun e => e)).cell 1; simp only [List.getElem?_toArray, List.getElem?_cons_zero, List.getElem?_cons_succ] at y1')
  go_ret
  exact ⟨rfl, HF3.out.same hf4⟩

theorem metrics_walk (te : TypeId) (pe : Value) (k : Nat) (w : World) (hE : w.cell? ⟨2, 0, none⟩ = some (.iface te pe)) : Calls Tryz.prog 14 #[.int .u8 k] w (TrueEnds w) := by
  have hA := recordAlive_any te pe w hE
  clear hE
  by_cases h7 : k ≤ 7
  · have hm : metricOf k = k := if_pos h7
    go_enter Tryz.func14, Tryz.ntmps14
    go_wp2_with (first | (go_at_call 28; refine hA.mono ?_; rintro r w1 ⟨rfl, hf1⟩) | (go_at_call 44; refine (recordMetric_any k _).mono ?_; rintro r w2 ⟨rfl, rfl⟩; rw [hm]))
    go_ret
    exact ⟨rfl, hf1⟩
  · have hm : metricOf k = 0 := if_neg h7
    have h8 : (7 : Int) < (k : Int) := by omega
    go_enter Tryz.func14, Tryz.ntmps14
    go_wp2_with (first | (go_at_call 28; refine hA.mono ?_; rintro r w1 ⟨rfl, hf1⟩) | (go_at_call 44; refine (recordMetric_any k _).mono ?_; rintro r w2 ⟨rfl, rfl⟩; rw [hm]))
    go_ret
    exact ⟨rfl, hf1⟩
end Go.Proofs.YtbkookiigkckdaaGreatDoor
