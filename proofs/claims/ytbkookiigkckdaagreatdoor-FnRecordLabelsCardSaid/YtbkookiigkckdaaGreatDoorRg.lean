/- FnRecordLabels: labels that came in; the row's step. -/
import Derived.Test.YtbkookiigkckdaaGreatDoorLz
import Derived.Test.YtbkookiigkckdaaGreatDoorBy
import Derived.Deep.SlicePairs
namespace Go.Proofs.YtbkookiigkckdaaGreatDoor
open Go Go.ChangeShapes Go.WideShapes Go.ChangeAt Go.RowKit
set_option linter.unusedVariables false
set_option linter.unusedSimpArgs false

theorem add_at (g off k : Nat) : (⟨g, off, none⟩ : Addr).add k = ⟨g, off + k, none⟩ := by unfold Addr.add; split <;> simp_all

/-- A slice of labels that came in reads as a list of labels. -/
theorem labels_in {H : Type} {enc : TypeId × Value → H} {W : World} {A : Option Addr} {len cap : Nat} {d : DataW H} {p : List MemPlace}
    (h : DataW.Trod enc Tryz.prog W 0 (fun _ => true) true 31 (.slice A len cap) d p) : ∃ l : List Lab, l.length = len ∧ len ≤ maxLen ∧ (∀ q ∈ l, q.1.size ≤ maxLen ∧ q.2.size ≤ maxLen) ∧ Sl (fun g => g < W.heap.size) W (.slice A len cap) 2 l.length (l.flatMap labc) := by
  obtain ⟨fuel, hf⟩ := h
  rcases Go.Deep.open_slice_pairs Tryz.underlying31 Tryz.underlying40 (by kernel_rfl) rfl rfl (by kernel_rfl) (by kernel_rfl) hf with ⟨hcs, _⟩ | ⟨a, l, c, m, n, V0, V1, D0, D1, P0, P1, hcs, _, hl, hm, hmm, _, hx⟩
  · simp [Value.cells] at hcs
    obtain ⟨rfl, rfl, rfl⟩ := hcs
    exact ⟨[], rfl, Nat.zero_le _, (fun q hq => by cases hq), _, _, rfl, rfl, Nat.le_refl _, fun h => absurd h (Nat.lt_irrefl _)⟩
  · simp [Value.cells] at hcs
    obtain ⟨rfl, rfl, rfl⟩ := hcs
    have hmc : m = cap := by simpa using hmm
    subst hmc
    have hs : ∀ i, i < m → ∃ q : Lab, V0 i = .string q.1 ∧ V1 i = .string q.2 ∧ q.1.size ≤ maxLen ∧ q.2.size ≤ maxLen := fun i hi => by
      obtain ⟨_, _, g0, g1⟩ := hx i hi
      obtain ⟨s, e0, _, hw0⟩ := DataW.trod_string Tryz.underlying9 g0
      obtain ⟨t, e1, _, hw1⟩ := DataW.trod_string Tryz.underlying9 g1
      injection e0 with e0
      injection e1 with e1
      exact ⟨(s, t), e0, e1, hw0, hw1⟩
    obtain ⟨q, hq⟩ := Go.Deep.choose_lt hs
    have hlen : ((List.range len).map q).length = len := by simp
    refine ⟨(List.range len).map q, hlen, by omega, fun z hz => ?_, ?_⟩
    · obtain ⟨i, hi, rfl⟩ := List.mem_map.mp hz
      have hi' := List.mem_range.mp hi
      exact ⟨(hq i (by omega)).2.2.1, (hq i (by omega)).2.2.2⟩
    · rw [hlen]
      have hfl : (((List.range len).map q).flatMap labc).length = len * 2 := by rw [flat2_len, hlen]
      refine ⟨_, _, rfl, hfl, hl, fun h0 => ?_⟩
      have c0 := (hx 0 (by omega)).1
      have hspot : a.spot = none := by simpa [Addr.add] using World.cell?_spot c0
      obtain ⟨g, off, sp⟩ := a
      obtain rfl : sp = none := hspot
      refine ⟨g, off, rfl, ?_, fun j u hu => ?_⟩
      · have := World.block_lt_of_cell? W _ c0
        simpa [Addr.add] using this
      · have hj : j < len * 2 := by
          rcases Nat.lt_or_ge j (len * 2) with h | h
          · exact h
          · rw [List.getElem?_eq_none (by rw [hfl]; exact h)] at hu; cases hu
        have hk : j / 2 < len := by omega
        have hx2 : ((List.range len).map q)[j / 2]? = some (q (j / 2)) := by rw [List.getElem?_map, List.getElem?_range hk]; rfl
        have h2 := flat2 labc (fun _ => rfl) _ (j / 2) _ hx2 (j % 2) (by omega)
        rw [show j / 2 * 2 + j % 2 = j by omega, hu] at h2
        obtain ⟨e0, e1, _⟩ := hx (j / 2) (by omega)
        obtain ⟨f0, f1, _⟩ := hq (j / 2) (by omega)
        rw [f0] at e0
        rw [f1] at e1
        rw [add_at] at e0 e1
        have hm2 : j % 2 = 0 ∨ j % 2 = 1 := by omega
        rcases hm2 with hm2 | hm2
        · rw [hm2] at h2
          have : u = .string (q (j / 2)).1 := by simpa [labc] using h2
          rw [this, ← e0]; congr 2; omega
        · rw [hm2] at h2
          have : u = .string (q (j / 2)).2 := by simpa [labc] using h2
          rw [this, ← e1]; congr 2; omega

theorem bytes_in2 {H : Type} {enc : TypeId × Value → H} {W : World} {A : Option Addr} {len cap : Nat} {d : DataW H} {p : List MemPlace}
    (h : DataW.Trod enc Tryz.prog W 0 (fun _ => true) true 44 (.slice A len cap) d p) : ∃ xs : List UInt8, xs.length ≤ maxLen ∧ Sl (fun g => g < W.heap.size) W (.slice A len cap) 1 xs.length (bc xs) := by
  have h2 := h
  obtain ⟨xs, hS⟩ := bytes_in h
  refine ⟨xs, ?_, hS⟩
  obtain ⟨A', c', e, _, _, _⟩ := hS
  injection e with e1 e2 e3
  obtain ⟨fuel, hf⟩ := h2
  rcases open_ints Tryz.underlying44 Tryz.underlying5 (by kernel_rfl) hf with ⟨hcs, _⟩ | ⟨a, l, c, zs, hcs, _, hl, hm, hz, _, hcell, hwz⟩
  · simp [Value.cells] at hcs
    obtain ⟨_, h, _⟩ := hcs
    omega
  · simp [Value.cells] at hcs
    obtain ⟨_, h, h3⟩ := hcs
    omega

set_option maxRecDepth 100000 in
theorem reclab_lifted (os : Os) (started : os.Started) (H : Type) (enc : TypeId × Value → H) :
    ReturnsInHanded {} Tryz.checked os 13 .any (fun w args => (Rows.fnRecordLabelsSpec.pre enc Tryz.prog Tryz.f13 [] false w args ∧ laidMetH Tryz.prog Rows.fnRecordLabelsRow.laid w) ∧ sizedMet enc Tryz.prog Tryz.f13 (OpenSpec.ofChange Rows.fnRecordLabelsSpec) false w args)
      (Rows.fnRecordLabelsSpec.post enc Tryz.prog Tryz.f13 false true false false) := by
  refine returnsInHanded_of_change_and (C := Tryz.checked) (X := fun w _ => laidMetH Tryz.prog Rows.fnRecordLabelsRow.laid w) (fun _ _ _ hh h => h.of_heap hh) ownKnobs started (by kernel_rfl) Tryz.func13
    (ChangeSpec.witness_shaped (enc := enc) (C := Tryz.checked) (os := os) (X := fun w _ => laidMetH Tryz.prog Rows.fnRecordLabelsRow.laid w) false (World.doorLaid Tryz.prog 400 os) #[.slice none 0 0, .slice none 0 0] 8 rfl (World.shaped_of_RefB (by kernel_rfl) (by kernel_rfl)) (by kernel_rfl) (by kernel_rfl) (by kernel_rfl) (door_met os _)) ?_
  intro W base args ds gs before hval0 hW _ _ hL _
  have hval : ∀ (j : Nat) t v, Tryz.f13.params[j]? = some t → args[j]? = some v → Value.okWide Tryz.prog W .any base t v := hval0
  have hW' := hW
  obtain ⟨p, q, hA0, hV, rfl, hfz, hnd⟩ := hW
  have hA : DataW.TrodAll enc Tryz.prog W 0 (fun _ => true) true Tryz.f13.params.toList args.toList ds p := hA0
  rw [Tryz.params13] at hA hval
  obtain ⟨v0, vs0, d0, ds0, p0, q0, hargs, rfl, rfl, h0, r0⟩ := trodAll_cons hA
  obtain ⟨v1, vs1, d1, ds1, p1, q1, rfl, rfl, rfl, h1, r1⟩ := trodAll_cons r0
  obtain ⟨rfl, rfl, rfl⟩ := trodAll_nil r1
  obtain rfl : args = #[v0, v1] := by cases args; simp_all
  obtain ⟨rfl, rfl⟩ := trodVars_none hV
  obtain ⟨A0, len0, cap0, rfl⟩ := okWide_slice Tryz.underlying31 (hval 0 31 v0 rfl rfl)
  obtain ⟨A, len, cap, rfl⟩ := okWide_slice Tryz.underlying44 (hval 1 44 v1 rfl rfl)
  have k0 := h0
  have k1 := h1
  have lt0 : ∀ x ∈ p0, x.block < W.heap.size := by obtain ⟨m, hm⟩ := k0; exact DataW.trod_lt m _ _ _ hm
  have lt1 : ∀ x ∈ p1, x.block < W.heap.size := by obtain ⟨m, hm⟩ := k1; exact DataW.trod_lt m _ _ _ hm
  obtain ⟨l, hl1, hl2, hls, hS⟩ := labels_in h0
  obtain ⟨xs, hxl, hX⟩ := bytes_in2 h1
  obtain ⟨te, pe, hE⟩ := errCell hL
  clear hA0 hval0
  refine (recLabels_walk te pe _ _ (.slice A0 len0 cap0) (.slice A len cap) l xs W hS hX (by rw [hl1]; simp only [maxLen] at hl2; omega) (fun q hq => by have := hls q hq; simp only [maxLen] at this; omega) (by simp only [maxLen] at hxl; omega) (fun _ h => h) (fun _ h => h) hE).mono fun e W' ⟨he, hf⟩ => ?_
  subst he
  have hB := hf.none_toBelow
  exact ⟨_, rfl, _, _, _, [], _, [], hW', trodAll_mk1 (shut_bool Tryz.underlying4 _), (trodAll_cons_mk (Below.trod laidOutAll (by kernel_rfl) (of_decide_eq_true (by kernel_rfl)) k0 hB lt0) (trodAll_cons_mk (Below.trod laidOutAll (by kernel_rfl) (of_decide_eq_true (by kernel_rfl)) k1 hB lt1) trodAll_mk0)), rfl, hB.frame _, fun h => by cases h⟩
end Go.Proofs.YtbkookiigkckdaaGreatDoor
