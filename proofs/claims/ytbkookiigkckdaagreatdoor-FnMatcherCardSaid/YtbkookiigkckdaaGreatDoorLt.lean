/- spec.SameLabels at equal labels, spec.LabelsRight, spec.Sorted. -/
import Derived.Test.YtbkookiigkckdaaGreatDoorLu
import Derived.Test.YtbkookiigkckdaaGreatDoorLe
import Derived.Test.YtbkookiigkckdaaGreatDoorSa
namespace Go.Proofs.YtbkookiigkckdaaGreatDoor
open Go.RowKit
set_option linter.unusedVariables false
set_option linter.unusedSimpArgs false

set_option maxHeartbeats 400000 in
/-- The elements of two slices that read alike: SameLabels says true. -/
theorem sameLabels_any (P Q : Nat → Prop) (u v : Value) (l : List Lab) (w : World) (hu : Sl P w u 2 l.length (l.flatMap labc)) (hv : Sl Q w v 2 l.length (l.flatMap labc)) (hl : l.length ≤ 1099511627776) : Calls Tryz.prog 25 #[u, v] w (TrueEnds w) := by
  obtain ⟨A, c, rfl, _, hc, hr⟩ := hu
  obtain ⟨B, d, rfl, _, hd, hs⟩ := hv
  obtain ⟨n, hn⟩ : ∃ n, l.length = n := ⟨_, rfl⟩
  rw [hn] at hr hs hc hd hl ⊢
  have HN := Lib.hid hn
  have HR := Lib.hid hr
  have HS := Lib.hid hs
  clear hn hr hs
  go_enter Tryz.func25, Tryz.ntmps25
  go_wp2
  go_loopw [5] (fun i wr => ∃ k : Nat, k ≤ n ∧ i = .int .i64 k ∧ Fr (fun _ => False) w wr) (fun i _ => n - (intOf i).toNat)
  case atStart => exact ⟨0, Nat.zero_le _, rfl, Fr.refl _ _⟩
  case round =>
    obtain ⟨k, hk, rfl, hf⟩ := hrel
    by_cases hlt : k < n
    · obtain ⟨g, off, rfl, _, hcell⟩ := HR.out (by omega)
      obtain ⟨g2, off2, rfl, _, hcell2⟩ := HS.out (by omega)
      obtain ⟨x, hx⟩ : ∃ x, l[k]? = some x := ⟨_, List.getElem?_eq_getElem (by rw [HN.out]; exact hlt)⟩
      have key : ∀ {g off : Nat}, (∀ j u, (l.flatMap labc)[j]? = some u → w.cell? ⟨g, off + j, none⟩ = some u) → ∀ j, j < 2 → ∀ u, (labc x)[j]? = some u → wr.drew.cell? ⟨g, off + (k * 2 + j), none⟩ = some u := fun {g off} hcell j hj u hu => by
        have := hcell (k * 2 + j) u (by rw [flat2 labc (fun _ => rfl) l k x hx j hj]; exact hu)
        rw [hf.drew.cell (p := ⟨g, off + (k * 2 + j), none⟩) (World.block_lt_of_cell? w _ this) (fun e => e)]
        exact this
      have c0 : wr.drew.cell? ⟨g, off + k * 2, none⟩ = some (.string x.1) := key hcell 0 (by omega) _ rfl
      have c1 : wr.drew.cell? ⟨g, off + k * 2 + 1, none⟩ = some (.string x.2) := key hcell 1 (by omega) _ rfl
      have d0 : wr.drew.cell? ⟨g2, off2 + k * 2, none⟩ = some (.string x.1) := key hcell2 0 (by omega) _ rfl
      have d1 : wr.drew.cell? ⟨g2, off2 + k * 2 + 1, none⟩ = some (.string x.2) := key hcell2 1 (by omega) _ rfl
      have hf2 := Lib.hid hf.drew
      clear hcell hcell2 key hf hx
      go_wp2
      go_region
      go_wp2
      go_roundw
      case rel => exact ⟨k + 1, by omega, by go_num, hf2.out⟩
      case measure => simp [intOf]; omega
    · obtain rfl : k = n := by omega
      go_wp2
      go_ret
      exact ⟨rfl, hf⟩

/-- Labels that are spoken of. -/
def LabOk (l : List Lab) (most bytes : Nat) : Prop := l.length ≤ most ∧ (∀ p ∈ l, p.1.size ≠ 0 ∧ p.1.size ≤ bytes ∧ p.2.size ≤ bytes) ∧ l.Pairwise (fun a b => a.1 ≠ b.1)
def RightEnds (l : List Lab) (most bytes : Nat) (w : World) (r : Ending) (w' : World) : Prop := ∃ b : Bool, r = .returned (.bool b) ∧ (b = true ↔ LabOk l most bytes) ∧ Fr (fun _ => False) w w'
def LabPre (l : List Lab) (bytes k : Nat) : Prop :=
  (∀ (i : Nat) (x : Lab), i < k → l[i]? = some x → x.1.size ≠ 0 ∧ x.1.size ≤ bytes ∧ x.2.size ≤ bytes) ∧ ∀ (i j : Nat) (x y : Lab), j < i → i < k → l[i]? = some x → l[j]? = some y → y.1 ≠ x.1
theorem LabPre.ok {l : List Lab} {most bytes : Nat} (h : LabPre l bytes l.length) (hl : l.length ≤ most) : LabOk l most bytes := by
  refine ⟨hl, fun p hp => ?_, ?_⟩
  · obtain ⟨i, hi⟩ := List.mem_iff_getElem?.mp hp
    exact h.1 i p (List.getElem?_eq_some_iff.mp hi).1 hi
  · rw [List.pairwise_iff_getElem]
    intro i j hi hj hij
    exact h.2 j i _ _ hij hj (List.getElem?_eq_getElem hj) (List.getElem?_eq_getElem hi)
theorem LabOk.at {l : List Lab} {most bytes : Nat} (h : LabOk l most bytes) (k : Nat) (x : Lab) (hx : l[k]? = some x) : x.1.size ≠ 0 ∧ x.1.size ≤ bytes ∧ x.2.size ≤ bytes := h.2.1 x (List.mem_of_getElem? hx)
theorem LabOk.ne {l : List Lab} {most bytes : Nat} (h : LabOk l most bytes) (k j : Nat) (x y : Lab) (hx : l[k]? = some x) (hy : l[j]? = some y) (hj : j < k) : y.1 ≠ x.1 := by
  obtain ⟨hk, rfl⟩ := List.getElem?_eq_some_iff.mp hx
  obtain ⟨hj', rfl⟩ := List.getElem?_eq_some_iff.mp hy
  exact List.pairwise_iff_getElem.mp h.2.2 j k hj' hk hj

theorem empty_iff (s : ByteArray) : s.toList.isEmpty = decide (s.size = 0) := by
  rw [Lib.toList_data, Lib.size_eq]
  cases s.data.toList <;> simp

set_option maxRecDepth 100000 in
set_option maxHeartbeats 2000000 in
theorem labelsRight_any (P : Nat → Prop) (v : Value) (l : List Lab) (most bytes : Nat) (w : World) (h : Sl P w v 2 l.length (l.flatMap labc)) (hl : l.length ≤ 1099511627776) (hm : most ≤ 1099511627776) (hb : bytes ≤ 1099511627776) :
    Calls Tryz.prog 53 #[v, .int .i64 most, .int .i64 bytes] w (RightEnds l most bytes w) := by
  obtain ⟨A, c, rfl, _, hc, hr⟩ := h
  obtain ⟨n, hn⟩ : ∃ n, l.length = n := ⟨_, rfl⟩
  rw [hn] at hr hc hl ⊢
  have HN := Lib.hid hn
  have HR := Lib.hid hr
  clear hn hr
  by_cases hmn : most < n
  · have hmn' : (most : Int) < n := by omega
    go_enter Tryz.func53, Tryz.ntmps53
    go_wp2
    go_ret
    exact ⟨false, rfl, ⟨fun h => (by cases h), fun h => absurd h.1 (by rw [HN.out]; omega)⟩, Fr.refl _ _⟩
  · have hmn' : ¬ (most : Int) < n := by omega
    go_enter Tryz.func53, Tryz.ntmps53
    go_wp2
    go_loopw [7] (fun i wr => ∃ k : Nat, k ≤ n ∧ i = .int .i64 k ∧ Hid (LabPre l bytes k) ∧ Hid (Fr (fun _ => False) w wr)) (fun i _ => n - (intOf i).toNat)
    case atStart => exact ⟨0, Nat.zero_le _, rfl, Lib.hid ⟨fun i x h => absurd h (Nat.not_lt_zero _), fun i j x y _ h => absurd h (Nat.not_lt_zero _)⟩, Lib.hid (Fr.refl _ _)⟩
    case round =>
      obtain ⟨k, hk, rfl, HP, HF⟩ := hrel
      by_cases hlt : k < n
      · obtain ⟨g, off, rfl, _, hcell⟩ := HR.out (by omega)
        obtain ⟨x, hx⟩ : ∃ x, l[k]? = some x := ⟨_, List.getElem?_eq_getElem (by rw [HN.out]; exact hlt)⟩
        have key : ∀ (i : Nat) (z : Lab), l[i]? = some z → ∀ W, Fr (fun _ => False) w W → W.cell? ⟨g, off + i * 2, none⟩ = some (.string z.1) ∧ W.cell? ⟨g, off + i * 2 + 1, none⟩ = some (.string z.2) := fun i z hz W hF => by
          have cc : ∀ j, j < 2 → ∀ u, (labc z)[j]? = some u → W.cell? ⟨g, off + (i * 2 + j), none⟩ = some u := fun j hj u hu => by
            have := hcell (i * 2 + j) u (by rw [flat2 labc (fun _ => rfl) l i z hz j hj]; exact hu)
            rw [hF.cell (p := ⟨g, off + (i * 2 + j), none⟩) (World.block_lt_of_cell? w _ this) (fun e => e)]
            exact this
          exact ⟨cc 0 (by omega) _ rfl, cc 1 (by omega) _ rfl⟩
        obtain ⟨c0, c1⟩ := key k x hx wr HF.out
        have HK := Lib.hid key
        have HX := Lib.hid hx
        clear key hcell hx
        by_cases e0 : x.1.size = 0
        · have e0' : x.1.toList.isEmpty = true := by rw [empty_iff]; exact decide_eq_true e0
          go_wp2
          go_ret
          exact ⟨false, rfl, ⟨fun h => (by cases h), fun h => absurd e0 (h.at k x HX.out).1⟩, HF.out⟩
        · have e0' : x.1.toList.isEmpty = false := by rw [empty_iff]; exact decide_eq_false e0
          by_cases h1 : bytes < x.1.size
          · have h1' : (bytes : Int) < x.1.size := by omega
            go_wp2
            go_ret
            exact ⟨false, rfl, ⟨fun h => (by cases h), fun h => absurd h1 (by have := (h.at k x HX.out).2.1; omega)⟩, HF.out⟩
          · have h1' : ¬ (bytes : Int) < x.1.size := by omega
            by_cases h2 : bytes < x.2.size
            · have h2' : (bytes : Int) < x.2.size := by omega
              go_wp2
              go_ret
              exact ⟨false, rfl, ⟨fun h => (by cases h), fun h => absurd h2 (by have := (h.at k x HX.out).2.2; omega)⟩, HF.out⟩
            · have h2' : ¬ (bytes : Int) < x.2.size := by omega
              go_wp2
              clear c0 c1
              go_loopw [8] (fun i w' => ∃ j : Nat, j ≤ k ∧ i = .int .i64 j ∧ Hid (∀ (i : Nat) (y : Lab), i < j → l[i]? = some y → y.1 ≠ x.1) ∧ Hid (Fr (fun _ => False) w w')) (fun i _ => k - (intOf i).toNat)
              case atStart => exact ⟨0, Nat.zero_le _, rfl, Lib.hid (fun i y h => absurd h (Nat.not_lt_zero _)), HF⟩
              case round =>
                obtain ⟨j, hj, rfl, HJ, HF2⟩ := hrel
                by_cases hlt2 : j < k
                · obtain ⟨y, hy⟩ : ∃ y, l[j]? = some y := ⟨_, List.getElem?_eq_getElem (by rw [HN.out]; omega)⟩
                  obtain ⟨c0, _⟩ := HK.out k x HX.out wr HF2.out
                  obtain ⟨b0, _⟩ := HK.out j y hy wr HF2.out
                  obtain ⟨d0, _⟩ := HK.out k x HX.out wr.drew HF2.out.drew
                  obtain ⟨d1, _⟩ := HK.out j y hy wr.drew HF2.out.drew
                  have HY := Lib.hid hy
                  have HF3 := Lib.hid HF2.out.drew
                  clear hy
                  by_cases he : y.1 = x.1
                  · have HE := Lib.hid he
                    go_wp2
                    go_region
                    all_goals go_wp2
                    go_ret
                    exact ⟨false, rfl, ⟨fun h => (by cases h), fun h => absurd HE.out (h.ne k j x y HX.out HY.out hlt2)⟩, HF3.out⟩
                  · have he1 : (y.1.toList == x.1.toList) = false := by rw [beq_eq_false_iff_ne, Lib.toList_data, Lib.toList_data]; exact fun e => he (ByteArray.ext (Array.toList_inj.1 e))
                    have HE := Lib.hid he
                    go_wp2
                    go_region
                    all_goals go_wp2
                    refine ⟨⟨j + 1, hlt2, rfl, Lib.hid ?_, HF3⟩, ?_⟩
                    · intro i z hi hz
                      by_cases e : i = j
                      · subst e
                        have := HY.out
                        rw [hz] at this
                        injection this with this
                        rw [this]; exact HE.out
                      · exact HJ.out i z (by omega) hz
                    · show k - ((j : Int) + 1).toNat < k - (j : Int).toNat; omega
                · obtain rfl : j = k := by omega
                  go_wp2
                  go_roundw
                  case rel =>
                    refine ⟨j + 1, by omega, by go_num, Lib.hid ?_, HF2⟩
                    have hp := HP.out
                    refine ⟨fun i z hi hz => ?_, fun i j' z y hji hi hz hy => ?_⟩
                    · by_cases e : i = j
                      · subst e
                        have := HX.out
                        rw [hz] at this
                        injection this with this
                        rw [this]; exact ⟨e0, by omega, by omega⟩
                      · exact hp.1 i z (by omega) hz
                    · by_cases e : i = j
                      · subst e
                        have := HX.out
                        rw [hz] at this
                        injection this with this
                        rw [this]; exact HJ.out j' y hji hy
                      · exact hp.2 i j' z y hji (by omega) hz hy
                  case measure => simp [intOf]; omega
      · obtain rfl : k = n := by omega
        go_wp2
        go_ret
        refine ⟨true, rfl, ⟨fun _ => ?_, fun _ => rfl⟩, HF.out⟩
        have hp := HP.out
        rw [← HN.out] at hp
        exact hp.ok (by rw [HN.out]; omega)
end Go.Proofs.YtbkookiigkckdaaGreatDoor
