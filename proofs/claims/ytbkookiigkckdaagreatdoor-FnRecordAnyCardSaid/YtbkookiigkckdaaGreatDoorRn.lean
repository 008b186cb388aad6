/- FnRecordAny: the walk whole, the row's step. -/
import Derived.Test.YtbkookiigkckdaaGreatDoorAb
import Derived.Test.YtbkookiigkckdaaGreatDoorAc
import Derived.Test.YtbkookiigkckdaaGreatDoorRm
import Derived.Lib.EndianZ
import Derived.ChangeSlices
import Derived.ChangeOld
import Derived.Below
namespace Go.Proofs.YtbkookiigkckdaaGreatDoor
open Go Go.ChangeShapes Go.WideShapes Go.ChangeAt Go.RowKit
set_option linter.unusedVariables false
set_option linter.unusedSimpArgs false

theorem any_walk (te : TypeId) (pe : Value) (P : Nat → Prop) (k : Nat) (hk : k ≤ 255) (v : Value) (xs : List UInt8) (w : World) (hv : Sl P w v 1 xs.length (bc xs)) (hP : ∀ g, P g → g < w.heap.size) (hE : w.cell? ⟨2, 0, none⟩ = some (.iface te pe)) : Calls Tryz.prog 7 #[.int .u8 k, v] w (TrueEnds w) := by
  by_cases hl : xs.length ≤ 400
  · have hm : (k : Int) % 3 = 0 ∨ (k : Int) % 3 = 1 ∨ (k : Int) % 3 = 2 := by omega
    rcases hm with hm | hm | hm
    · exact any_2 te pe P k hm v xs w hv hP hE hl
    · exact any_3 te pe P k hm v xs w hv hP hE hl
    · exact any_5 te pe P k hm v xs w hv hP hE hl
  · exact any_long te pe P k hk v xs w hv hE (by omega)

theorem u8_wf {z : Int} (h : (Lit.int .u8 z).wf = true) : (0 : Int) ≤ z ∧ z ≤ 255 := by
  simp only [Lit.wf, Bool.and_eq_true, decide_eq_true_eq] at h
  exact h

/-- A slice of bytes that came in reads as a list of bytes. -/
theorem bytes_in {H : Type} {enc : TypeId × Value → H} {W : World} {A : Option Addr} {len cap : Nat} {d : DataW H} {p : List MemPlace}
    (h : DataW.Trod enc Tryz.prog W 0 (fun _ => true) true 44 (.slice A len cap) d p) : ∃ xs : List UInt8, Sl (fun g => g < W.heap.size) W (.slice A len cap) 1 xs.length (bc xs) := by
  obtain ⟨fuel, hf⟩ := h
  rcases open_ints Tryz.underlying44 Tryz.underlying5 (by kernel_rfl) hf with ⟨hcs, _⟩ | ⟨a, l, c, zs, hcs, _, hl, hm, hz, _, hcell, hwz⟩
  · simp [Value.cells] at hcs
    obtain ⟨rfl, rfl, rfl⟩ := hcs
    exact ⟨[], nilSl _ _ _⟩
  · simp [Value.cells] at hcs
    obtain ⟨rfl, rfl, rfl⟩ := hcs
    have hz' : zs.length = cap := by simpa using hz
    have hlen : ((zs.take len).map Lib.byteOf).length = len := by rw [List.length_map, List.length_take]; omega
    refine ⟨(zs.take len).map Lib.byteOf, ?_⟩
    rw [hlen]
    refine ⟨_, _, rfl, by rw [bc_len, hlen]; omega, hl, fun h0 => ?_⟩
    have c0 := hcell 0 (by omega)
    have hspot : a.spot = none := by simpa [Addr.add] using World.cell?_spot c0
    obtain ⟨g, off, sp⟩ := a
    obtain rfl : sp = none := hspot
    refine ⟨g, off, rfl, ?_, fun j u hu => ?_⟩
    · have := World.block_lt_of_cell? W _ c0
      simpa [Addr.add] using this
    · rw [bc_get, List.getElem?_map] at hu
      have hj : j < len := by
        rcases Nat.lt_or_ge j len with h | h
        · exact h
        · rw [List.getElem?_eq_none (by rw [List.length_take]; omega)] at hu; cases hu
      have hjz : j < zs.length := by omega
      rw [List.getElem?_take_of_lt hj, List.getElem?_eq_getElem hjz] at hu
      have hc := hcell j hjz
      have e1 : (⟨g, off, none⟩ : Addr).add j = ⟨g, off + j, none⟩ := by unfold Addr.add; split <;> simp_all
      rw [e1] at hc
      rw [hc]
      have hzj : zs.getD j 0 = zs[j] := by simp [List.getD, List.getElem?_eq_getElem hjz]
      have hwf := u8_wf (hwz zs[j] (List.getElem_mem hjz))
      have hb := Lib.byteOf_toNat hwf
      rw [hzj, ← hu]
      simp [hb]

theorem laidOutAll : laidOutB Tryz.prog = true := by kernel_rfl

set_option maxRecDepth 100000 in
theorem any_lifted (os : Os) (started : os.Started) (H : Type) (enc : TypeId × Value → H) :
    ReturnsInHanded {} Tryz.checked os 7 .any (fun w args => (Rows.fnRecordAnySpec.pre enc Tryz.prog Tryz.f7 [] false w args ∧ laidMetH Tryz.prog Rows.fnRecordAnyRow.laid w) ∧ sizedMet enc Tryz.prog Tryz.f7 (OpenSpec.ofChange Rows.fnRecordAnySpec) false w args)
      (Rows.fnRecordAnySpec.post enc Tryz.prog Tryz.f7 false true false false) := by
  refine returnsInHanded_of_change_and (C := Tryz.checked) (X := fun w _ => laidMetH Tryz.prog Rows.fnRecordAnyRow.laid w) (fun _ _ _ hh h => h.of_heap hh) ownKnobs started (by kernel_rfl) Tryz.func7
    (ChangeSpec.witness_shaped (enc := enc) (C := Tryz.checked) (os := os) (X := fun w _ => laidMetH Tryz.prog Rows.fnRecordAnyRow.laid w) false (World.doorLaid Tryz.prog 400 os) #[.int .u8 0, .slice none 0 0] 8 rfl (World.shaped_of_RefB (by kernel_rfl) (by kernel_rfl)) (by kernel_rfl) (by kernel_rfl) (by kernel_rfl) (door_met os _)) ?_
  intro W base args ds gs before hval0 hW _ _ hL _
  have hval : ∀ (j : Nat) t v, Tryz.f7.params[j]? = some t → args[j]? = some v → Value.okWide Tryz.prog W .any base t v := hval0
  have hW' := hW
  obtain ⟨p, q, hA0, hV, rfl, hfz, hnd⟩ := hW
  have hA : DataW.TrodAll enc Tryz.prog W 0 (fun _ => true) true Tryz.f7.params.toList args.toList ds p := hA0
  rw [Tryz.params7] at hA hval
  obtain ⟨v0, vs0, d0, ds0, p0, q0, hargs, rfl, rfl, h0, r0⟩ := trodAll_cons hA
  obtain ⟨v1, vs1, d1, ds1, p1, q1, rfl, rfl, rfl, h1, r1⟩ := trodAll_cons r0
  obtain ⟨rfl, rfl, rfl⟩ := trodAll_nil r1
  obtain rfl : args = #[v0, v1] := by cases args; simp_all
  obtain ⟨rfl, rfl⟩ := trodVars_none hV
  obtain ⟨k, rfl, rfl, rfl, wk⟩ := open_int Tryz.underlying5 (hval 0 5 v0 rfl rfl) h0
  obtain ⟨A, len, cap, rfl⟩ := okWide_slice Tryz.underlying44 (hval 1 44 v1 rfl rfl)
  have k1 := h1
  have lt1 : ∀ x ∈ p1, x.block < W.heap.size := by obtain ⟨m, hm⟩ := k1; exact DataW.trod_lt m _ _ _ hm
  obtain ⟨xs, hS⟩ := bytes_in h1
  obtain ⟨te, pe, hE⟩ := errCell hL
  have hk0 := u8_wf wk
  obtain ⟨m, rfl⟩ : ∃ m : Nat, k = m := ⟨k.toNat, by omega⟩
  clear hA0 hval0
  refine (any_walk te pe _ m (by omega) (.slice A len cap) xs W hS (fun _ h => h) hE).mono fun e W' ⟨he, hf⟩ => ?_
  subst he
  have hB := hf.none_toBelow
  exact ⟨_, rfl, _, _, _, [], _, [], hW', trodAll_mk1 (shut_bool Tryz.underlying4 _), (trodAll_cons_mk (shut_int Tryz.underlying5 wk) (trodAll_cons_mk (Below.trod laidOutAll (by kernel_rfl) (of_decide_eq_true (by kernel_rfl)) k1 hB lt1) trodAll_mk0)), rfl, hB.frame _, fun h => by cases h⟩
end Go.Proofs.YtbkookiigkckdaaGreatDoor
