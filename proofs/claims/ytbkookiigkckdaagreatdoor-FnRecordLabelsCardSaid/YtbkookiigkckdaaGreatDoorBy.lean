/- Bytes that came in: a slice of bytes reads as a list of bytes. -/
import Derived.Test.YtbkookiigkckdaaGreatDoorRm
import Derived.Lib.EndianZ
import Derived.ChangeSlices
import Derived.ChangeOld
import Derived.Below
namespace Go.Proofs.YtbkookiigkckdaaGreatDoor
open Go Go.ChangeShapes Go.WideShapes Go.ChangeAt Go.RowKit
set_option linter.unusedVariables false
set_option linter.unusedSimpArgs false

theorem u8_wf {z : Int} (h : (Lit.int .u8 z).wf = true) : (0 : Int) ≤ z ∧ z ≤ 255 := by
  simp only [Lit.wf, Bool.and_eq_true, decide_eq_true_eq] at h
  exact h

/-- A slice of bytes that came in reads as a list of bytes. -/
theorem bytes_in {H : Type} {enc : TypeId × Value → H} {W : World} {A : Option Addr} {len cap : Nat} {d : DataW H} {p : List MemPlace}
    (h : DataW.Trod enc Tryz.prog W 0 (fun _ => true) true 44 (.slice A len cap) d p) : ∃ xs : List UInt8, Sl (fun g => g < W.heap.size) W (.slice A len cap) 1 xs.length (bc xs) := by
  obtain ⟨fuel, hf⟩ := h
  rcases open_ints Tryz.underlying44 Tryz.underlying5 (by kernel_rfl) hf with ⟨hcs, _⟩ | ⟨a, l, c, zs, hcs, _, hl, hm, hz, _, hcell, hwz⟩
  · simp [Value.cells] at hcs
    obtain ⟨rfl, rfl, rfl⟩ := hcs
    exact ⟨[], _, _, rfl, rfl, Nat.le_refl _, fun h => absurd h (Nat.lt_irrefl _)⟩
  · simp [Value.cells] at hcs
    obtain ⟨rfl, rfl, rfl⟩ := hcs
    have hz' : zs.length = cap := by simpa using hz
    have hlen : ((zs.take len).map Lib.byteOf).length = len := by rw [List.length_map, List.length_take]; omega
    refine ⟨(zs.take len).map Lib.byteOf, ?_⟩
    rw [hlen]
    refine ⟨_, _, rfl, by rw [bc_len, hlen]; omega, hl, fun h0 => ?_⟩
    have c0 := hcell 0 (by omega)
    have hspot : a.spot = none := by simpa [Addr.add] using World.cell?_spot c0
    obtain ⟨g, off, sp⟩ := a
    obtain rfl : sp = none := hspot
    refine ⟨g, off, rfl, ?_, fun j u hu => ?_⟩
    · have := World.block_lt_of_cell? W _ c0
      simpa [Addr.add] using this
    · rw [bc_get, List.getElem?_map] at hu
      have hj : j < len := by
        rcases Nat.lt_or_ge j len with h | h
        · exact h
        · rw [List.getElem?_eq_none (by rw [List.length_take]; omega)] at hu; cases hu
      have hjz : j < zs.length := by omega
      rw [List.getElem?_take_of_lt hj, List.getElem?_eq_getElem hjz] at hu
      have hc := hcell j hjz
      have e1 : (⟨g, off, none⟩ : Addr).add j = ⟨g, off + j, none⟩ := by unfold Addr.add; split <;> simp_all
      rw [e1] at hc
      rw [hc]
      have hzj : zs.getD j 0 = zs[j] := by simp [List.getD, List.getElem?_eq_getElem hjz]
      have hwf := u8_wf (hwz zs[j] (List.getElem_mem hjz))
      have hb := Lib.byteOf_toNat hwf
      rw [hzj, ← hu]
      simp [hb]

theorem laidOutAll : laidOutB Tryz.prog = true := by kernel_rfl
end Go.Proofs.YtbkookiigkckdaaGreatDoor
