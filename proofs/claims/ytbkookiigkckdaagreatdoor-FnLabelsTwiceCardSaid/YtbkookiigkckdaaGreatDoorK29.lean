/- Texts of this seat, merged: Zk. -/
import Derived.Test.YtbkookiigkckdaaGreatDoorK28
import Derived.Test.YtbkookiigkckdaaGreatDoorRows
import Derived.LaidEql
import Derived.LaidLaws
import Derived.Lay
import Derived.PinnedBridge
import Derived.Lib.LaidU8
import Derived.Lib.LaidPrint
import Derived.Stop.LaidErr
import Derived.LaidMore
import Derived.OpenShut
import Derived.ProofKit
import Derived.Deep.SlicePairs
import Derived.Deep.Slices
import Derived.ChangeSlices
/- What the listed variables give the walks of the laws over LabelsAbout. -/
namespace Go.Proofs.YtbkookiigkckdaaGreatDoor
open Go Go.ChangeShapes Go.WideShapes Go.ChangeAt Go.RowKit
set_option linter.unusedVariables false
set_option linter.unusedSimpArgs false

theorem lk_knobs : ownKnob Tryz.prog.godebug = none := by kernel_rfl
theorem lk_laidOut : laidOutB Tryz.prog = true := by kernel_rfl
theorem lk_u8 : U8Extra Tryz.prog Tryz.lays197_ren := ⟨by kernel_rfl, by kernel_rfl, by kernel_rfl, by kernel_rfl, by kernel_rfl, by kernel_rfl, by kernel_rfl⟩
theorem lk_print : PrintExtra Tryz.prog Tryz.lays339_ren := ⟨by kernel_rfl, by kernel_rfl, by kernel_rfl, by kernel_rfl, by kernel_rfl, by kernel_rfl, by kernel_rfl, by kernel_rfl, by kernel_rfl, by kernel_rfl⟩
theorem lk_accept : (Rows.laid_unicode_utf8_acceptRanges : DataW Unit) = Lib.acceptData := by kernel_rfl
def labLaid : List (String × DataW Unit) := [("unicode/utf8.acceptRanges", Rows.laid_unicode_utf8_acceptRanges), ("bytes.ErrTooLarge", Rows.laid_bytes_ErrTooLarge), ("pub-quillon/impl.errStop", Rows.laid_pub_quillon_impl_errStop), ("strconv.isGraphic", Rows.laid_strconv_isGraphic), ("strconv.isNotPrint16", Rows.laid_strconv_isNotPrint16), ("strconv.isNotPrint32", Rows.laid_strconv_isNotPrint32), ("strconv.isPrint16", Rows.laid_strconv_isPrint16), ("strconv.isPrint32", Rows.laid_strconv_isPrint32), ("unicode/utf8.first", Rows.laid_unicode_utf8_first)]

theorem lk_tabs {W : World} (hL : laidMet Tryz.prog labLaid W) : TabsAt Lib.goPrintTabs W := by
  have h7 := Lib.laidMet.reads hL (n := "unicode/utf8.first") (d := Pinned.utf8First) (by simp [labLaid, Rows.laid_unicode_utf8_first])
  have h8 := Lib.laidMet.reads hL (n := "unicode/utf8.acceptRanges") (d := Rows.laid_unicode_utf8_acceptRanges) (by simp [labLaid])
  have h9 := Lib.laidMet.reads hL (n := "strconv.isPrint16") (d := Pinned.isPrint16) (by simp [labLaid, Rows.laid_strconv_isPrint16])
  have h10 := Lib.laidMet.reads hL (n := "strconv.isNotPrint16") (d := Pinned.isNotPrint16) (by simp [labLaid, Rows.laid_strconv_isNotPrint16])
  have h11 := Lib.laidMet.reads hL (n := "strconv.isPrint32") (d := Pinned.isPrint32) (by simp [labLaid, Rows.laid_strconv_isPrint32])
  have h12 := Lib.laidMet.reads hL (n := "strconv.isNotPrint32") (d := Pinned.isNotPrint32) (by simp [labLaid, Rows.laid_strconv_isNotPrint32])
  rw [Pinned.utf8First_eq] at h7
  rw [lk_accept] at h8
  rw [Pinned.isPrint16_eq] at h9
  rw [Pinned.isNotPrint16_eq] at h10
  rw [Pinned.isPrint32_eq] at h11
  rw [Pinned.isNotPrint32_eq] at h12
  exact ⟨printTabs_of_reads (ρ := Tryz.lays339_ren) Tryz.lays339 lk_print h9 h10 h11 h12, utf8Tabs_of_reads (ρ := Tryz.lays197_ren) { Tryz.lays197 with } lk_u8 h7 h8⟩

theorem laidMet_tail {P : Program} {x : String × DataW Unit} {r : List (String × DataW Unit)} {W : World} (h : laidMet P (x :: r) W) : laidMet P r W := by
  obtain ⟨ps, ⟨g, t, cs, fuel, p, q, h1, h2, h3, h4, h5, rfl⟩, hn, hr⟩ := h
  exact ⟨q, h5, (List.nodup_append.1 hn).2.1, fun b off hm => hr b off (List.mem_append_right _ hm)⟩
theorem lk_err : Tryz.prog.globalNamed "pub-quillon/impl.errStop" = some 0 := by kernel_rfl
theorem lk_errType : (Tryz.prog.globals[0]?).map (·.type) = some 92 := by kernel_rfl
theorem lk_cells356 : Tryz.prog.cellsOf 356 = 1 := by kernel_rfl
theorem lk_cells9 : Tryz.prog.cellsOf 9 = 1 := by kernel_rfl
theorem lk_starred : "*" ++ "errors.errorString" = "*errors.errorString" := by decide
theorem lk_row354 (u : TypeId) (h : Tryz.prog.typeName? 3 u = some "*errors.errorString") : u = 354 :=
  typeName_ptr_named (nm := "errors.errorString") (by rw [lk_starred]; kernel_rfl) (by kernel_rfl) (by decide) u (by rw [lk_starred]; exact h)
theorem lk_comp : (Tryz.prog.info? 354).map (·.comparable) = some true := by kernel_rfl
theorem lk_info356 : (Tryz.prog.info? 356).isSome = true := by kernel_rfl

theorem lk_stop {W : World} (hL : laidMet Tryz.prog labLaid W) : ∃ te pe, StopOk te pe W := by
  have h := laidMet_tail (laidMet_tail hL)
  obtain ⟨a0, s0, hv0, _⟩ := laid_sentinel h lk_err lk_errType Tryz.underlying92 lk_row354 Tryz.underlying354 Tryz.underlying356 rfl rfl Tryz.underlying9 lk_cells356 lk_cells9
  obtain ⟨i, hi, hc⟩ := Option.map_eq_some_iff.1 lk_comp
  obtain ⟨j, hj⟩ := Option.isSome_iff_exists.mp lk_info356
  exact ⟨354, .pointer (some a0), by simpa using World.var?_cell lk_err hv0 0, fun W => run_eql_iface_ptr_same W a0 Tryz.underlying92 Tryz.underlying354 hi hc hj, fun W => run_eql_iface_nil_left W 354 _ Tryz.underlying92⟩

theorem lk_add (g off k : Nat) : (⟨g, off, none⟩ : Addr).add k = ⟨g, off + k, none⟩ := by unfold Addr.add; split <;> simp_all
/-- A slice of labels that came in reads as a list of labels. -/
theorem lk_labels_in {H : Type} {enc : TypeId × Value → H} {W : World} {A : Option Addr} {len cap : Nat} {d : DataW H} {p : List MemPlace}
    (h : DataW.Trod enc Tryz.prog W 0 (fun _ => true) true 31 (.slice A len cap) d p) : ∃ l : List Lab, l.length = len ∧ len ≤ maxLen ∧ (∀ q ∈ l, q.1.size ≤ maxLen ∧ q.2.size ≤ maxLen) ∧ Sl (fun g => g < W.heap.size) W (.slice A len cap) 2 l.length (l.flatMap labc) := by
  obtain ⟨fuel, hf⟩ := h
  rcases Go.Deep.open_slice_pairs Tryz.underlying31 Tryz.underlying40 (by kernel_rfl) rfl rfl (by kernel_rfl) (by kernel_rfl) hf with ⟨hcs, _⟩ | ⟨a, l, c, m, n, V0, V1, D0, D1, P0, P1, hcs, _, hl, hm, hmm, _, hx⟩
  · simp [Value.cells] at hcs
    obtain ⟨rfl, rfl, rfl⟩ := hcs
    exact ⟨[], rfl, Nat.zero_le _, (fun q hq => by cases hq), _, _, rfl, rfl, Nat.le_refl _, fun h => absurd h (Nat.lt_irrefl _)⟩
  · simp [Value.cells] at hcs
    obtain ⟨rfl, rfl, rfl⟩ := hcs
    have hmc : m = cap := by simpa using hmm
    subst hmc
    have hs : ∀ i, i < m → ∃ q : Lab, V0 i = .string q.1 ∧ V1 i = .string q.2 ∧ q.1.size ≤ maxLen ∧ q.2.size ≤ maxLen := fun i hi => by
      obtain ⟨_, _, g0, g1⟩ := hx i hi
      obtain ⟨s, e0, _, hw0⟩ := DataW.trod_string Tryz.underlying9 g0
      obtain ⟨t, e1, _, hw1⟩ := DataW.trod_string Tryz.underlying9 g1
      injection e0 with e0
      injection e1 with e1
      exact ⟨(s, t), e0, e1, hw0, hw1⟩
    obtain ⟨q, hq⟩ := Go.Deep.choose_lt hs
    have hlen : ((List.range len).map q).length = len := by simp
    refine ⟨(List.range len).map q, hlen, by omega, fun z hz => ?_, ?_⟩
    · obtain ⟨i, hi, rfl⟩ := List.mem_map.mp hz
      have hi' := List.mem_range.mp hi
      exact ⟨(hq i (by omega)).2.2.1, (hq i (by omega)).2.2.2⟩
    · rw [hlen]
      have hfl : (((List.range len).map q).flatMap labc).length = len * 2 := by rw [flat2_len, hlen]
      refine ⟨_, _, rfl, hfl, hl, fun h0 => ?_⟩
      have c0 := (hx 0 (by omega)).1
      have hspot : a.spot = none := by simpa [Addr.add] using World.cell?_spot c0
      obtain ⟨g, off, sp⟩ := a
      obtain rfl : sp = none := hspot
      refine ⟨g, off, rfl, ?_, fun j u hu => ?_⟩
      · have := World.block_lt_of_cell? W _ c0
        simpa [Addr.add] using this
      · have hj : j < len * 2 := by
          rcases Nat.lt_or_ge j (len * 2) with h | h
          · exact h
          · rw [List.getElem?_eq_none (by rw [hfl]; exact h)] at hu; cases hu
        have hk : j / 2 < len := by omega
        have hx2 : ((List.range len).map q)[j / 2]? = some (q (j / 2)) := by rw [List.getElem?_map, List.getElem?_range hk]; rfl
        have h2 := flat2 labc (fun _ => rfl) _ (j / 2) _ hx2 (j % 2) (by omega)
        rw [show j / 2 * 2 + j % 2 = j by omega, hu] at h2
        obtain ⟨e0, e1, _⟩ := hx (j / 2) (by omega)
        obtain ⟨f0, f1, _⟩ := hq (j / 2) (by omega)
        rw [f0] at e0
        rw [f1] at e1
        rw [lk_add] at e0 e1
        have hm2 : j % 2 = 0 ∨ j % 2 = 1 := by omega
        rcases hm2 with hm2 | hm2
        · rw [hm2] at h2
          have : u = .string (q (j / 2)).1 := by simpa [labc] using h2
          rw [this, ← e0]; congr 2; omega
        · rw [hm2] at h2
          have : u = .string (q (j / 2)).2 := by simpa [labc] using h2
          rw [this, ← e1]; congr 2; omega

end Go.Proofs.YtbkookiigkckdaaGreatDoor

