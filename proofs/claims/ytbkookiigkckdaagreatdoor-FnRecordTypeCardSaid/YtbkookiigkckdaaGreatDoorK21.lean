/- Texts of this seat, merged: Pk, Md, Rk, Rl, Se, Td, Tw. -/
import Derived.Test.YtbkookiigkckdaaGreatDoorK19
import Derived.Test.YtbkookiigkckdaaGreatDoorK20
import Derived.Test.YtbkookiigkckdaaGreatDoorK05
import Derived.Test.YtbkookiigkckdaaGreatDoorK06
import Derived.Test.YtbkookiigkckdaaGreatDoorK14
import Derived.Test.YtbkookiigkckdaaGreatDoorK10
import Derived.Test.YtbkookiigkckdaaGreatDoorK13
/- spec.Count and spec.PartsRight at parts of any shape. Printed by gen_pk.py. -/
namespace Go.Proofs.YtbkookiigkckdaaGreatDoor
open Go.RowKit
set_option linter.unusedVariables false
set_option linter.unusedSimpArgs false
set_option maxHeartbeats 4000000 in
set_option maxRecDepth 100000 in
theorem rightG_3 (A0 A1 A2 A3 A4 A5 A6 : Option Addr) (c0 c1 c2 c3 c4 c5 c6 : Nat) (n0 n1 n2 n3 n4 n5 n6 n : Nat) (h0 : n0 ≤ 1099511627776) (h1 : n1 ≤ 1099511627776) (h2 : n2 ≤ 1099511627776) (h3 : n3 ≤ 1099511627776) (h4 : n4 ≤ 1099511627776) (h5 : n5 ≤ 1099511627776) (h6 : n6 ≤ 1099511627776) (hn : n = n0 + n1 + n2 + n3 + n4 + n5 + n6) (w : World) (P : Nat → Prop) (lv : List (Ston × Value)) (hs : SlS P w (.slice A2 n2 c2) lv) (hl : lv.length = n2) (hi : ∀ p ∈ lv, p.1.ivs.length ≤ 1099511627776) :
    Calls Tryz.prog 30 #[.int .i64 3, .agg #[.slice A0 n0 c0, .slice A1 n1 c1, .slice A2 n2 c2, .slice A3 n3 c3, .slice A4 n4 c4, .slice A5 n5 c5, .slice A6 n6 c6]] w (BoolEnds (n ≤ 12 ∧ n = n2 ∧ ∀ p ∈ lv, p.1.ivs.length ≤ 6) w) := by
  have hC := count_any A0 A1 A2 A3 A4 A5 A6 c0 c1 c2 c3 c4 c5 c6 n0 n1 n2 n3 n4 n5 n6 n h0 h1 h2 h3 h4 h5 h6 hn (w.alloc (.cells #[.slice A0 n0 c0, .slice A1 n1 c1, .slice A2 n2 c2, .slice A3 n3 c3, .slice A4 n4 c4, .slice A5 n5 c5, .slice A6 n6 c6] 54))
  have hle : n2 ≤ n := by omega
  clear hn
  by_cases h12 : n ≤ 12
  · have h1x : ¬ (12 : Int) < (n : Int) := by omega
    have HS := Lib.hid hs
    have HN := Lib.hid hl
    have HI := Lib.hid hi
    clear hs hl hi
    go_enter Tryz.func30, Tryz.ntmps30
    go_wp2_with (go_at_call 40; refine hC.mono ?_; rintro r w1 ⟨rfl, hf1⟩; obtain ⟨x0, x1, x2, x3, x4, x5, x6⟩ := seven_cells ((Blk.new w 54 #[.slice A0 n0 c0, .slice A1 n1 c1, .slice A2 n2 c2, .slice A3 n3 c3, .slice A4 n4 c4, .slice A5 n5 c5, .slice A6 n6 c6]).fr hf1 (fun e => e)))
    have HF := Lib.hid (((Fr.refl (fun _ => False) w).alloc (.cells #[.slice A0 n0 c0, .slice A1 n1 c1, .slice A2 n2 c2, .slice A3 n3 c3, .slice A4 n4 c4, .slice A5 n5 c5, .slice A6 n6 c6] 54)).same hf1)
    have hw1 := HF.out.size
    have HB := Lib.hid ((Blk.new w 54 #[.slice A0 n0 c0, .slice A1 n1 c1, .slice A2 n2 c2, .slice A3 n3 c3, .slice A4 n4 c4, .slice A5 n5 c5, .slice A6 n6 c6]).fr hf1 (fun e => e))
    clear hf1 hC
    go_loopw [7] (fun i wr => ∃ k : Nat, k ≤ n2 ∧ i = .int .i64 k ∧ Hid (Fr (fun _ => False) w1 wr) ∧ Hid (∀ j p, j < k → lv[j]? = some p → p.1.ivs.length ≤ 6)) (fun i _ => n2 - (intOf i).toNat)
    case atStart => exact ⟨0, Nat.zero_le _, rfl, Lib.hid (Fr.refl _ _), Lib.hid (fun j p h => absurd h (Nat.not_lt_zero _))⟩
    case round =>
      obtain ⟨k, hk, rfl, RF, RG⟩ := hrel
      obtain ⟨y0, y1, y2, y3, y4, y5, y6⟩ := seven_cells (HB.out.fr RF.out (fun e => e))
      clear x0 x1 x2 x3 x4 x5 x6
      by_cases hlt : k < n2
      · have hS := HS.out.fr (HF.out.same RF.out) (fun _ _ e => e)
        obtain ⟨⟨A, c, e2, _, hc, hr⟩, hiv9⟩ := hS
        injection e2 with e2 e2n e2c
        obtain ⟨g, off, rfl, _, hcell⟩ := hr (by have := HN.out; omega)
        obtain ⟨x, hx⟩ : ∃ x, lv[k]? = some x := ⟨_, List.getElem?_eq_getElem (by rw [HN.out]; exact hlt)⟩
        have hxm := List.mem_of_getElem? hx
        have c1 : wr.cell? ⟨g, off + k * 2 + 1, none⟩ = some x.2 := hcell (k * 2 + 1) _ (by rw [flat2 stc (fun _ => rfl) lv k x hx 1 (by omega)]; rfl)
        have hiv := hiv9 x hxm
        have hil := HI.out x hxm
        have HXM := Lib.hid hxm
        have HX := Lib.hid hx
        clear hx hxm hiv9
        obtain ⟨⟨ref, ivs⟩, iv⟩ := x
        simp only [] at c1 hiv hil
        obtain ⟨Ai, ci, rfl, _, _, _⟩ := hiv
        subst e2
        clear hcell hr e2n e2c
        by_cases h6 : ivs.length ≤ 6
        · have hil2 : ¬ (6 : Int) < (ivs.length : Int) := by omega
          go_wp2_with fail
          go_roundw
          case rel => exact ⟨k + 1, by omega, by go_num, RF, Lib.hid (fun j p h h2 => by
            rcases Nat.lt_or_ge j k with h3 | h3
            · exact RG.out j p h3 h2
            · obtain rfl : j = k := by omega
              have h4 := h2.symm.trans HX.out
              injection h4 with h4
              rw [h4]
              exact h6)⟩
          case measure => simp [intOf]; omega
        · have hil2 : (6 : Int) < (ivs.length : Int) := by omega
          go_wp2
          go_ret
          exact ⟨false, rfl, ⟨fun h => (by cases h), fun h => absurd (h.2.2 _ HXM.out) h6⟩, HF.out.same RF.out⟩
      · obtain rfl : k = n2 := by omega
        have hall : Hid (∀ p ∈ lv, p.1.ivs.length ≤ 6) := Lib.hid (fun p hp => by
          obtain ⟨j, hj, e⟩ := List.getElem_of_mem hp
          exact RG.out j p (by rw [← HN.out]; exact hj) (by rw [List.getElem?_eq_getElem hj, e]))
        by_cases he : n = k
        · have HE := Lib.hid he
          have hz : ((n : Int) - (k : Int) == 0) = true := by simp; omega
          clear he
          go_wp2
          go_ret
          refine ⟨_, rfl, ⟨fun _ => ⟨h12, HE.out, hall.out⟩, fun _ => by first | rfl | exact hz | (have := HE.out; simp; omega)⟩, HF.out.same RF.out⟩
        · have hz : ((n : Int) - (k : Int) == 0) = false := by simp; omega
          go_wp2
          go_ret
          exact ⟨_, rfl, ⟨fun h => (by first | (cases h; done) | (simp at h; done) | (simp at h; omega)), fun h => absurd h.2.1 he⟩, HF.out.same RF.out⟩
  · have hx : (12 : Int) < (n : Int) := by omega
    go_enter Tryz.func30, Tryz.ntmps30
    go_wp2_with (go_at_call 40; refine hC.mono ?_; rintro r w1 ⟨rfl, hf1⟩)
    go_ret
    exact ⟨false, rfl, ⟨fun h => (by cases h), fun h => absurd h.1 h12⟩, ((Fr.refl _ w).alloc _).same hf1⟩

set_option maxHeartbeats 4000000 in
set_option maxRecDepth 100000 in
theorem rightG_6 (A0 A1 A2 A3 A4 A5 A6 : Option Addr) (c0 c1 c2 c3 c4 c5 c6 : Nat) (n0 n1 n2 n3 n4 n5 n6 n : Nat) (h0 : n0 ≤ 1099511627776) (h1 : n1 ≤ 1099511627776) (h2 : n2 ≤ 1099511627776) (h3 : n3 ≤ 1099511627776) (h4 : n4 ≤ 1099511627776) (h5 : n5 ≤ 1099511627776) (h6 : n6 ≤ 1099511627776) (hn : n = n0 + n1 + n2 + n3 + n4 + n5 + n6) (w : World) (P : Nat → Prop) (lv : List Mta) (hs : Sl P w (.slice A4 n4 c4) 4 lv.length (lv.flatMap Mta.c)) (hl : lv.length = n4) (hi : ∀ p ∈ lv, p.unit.size ≤ 1099511627776 ∧ p.help.size ≤ 1099511627776) :
    Calls Tryz.prog 30 #[.int .i64 6, .agg #[.slice A0 n0 c0, .slice A1 n1 c1, .slice A2 n2 c2, .slice A3 n3 c3, .slice A4 n4 c4, .slice A5 n5 c5, .slice A6 n6 c6]] w (BoolEnds (n ≤ 12 ∧ n = n4 ∧ ∀ p ∈ lv, p.unit.size + p.help.size ≤ 600) w) := by
  have hC := count_any A0 A1 A2 A3 A4 A5 A6 c0 c1 c2 c3 c4 c5 c6 n0 n1 n2 n3 n4 n5 n6 n h0 h1 h2 h3 h4 h5 h6 hn (w.alloc (.cells #[.slice A0 n0 c0, .slice A1 n1 c1, .slice A2 n2 c2, .slice A3 n3 c3, .slice A4 n4 c4, .slice A5 n5 c5, .slice A6 n6 c6] 54))
  have hle : n4 ≤ n := by omega
  clear hn
  by_cases h12 : n ≤ 12
  · have h1x : ¬ (12 : Int) < (n : Int) := by omega
    have HS := Lib.hid hs
    have HN := Lib.hid hl
    have HI := Lib.hid hi
    clear hs hl hi
    go_enter Tryz.func30, Tryz.ntmps30
    go_wp2_with (go_at_call 40; refine hC.mono ?_; rintro r w1 ⟨rfl, hf1⟩; obtain ⟨x0, x1, x2, x3, x4, x5, x6⟩ := seven_cells ((Blk.new w 54 #[.slice A0 n0 c0, .slice A1 n1 c1, .slice A2 n2 c2, .slice A3 n3 c3, .slice A4 n4 c4, .slice A5 n5 c5, .slice A6 n6 c6]).fr hf1 (fun e => e)))
    have HF := Lib.hid (((Fr.refl (fun _ => False) w).alloc (.cells #[.slice A0 n0 c0, .slice A1 n1 c1, .slice A2 n2 c2, .slice A3 n3 c3, .slice A4 n4 c4, .slice A5 n5 c5, .slice A6 n6 c6] 54)).same hf1)
    have hw1 := HF.out.size
    have HB := Lib.hid ((Blk.new w 54 #[.slice A0 n0 c0, .slice A1 n1 c1, .slice A2 n2 c2, .slice A3 n3 c3, .slice A4 n4 c4, .slice A5 n5 c5, .slice A6 n6 c6]).fr hf1 (fun e => e))
    clear hf1 hC
    go_loopw [9] (fun i wr => ∃ k : Nat, k ≤ n4 ∧ i = .int .i64 k ∧ Hid (Fr (fun _ => False) w1 wr) ∧ Hid (∀ j p, j < k → lv[j]? = some p → p.unit.size + p.help.size ≤ 600)) (fun i _ => n4 - (intOf i).toNat)
    case atStart => exact ⟨0, Nat.zero_le _, rfl, Lib.hid (Fr.refl _ _), Lib.hid (fun j p h => absurd h (Nat.not_lt_zero _))⟩
    case round =>
      obtain ⟨k, hk, rfl, RF, RG⟩ := hrel
      obtain ⟨y0, y1, y2, y3, y4, y5, y6⟩ := seven_cells (HB.out.fr RF.out (fun e => e))
      clear x0 x1 x2 x3 x4 x5 x6
      by_cases hlt : k < n4
      · have hS := HS.out.fr (HF.out.same RF.out) (fun _ _ e => e)
        obtain ⟨A, c, e2, _, hc, hr⟩ := hS
        injection e2 with e2 e2n e2c
        obtain ⟨g, off, rfl, _, hcell⟩ := hr (by have := HN.out; omega)
        obtain ⟨x, hx⟩ : ∃ x, lv[k]? = some x := ⟨_, List.getElem?_eq_getElem (by rw [HN.out]; exact hlt)⟩
        have hxm := List.mem_of_getElem? hx
        have q2 : wr.cell? ⟨g, off + k * 4 + 2, none⟩ = some (.string x.unit) := hcell (k * 4 + 2) _ (by rw [flat4 Mta.c (fun _ => rfl) lv k x hx 2 (by omega)]; rfl)
        have q3 : wr.cell? ⟨g, off + k * 4 + 3, none⟩ = some (.string x.help) := hcell (k * 4 + 3) _ (by rw [flat4 Mta.c (fun _ => rfl) lv k x hx 3 (by omega)]; rfl)
        have hil := HI.out x hxm
        have HXM := Lib.hid hxm
        have HX := Lib.hid hx
        clear hx hxm
        subst e2
        have HQ2 := Lib.hid q2
        have HQ3 := Lib.hid q3
        have HY4 := Lib.hid y4
        clear hcell hr e2n e2c
        have hwp : IntKind.i64.wrap ((x.unit.size : Int) + (x.help.size : Int)) = (x.unit.size : Int) + (x.help.size : Int) := by rw [IntKind.wrap_i64]; omega
        by_cases h6 : x.unit.size + x.help.size ≤ 600
        · have h6i : ¬ (600 : Int) < IntKind.i64.wrap ((x.unit.size : Int) + (x.help.size : Int)) := by rw [hwp]; omega
          clear hwp
          go_wp2_with fail
          go_region_held3 (fun w' => w'.cell? ⟨w.heap.size, 4, none⟩ = some (.slice (some ⟨g, off, none⟩) n4 c4) ∧ w'.cell? ⟨g, off + k * 4 + 2, none⟩ = some (.string x.unit) ∧ w'.cell? ⟨g, off + k * 4 + 3, none⟩ = some (.string x.help))
            ((first | (go_split_ands; refine ⟨?_, ?_, ?_⟩ <;> first | exact HY4.out | exact HQ2.out | exact HQ3.out) | go_keep))
            (fail)
          go_wp2
          go_roundw
          case rel => exact ⟨k + 1, by omega, by go_num, Lib.hid RF.out.drew, Lib.hid (fun j p h h2 => by
            rcases Nat.lt_or_ge j k with h3 | h3
            · exact RG.out j p h3 h2
            · obtain rfl : j = k := by omega
              have h4 := h2.symm.trans HX.out
              injection h4 with h4
              rw [h4]
              exact h6)⟩
          case measure => simp [intOf]; omega
        · have h6i : (600 : Int) < IntKind.i64.wrap ((x.unit.size : Int) + (x.help.size : Int)) := by rw [hwp]; omega
          clear hwp
          go_wp2_with fail
          go_region_held3 (fun w' => w'.cell? ⟨w.heap.size, 4, none⟩ = some (.slice (some ⟨g, off, none⟩) n4 c4) ∧ w'.cell? ⟨g, off + k * 4 + 2, none⟩ = some (.string x.unit) ∧ w'.cell? ⟨g, off + k * 4 + 3, none⟩ = some (.string x.help))
            ((first | (go_split_ands; refine ⟨?_, ?_, ?_⟩ <;> first | exact HY4.out | exact HQ2.out | exact HQ3.out) | go_keep))
            (fail)
          go_wp2
          go_ret
          exact ⟨false, rfl, ⟨fun h => (by cases h), fun h => absurd (h.2.2 _ HXM.out) h6⟩, HF.out.same RF.out.drew⟩
      · obtain rfl : k = n4 := by omega
        have hall : Hid (∀ p ∈ lv, p.unit.size + p.help.size ≤ 600) := Lib.hid (fun p hp => by
          obtain ⟨j, hj, e⟩ := List.getElem_of_mem hp
          exact RG.out j p (by rw [← HN.out]; exact hj) (by rw [List.getElem?_eq_getElem hj, e]))
        by_cases he : n = k
        · have HE := Lib.hid he
          have hz : ((n : Int) - (k : Int) == 0) = true := by simp; omega
          clear he
          go_wp2
          go_ret
          refine ⟨_, rfl, ⟨fun _ => ⟨h12, HE.out, hall.out⟩, fun _ => by first | rfl | exact hz | (have := HE.out; simp; omega)⟩, HF.out.same RF.out⟩
        · have hz : ((n : Int) - (k : Int) == 0) = false := by simp; omega
          go_wp2
          go_ret
          exact ⟨_, rfl, ⟨fun h => (by first | (cases h; done) | (simp at h; done) | (simp at h; omega)), fun h => absurd h.2.1 he⟩, HF.out.same RF.out⟩
  · have hx : (12 : Int) < (n : Int) := by omega
    go_enter Tryz.func30, Tryz.ntmps30
    go_wp2_with (go_at_call 40; refine hC.mono ?_; rintro r w1 ⟨rfl, hf1⟩)
    go_ret
    exact ⟨false, rfl, ⟨fun h => (by cases h), fun h => absurd h.1 h12⟩, ((Fr.refl _ w).alloc _).same hf1⟩

end Go.Proofs.YtbkookiigkckdaaGreatDoor

/- Decoder.MmapMarkers. -/
namespace Go.Proofs.YtbkookiigkckdaaGreatDoor
open Go.RowKit
set_option linter.unusedVariables false
set_option linter.unusedSimpArgs false

def MarkersEnds (w : World) (base : Nat) (o : Option Nat) (pre : List Mrk) (xs : List UInt8) (r : Ending) (w' : World) : Prop :=
  Fr (fun k => some k = o) w w' ∧ match decMarkers xs with
    | some l => ∃ v', r = .returned (.tuple #[v', .nilIface]) ∧ w'.ownsRow base 166 2 v' (pre ++ l).length ((pre ++ l).flatMap Mrk.c)
    | none => ∃ t a, r = .returned (.tuple #[.slice none 0 0, .iface t a])

theorem markersEnds_none {w w' : World} {base : Nat} {o : Option Nat} {pre : List Mrk} {xs : List UInt8} {t : TypeId} {a : Value} (hd : decMarkers xs = none) (hf : Fr (fun k => some k = o) w w') : MarkersEnds w base o pre xs (.returned (.tuple #[.slice none 0 0, .iface t a])) w' := by
  unfold MarkersEnds; rw [hd]; exact ⟨hf, _, _, rfl⟩
theorem markersEnds_some {w w' : World} {base : Nat} {o : Option Nat} {pre : List Mrk} {xs : List UInt8} {l : List Mrk} {v : Value} (hd : decMarkers xs = some l) (hf : Fr (fun k => some k = o) w w') (ho : w'.ownsRow base 166 2 v (pre ++ l).length ((pre ++ l).flatMap Mrk.c)) : MarkersEnds w base o pre xs (.returned (.tuple #[v, .nilIface])) w' := by
  unfold MarkersEnds; rw [hd]; exact ⟨hf, _, rfl, ho⟩

theorem mrkStep_len {l0 l : List UInt8} (h : (mrkStep (some l0)).2 = some l) : l.length < l0.length := by
  obtain ⟨l1, h1, h1'⟩ := gBe_len (st := (gBe64 (some l0)).2) h
  obtain ⟨l2, h2, h2'⟩ := gBe_len (st := some l0) h1
  injection h2 with h2; subst h2; omega

set_option maxRecDepth 100000 in
set_option maxHeartbeats 1000000 in
theorem decMarkers_type (te : TypeId) (pe : Value) (dv : Value) (g base : Nat) (cur : Array Value) (pre : List Mrk) (xs : List UInt8) (v sv : Value) (w : World) (h : Rec te pe w g cur xs v) (hx : (gByte (some xs)).1 ≠ 5) :
    Calls Tryz.prog 79 #[dv, v, sv] w (MarkersEnds w base sv.ownBlock pre xs) := by
  have hd : decMarkers xs = none := by
    rcases xs with _ | ⟨b, r⟩
    · rfl
    · have : ¬ b = 5 := by rintro rfl; exact hx rfl
      simp [decMarkers, decParts, this]
  unfold MarkersEnds
  rw [hd]
  clear hd
  have hD := h.dec
  obtain ⟨off, c, rfl, _⟩ := h
  have hQ := decByte te pe w.heap.size g cur _ _ hD
  have hx2 : ¬ ((gByte (some xs)).1 : Int) = 5 := by omega
  clear hD hx
  generalize (gByte (some xs)).1 = x at hQ hx2
  generalize (gByte (some xs)).2 = st at hQ
  go_enter Tryz.func79, Tryz.ntmps79
  go_wp2_with (first | (go_at_call 160; refine hQ.mono ?_; rintro r w1 ⟨rfl, hD1, hf1⟩) | (go_at_call 161; refine (errNew_any _ _).mono ?_; rintro r w2 ⟨t, a, rfl, hf2⟩))
  go_ret2
  refine ⟨?_, _, _, rfl⟩
  have f1 := (((Fr.refl (fun k => some k = sv.ownBlock) w).alloc (.cells #[.slice (some ⟨g, off, none⟩) xs.length c, .nilIface] 229)).trans hf1 (fun k hk e => by omega))
  exact f1.trans hf2 (fun _ _ e => e.elim)

set_option maxRecDepth 100000 in
set_option maxHeartbeats 1000000 in
theorem decMarkers_empty (te : TypeId) (pe : Value) (dv : Value) (g base : Nat) (cur : Array Value) (pre : List Mrk) (v sv : Value) (w : World) (h : Rec te pe w g cur [5] v) (ho : w.ownsRow base 166 2 sv pre.length (pre.flatMap Mrk.c)) (hb : g < base ∧ 2 < base) :
    Calls Tryz.prog 79 #[dv, v, sv] w (MarkersEnds w base sv.ownBlock pre [5]) := by
  have hD := h.dec
  obtain ⟨off, c, rfl, _⟩ := h
  have hQ := decByte te pe w.heap.size g cur _ _ hD
  have e1 : gByte (some [(5 : UInt8)]) = (5, some []) := rfl
  rw [e1] at hQ
  have HO := Lib.hid ho
  obtain ⟨a', n', k', rfl⟩ := own_slice ho
  clear hD e1 ho
  go_enter Tryz.func79, Tryz.ntmps79
  go_wp2_with (first | (go_at_call 160; refine hQ.mono ?_; rintro r w1 ⟨rfl, hD1, hf1⟩; have hL := decLen te pe _ _ _ _ _ hD1) | (go_at_call 118; refine hL.mono ?_; rintro r w2 ⟨n, rfl, hn, _, rfl⟩; have hn0 := hn _ rfl; subst hn0))
  go_ret2
  refine markersEnds_some (l := []) rfl (((Fr.refl _ w).alloc _).trans hf1 (fun k hk e => by omega)) ?_
  rw [List.append_nil]
  exact own_fr (HO.out.alloc _) hf1 (fun k hk => by have := own_lt HO.out hk; omega)

theorem decParts_some {α : Type} {t : UInt8} {step : St → α × St} {rest s : List UInt8} {l : List α} (h : recLoop step rest.length (some rest) [] = (l, some s)) : decParts t step (t :: rest) = some l := by rw [decParts, if_pos rfl, h]
theorem decParts_none {α : Type} {t : UInt8} {step : St → α × St} {rest : List UInt8} {l : List α} (h : recLoop step rest.length (some rest) [] = (l, none)) : decParts t step (t :: rest) = none := by rw [decParts, if_pos rfl, h]

theorem recLoop_acc {α : Type} (step : St → α × St) : ∀ (k : Nat) (st : St) (pre acc : List α), recLoop step k st (pre ++ acc) = (pre ++ (recLoop step k st acc).1, (recLoop step k st acc).2)
  | 0, st, pre, acc => by simp [recLoop]
  | k + 1, none, pre, acc => by simp [recLoop]
  | k + 1, some [], pre, acc => by simp [recLoop]
  | k + 1, some (c :: r), pre, acc => by
    rw [recLoop, recLoop, List.append_assoc]
    exact recLoop_acc step k _ pre _

set_option maxRecDepth 100000 in
set_option maxHeartbeats 2000000 in
theorem decMarkers_main (te : TypeId) (pe : Value) (dv : Value) (g base : Nat) (cur : Array Value) (pre : List Mrk) (rest : List UInt8) (hne : rest ≠ []) (v sv : Value) (w : World) (h : Rec te pe w g cur (5 :: rest) v) (ho : w.ownsRow base 166 2 sv pre.length (pre.flatMap Mrk.c)) (hb : g < base ∧ 2 < base ∧ base ≤ w.heap.size) (hpl : pre.length ≤ 1073741824) :
    Calls Tryz.prog 79 #[dv, v, sv] w (MarkersEnds w base sv.ownBlock pre (5 :: rest)) := by
  obtain ⟨i0, hi0, hz0, hz1, hz2⟩ := info_parts Tryz.info166
  have hD := h.dec
  obtain ⟨off, c, rfl, _⟩ := h
  have hQ := decByte te pe w.heap.size g cur _ _ hD
  have e1 : gByte (some (5 :: rest)) = (5, some rest) := rfl
  rw [e1] at hQ
  have HO := Lib.hid ho
  obtain ⟨a', k', rfl⟩ := own_slice' ho
  have hrl : rest.length ≤ 1099511627776 := by
    obtain ⟨n, off', c', _, _, hn, hnc, _⟩ := hD.open_
    have := hn _ rfl
    simp at this; omega
  have hr0 : 0 < rest.length := List.length_pos_iff.2 hne
  have hr1 : ((rest.length : Int) == 0) = false := by simp; omega
  obtain ⟨np, hnp⟩ : ∃ np, pre.length = np := ⟨_, rfl⟩
  have HNP := Lib.hid hnp
  rw [hnp] at HO hpl ⊢
  clear hD e1 ho hne hnp
  go_enter Tryz.func79, Tryz.ntmps79
  go_wp2_with (first
    | (go_at_call 160; refine hQ.mono ?_; rintro r w1 ⟨rfl, hD1, hf1⟩; have hL := decLen te pe _ _ _ _ _ hD1)
    | (go_at_call 118; refine hL.mono ?_; rintro r w2 ⟨n, rfl, hn, _, rfl⟩; have hn0 : n = rest.length := hn _ rfl; subst hn0; clear hL; refine Hid.out ?_))
  have F1 : Fr (fun k => some k = (Value.slice a' np k').ownBlock) w w1 := ((Fr.refl (fun k => some k = (Value.slice a' np k').ownBlock) w).alloc _).trans hf1 (fun k hk e => by omega)
  have O1 : w1.ownsRow base 166 2 (.slice a' np k') np (pre.flatMap Mrk.c) := own_fr (HO.out.alloc _) hf1 (fun k hk => by have := own_lt HO.out hk; omega)
  have hs1 := F1.size
  have hn1 : ∀ k, (Value.slice a' np k').ownBlock = some k → k < w.heap.size := fun k hk => own_lt HO.out hk
  have HF1 := Lib.hid F1
  have HO1 := Lib.hid O1
  have HD1 := Lib.hid hD1
  have HN1 := Lib.hid hn1
  clear hD1 hf1 hQ F1 O1 hn1
  refine Lib.hid ?_
  go_wp2_with fail
  go_loopw [2] (fun sv wr => ∃ (st : St) (acc : List Mrk) (j : Nat), Hid (Dec te pe wr w.heap.size g cur st) ∧ Hid (wr.ownsRow base 166 2 sv (np + acc.length) ((pre ++ acc).flatMap Mrk.c)) ∧ Hid (Fr (fun k => some k = (Value.slice a' np k').ownBlock) w wr) ∧ Hid (∀ k, sv.ownBlock = some k → (some k = (Value.slice a' np k').ownBlock ∨ w.heap.size < k)) ∧
      Hid (recLoop mrkStep j st acc = recLoop mrkStep rest.length (some rest) []) ∧ Hid (∀ l, st = some l → l.length ≤ j ∧ acc.length + l.length ≤ rest.length) ∧ acc.length ≤ rest.length + 1) (fun _ wr => decM w.heap.size wr)
  case atStart => exact ⟨some rest, [], rest.length, HD1, Lib.hid (by simpa using HO1.out), HF1, Lib.hid (fun k hk => .inl hk.symm), Lib.hid rfl, Lib.hid (fun l hl => by cases hl; simp), by simp⟩
  case round =>
    obtain ⟨st, acc, j, HD, HO, HF, HB, HE, HL, hal⟩ := hrel
    obtain ⟨n6, off6, c6, p0, p1, hnl, hnc, hd, hg, h2⟩ := HD.out.open_
    have hE := decErr te pe _ _ _ _ _ HD.out
    obtain ⟨a6, k6, rfl⟩ := own_slice' HO.out
    rcases st with _ | l
    · clear hnl p1
      have hres : recLoop mrkStep rest.length (some rest) [] = (acc, none) := by rw [← HE.out]; unfold recLoop; rcases j with _ | j <;> rfl
      have HR := Lib.hid (show decMarkers (5 :: rest) = none from decParts_none hres)
      clear hres
      simp only [errV] at hE
      rcases Nat.eq_zero_or_pos n6 with rfl | hn6
      · go_wp2_with (first | (go_at_call 119; refine hE.mono ?_; rintro r w7 ⟨rfl, rfl⟩) | (go_at_call 161; refine (errNew_any _ _).mono ?_; rintro r w8 ⟨t, ae, rfl, hf8⟩))
        go_ret2
        exact markersEnds_none HR.out (HF.out.trans hf8 (fun _ _ e => e.elim))
      · have hn7 : (0 : Int) < (n6 : Int) := by omega
        go_wp2_with (first | (go_at_call 119; refine hE.mono ?_; rintro r w7 ⟨rfl, rfl⟩) | (go_at_call 161; refine (errNew_any _ _).mono ?_; rintro r w8 ⟨t, ae, rfl, hf8⟩))
        go_ret2
        exact markersEnds_none HR.out (HF.out.trans hf8 (fun _ _ e => e.elim))
    · obtain rfl : n6 = l.length := hnl l rfl
      simp only [errV] at hE
      rcases l with _ | ⟨x, r⟩
      · have hres : recLoop mrkStep rest.length (some rest) [] = (acc, some []) := by rw [← HE.out]; unfold recLoop; rcases j with _ | j <;> rfl
        have HR := Lib.hid (show decMarkers (5 :: rest) = some acc from decParts_some hres)
        clear hres hnl p1
        simp only [List.length_nil] at p0
        go_wp2_with (go_at_call 119; refine hE.mono ?_; rintro r w7 ⟨rfl, rfl⟩)
        go_ret2
        refine markersEnds_some HR.out HF.out ?_
        have h := HO.out
        rw [List.length_append, HNP.out]
        exact h
      · obtain ⟨n7, hn7⟩ : ∃ n7, (x :: r).length = n7 := ⟨_, rfl⟩
        have hn8 : (0 : Int) < (n7 : Int) := by rw [← hn7]; simp
        have hlb := HL.out _ rfl
        have hM := decM_some HD.out
        rw [hn7] at p0 hlb hM
        have hV1 := decBe64 te pe _ _ _ _ _ HD.out
        have HN7 := Lib.hid hn7
        clear hnl p1 hn7
        go_wp2_with (first
          | (go_at_call 119; refine hE.mono ?_; rintro r w7 ⟨rfl, rfl⟩)
          | (go_at_call 162; refine hV1.mono ?_; rintro r w8 ⟨rfl, hD8, hf8⟩; refine Hid.out ?_))
        have s8 := hf8.size
        have D8 := Lib.hid hD8
        have hV2 := decBe64 te pe _ _ _ _ _ hD8
        have F8 := Lib.hid hf8
        clear hD8 hf8 hV1 p0
        refine Lib.hid ?_
        go_wp2_with (go_at_call 162; refine hV2.mono ?_; rintro r w9 ⟨rfl, hD9, hf9⟩; refine Hid.out ?_)
        have FA : Fr (fun k => k = w.heap.size) wr w9 := F8.out.same hf9
        have sA := FA.size
        have DA := Lib.hid hD9
        have HFA := Lib.hid FA
        have OA : w9.ownsRow base 166 2 (.slice a6 (np + acc.length) k6) (np + acc.length) ((pre ++ acc).flatMap Mrk.c) := own_fr HO.out FA (fun k hk e => by
          rcases HB.out k hk with h | h
          · have := HN1.out k h.symm; omega
          · omega)
        have HOA := Lib.hid OA
        clear hD9 hf9 hV2 FA OA D8 F8
        refine Lib.hid ?_
        go_wp2_with (first
          | (at_builtin; refine Hid.out ?_))
        have hcells : (#[Value.int IntKind.u64 (gBe64 (some (x :: r))).1, Value.int IntKind.u64 (gBe64 (gBe64 (some (x :: r))).2).1] : Array Value) = (Mrk.c (mrkStep (some (x :: r))).1).toArray := rfl
        rw [hcells]
        have hlen7 : ∀ l, (mrkStep (some (x :: r))).2 = some l → l.length < n7 := fun l hl => HN7.out ▸ mrkStep_len hl
        have hDS : Dec te pe w9 w.heap.size g cur (mrkStep (some (x :: r))).2 := DA.out
        have HE2 : Hid (∀ j', j = j' + 1 → recLoop mrkStep j' (mrkStep (some (x :: r))).2 (acc ++ [(mrkStep (some (x :: r))).1]) = recLoop mrkStep rest.length (some rest) []) := Lib.hid (by rintro j' rfl; exact HE.out)
        clear hcells DA hE HE
        generalize mrkStep (some (x :: r)) = S at hDS hlen7 HE2 ⊢
        obtain ⟨s1, st9⟩ := S
        simp only [] at hDS hlen7 HE2 ⊢
        have hDS2 := Lib.hid hDS
        have hlen8 := Lib.hid hlen7
        clear hDS hlen7
        refine Lib.hid ?_
        refine wpList_append_src _ rfl _ _ 160 160 rfl base 166 i0 _ 2 16 Tryz.underlying160 hi0 hz0 hz1 hz2 rfl (by decide) (.slice a6 (np + acc.length) k6) (np + acc.length) ((pre ++ acc).flatMap Mrk.c) rfl (HOA.out.alloc _) _ 1 (Mrk.c s1) rfl (src_blk Tryz.underlying160 (Blk.new w9 166 (Mrk.c s1).toArray) rfl (by simp [Mrk.c, Value.oneCell'])) (by unfold maxLen; omega) (by omega) (by simp; omega) ?_
        intro v' w2 hown' hgrow hat
        obtain ⟨a9, k9, rfl⟩ := own_slice' hown'
        have hrow : ∀ k, (Value.slice a6 (np + acc.length) k6).ownBlock = some k → base ≤ k ∧ k ≠ w.heap.size := fun k hk => ⟨(HOA.out.lt k hk).1, by
          rcases HB.out k hk with h | h
          · have := HN1.out k h.symm; omega
          · omega⟩
        have hsG := hgrow.size
        simp at hsG
        have fG : Fr (fun k => some k = (Value.slice a6 (np + acc.length) k6).ownBlock) w9 w2 := ((Fr.refl (fun k => some k = (Value.slice a6 (np + acc.length) k6).ownBlock) w9).alloc _).grown hgrow (fun k hk => .inl hk.symm)
        have rD : Dec te pe w2 w.heap.size g cur st9 := hDS2.out.fr fG (fun e => (hrow _ e.symm).2 rfl) (fun e => by have := (hrow _ e.symm).1; omega) (fun e => by have := (hrow _ e.symm).1; omega)
        have rO : w2.ownsRow base 166 2 (.slice a9 (np + acc.length + 1) k9) (np + (acc ++ [s1]).length) ((pre ++ (acc ++ [s1])).flatMap Mrk.c) := by
          rw [← List.append_assoc, List.flatMap_append, List.length_append, List.length_singleton]
          simpa [Nat.add_assoc] using hown'
        have rF : Fr (fun k => some k = (Value.slice a' np k').ownBlock) w w2 := (HF.out.trans HFA.out (fun k hk e => by omega)).trans fG (fun k hk e => by
          rcases HB.out k e.symm with h | h
          · exact h
          · omega)
        have rB : ∀ k, (Value.slice a9 (np + acc.length + 1) k9).ownBlock = some k → (some k = (Value.slice a' np k').ownBlock ∨ w.heap.size < k) := fun k hk => by
          rcases hat with h | h
          · exact HB.out k (h ▸ hk)
          · rw [h] at hk; injection hk with hk; simp at hk; exact .inr (by omega)
        have rM : decM w.heap.size w2 < n7 + 1 := by
          rcases st9 with _ | l9
          · rw [decM_none rD]; omega
          · rw [decM_some rD]; have := hlen8.out l9 rfl; omega
        have RD := Lib.hid rD
        have RO := Lib.hid rO
        have RF := Lib.hid rF
        have RB := Lib.hid rB
        clear rD rO rF rB hown' hgrow hat hrow fG
        go_wp2
        go_roundw
        case rel =>
          obtain ⟨j', rfl⟩ : ∃ j', j = j' + 1 := ⟨j - 1, by have := HN7.out; simp at this; omega⟩
          refine ⟨st9, acc ++ [s1], j', RD, RO, RF, RB, Lib.hid (HE2.out j' rfl), Lib.hid (fun l hl => ?_), by simp; omega⟩
          have := hlen8.out l hl
          rw [List.length_append, List.length_singleton]
          omega
        case measure => rw [hM]; exact rM

/-- Decoder.MmapMarkers. -/
theorem decMarkers_any (te : TypeId) (pe : Value) (dv : Value) (g base : Nat) (cur : Array Value) (pre : List Mrk) (xs : List UInt8) (v sv : Value) (w : World) (h : Rec te pe w g cur xs v) (ho : w.ownsRow base 166 2 sv pre.length (pre.flatMap Mrk.c)) (hb : g < base ∧ 2 < base ∧ base ≤ w.heap.size) (hpl : pre.length ≤ 1073741824) :
    Calls Tryz.prog 79 #[dv, v, sv] w (MarkersEnds w base sv.ownBlock pre xs) := by
  by_cases hx : (gByte (some xs)).1 = 5
  · rcases xs with _ | ⟨b, rest⟩
    · exact absurd hx (by decide)
    · have hb2 : b = 5 := by
        have : b.toNat = (5 : UInt8).toNat := hx
        exact UInt8.toNat_inj.1 this
      subst hb2
      by_cases hr : rest = []
      · subst hr; exact decMarkers_empty te pe dv g base cur pre v sv w h ho ⟨hb.1, hb.2.1⟩
      · exact decMarkers_main te pe dv g base cur pre rest hr v sv w h ho hb hpl
  · exact decMarkers_type te pe dv g base cur pre xs v sv w h hx
end Go.Proofs.YtbkookiigkckdaaGreatDoor

/- RecordRead's closure at markers. -/
namespace Go.Proofs.YtbkookiigkckdaaGreatDoor
open Go.RowKit
set_option linter.unusedVariables false
set_option linter.unusedSimpArgs false

/-- The markers that RecordRead hands back: those before, and the record's. -/
def outM (pre : List Mrk) (xs : List UInt8) : List Mrk := match decMarkers xs with | some l => pre ++ l | none => []

def ReadEndsM (w : World) (bb bp bo : Nat) (pre : List Mrk) (xs : List UInt8) (r : Ending) (w' : World) : Prop :=
  r = .returned (.tuple #[]) ∧ Fr (fun k => k = bb ∨ k = bp ∨ k = bo) w w' ∧ Blk w' bo 4 #[.bool (decMarkers xs).isSome] ∧
    ∃ lv, Blk w' bp 54 #[.slice none 0 0, .slice none 0 0, .slice none 0 0, .slice none 0 0, .slice none 0 0, lv, .slice none 0 0] ∧ w'.ownsRow w.heap.size 168 2 lv (outM pre xs).length ((outM pre xs).flatMap Mrk.c)

theorem recLoop_len {α : Type} (step : St → α × St) : ∀ (k : Nat) (st : St) (acc : List α), (recLoop step k st acc).1.length ≤ acc.length + k
  | 0, st, acc => by simp [recLoop]
  | k + 1, none, acc => by simp [recLoop]
  | k + 1, some [], acc => by simp [recLoop]
  | k + 1, some (c :: r), acc => by
    have h := recLoop_len step k (step (some (c :: r))).2 (acc ++ [(step (some (c :: r))).1])
    rw [List.length_append, List.length_singleton] at h
    show (recLoop step k (step (some (c :: r))).2 (acc ++ [(step (some (c :: r))).1])).1.length ≤ _
    omega
theorem decParts_len {α : Type} {t : UInt8} {step : St → α × St} {xs : List UInt8} {l : List α} (h : decParts t step xs = some l) : l.length ≤ xs.length := by
  rcases xs with _ | ⟨b, rest⟩
  · cases h
  · unfold decParts at h
    simp only [] at h
    split at h
    · have hl := recLoop_len step rest.length (some rest) []
      split at h
      · rename_i e
        injection h with h
        rw [e] at hl
        subst h
        simp at hl ⊢; omega
      · cases h
    · cases h
theorem outM_len (pre : List Mrk) (xs : List UInt8) : (outM pre xs).length ≤ pre.length + xs.length := by
  unfold outM
  split
  · rename_i h
    have := decParts_len h
    rw [List.length_append]; omega
  · simp

theorem markers_uniform {w w' : World} {base : Nat} {o : Option Nat} {pre : List Mrk} {xs : List UInt8} {r : Ending} (h : MarkersEnds w base o pre xs r w') :
    ∃ v' e, r = .returned (.tuple #[v', e]) ∧ w'.ownsRow base 166 2 v' (outM pre xs).length ((outM pre xs).flatMap Mrk.c) ∧ Fr (fun k => some k = o) w w' ∧ ((e = .nilIface ∧ (decMarkers xs).isSome = true) ∨ (∃ t a, e = .iface t a ∧ (decMarkers xs).isSome = false)) := by
  unfold MarkersEnds at h
  unfold outM
  rcases hd : decMarkers xs with _ | l
  · rw [hd] at h
    obtain ⟨hf, t, a, rfl⟩ := h
    exact ⟨_, _, rfl, World.ownsRow_nil _ _ _ _, hf, .inr ⟨_, _, rfl, rfl⟩⟩
  · rw [hd] at h
    obtain ⟨hf, v', rfl, ho⟩ := h
    exact ⟨_, _, rfl, ho, hf, .inl ⟨rfl, rfl⟩⟩
theorem rd_keepM {W w5 w6 : World} {b t : Nat} {cs : Array Value} {v5 : Value} {n : Nat} {xs : List Value} (h : Blk W b t cs) (hf5 : Fr (fun _ => False) W.drew w5) (ho : w5.ownsRow W.drew.heap.size 166 2 v5 n xs) (hf6 : Fr (fun k => some k = v5.ownBlock) w5 w6) : Blk w6 b t cs :=
  (h.drew.fr hf5 (fun e => e)).fr hf6 (fun e => by have h1 := (ho.lt b e.symm).1; have h2 : b < W.heap.size := h.lt; exact Nat.lt_irrefl _ (Nat.lt_of_lt_of_le h2 h1))

set_option maxRecDepth 100000 in
set_option maxHeartbeats 4000000 in
theorem read1_markers (te : TypeId) (pe : Value) (bb bk bq bp bo : Nat) (P : Nat → Prop) (q0 q1 q2 q3 q4 q5 q6 v : Value) (xs : List UInt8) (w : World) (hb : Blk w bb 44 #[v]) (hv : Sl P w v 1 xs.length (bc xs)) (hk : Blk w bk 3 #[.int .i64 5]) (hq : Blk w bq 54 #[q0, q1, q2, q3, q4, q5, q6]) (pre : List Mrk) (hs : Sl P w q5 2 pre.length (pre.flatMap Mrk.c)) (hpl : pre.length ≤ 1073741824)
    (hp : Blk w bp 54 #[.slice none 0 0, .slice none 0 0, .slice none 0 0, .slice none 0 0, .slice none 0 0, .slice none 0 0, .slice none 0 0]) (ho : Blk w bo 4 #[.bool false]) (hE : w.cell? ⟨2, 0, none⟩ = some (.iface te pe)) (hxl : xs.length ≤ 1073741824)
    (hPb : ∀ g, P g → g ≠ bb) (hpq : bp ≠ bq) (h2 : bb ≠ 2 ∧ bp ≠ 2 ∧ bo ≠ 2) :
    Calls Tryz.prog 66 #[.pointer (some ⟨bb, 0, none⟩), .pointer (some ⟨bk, 0, none⟩), .pointer (some ⟨bq, 0, none⟩), .pointer (some ⟨bp, 0, none⟩), .pointer (some ⟨bo, 0, none⟩)] w (ReadEndsM w bb bp bo pre xs) := by
  obtain ⟨i0, hi0, hz0, hz1, hz2⟩ := info_parts Tryz.info5
  have HB := Lib.hid hb
  have HV := Lib.hid hv
  have HK := Lib.hid hk
  have HQ := Lib.hid hq
  have HS := Lib.hid hs
  have HP := Lib.hid hp
  have HO := Lib.hid ho
  have HE := Lib.hid hE
  have HPB := Lib.hid hPb
  have hv1 : ∃ A m c, v = .slice A m c := let ⟨A, c, h, _⟩ := hv; ⟨A, _, c, h⟩
  obtain ⟨A, m, c, rfl⟩ := hv1
  clear hb hv hk hq hs hp ho hE hPb
  go_enter Tryz.func66, Tryz.ntmps66
  go_wp2_with (first | (go_at_call 67; refine (newDec_any _ _).mono ?_; rintro r w1 ⟨v1, rfl, ⟨a, rfl⟩, hf1⟩; refine Hid.out ?_))
  have hB1 := ((HB.out.fr hf1 (fun e => e)).alloc (.cells #[.slice (some a) 0 0, .string ⟨#[]⟩, .slice none 0 0] 119)).alloc (.cells #[] 5)
  have b1 := hB1.cell 0
  simp at b1
  clear hB1
  refine Lib.hid ?_
  go_wp2_with (at_builtin; refine Hid.out ?_)
  have hO0 := World.ownsRow_made (base := w.heap.size) (e := 5) (size := 1) (w1.alloc (.cells #[.slice (some a) 0 0, .string ⟨#[]⟩, .slice none 0 0] 119)) #[] 0 (by have := hf1.size; simp; omega) (Nat.zero_le _) rfl
  have hFA : Fr (fun _ => False) w ((w1.alloc (.cells #[.slice (some a) 0 0, .string ⟨#[]⟩, .slice none 0 0] 119)).alloc (.cells #[] 5)) := (hf1.alloc _).alloc _
  have hs1 := hf1.size
  refine Lib.hid ?_
  have hg0 : (w1.alloc (.cells #[.slice (some a) 0 0, .string ⟨#[]⟩, .slice none 0 0] 119)).heap.size = w1.heap.size + 1 := by simp
  rw [hg0] at hO0
  clear b1
  generalize World.alloc _ (Obj.cells #[] 5) = WA at hO0 hFA ⊢
  have hsA := hFA.size
  have hsrc := src_sl Tryz.underlying44 (HV.out.fr hFA (fun _ _ e => e)) (bc_one xs)
  refine wpList_append_src _ rfl _ _ 44 44 rfl w.heap.size 5 i0 (.int .u8 0) 1 1 Tryz.underlying44 hi0 hz0 hz1 hz2 rfl (by decide) (.slice (some ⟨w1.heap.size + 1, 0, none⟩) 0 0) 0 [] rfl hO0 (.slice A m c) xs.length (bc xs) rfl hsrc (by unfold maxLen; omega) (by omega) (by omega) ?_
  intro v' w2 hown' hgrow hat
  rw [Nat.zero_add, List.nil_append] at hown'
  obtain ⟨a2, k2, rfl⟩ := own_slice' hown'
  have hge : ∀ k, (Value.slice (some ⟨w1.heap.size + 1, 0, none⟩) 0 0).ownBlock = some k → w.heap.size ≤ k := fun k hk => by
    have hk : w1.heap.size + 1 = k := Option.some.inj hk
    omega
  have F2 : Fr (fun _ => False) w w2 := hFA.grown hgrow (fun k hk => .inr (hge k hk))
  have hrow2 : ∃ g2 cur2, a2 = some ⟨g2, 0, none⟩ ∧ w.heap.size ≤ g2 ∧ Blk w2 g2 5 cur2 ∧ xs.length ≤ k2 ∧ k2 ≤ maxLen ∧ cur2.toList.take xs.length = bc xs := by
    rcases hown'.2 with ⟨h, _⟩ | ⟨g2, cap, cur2, h, h1, h3, h4, h5, _, h6⟩
    · rw [h] at hat
      rcases hat with hat | hat <;> exact absurd hat (by simp [Value.ownBlock])
    · injection h with e1 e2 e3
      subst e3
      exact ⟨g2, cur2, e1, h1, h3, h4, h5, by simpa using h6⟩
  have hge2 : ∀ k, (Value.slice a2 xs.length k2).ownBlock = some k → w.heap.size ≤ k := fun k hk => (hown'.lt k hk).1
  have lB := HB.out.lt
  have gB := HB.out.fr F2 (fun e => e)
  have y0 := gB.cell 0
  have y1 := gB.frozen 0
  simp at y0
  have F3 : Fr (fun k => k = bb) w (w2.setCell ⟨bb, 0, none⟩ (.slice a2 xs.length k2)) := (F2.mono (S' := fun k => k = bb) (fun _ _ e => e.elim)).setCell (p := ⟨bb, 0, none⟩) (.inl rfl) _
  have O3 : (w2.setCell ⟨bb, 0, none⟩ (.slice a2 xs.length k2)).ownsRow w.heap.size 5 1 (.slice a2 xs.length k2) xs.length (bc xs) := own_fr hown' (Fr.put_ w2 bb 0 _) (fun k hk e => by have := hge2 k hk; omega)
  have B3 : Blk (w2.setCell ⟨bb, 0, none⟩ (.slice a2 xs.length k2)) bb 44 #[.slice a2 xs.length k2] := by simpa using gB.set_ 0 (.slice a2 xs.length k2)
  have K3 := (HK.out.fr F3 (fun e => Blk.ne_ HK.out HB.out (by decide) e)).cell 0
  have Q3 := HQ.out.fr F3 (fun e => Blk.ne_ HQ.out HB.out (by decide) e)
  have P3 := HP.out.fr F3 (fun e => Blk.ne_ HP.out HB.out (by decide) e)
  have O4 := HO.out.fr F3 (fun e => Blk.ne_ HO.out HB.out (by decide) e)
  have E3 : (w2.setCell ⟨bb, 0, none⟩ (.slice a2 xs.length k2)).cell? ⟨2, 0, none⟩ = some (.iface te pe) := by
    rw [F3.cell (p := ⟨2, 0, none⟩) (World.block_lt_of_cell? w _ HE.out) (fun e => h2.1 e.symm)]; exact HE.out
  simp at K3
  have HF3 := Lib.hid F3
  have HO3 := Lib.hid O3
  have HB3 := Lib.hid B3
  have HQ3 := Lib.hid Q3
  have HP3 := Lib.hid P3
  have HO4 := Lib.hid O4
  have HE3 := Lib.hid E3
  have HGE := Lib.hid hge2
  obtain ⟨g2, cur2, rfl, hg2, hbk2, hk2, hk2m, htk2⟩ := hrow2
  have R3 : Rec te pe (w2.setCell ⟨bb, 0, none⟩ (.slice (some ⟨g2, 0, none⟩) xs.length k2)) g2 cur2 xs (.slice (some ⟨g2, 0, none⟩) xs.length k2) := by
    refine ⟨0, k2, rfl, hbk2.far (p := ⟨bb, 0, none⟩) (by show g2 ≠ bb; omega) _, hk2, ⟨by simp [maxLen] at hk2m; omega, by omega⟩, fun j u hu => ?_, E3⟩
    rw [Nat.zero_add, ← Array.getElem?_toList]
    have hj : j < xs.length := by
      rcases Nat.lt_or_ge j xs.length with h | h
      · exact h
      · rw [List.getElem?_eq_none (by rw [bc_len]; exact h)] at hu; cases hu
    rw [← htk2, List.getElem?_take_of_lt hj] at hu
    exact hu
  have HR3 := Lib.hid R3
  have hg2l := hbk2.lt
  clear R3 hk2m htk2 hbk2
  clear F2 F3 O3 B3 Q3 P3 O4 E3 gB hge hge2 hown' hgrow hat hsrc hO0 hFA hf1
  go_wp2_with fail
  generalize w2.setCell ⟨bb, 0, none⟩ (.slice (some ⟨g2, 0, none⟩) xs.length k2) = W3 at HF3 HO3 HB3 HQ3 HP3 HO4 HE3 HR3 ⊢
  have hl3 := HR3.out
  have hg3 : g2 < W3.heap.size := let ⟨_, _, _, h, _⟩ := hl3; h.lt
  have h23 : 2 < W3.heap.size := World.block_lt_of_cell? W3 _ HE3.out
  clear hl3
  have hS3 : Sl P W3.drew q5 2 pre.length (pre.flatMap Mrk.c) := HS.out.fr HF3.out.drew (fun g hg e => HPB.out g hg e)
  have hR1 := refMarkers_any P q5 pre W3.drew hS3 (by omega)
  have hq1 : ∃ A m c, q5 = .slice A m c := let ⟨A, c, h, _⟩ := HS.out; ⟨A, _, c, h⟩
  obtain ⟨Aq, mq, cq, rfl⟩ := hq1
  have x0 := HB3.out.cell 0
  have x1 := HQ3.out.cell 5
  have x0d : W3.drew.cell? ⟨bb, 0, none⟩ = some (.slice (some ⟨g2, 0, none⟩) xs.length k2) := x0
  have x1d : W3.drew.cell? ⟨bq, 5, none⟩ = some (.slice Aq mq cq) := x1
  simp at x0 x1
  clear y0 y1 K3
  go_region_held3 (fun w' => w'.cell? ⟨bb, 0, none⟩ = some (.slice (some ⟨g2, 0, none⟩) xs.length k2) ∧ w'.cell? ⟨bq, 5, none⟩ = some (.slice Aq mq cq))
    ((first | (go_split_ands; refine ⟨?_, ?_⟩ <;> first | exact (HB3.out.drew.fr hf5 (fun e => e)).cell 0 | exact (HQ3.out.drew.fr hf5 (fun e => e)).cell 5) | (go_split_ands; refine ⟨?_, ?_⟩ <;> first | exact KB.out.cell 0 | exact KQ.out.cell 5) | go_keep))
    ((first
      | (go_at_call 80; refine hR1.mono ?_; rintro r5 w5 ⟨v5, rfl, hown5, hf5⟩)
      | (go_at_call 79; refine (decMarkers_any te pe _ g2 W3.drew.heap.size cur2 pre xs _ v5 w5 (HR3.out.fr (w := W3) (((Fr.refl (fun _ => False) W3).drew).same hf5) (fun e => e) (fun e => e)) hown5 ⟨hg3, h23, hf5.size⟩ hpl).mono ?_; rintro r6 w6 hE6; obtain ⟨v6, e6, rfl, hown6, hf6, hor6⟩ := markers_uniform hE6; clear hE6; have KB := Lib.hid (rd_keepM HB3.out hf5 hown5 hf6); have KQ := Lib.hid (rd_keepM HQ3.out hf5 hown5 hf6))))
  have T6 : Fr (fun k => k = bb) w w6 := ((HF3.out.trans (((Fr.refl (fun _ => False) W3).drew).same hf5) (fun _ _ e => e.elim)).trans hf6 (fun k hk e => by
    have h1 := (hown5.lt k e.symm).1
    have h2 := HF3.out.size
    simp at h1; omega))
  have P6 := rd_keepM HP3.out hf5 hown5 hf6
  have O6 := rd_keepM HO4.out hf5 hown5 hf6
  have hz6 : w.heap.size ≤ W3.drew.heap.size := HF3.out.size
  have V6 := own_mono hown6 hz6
  have HT6 := Lib.hid T6
  have HP6 := Lib.hid P6
  have HO6 := Lib.hid O6
  have HV6 := Lib.hid V6
  have HOR := Lib.hid hor6
  have hsz5 := hf5.size
  have hsz6 := hf6.size
  have hb6 : ∀ k, v6.ownBlock = some k → k < w6.heap.size := fun k hk => own_lt hown6 hk
  clear x0 x1 x0d x1d hR1 T6 P6 O6 V6 hor6 hown5 hf5 hown6 hf6 KB KQ HO3 HB3 HQ3 HP3 HO4 HE3 HR3 HF3
  obtain ⟨l, hl⟩ : ∃ l, outM pre xs = l := ⟨_, rfl⟩
  rw [hl] at HV6
  have HLL := Lib.hid hl
  clear hl
  obtain ⟨a6, k6, rfl⟩ := own_slice' HV6.out
  go_wp2_with fail
  obtain ⟨n, hn⟩ : ∃ n, l.length = n := ⟨_, rfl⟩
  have HN := Lib.hid hn
  rw [hn] at HV6 hb6 ⊢
  clear hn
  obtain ⟨i1, hi1, hy0, hy1, hy2⟩ := info_parts Tryz.info168
  go_loopw [178] (fun i wr => ∃ (k : Nat) (lv : Value), k ≤ n ∧ i = .int .i64 k ∧ Hid (Fr (fun j => j = bb ∨ j = bp) w wr) ∧ Hid (wr.ownsRow w.heap.size 166 2 (.slice a6 n k6) n (l.flatMap Mrk.c)) ∧ Hid (Blk wr bo 4 #[.bool false]) ∧
      Hid (Blk wr bp 54 #[.slice none 0 0, .slice none 0 0, .slice none 0 0, .slice none 0 0, .slice none 0 0, lv, .slice none 0 0]) ∧ Hid (wr.ownsRow w.heap.size 168 2 lv k ((l.take k).flatMap Mrk.c))) (fun i _ => n - (intOf i).toNat)
  case atStart => exact ⟨0, _, Nat.zero_le _, rfl, Lib.hid (Fr.mono HT6.out (fun _ _ e => Or.inl e)), HV6, HO6, HP6, Lib.hid (World.ownsRow_nil _ _ _ _)⟩
  case round =>
    obtain ⟨k, lv, hk, rfl, RF, RV, RO, RP, RL⟩ := hrel
    by_cases hlt : k < n
    · obtain ⟨A7, c7, e7, _, _, hr7⟩ := Sl.ofOwn RV.out
      injection e7 with e7 _ e7c
      subst e7 e7c
      obtain ⟨g7, off7, rfl, _, hcell7⟩ := hr7 (by omega)
      obtain ⟨x, hx⟩ : ∃ x, l[k]? = some x := ⟨_, List.getElem?_eq_getElem (by rw [HN.out]; exact hlt)⟩
      have cc : ∀ j, j < 2 → ∀ u, (Mrk.c x)[j]? = some u → wr.cell? ⟨g7, off7 + (k * 2 + j), none⟩ = some u := fun j hj u hu =>
        hcell7 (k * 2 + j) u (by rw [flat2 Mrk.c (fun _ => rfl) l k x hx j hj]; exact hu)
      have c0 : wr.cell? ⟨g7, off7 + k * 2, none⟩ = some (.int .u64 x.ref) := cc 0 (by omega) _ rfl
      have c1 : wr.cell? ⟨g7, off7 + k * 2 + 1, none⟩ = some (.int .u64 x.mm) := cc 1 (by omega) _ rfl
      have HX := Lib.hid hx
      obtain ⟨aL, kL, rfl⟩ := own_slice' RL.out
      have lP := RP.out.lt
      have hsz := RF.out.size
      have hk40 : k < 1099511627776 + 1073741824 := by have h1 := outM_len pre xs; rw [HLL.out, HN.out] at h1; omega
      have hP8 := RP.out.alloc (.cells #[.int .u64 x.ref, .int .u64 x.mm] 166)
      have s3 := hP8.cell 5
      simp only [List.getElem?_toArray, List.getElem?_cons_zero, List.getElem?_cons_succ] at s3
      have HP8 := Lib.hid hP8
      clear hcell7 hr7 cc hx hP8
      go_wp2_with (at_builtin; refine Hid.out ?_)
      refine Lib.hid ?_
      refine wpList_append_src _ rfl _ _ 51 51 rfl w.heap.size 168 i1 _ 2 16 Tryz.underlying51 hi1 hy0 hy1 hy2 rfl (by decide) (.slice aL k kL) k ((l.take k).flatMap Mrk.c) rfl ((RL.out.alloc _).alloc _) _ 1 (Mrk.c x) rfl (src_blk Tryz.underlying51 (blk_new2 wr _ 168 (Mrk.c x).toArray) rfl (by simp [Mrk.c, Value.oneCell'])) (by unfold maxLen; omega) (by omega) (by simp; omega) ?_
      intro v' w2 hown' hgrow hat
      obtain ⟨a9, k9, rfl⟩ := own_slice' hown'
      have KP9 := Lib.hid ((HP8.out.alloc _).grown hgrow (Ne.symm (own_ne RL.out RP.out (by decide))))
      have p9 := KP9.out.cell 5
      have z9 := KP9.out.frozen 5
      simp at p9
      have newP : Blk (w2.setCell ⟨bp, 5, none⟩ (.slice a9 (k + 1) k9)) bp 54 #[.slice none 0 0, .slice none 0 0, .slice none 0 0, .slice none 0 0, .slice none 0 0, .slice a9 (k + 1) k9, .slice none 0 0] := by simpa using KP9.out.set_ 5 (.slice a9 (k + 1) k9)
      have newO : Blk (w2.setCell ⟨bp, 5, none⟩ (.slice a9 (k + 1) k9)) bo 4 #[.bool false] := (((RO.out.alloc (.cells #[.int .u64 x.ref, .int .u64 x.mm] 166)).alloc _).grown hgrow (Ne.symm (own_ne RL.out RO.out (by decide)))).far (p := ⟨bp, 5, none⟩) (Blk.ne_ RO.out RP.out (by decide)) _
      have newL : (w2.setCell ⟨bp, 5, none⟩ (.slice a9 (k + 1) k9)).ownsRow w.heap.size 168 2 (.slice a9 (k + 1) k9) (k + 1) ((l.take (k + 1)).flatMap Mrk.c) := by
        rw [flatMap_take_succ Mrk.c l k x HX.out]
        exact own_fr hown' (Fr.put_ w2 bp 5 _) (fun g hg e => own_ne hown' KP9.out (by decide) (by rw [hg, e]))
      have fG : Fr (fun j => some j = (Value.slice aL k kL).ownBlock ∨ j = bp) wr (w2.setCell ⟨bp, 5, none⟩ (.slice a9 (k + 1) k9)) :=
        ((((Fr.refl (fun j => some j = (Value.slice aL k kL).ownBlock ∨ j = bp) wr).alloc (.cells #[.int .u64 x.ref, .int .u64 x.mm] 166)).alloc _).grown hgrow (fun g hg => .inl (.inl hg.symm))).setCell (p := ⟨bp, 5, none⟩) (.inl (.inr rfl)) _
      have newV := own_fr RV.out fG (fun g hg e => by
        rcases e with e | e
        · exact own_own RV.out RL.out (by decide) g hg e.symm
        · exact own_ne RV.out RP.out (by decide) (by rw [hg, e]))
      have newF : Fr (fun j => j = bb ∨ j = bp) w (w2.setCell ⟨bp, 5, none⟩ (.slice a9 (k + 1) k9)) := RF.out.trans fG (fun j hj e => by
        rcases e with e | e
        · have := (RL.out.lt j e.symm).1; omega
        · exact .inr e)
      have NP := Lib.hid newP
      have NO := Lib.hid newO
      have NL := Lib.hid newL
      have NV := Lib.hid newV
      have NF := Lib.hid newF
      clear newP newO newL newV newF fG hown' hgrow hat c0 c1 s3
      go_wp2
      go_roundw
      case rel => exact ⟨k + 1, _, by omega, by go_num, NF, NV, NO, NP, NL⟩
      case measure => simp [intOf]; omega
    · obtain rfl : k = n := by omega
      have o0 := RO.out.cell 0
      have o1 := RO.out.frozen 0
      simp at o0
      have W1 : Blk (wr.setCell ⟨bo, 0, none⟩ (.bool (decMarkers xs).isSome)) bo 4 #[.bool (decMarkers xs).isSome] := by simpa using RO.out.set_ 0 (.bool (decMarkers xs).isSome)
      have W2 := RP.out.far (p := ⟨bo, 0, none⟩) (Blk.ne_ RP.out RO.out (by decide)) (.bool (decMarkers xs).isSome)
      have W3' := own_fr RL.out (Fr.put_ wr bo 0 (.bool (decMarkers xs).isSome)) (fun g hg e => own_ne RL.out RO.out (by decide) (by rw [hg, e]))
      have W4 : Fr (fun k => k = bb ∨ k = bp ∨ k = bo) w (wr.setCell ⟨bo, 0, none⟩ (.bool (decMarkers xs).isSome)) := (Fr.mono (S' := fun k => k = bb ∨ k = bp ∨ k = bo) RF.out (fun _ _ e => e.elim (fun h => Or.inl h) (fun h => Or.inr (Or.inl h)))).setCell (p := ⟨bo, 0, none⟩) (.inl (.inr (.inr rfl))) _
      rcases HOR.out with ⟨rfl, hsome⟩ | ⟨t, ae, rfl, hsome⟩
      all_goals
        rw [hsome] at W1 W2 W3' W4
        have hW1 := Lib.hid W1
        have hW2 := Lib.hid W2
        have hW3 := Lib.hid W3'
        have hW4 := Lib.hid W4
        clear W1 W2 W3' W4
        go_wp2_with fail
        go_end0
        refine ⟨rfl, hW4.out, by rw [hsome]; exact hW1.out, lv, hW2.out, ?_⟩
        have e1 : l.take k = l := List.take_of_length_le (by rw [HN.out]; exact Nat.le_refl _)
        have h3 := hW3.out
        rw [e1] at h3
        rw [HLL.out, HN.out]
        exact h3
end Go.Proofs.YtbkookiigkckdaaGreatDoor

/- Markers: RecordWrite, RecordRead, same. -/
namespace Go.Proofs.YtbkookiigkckdaaGreatDoor
open Go.RowKit
set_option linter.unusedVariables false
set_option linter.unusedSimpArgs false

set_option maxRecDepth 100000 in
set_option maxHeartbeats 2000000 in
theorem write1_markers (bk bp bb br : Nat) (ep lp : Value) (P : Nat → Prop) (s0 s1 s2 s3 s4 s5 s6 v z : Value) (xs : List UInt8) (l : List Mrk) (w : World) (hk : Blk w bk 3 #[.int .i64 5]) (hp : Blk w bp 54 #[s0, s1, s2, s3, s4, s5, s6]) (hb : Blk w bb 44 #[v]) (hr : Blk w br 44 #[z])
    (hown : w.ownsRow 0 5 1 v xs.length (bc xs)) (hs : Sl P w s5 2 l.length (l.flatMap Mrk.c)) (hl : xs.length ≤ 1073741824) (hsl : l.length ≤ 1073741824) (hwf : ∀ s ∈ l, s.wf) (hbr : bb ≠ br) :
    Calls Tryz.prog 90 #[.pointer (some ⟨bk, 0, none⟩), ep, .pointer (some ⟨bp, 0, none⟩), .pointer (some ⟨bb, 0, none⟩), .pointer (some ⟨br, 0, none⟩), lp] w (WroteEnds w br v.ownBlock (xs ++ encMarkers l)) := by
  have hpr : bp ≠ br := Blk.ne_ hp hr (by decide)
  have k0 := hk.cell 0
  have p1 := hp.cell 5
  have b0 := hb.cell 0
  simp at k0 p1 b0
  obtain ⟨a', n', k', rfl⟩ := own_slice hown
  have hs1 : ∃ A m c, s5 = .slice A m c := let ⟨A, c, h, _⟩ := hs; ⟨A, _, c, h⟩
  obtain ⟨A, m, c, rfl⟩ := hs1
  have hQ := refMarkers_any P (.slice A m c) l w.drew hs (by omega)
  have HB := Lib.hid hb
  have HP := Lib.hid hp
  have HR := Lib.hid hr
  have HO := Lib.hid hown
  have p1d : w.drew.cell? ⟨bp, 5, none⟩ = some (.slice A m c) := p1
  have b0d : w.drew.cell? ⟨bb, 0, none⟩ = some (.slice a' n' k') := b0
  clear hk hp hb hr hown hs
  go_enter Tryz.func90, Tryz.ntmps90
  go_wp2_with fail
  have HW := Lib.hid hwf
  clear hwf
  go_region_held3 (fun w' => w'.cell? ⟨bp, 5, none⟩ = some (.slice A m c) ∧ w'.cell? ⟨bb, 0, none⟩ = some (.slice a' n' k'))
    ((first | (go_split_ands; refine ⟨?_, ?_⟩ <;> first | exact ((HP.out.drew).fr hf1 (fun e => e)).cell 5 | exact ((HB.out.drew).fr hf1 (fun e => e)).cell 0) | (go_split_ands; refine ⟨?_, ?_⟩ <;> first | exact KP.out.cell 5 | exact KB.out.cell 0) | (go_split_ands; refine ⟨?_, ?_⟩ <;> first | exact (KP.out.far (p := ⟨br, 0, none⟩) hpr _).cell 5 | exact (KB.out.far (p := ⟨br, 0, none⟩) hbr _).cell 0) | go_keep))
    ((first
      | (go_at_call 80; refine hQ.mono ?_; rintro r1 w1 ⟨v1, rfl, hown1, hf1⟩)
      | (go_at_call 95; refine (encMarkers_any ep v1 (fun g => v1.ownBlock = some g) (.slice a' n' k') xs l w1 (Sl.ofOwn hown1) (own_fr (World.ownsRow.drew HO.out) hf1 (fun _ _ e => e)) hl hsl HW.out (write1_side hown1 HO.out (Nat.le_refl _))).mono ?_; rintro r2 w2 ⟨v2, rfl, hown2, hf2, hat2⟩; obtain ⟨KP, KB, KR⟩ := write1_keeps HP.out HB.out HR.out HO.out hf1 hf2; have q0 := KR.out.cell 0; simp at q0; have q1 := KR.out.frozen 0; obtain ⟨a2, n2, k2, rfl⟩ := own_slice hown2)))
  have HE : Fr (fun k => some k = (Value.slice a' n' k').ownBlock ∨ k = br) w (w2.setCell ⟨br, 0, none⟩ (.slice a2 n2 k2)) :=
    ((((Fr.refl (fun k => some k = (Value.slice a' n' k').ownBlock ∨ k = br) w).drew).trans hf1 (fun _ _ e => e.elim)).trans hf2 (fun _ _ e => .inl e)).setCell (p := ⟨br, 0, none⟩) (.inl (.inr rfl)) _
  have HV : Blk (w2.setCell ⟨br, 0, none⟩ (.slice a2 n2 k2)) br 44 #[.slice a2 n2 k2] := by simpa using KR.out.set_ 0 (.slice a2 n2 k2)
  have HF := Lib.hid HE
  have HVV := Lib.hid HV
  have HOW : (w2.setCell ⟨br, 0, none⟩ (.slice a2 n2 k2)).ownsRow 0 5 1 (.slice a2 n2 k2) (xs ++ encMarkers l).length (bc (xs ++ encMarkers l)) := own_fr hown2 (Fr.put_ w2 br 0 _) (fun g hg e => own_ne hown2 KR.out (by decide) (by rw [hg, e]))
  have HOWW := Lib.hid HOW
  have hsz := hf1.size
  have HAT := Lib.hid hat2
  clear HE HV HOW hown1 hf1 hown2 hf2 hat2 q0 q1 hQ p1 p1d b0 b0d
  go_wp2
  go_end0
  refine ⟨rfl, _, HVV.out, HOWW.out, HF.out, ?_⟩
  rcases HAT.out with h | ⟨k, h, hk⟩
  · exact .inl h
  · exact .inr ⟨k, h, by simp at hsz; omega⟩


/-- RecordWrite at markers. -/
theorem recordWrite_markers (s0 s1 s2 s3 s4 s5 s6 bv : Value) (xs : List UInt8) (l : List Mrk) (P : Nat → Prop) (w : World) (hb : Sl P w bv 1 xs.length (bc xs)) (hxl : xs.length ≤ 1073741824)
    (hsl : ∀ s ∈ [s0, s1, s2, s3, s4, s5, s6], ∃ A m c, s = .slice A m c) (hs : Sl P w s5 2 l.length (l.flatMap Mrk.c)) (hll : l.length ≤ 1073741824) (hwf : ∀ s ∈ l, s.wf) :
    Calls Tryz.prog 31 #[.int .i64 5, .agg #[s0, s1, s2, s3, s4, s5, s6], bv] w (WriteEnds (fun lv _ => lv = .slice none 0 0) w (xs ++ encMarkers l)) := by
  refine recordWrite_of 5 s0 s1 s2 s3 s4 s5 s6 bv xs _ P _ w hb hxl hsl (by rintro lv W rfl; exact ⟨_, _, _, rfl⟩) (fun _ _ _ h _ => h) ?_
  intro bk be bp bb br bl v W hk hp hb' hr hl hown hbr hF
  exact (write1_markers bk bp bb br _ _ P s0 s1 s2 s3 s4 s5 s6 v _ xs l W hk hp hb' hr (own_mono hown (Nat.zero_le _)) (hs.fr hF (fun _ _ e => e)) hxl hll hwf hbr).mono fun r w' h => wrote_w1 (own_mono hown (Nat.zero_le _)) hr hl h

/-- Parts that hold markers alone, in memory of the call's own. -/
def MrkParts (base : Nat) (l : List Mrk) (ps : Array Value) (w : World) : Prop :=
  ∃ lv, ps = #[.slice none 0 0, .slice none 0 0, .slice none 0 0, .slice none 0 0, .slice none 0 0, lv, .slice none 0 0] ∧ w.ownsRow base 168 2 lv l.length (l.flatMap Mrk.c)

theorem seven_of5 {lv : Value} (h : ∃ A m c, lv = .slice A m c) : Seven #[.slice none 0 0, .slice none 0 0, .slice none 0 0, .slice none 0 0, .slice none 0 0, lv, .slice none 0 0] := by
  obtain ⟨A, m, c, rfl⟩ := h
  exact ⟨_, _, _, _, _, _, _, _, _, _, _, _, _, _, _, _, _, _, _, _, _, rfl⟩

theorem recordRead_markers (te : TypeId) (pe : Value) (q0 q1 q2 q3 q4 q5 q6 bv : Value) (pre : List Mrk) (xs : List UInt8) (P : Nat → Prop) (w : World) (hb : Sl P w bv 1 xs.length (bc xs)) (hxl : xs.length ≤ 1073741824) (hP : ∀ g, P g → g < w.heap.size)
    (hsl : ∀ s ∈ [q0, q1, q2, q3, q4, q5, q6], ∃ A m c, s = .slice A m c) (hs : Sl P w q5 2 pre.length (pre.flatMap Mrk.c)) (hpl : pre.length ≤ 1073741824) (hE : w.cell? ⟨2, 0, none⟩ = some (.iface te pe)) :
    Calls Tryz.prog 29 #[.int .i64 5, bv, .agg #[q0, q1, q2, q3, q4, q5, q6]] w (ReadDone (MrkParts w.heap.size (outM pre xs)) (decMarkers xs).isSome w) := by
  have h2 := World.block_lt_of_cell? w _ hE
  refine recordRead_of 5 q0 q1 q2 q3 q4 q5 q6 bv xs P _ _ w hb hsl ?_ ?_
  · rintro ps W W' ⟨lv, rfl, ho⟩ hv
    refine ⟨lv, rfl, own_fr ho hv ?_⟩
    rintro g hg ⟨cs, h | h⟩
    · exact own_ne ho h (by decide) hg
    · exact own_ne ho h (by decide) hg
  · intro bb bk bq bp bo W hk hb' hq hp ho hbb hbp hbo hpq hF
    have hEW : W.cell? ⟨2, 0, none⟩ = some (.iface te pe) := by rw [hF.cell (p := ⟨2, 0, none⟩) h2 (fun e => e)]; exact hE
    refine (read1_markers te pe bb bk bq bp bo P q0 q1 q2 q3 q4 q5 q6 bv xs W hb' (hb.fr hF (fun _ _ e => e)) hk hq pre (hs.fr hF (fun _ _ e => e)) hpl hp ho hEW hxl (fun g hg e => by have := hP g hg; omega) hpq (by simp only [] at h2; omega)).mono ?_
    rintro r w' ⟨rfl, hf, hbo', lv, hbp', hown⟩
    have hz := hF.size
    obtain ⟨a, c, hlv⟩ := own_slice' hown
    exact ⟨rfl, hf, hbo', _, seven_of5 ⟨_, _, _, hlv⟩, hbp', lv, rfl, own_mono hown hz⟩

set_option maxHeartbeats 400000 in
/-- The elements of two slices that read alike: same says true. -/
theorem same104_any (P Q : Nat → Prop) (u v : Value) (l : List Mrk) (w : World) (hu : Sl P w u 2 l.length (l.flatMap Mrk.c)) (hv : Sl Q w v 2 l.length (l.flatMap Mrk.c)) (hl : l.length ≤ 1099511627776) : Calls Tryz.prog 104 #[u, v] w (TrueEnds w) := by
  obtain ⟨A, c, rfl, _, hc, hr⟩ := hu
  obtain ⟨B, d, rfl, _, hd, hs⟩ := hv
  obtain ⟨n, hn⟩ : ∃ n, l.length = n := ⟨_, rfl⟩
  rw [hn] at hr hs hc hd hl ⊢
  have HN := Lib.hid hn
  have HR := Lib.hid hr
  have HS := Lib.hid hs
  clear hn hr hs
  go_enter Tryz.func104, Tryz.ntmps104
  go_wp2
  go_loopw [5] (fun i wr => ∃ k : Nat, k ≤ n ∧ i = .int .i64 k ∧ Fr (fun _ => False) w wr) (fun i _ => n - (intOf i).toNat)
  case atStart => exact ⟨0, Nat.zero_le _, rfl, Fr.refl _ _⟩
  case round =>
    obtain ⟨k, hk, rfl, hf⟩ := hrel
    by_cases hlt : k < n
    · obtain ⟨g, off, rfl, _, hcell⟩ := HR.out (by omega)
      obtain ⟨g2, off2, rfl, _, hcell2⟩ := HS.out (by omega)
      obtain ⟨x, hx⟩ : ∃ x, l[k]? = some x := ⟨_, List.getElem?_eq_getElem (by rw [HN.out]; exact hlt)⟩
      have key : ∀ {g off : Nat}, (∀ j u, (l.flatMap Mrk.c)[j]? = some u → w.cell? ⟨g, off + j, none⟩ = some u) → ∀ j, j < 2 → ∀ u, (Mrk.c x)[j]? = some u → wr.drew.cell? ⟨g, off + (k * 2 + j), none⟩ = some u := fun {g off} hcell j hj u hu => by
        have := hcell (k * 2 + j) u (by rw [flat2 Mrk.c (fun _ => rfl) l k x hx j hj]; exact hu)
        rw [hf.drew.cell (p := ⟨g, off + (k * 2 + j), none⟩) (World.block_lt_of_cell? w _ this) (fun e => e)]
        exact this
      have c0 : wr.drew.cell? ⟨g, off + k * 2, none⟩ = some (.int .u64 x.ref) := key hcell 0 (by omega) _ rfl
      have c1 : wr.drew.cell? ⟨g, off + k * 2 + 1, none⟩ = some (.int .u64 x.mm) := key hcell 1 (by omega) _ rfl
      have d0 : wr.drew.cell? ⟨g2, off2 + k * 2, none⟩ = some (.int .u64 x.ref) := key hcell2 0 (by omega) _ rfl
      have d1 : wr.drew.cell? ⟨g2, off2 + k * 2 + 1, none⟩ = some (.int .u64 x.mm) := key hcell2 1 (by omega) _ rfl
      have hf2 := Lib.hid hf.drew
      clear hcell hcell2 key hf hx
      go_wp2
      go_region
      go_wp2
      go_roundw
      case rel => exact ⟨k + 1, by omega, by go_num, hf2.out⟩
      case measure => simp [intOf]; omega
    · obtain rfl : k = n := by omega
      go_wp2
      go_ret
      exact ⟨rfl, hf⟩
end Go.Proofs.YtbkookiigkckdaaGreatDoor

/- Encoder.Tombstones. -/
namespace Go.Proofs.YtbkookiigkckdaaGreatDoor
open Go.RowKit
set_option linter.unusedVariables false
set_option linter.unusedSimpArgs false

/-- The stones' intervals one by one. -/
def flatIvs (s : Ston) : List Stn := s.ivs.map fun p => ⟨s.ref, p.1, p.2⟩
def flatS (l : List Ston) : List Stn := l.flatMap flatIvs
def Ston.wf (s : Ston) : Prop := s.ref < 18446744073709551616 ∧ ∀ p ∈ s.ivs, (-9223372036854775808 ≤ p.1 ∧ p.1 ≤ 9223372036854775807) ∧ (-9223372036854775808 ≤ p.2 ∧ p.2 ≤ 9223372036854775807)
def encStones (l : List Ston) : List UInt8 := encFlat (flatS l)
def encIv (r : Nat) (p : Int × Int) : List UInt8 := encStn ⟨r, p.1, p.2⟩

theorem encIv_len (r : Nat) (p : Int × Int) (h : (-9223372036854775808 ≤ p.1 ∧ p.1 ≤ 9223372036854775807) ∧ (-9223372036854775808 ≤ p.2 ∧ p.2 ≤ 9223372036854775807)) : (encIv r p).length ≤ 28 := by
  have h1 := zz_len p.1 h.1.1 h.1.2
  have h2 := zz_len p.2 h.2.1 h.2.2
  simp only [encIv, encStn, List.length_append, Lib.beBytes_length]
  omega
theorem flatIvs_enc (s : Ston) : (flatIvs s).flatMap encStn = s.ivs.flatMap (encIv s.ref) := by
  unfold flatIvs
  rw [List.flatMap_map]
  rfl
theorem flatMap_len' {α : Type} (f : α → List UInt8) (m : Nat) : ∀ l : List α, (∀ x ∈ l, (f x).length ≤ m) → (l.flatMap f).length ≤ l.length * m
  | [], _ => by simp
  | x :: l, hf => by
    have h1 := flatMap_len' f m l (fun y hy => hf y (by simp [hy]))
    have h2 := hf x (by simp)
    rw [List.flatMap_cons, List.length_append, List.length_cons, Nat.add_mul]
    omega
theorem flatS_len (l : List Ston) (hw : ∀ s ∈ l, s.wf) (hi : ∀ s ∈ l, s.ivs.length ≤ 4096) : ((flatS l).flatMap encStn).length ≤ l.length * 114688 := by
  have e : (flatS l).flatMap encStn = l.flatMap (fun s => s.ivs.flatMap (encIv s.ref)) := by
    unfold flatS
    rw [List.flatMap_assoc]
    congr 1
    funext s
    exact flatIvs_enc s
  rw [e]
  refine flatMap_len' _ _ _ (fun s hs => ?_)
  have h1 := flatMap_len' (encIv s.ref) 28 s.ivs (fun p hp => encIv_len _ _ ((hw s hs).2 p hp))
  have h2 := hi s hs
  have h3 : s.ivs.length * 28 ≤ 4096 * 28 := Nat.mul_le_mul_right _ h2
  omega
theorem flatS_take (l : List Ston) (k : Nat) (x : Ston) (h : l[k]? = some x) : (flatS (l.take (k + 1))).flatMap encStn = (flatS (l.take k)).flatMap encStn ++ x.ivs.flatMap (encIv x.ref) := by
  rw [List.take_add_one, h]
  unfold flatS
  rw [List.flatMap_append, List.flatMap_append, ← flatIvs_enc]
  simp

set_option maxRecDepth 100000 in
set_option maxHeartbeats 4000000 in
theorem encStones_any (ep : Value) (sv : Value) (P : Nat → Prop) (v : Value) (xs : List UInt8) (lv : List (Ston × Value)) (w : World) (h : SlS P w sv lv) (hown : w.ownsRow 0 5 1 v xs.length (bc xs)) (hl : xs.length ≤ 1073741824)
    (hsl : lv.length ≤ 4096) (hil : ∀ p ∈ lv, p.1.ivs.length ≤ 4096) (hwf : ∀ s ∈ lv.map Prod.fst, s.wf) (hP : ∀ g, P g → g < w.heap.size ∧ some g ≠ v.ownBlock) :
    Calls Tryz.prog 93 #[ep, sv, v] w (EncodeEnds w v.ownBlock (xs ++ encStones (lv.map Prod.fst))) := by
  obtain ⟨⟨A, c, rfl, hlen, hnc, hr⟩, hin⟩ := h
  obtain ⟨a', n', k', rfl⟩ := own_slice hown
  obtain ⟨n, hn⟩ : ∃ n, lv.length = n := ⟨_, rfl⟩
  rw [hn] at hnc hr hsl ⊢
  have hE := Enc.made (z := .int .u8 0) hown _ rfl
  have hQ := putByte w.heap.size _ xs 3 _ hE (by omega)
  have e2 : ((3 : UInt8).toNat : Int) = 3 := rfl
  rw [e2] at hQ
  have HN := Lib.hid hn
  have HR := Lib.hid hr
  have HP := Lib.hid hP
  have HE := Lib.hid hE
  have HIN := Lib.hid hin
  have HIL := Lib.hid hil
  have HWF := Lib.hid hwf
  clear hE hr e2 hn hlen hP hin hil hwf
  go_enter Tryz.func93, Tryz.ntmps93
  go_wp2_with (go_at_call 180; refine hQ.mono ?_; rintro r1 w1 ⟨rfl, R⟩; refine Hid.out ?_)
  have HR1 := Lib.hid R
  clear R hQ
  refine Lib.hid ?_
  go_wp2_with fail
  have hFW : Fr (fun k => some k = (Value.slice a' n' k').ownBlock) w (w.alloc (.cells #[.slice a' n' k', .int .u8 0, .int .u8 0, .int .u8 0, .int .u8 0, .int .u8 0, .int .u8 0, .int .u8 0, .int .u8 0, .int .u8 0, .int .u8 0] 224)) := (Fr.refl _ w).alloc _
  generalize hWB : w.alloc _ = WB at HE HR1 hFW
  have hB : w.heap.size < WB.heap.size := by rw [← hWB]; simp
  clear hWB
  have HFW := Lib.hid hFW
  clear hFW
  go_loopw [17] (fun i wr => ∃ k : Nat, k ≤ n ∧ i = .int .i64 k ∧ Put WB w.heap.size (Value.slice a' n' k').ownBlock xs ([3] ++ (flatS ((lv.map Prod.fst).take k)).flatMap encStn) wr) (fun i _ => n - (intOf i).toNat)
  case atStart => exact ⟨0, Nat.zero_le _, rfl, by simpa [flatS] using HR1.out⟩
  case round =>
    obtain ⟨k, hk, rfl, R⟩ := hrel
    by_cases hlt : k < n
    · obtain ⟨g, off, rfl, hPg, hcell⟩ := HR.out (by omega)
      have hg := HP.out g hPg
      obtain ⟨x, hx⟩ : ∃ x, lv[k]? = some x := ⟨_, List.getElem?_eq_getElem (by rw [HN.out]; exact hlt)⟩
      have hxm := List.mem_of_getElem? hx
      have hiv := HIN.out x hxm
      have hivl := HIL.out x hxm
      have hwx : x.1.wf := HWF.out _ (List.mem_map.2 ⟨x, hxm, rfl⟩)
      have hx1 : (lv.map Prod.fst)[k]? = some x.1 := by rw [List.getElem?_map, hx]; rfl
      have hFk : Fr (fun k => some k = (Value.slice a' n' k').ownBlock) w wr := HFW.out.trans R.fr (fun k hk e => by
        rcases e with e | e
        · omega
        · exact e)
      have cc : ∀ j, j < 2 → ∀ u, (stc x)[j]? = some u → wr.cell? ⟨g, off + (k * 2 + j), none⟩ = some u := fun j hj u hu => by
        have := hcell (k * 2 + j) u (by rw [flat2 stc (fun _ => rfl) lv k x hx j hj]; exact hu)
        rw [hFk.cell (p := ⟨g, off + (k * 2 + j), none⟩) hg.1 hg.2]
        exact this
      have d0 : wr.cell? ⟨g, off + k * 2, none⟩ = some (.int .u64 x.1.ref) := cc 0 (by omega) _ rfl
      have d1 : wr.cell? ⟨g, off + k * 2 + 1, none⟩ = some x.2 := cc 1 (by omega) _ rfl
      obtain ⟨⟨ref, ivs⟩, iv⟩ := x
      simp only [] at d0 d1 hiv hivl hx1
      obtain ⟨Ai, ci, rfl, _, hci, hri⟩ := hiv
      obtain ⟨m, hm⟩ : ∃ m, ivs.length = m := ⟨_, rfl⟩
      rw [hm] at d1 hci hri hivl
      have hyl : ([(3 : UInt8)] ++ (flatS ((lv.map Prod.fst).take k)).flatMap encStn).length ≤ 1 + 4096 * 114688 := by
        have h1 := flatS_len ((lv.map Prod.fst).take k) (fun s hs => HWF.out s (List.mem_of_mem_take hs)) (fun s hs => by
          obtain ⟨p, hp, rfl⟩ := List.mem_map.1 (List.mem_of_mem_take hs)
          exact HIL.out p hp)
        have h2 : ((lv.map Prod.fst).take k).length ≤ 4096 := by
          have := List.length_take_le k (lv.map Prod.fst)
          omega
        have h3 : ((lv.map Prod.fst).take k).length * 114688 ≤ 4096 * 114688 := Nat.mul_le_mul_right _ h2
        rw [List.length_append, List.length_singleton]; omega
      have RA := R.alloc (.cells #[.int .u64 ref, .slice Ai m ci] 147)
      have hBx := Blk.new wr 147 #[.int .u64 ref, .slice Ai m ci]
      have x1 := hBx.cell 1
      simp at x1
      have HX1 := Lib.hid hx1
      have HBX := Lib.hid hBx
      have HL := Lib.hid hyl
      have HRI := Lib.hid hri
      have HM := Lib.hid hm
      have HRA := Lib.hid RA
      have hwz := hFk.size
      clear hx hFk cc hBx hyl hcell hri hm RA hx1 hxm
      go_wp2_with fail
      generalize hys : [(3 : UInt8)] ++ (flatS ((lv.map Prod.fst).take k)).flatMap encStn = ys at HRA HL
      clear R x1 d0 d1 hwz
      generalize wr.alloc (.cells #[.int .u64 ref, .slice Ai m ci] 147) = W9 at HRA HBX ⊢
      generalize wr.heap.size = b9 at HBX ⊢
      go_loopw [24] (fun i w' => ∃ j : Nat, j ≤ m ∧ i = .int .i64 j ∧ Hid (Put WB w.heap.size (Value.slice a' n' k').ownBlock xs (ys ++ (ivs.take j).flatMap (encIv ref)) w') ∧ Hid (Blk w' b9 147 #[.int .u64 ref, .slice Ai m ci])) (fun i _ => m - (intOf i).toNat)
      case atStart => exact ⟨0, Nat.zero_le _, rfl, Lib.hid (by simpa using HRA.out), HBX⟩
      case round =>
        obtain ⟨j, hj, rfl, RJ, BJ⟩ := hrel
        clear HRA HBX
        by_cases hlt2 : j < m
        · obtain ⟨g2, off2, rfl, hPg2, hcell2⟩ := HRI.out (by omega)
          have hg2 := HP.out g2 hPg2
          obtain ⟨y, hy⟩ : ∃ y, ivs[j]? = some y := ⟨_, List.getElem?_eq_getElem (by rw [HM.out]; exact hlt2)⟩
          have hwy := hwx.2 y (List.mem_of_getElem? hy)
          have hFj : Fr (fun k => some k = (Value.slice a' n' k').ownBlock) w wr := HFW.out.trans RJ.out.fr (fun k hk e => by
            rcases e with e | e
            · omega
            · exact e)
          have cc : ∀ i, i < 2 → ∀ u, (ivc y)[i]? = some u → wr.cell? ⟨g2, off2 + (j * 2 + i), none⟩ = some u := fun i hi u hu => by
            have := hcell2 (j * 2 + i) u (by rw [flat2 ivc (fun _ => rfl) ivs j y hy i hi]; exact hu)
            rw [hFj.cell (p := ⟨g2, off2 + (j * 2 + i), none⟩) hg2.1 hg2.2]
            exact this
          have d0 : wr.cell? ⟨g2, off2 + j * 2, none⟩ = some (.int .i64 y.1) := cc 0 (by omega) _ rfl
          have d1 : wr.cell? ⟨g2, off2 + j * 2 + 1, none⟩ = some (.int .i64 y.2) := cc 1 (by omega) _ rfl
          have hzl : (ys ++ (ivs.take j).flatMap (encIv ref)).length ≤ 1 + 4096 * 114688 + 114688 := by
            have h1 := flatMap_len' (encIv ref) 28 (ivs.take j) (fun p hp => encIv_len _ _ (hwx.2 p (List.mem_of_mem_take hp)))
            have h2 : (ivs.take j).length ≤ 4096 := by
              have := List.length_take_le j ivs
              omega
            have h3 : (ivs.take j).length * 28 ≤ 4096 * 28 := Nat.mul_le_mul_right _ h2
            have h4 := HL.out
            rw [List.length_append]; omega
          have RA := RJ.out.alloc (.cells #[.int .i64 y.1, .int .i64 y.2] 279)
          have B9 := BJ.out.alloc (.cells #[.int .i64 y.1, .int .i64 y.2] 279)
          have hBy := Blk.new wr 279 #[.int .i64 y.1, .int .i64 y.2]
          have z0 := B9.cell 0
          simp at z0
          have hQ1 := put_more2 RA (f := 181) (args := #[.pointer (some ⟨w.heap.size, 0, none⟩), .int .u64 ref]) (zs := Lib.beBytes 8 ref) (fun o2 he => putBE64 _ o2 _ _ hwx.1 _ he (by rw [List.length_append]; omega))
          have HY := Lib.hid hy
          have HB9 := Lib.hid B9
          have HBY := Lib.hid hBy
          have HZL := Lib.hid hzl
          have hl1 := zz_len y.1 hwy.1.1 hwy.1.2
          clear hy hFj cc hBy hcell2 B9 hzl
          go_wp2_with (go_at_call 181; refine hQ1.mono ?_; rintro rA wA ⟨rfl, RB, KB⟩; refine Hid.out ?_)
          have HBA := Lib.hid (KB.out _ _ _ (by decide) (by decide) HB9.out)
          have hBy := KB.out _ _ _ (by decide) (by decide) HBY.out
          have y0 := hBy.cell 0
          simp at y0
          have HBY2 := Lib.hid hBy
          have hQ2 := put_more2 RB (f := 183) (args := #[.pointer (some ⟨w.heap.size, 0, none⟩), .int .i64 y.1]) (zs := Lib.uvarint (Lib.zigzag y.1)) (fun o2 he => putVarint64 _ o2 _ _ hwy.1.1 hwy.1.2 _ he (by have := HZL.out; rw [List.length_append, List.length_append, Lib.beBytes_length]; omega))
          clear hQ1 d0 d1 z0 hBy
          refine Lib.hid ?_
          go_wp2_with (go_at_call 183; refine hQ2.mono ?_; rintro rB wB ⟨rfl, RC, KC⟩; refine Hid.out ?_)
          have HBB := Lib.hid (KC.out _ _ _ (by decide) (by decide) HBA.out)
          have hBy := KC.out _ _ _ (by decide) (by decide) HBY2.out
          have y1 := hBy.cell 1
          simp at y1
          have hQ3 := put_more2 RC (f := 183) (args := #[.pointer (some ⟨w.heap.size, 0, none⟩), .int .i64 y.2]) (zs := Lib.uvarint (Lib.zigzag y.2)) (fun o2 he => putVarint64 _ o2 _ _ hwy.2.1 hwy.2.2 _ he (by have := HZL.out; rw [List.length_append, List.length_append, List.length_append, Lib.beBytes_length]; omega))
          clear hQ2 y0 hBy
          refine Lib.hid ?_
          go_wp2_with (go_at_call 183; refine hQ3.mono ?_; rintro rD wD ⟨rfl, RD, KD⟩)
          have HBD := Lib.hid (KD.out _ _ _ (by decide) (by decide) HBB.out)
          have RE : Put WB w.heap.size (Value.slice a' n' k').ownBlock xs (ys ++ (ivs.take (j + 1)).flatMap (encIv ref)) wD := by
            rw [flatMap_take_succ' (encIv ref) ivs j y HY.out]
            simpa [encIv, encStn, List.append_assoc] using RD
          have HRE := Lib.hid RE
          clear RE RD RC RB hQ3 y1 KB KC KD RA RJ BJ
          go_wp2
          go_roundw
          case rel => exact ⟨j + 1, by omega, by go_num, HRE, HBD⟩
          case measure => simp [intOf]; omega
        · obtain rfl : j = m := by omega
          have RE : Put WB w.heap.size (Value.slice a' n' k').ownBlock xs ([3] ++ (flatS ((lv.map Prod.fst).take (k + 1))).flatMap encStn) wr := by
            rw [flatS_take _ _ _ HX1.out, ← List.append_assoc, hys]
            have h := RJ.out
            have e1 : ivs.take j = ivs := List.take_of_length_le (by rw [HM.out]; exact Nat.le_refl _)
            rw [e1] at h
            exact h
          have HRE := Lib.hid RE
          clear RE RJ
          go_wp2
          go_roundw
          case rel => exact ⟨k + 1, by omega, by go_num, HRE.out⟩
          case measure => simp [intOf]; omega
    · obtain rfl : k = n := by omega
      obtain ⟨oZ, hEZ, hfZ, hoZ⟩ := R
      have hG := encGet _ _ _ _ hEZ
      have HEZ := Lib.hid hEZ
      have HZ := Lib.hid hfZ
      clear hEZ hfZ
      go_wp2_with (go_at_call 116; refine hG.mono ?_; rintro rr w2 ⟨v2, rfl, rfl, hown2, hv2⟩)
      go_ret
      refine ⟨v2, rfl, ?_, HFW.out.trans HZ.out (fun k hk e => ?_), ?_⟩
      · have e1 : (lv.map Prod.fst).take k = lv.map Prod.fst := List.take_of_length_le (by rw [List.length_map, HN.out]; exact Nat.le_refl _)
        rw [e1] at hown2
        simpa [encStones, encFlat] using hown2
      · rcases e with e | e
        · omega
        · exact e
      · rw [hv2]
        rcases hoZ with h | ⟨k2, h, hk2⟩
        · exact .inl h
        · exact .inr ⟨k2, h, by omega⟩
end Go.Proofs.YtbkookiigkckdaaGreatDoor

/- Decoder.Tombstones. -/
namespace Go.Proofs.YtbkookiigkckdaaGreatDoor
open Go.RowKit
set_option linter.unusedVariables false
set_option linter.unusedSimpArgs false

/-- A stone of one interval. -/
def one (s : Stn) : Ston := ⟨s.ref, [(s.lo, s.hi)]⟩
def StonesEnds (w : World) (base : Nat) (o : Option Nat) (pre : List Ston) (xs : List UInt8) (r : Ending) (w' : World) : Prop :=
  Fr (fun k => some k = o) w w' ∧ match decStones xs with
    | some l => ∃ v' lv, r = .returned (.tuple #[v', .nilIface]) ∧ lv.map Prod.fst = pre ++ l.map one ∧ OwnS base 147 279 w' v' lv
    | none => ∃ t a, r = .returned (.tuple #[.slice none 0 0, .iface t a])

theorem stonesEnds_none {w w' : World} {base : Nat} {o : Option Nat} {pre : List Ston} {xs : List UInt8} {t : TypeId} {a : Value} (hd : decStones xs = none) (hf : Fr (fun k => some k = o) w w') : StonesEnds w base o pre xs (.returned (.tuple #[.slice none 0 0, .iface t a])) w' := by
  unfold StonesEnds; rw [hd]; exact ⟨hf, _, _, rfl⟩
theorem stonesEnds_some {w w' : World} {base : Nat} {o : Option Nat} {pre : List Ston} {xs : List UInt8} {l : List Stn} {v : Value} {lv : List (Ston × Value)} (hd : decStones xs = some l) (hf : Fr (fun k => some k = o) w w') (hm : lv.map Prod.fst = pre ++ l.map one) (ho : OwnS base 147 279 w' v lv) : StonesEnds w base o pre xs (.returned (.tuple #[v, .nilIface])) w' := by
  unfold StonesEnds; rw [hd]; exact ⟨hf, _, _, rfl, hm, ho⟩

theorem own_one {w : World} {base e : Nat} {a b : Value} (hb : base ≤ w.heap.size) : (w.alloc (.cells #[a, b] e)).ownsRow base e 2 (.slice (some ⟨w.heap.size, 0, none⟩) 1 1) 1 [a, b] :=
  ⟨rfl, .inr ⟨_, _, _, rfl, hb, Blk.new w e #[a, b], Nat.le_refl _, by unfold maxLen; omega, rfl, rfl⟩⟩

theorem stnStep_len {l0 l : List UInt8} (h : (stnStep (some l0)).2 = some l) : l.length < l0.length := by
  obtain ⟨l1, h1, h1'⟩ := gUv_len (st := (gVar (gBe64 (some l0)).2).2) h
  obtain ⟨l2, h2, h2'⟩ := gUv_len (st := (gBe64 (some l0)).2) h1
  obtain ⟨l3, h3, h3'⟩ := gBe_len (st := some l0) h2
  injection h3 with h3; subst h3; omega

set_option maxRecDepth 100000 in
set_option maxHeartbeats 1000000 in
theorem decStones_type (te : TypeId) (pe : Value) (dv : Value) (g base : Nat) (cur : Array Value) (pre : List Ston) (xs : List UInt8) (v sv : Value) (w : World) (h : Rec te pe w g cur xs v) (hx : (gByte (some xs)).1 ≠ 3) :
    Calls Tryz.prog 74 #[dv, v, sv] w (StonesEnds w base sv.ownBlock pre xs) := by
  have hd : decStones xs = none := by
    rcases xs with _ | ⟨b, r⟩
    · rfl
    · have : ¬ b = 3 := by rintro rfl; exact hx rfl
      simp [decStones, decParts, this]
  unfold StonesEnds
  rw [hd]
  clear hd
  have hD := h.dec
  obtain ⟨off, c, rfl, _⟩ := h
  have hQ := decByte te pe w.heap.size g cur _ _ hD
  have hx2 : ¬ ((gByte (some xs)).1 : Int) = 3 := by omega
  clear hD hx
  generalize (gByte (some xs)).1 = x at hQ hx2
  generalize (gByte (some xs)).2 = st at hQ
  go_enter Tryz.func74, Tryz.ntmps74
  go_wp2_with (first | (go_at_call 160; refine hQ.mono ?_; rintro r w1 ⟨rfl, hD1, hf1⟩) | (go_at_call 161; refine (errNew_any _ _).mono ?_; rintro r w2 ⟨t, a, rfl, hf2⟩))
  go_ret2
  refine ⟨?_, _, _, rfl⟩
  have f1 := (((Fr.refl (fun k => some k = sv.ownBlock) w).alloc (.cells #[.slice (some ⟨g, off, none⟩) xs.length c, .nilIface] 229)).trans hf1 (fun k hk e => by omega))
  exact f1.trans hf2 (fun _ _ e => e.elim)

theorem OwnS.off {base te ti b t : Nat} {w w' : World} {v : Value} {lv : List (Ston × Value)} {cs : Array Value} (h : OwnS base te ti w v lv) (hb : Blk w b t cs) (h1 : te ≠ t) (h2 : ti ≠ t) (hf : Fr (fun k => k = b) w w') : OwnS base te ti w' v lv :=
  ⟨own_fr h.1 hf (fun g hg e => own_ne h.1 hb h1 (by rw [hg, e])), fun p hp => own_fr (h.2 p hp) hf (fun g hg e => own_ne (h.2 p hp) hb h2 (by rw [hg, e]))⟩
theorem OwnS.alloc {base te ti : Nat} {w : World} {v : Value} {lv : List (Ston × Value)} (h : OwnS base te ti w v lv) (o : Obj) : OwnS base te ti (w.alloc o) v lv := h.fr ((Fr.refl (fun _ => False) w).alloc o) (fun _ _ _ e => e)
theorem Dec.blk {te : TypeId} {pe : Value} {w : World} {d g : Nat} {cur : Array Value} {st : St} (h : Dec te pe w d g cur st) : ∃ cs, Blk w d 229 cs := by
  rcases st with _ | l
  · obtain ⟨_, off, c, hb, _⟩ := h; exact ⟨_, hb⟩
  · obtain ⟨off, c, hb, _⟩ := h; exact ⟨_, hb⟩
theorem stn_cells (st : St) : (#[Value.int IntKind.i64 (gVar (gBe64 st).2).1, Value.int IntKind.i64 (gVar (gVar (gBe64 st).2).2).1] : Array Value) = #[.int .i64 (stnStep st).1.lo, .int .i64 (stnStep st).1.hi] := rfl

set_option maxRecDepth 100000 in
set_option maxHeartbeats 4000000 in
theorem decStones_main (te : TypeId) (pe : Value) (dv : Value) (g base : Nat) (cur : Array Value) (lp : List (Ston × Value)) (rest : List UInt8) (v sv : Value) (w : World) (h : Rec te pe w g cur (3 :: rest) v) (ho : OwnS base 147 279 w sv lp) (hb : g < base ∧ 2 < base ∧ base ≤ w.heap.size) (hpl : lp.length ≤ 1073741824) :
    Calls Tryz.prog 74 #[dv, v, sv] w (StonesEnds w base sv.ownBlock (lp.map Prod.fst) (3 :: rest)) := by
  obtain ⟨i0, hi0, hz0, hz1, hz2⟩ := info_parts Tryz.info147
  have hD := h.dec
  obtain ⟨off, c, rfl, _⟩ := h
  have hQ := decByte te pe w.heap.size g cur _ _ hD
  have e1 : gByte (some (3 :: rest)) = (3, some rest) := rfl
  rw [e1] at hQ
  have HO := Lib.hid ho
  obtain ⟨a', k', rfl⟩ := own_slice' ho.1
  have hrl : rest.length ≤ 1099511627776 := by
    obtain ⟨n, off', c', _, _, hn, hnc, _⟩ := hD.open_
    have := hn _ rfl
    simp at this; omega
  obtain ⟨np, hnp⟩ : ∃ np, lp.length = np := ⟨_, rfl⟩
  have HNP := Lib.hid hnp
  rw [hnp] at HO hpl ⊢
  have hBD := hD.blk
  clear hD e1 ho hnp
  go_enter Tryz.func74, Tryz.ntmps74
  go_wp2_with (first
    | (go_at_call 160; refine hQ.mono ?_; rintro r w1 ⟨rfl, hD1, hf1⟩; refine Hid.out ?_))
  obtain ⟨csD, hBD⟩ := hBD
  have F1 : Fr (fun k => some k = (Value.slice a' np k').ownBlock) w w1 := ((Fr.refl (fun k => some k = (Value.slice a' np k').ownBlock) w).alloc _).trans hf1 (fun k hk e => by omega)
  have O1 : OwnS base 147 279 w1 (.slice a' np k') lp := (HO.out.alloc _).off hBD (by decide) (by decide) hf1
  have hs1 := F1.size
  have hn1 : ∀ k, (Value.slice a' np k').ownBlock = some k → k < w.heap.size := fun k hk => own_lt HO.out.1 hk
  have HF1 := Lib.hid F1
  have HO1 := Lib.hid O1
  have HD1 := Lib.hid hD1
  have HN1 := Lib.hid hn1
  clear hD1 hf1 hQ F1 O1 hn1 hBD
  refine Lib.hid ?_
  go_wp2_with fail
  go_loopw [2] (fun sv wr => ∃ (st : St) (acc : List Stn) (lo : List (Ston × Value)) (j : Nat), Hid (Dec te pe wr w.heap.size g cur st) ∧ Hid (OwnS base 147 279 wr sv lo) ∧ Hid (lo.map Prod.fst = lp.map Prod.fst ++ acc.map one) ∧ Hid (lo.length = np + acc.length) ∧ Hid (Fr (fun k => some k = (Value.slice a' np k').ownBlock) w wr) ∧ Hid (∀ k, sv.ownBlock = some k → (some k = (Value.slice a' np k').ownBlock ∨ w.heap.size < k)) ∧
      Hid (recLoop stnStep j st acc = recLoop stnStep rest.length (some rest) []) ∧ Hid (∀ l, st = some l → l.length ≤ j ∧ acc.length + l.length ≤ rest.length) ∧ acc.length ≤ rest.length + 1) (fun _ wr => decM w.heap.size wr)
  case atStart => exact ⟨some rest, [], lp, rest.length, HD1, HO1, Lib.hid (by simp), Lib.hid (by simpa using HNP.out), HF1, Lib.hid (fun k hk => .inl hk.symm), Lib.hid rfl, Lib.hid (fun l hl => by cases hl; simp), by simp⟩
  case round =>
    obtain ⟨st, acc, lo, j, HD, HO, HM, HLO, HF, HB, HE, HL, hal⟩ := hrel
    obtain ⟨n6, off6, c6, p0, p1, hnl, hnc, hd, hg, h2⟩ := HD.out.open_
    have hE := decErr te pe _ _ _ _ _ HD.out
    have hLn := decLen2 te pe _ _ _ _ _ HD.out
    obtain ⟨a6, k6, rfl⟩ := own_slice' HO.out.1
    rcases st with _ | l
    · clear hnl p1 p0
      have hres : recLoop stnStep rest.length (some rest) [] = (acc, none) := by rw [← HE.out]; unfold recLoop; rcases j with _ | j <;> rfl
      have HR := Lib.hid (show decStones (3 :: rest) = none from decParts_none hres)
      clear hres
      simp only [errV] at hE
      go_wp2_with (go_at_call 118; refine hLn.mono ?_; rintro r w7 ⟨n7, rfl, _, hb7, rfl⟩; refine Hid.out ?_)
      rcases Nat.eq_zero_or_pos n7 with rfl | hn6
      · refine Lib.hid ?_
        go_wp2_with (go_at_call 119; refine hE.mono ?_; rintro r w7 ⟨rfl, rfl⟩)
        go_ret2
        exact stonesEnds_none HR.out HF.out
      · have hn7 : (0 : Int) < (n7 : Int) := by omega
        refine Lib.hid ?_
        go_wp2_with (go_at_call 119; refine hE.mono ?_; rintro r w7 ⟨rfl, rfl⟩)
        go_ret2
        exact stonesEnds_none HR.out HF.out
    · obtain rfl : n6 = l.length := hnl l rfl
      simp only [errV] at hE
      rcases l with _ | ⟨x, r⟩
      · have hres : recLoop stnStep rest.length (some rest) [] = (acc, some []) := by rw [← HE.out]; unfold recLoop; rcases j with _ | j <;> rfl
        have HR := Lib.hid (show decStones (3 :: rest) = some acc from decParts_some hres)
        clear hres hnl p1
        simp only [List.length_nil] at p0
        go_wp2_with (go_at_call 118; refine hLn.mono ?_; rintro r w7 ⟨n7, rfl, hn7, hb7, rfl⟩; refine Hid.out ?_)
        have hn8 : n7 = 0 := hn7 [] rfl
        have hn9 : ¬ (0 : Int) < (n7 : Int) := by omega
        clear hn7 hn8
        refine Lib.hid ?_
        go_wp2_with (go_at_call 119; refine hE.mono ?_; rintro r w7 ⟨rfl, rfl⟩)
        go_ret2
        exact stonesEnds_some HR.out HF.out HM.out HO.out
      · obtain ⟨n7, hn7⟩ : ∃ n7, (x :: r).length = n7 := ⟨_, rfl⟩
        have hn8 : (0 : Int) < (n7 : Int) := by rw [← hn7]; simp
        have hlb := HL.out _ rfl
        have hM := decM_some HD.out
        rw [hn7] at p0 hlb hM
        have hV1 := decBe64 te pe _ _ _ _ _ HD.out
        have HN7 := Lib.hid hn7
        clear hnl p1 hn7
        go_wp2_with (first
          | (go_at_call 118; refine hLn.mono ?_; rintro r w7 ⟨n9, rfl, hn9, hb7, rfl⟩; have hn9' : n7 = n9 := ((hn9 _ rfl).trans HN7.out).symm; subst hn9')
          | (go_at_call 119; refine hE.mono ?_; rintro r w7 ⟨rfl, rfl⟩)
          | (go_at_call 162; refine hV1.mono ?_; rintro r w8 ⟨rfl, hD8, hf8⟩; refine Hid.out ?_))
        have s8 := hf8.size
        have D8 := Lib.hid hD8
        have hV2 := decVar te pe _ _ _ _ _ hD8
        have F8 := Lib.hid hf8
        clear hD8 hf8 hV1 p0
        refine Lib.hid ?_
        go_wp2_with (go_at_call 165; refine hV2.mono ?_; rintro r w9 ⟨rfl, hD9, hf9⟩; refine Hid.out ?_)
        have s9 := hf9.size
        have D9 := Lib.hid hD9
        have hV3 := decVar te pe _ _ _ _ _ hD9
        have F9 := Lib.hid hf9
        clear hD9 hf9 hV2
        refine Lib.hid ?_
        go_wp2_with (go_at_call 165; refine hV3.mono ?_; rintro r wA ⟨rfl, hDA, hfA⟩; refine Hid.out ?_)
        have FA : Fr (fun k => k = w.heap.size) wr wA := (F8.out.same F9.out).same hfA
        have sA := FA.size
        have DA := Lib.hid hDA
        have HFA := Lib.hid FA
        obtain ⟨csD, hBD⟩ := HD.out.blk
        have OA : OwnS base 147 279 wA (.slice a6 lo.length k6) lo := HO.out.off hBD (by decide) (by decide) FA
        have HOA := Lib.hid OA
        clear hDA hfA hV3 FA OA D8 F8 D9 F9 hBD
        refine Lib.hid ?_
        go_wp2_with (first
          | (at_builtin; refine Hid.out ?_))
        have hlen7 : ∀ l, (stnStep (some (x :: r))).2 = some l → l.length < n7 := fun l hl => HN7.out ▸ stnStep_len hl
        have hDS : Dec te pe wA w.heap.size g cur (stnStep (some (x :: r))).2 := DA.out
        have HE2 : Hid (∀ j', j = j' + 1 → recLoop stnStep j' (stnStep (some (x :: r))).2 (acc ++ [(stnStep (some (x :: r))).1]) = recLoop stnStep rest.length (some rest) []) := Lib.hid (by rintro j' rfl; exact HE.out)
        have q1 : (gBe64 (some (x :: r))).1 = (stnStep (some (x :: r))).1.ref := rfl
        have q2 : (gVar (gBe64 (some (x :: r))).2).1 = (stnStep (some (x :: r))).1.lo := rfl
        have q3 : (gVar (gVar (gBe64 (some (x :: r))).2).2).1 = (stnStep (some (x :: r))).1.hi := rfl
        rw [q3, q2, q1]
        clear DA hE HE q1 q2 q3
        generalize stnStep (some (x :: r)) = S at hDS hlen7 HE2 ⊢
        obtain ⟨s1, st9⟩ := S
        simp only [] at hDS hlen7 HE2 ⊢
        have hDS2 := Lib.hid hDS
        have hlen8 := Lib.hid hlen7
        clear hDS hlen7
        refine Lib.hid ?_
        have hbA : base ≤ wA.heap.size := by omega
        have hown1 := own_one (w := wA) (base := base) (e := 279) (a := .int .i64 s1.lo) (b := .int .i64 s1.hi) hbA
        have hloz : lo.length ≤ 1073741824 + 1099511627776 + 1 := by have := HLO.out; omega
        refine wpList_append_src _ rfl _ _ 139 139 rfl base 147 i0 _ 2 32 Tryz.underlying139 hi0 hz0 hz1 hz2 rfl (by decide) (.slice a6 lo.length k6) lo.length (lo.flatMap stc) rfl ((HOA.out.alloc _).alloc _).1 _ 1 (stc (one s1, .slice (some ⟨wA.heap.size, 0, none⟩) 1 1)) rfl (src_blk Tryz.underlying139 (blk_new2 wA _ 147 (stc (one s1, .slice (some ⟨wA.heap.size, 0, none⟩) 1 1)).toArray) rfl (by simp [stc, Value.oneCell'])) (by unfold maxLen; omega) (by omega) (by simp; omega) ?_
        intro v' w2 hown' hgrow hat
        obtain ⟨a9, k9, rfl⟩ := own_slice' hown'
        have hrow : ∀ k, (Value.slice a6 lo.length k6).ownBlock = some k → base ≤ k ∧ k ≠ w.heap.size := fun k hk => ⟨(HOA.out.1.lt k hk).1, by
          rcases HB.out k hk with h | h
          · have := HN1.out k h.symm; omega
          · omega⟩
        have hsG := hgrow.size
        simp at hsG
        have fG : Fr (fun k => some k = (Value.slice a6 lo.length k6).ownBlock) wA w2 := (((Fr.refl (fun k => some k = (Value.slice a6 lo.length k6).ownBlock) wA).alloc _).alloc _).grown hgrow (fun k hk => .inl hk.symm)
        have rD : Dec te pe w2 w.heap.size g cur st9 := hDS2.out.fr fG (fun e => (hrow _ e.symm).2 rfl) (fun e => by have := (hrow _ e.symm).1; omega) (fun e => by have := (hrow _ e.symm).1; omega)
        have rO : OwnS base 147 279 w2 (.slice a9 (lo.length + 1) k9) (lo ++ [(one s1, .slice (some ⟨wA.heap.size, 0, none⟩) 1 1)]) :=
          OwnS.push (p := (one s1, .slice (some ⟨wA.heap.size, 0, none⟩) 1 1)) ((HOA.out.alloc _).alloc _) (hown1.alloc _) hgrow hown' (by decide)
        have rMM : (lo ++ [(one s1, Value.slice (some ⟨wA.heap.size, 0, none⟩) 1 1)]).map Prod.fst = lp.map Prod.fst ++ (acc ++ [s1]).map one := by
          rw [List.map_append, List.map_append, HM.out, List.append_assoc]; rfl
        have rL : (lo ++ [(one s1, Value.slice (some ⟨wA.heap.size, 0, none⟩) 1 1)]).length = np + (acc ++ [s1]).length := by
          rw [List.length_append, List.length_append, HLO.out]; simp [Nat.add_assoc]
        have rF : Fr (fun k => some k = (Value.slice a' np k').ownBlock) w w2 := (HF.out.trans HFA.out (fun k hk e => by omega)).trans fG (fun k hk e => by
          rcases HB.out k e.symm with h | h
          · exact h
          · omega)
        have rB : ∀ k, (Value.slice a9 (lo.length + 1) k9).ownBlock = some k → (some k = (Value.slice a' np k').ownBlock ∨ w.heap.size < k) := fun k hk => by
          rcases hat with h | h
          · exact HB.out k (h ▸ hk)
          · rw [h] at hk; injection hk with hk; simp at hk; exact .inr (by omega)
        have rM : decM w.heap.size w2 < n7 + 1 := by
          rcases st9 with _ | l9
          · rw [decM_none rD]; omega
          · rw [decM_some rD]; have := hlen8.out l9 rfl; omega
        have RD := Lib.hid rD
        have RO := Lib.hid rO
        have RF := Lib.hid rF
        have RB := Lib.hid rB
        have RMM := Lib.hid rMM
        have RL := Lib.hid rL
        clear rD rO rF rB rMM rL hown' hgrow hat hrow fG hown1 HOA
        go_wp2
        go_roundw
        case rel =>
          obtain ⟨j', rfl⟩ : ∃ j', j = j' + 1 := ⟨j - 1, by have := HN7.out; simp at this; omega⟩
          have hsl : ∃ a m c, (Value.slice a9 (lo.length + 1) k9) = .slice a m c := ⟨_, _, _, rfl⟩
          refine ⟨st9, acc ++ [s1], _, j', RD, RO, RMM, RL, RF, RB, Lib.hid (HE2.out j' rfl), Lib.hid (fun l hl => ?_), by simp; omega⟩
          have := hlen8.out l hl
          rw [List.length_append, List.length_singleton]
          omega
        case measure => rw [hM]; exact rM

theorem decStones_any (te : TypeId) (pe : Value) (dv : Value) (g base : Nat) (cur : Array Value) (lp : List (Ston × Value)) (xs : List UInt8) (v sv : Value) (w : World) (h : Rec te pe w g cur xs v) (ho : OwnS base 147 279 w sv lp) (hb : g < base ∧ 2 < base ∧ base ≤ w.heap.size) (hpl : lp.length ≤ 1073741824) :
    Calls Tryz.prog 74 #[dv, v, sv] w (StonesEnds w base sv.ownBlock (lp.map Prod.fst) xs) := by
  by_cases hx : (gByte (some xs)).1 = 3
  · rcases xs with _ | ⟨b, rest⟩
    · exact absurd hx (by decide)
    · have hb2 : b = 3 := by
        have : b.toNat = (3 : UInt8).toNat := hx
        exact UInt8.toNat_inj.1 this
      subst hb2
      exact decStones_main te pe dv g base cur lp rest v sv w h ho hb hpl
  · exact decStones_type te pe dv g base cur (lp.map Prod.fst) xs v sv w h hx


end Go.Proofs.YtbkookiigkckdaaGreatDoor

/- RecordWrite's closure at tombstones; RecordWrite. -/
namespace Go.Proofs.YtbkookiigkckdaaGreatDoor
open Go.RowKit
set_option linter.unusedVariables false
set_option linter.unusedSimpArgs false

theorem lo_bounds {lo lv : List (Ston × Value)} (hm : lo.map Prod.fst = lv.map Prod.fst) (hsl : lv.length ≤ 4096) (hil : ∀ s ∈ lv.map Prod.fst, s.ivs.length ≤ 4096) (hwf : ∀ s ∈ lv.map Prod.fst, s.wf) :
    lo.length ≤ 4096 ∧ (∀ p ∈ lo, p.1.ivs.length ≤ 4096) ∧ (∀ s ∈ lo.map Prod.fst, s.wf) := by
  have h1 : lo.length = lv.length := by have := congrArg List.length hm; simpa using this
  refine ⟨by omega, fun p hp => hil _ ?_, fun s hs => hwf _ ?_⟩
  · rw [← hm]; exact List.mem_map.2 ⟨p, hp, rfl⟩
  · rw [← hm]; exact hs
theorem stones_side {w w1 : World} {v : Value} {m : Nat} {ys : List Value} (h : w.ownsRow 0 5 1 v m ys) : ∀ g, (w.drew.heap.size ≤ g ∧ g < w1.heap.size) → g < w1.heap.size ∧ some g ≠ v.ownBlock := fun g hg =>
  ⟨hg.2, fun e => by have h1 := own_lt h e.symm; have h2 : w.heap.size ≤ g := hg.1; omega⟩

set_option maxRecDepth 100000 in
set_option maxHeartbeats 2000000 in
theorem write1_stones (bk bp bb br : Nat) (ep lp : Value) (P : Nat → Prop) (s0 s1 s2 s3 s4 s5 s6 v z : Value) (xs : List UInt8) (lv : List (Ston × Value)) (w : World) (hk : Blk w bk 3 #[.int .i64 3]) (hp : Blk w bp 54 #[s0, s1, s2, s3, s4, s5, s6]) (hb : Blk w bb 44 #[v]) (hr : Blk w br 44 #[z])
    (hown : w.ownsRow 0 5 1 v xs.length (bc xs)) (hs : SlS P w s2 lv) (hl : xs.length ≤ 1073741824) (hsl : lv.length ≤ 4096) (hil : ∀ s ∈ lv.map Prod.fst, s.ivs.length ≤ 4096) (hwf : ∀ s ∈ lv.map Prod.fst, s.wf) (hbr : bb ≠ br) :
    Calls Tryz.prog 90 #[.pointer (some ⟨bk, 0, none⟩), ep, .pointer (some ⟨bp, 0, none⟩), .pointer (some ⟨bb, 0, none⟩), .pointer (some ⟨br, 0, none⟩), lp] w (WroteEnds w br v.ownBlock (xs ++ encStones (lv.map Prod.fst))) := by
  have hpr : bp ≠ br := Blk.ne_ hp hr (by decide)
  have k0 := hk.cell 0
  have p1 := hp.cell 2
  have b0 := hb.cell 0
  simp at k0 p1 b0
  obtain ⟨a', n', k', rfl⟩ := own_slice hown
  have hs1 : ∃ A m c, s2 = .slice A m c := let ⟨A, c, h, _⟩ := hs.1; ⟨A, _, c, h⟩
  obtain ⟨A, m, c, rfl⟩ := hs1
  have hQ := refStones_any P (.slice A m c) lv w.drew hs (by omega) (fun p hp => by have := hil p.1 (List.mem_map.2 ⟨p, hp, rfl⟩); omega)
  have HB := Lib.hid hb
  have HP := Lib.hid hp
  have HR := Lib.hid hr
  have HO := Lib.hid hown
  have p1d : w.drew.cell? ⟨bp, 2, none⟩ = some (.slice A m c) := p1
  have b0d : w.drew.cell? ⟨bb, 0, none⟩ = some (.slice a' n' k') := b0
  clear hk hp hb hr hown hs
  go_enter Tryz.func90, Tryz.ntmps90
  go_wp2_with fail
  have HW := Lib.hid hwf
  clear hwf
  go_region_held3 (fun w' => w'.cell? ⟨bp, 2, none⟩ = some (.slice A m c) ∧ w'.cell? ⟨bb, 0, none⟩ = some (.slice a' n' k'))
    ((first | (go_split_ands; refine ⟨?_, ?_⟩ <;> first | exact ((HP.out.drew).fr hf1 (fun e => e)).cell 2 | exact ((HB.out.drew).fr hf1 (fun e => e)).cell 0) | (go_split_ands; refine ⟨?_, ?_⟩ <;> first | exact KP.out.cell 2 | exact KB.out.cell 0) | (go_split_ands; refine ⟨?_, ?_⟩ <;> first | exact (KP.out.far (p := ⟨br, 0, none⟩) hpr _).cell 2 | exact (KB.out.far (p := ⟨br, 0, none⟩) hbr _).cell 0) | go_keep))
    ((first
      | (go_at_call 75; refine hQ.mono ?_; rintro r1 w1 ⟨v1, lo, rfl, hm1, hown1, hf1⟩; have LB := lo_bounds hm1 hsl hil HW.out)
      | (go_at_call 93; refine (encStones_any ep v1 _ (.slice a' n' k') xs lo w1 hown1.sl (own_fr (World.ownsRow.drew HO.out) hf1 (fun _ _ e => e)) hl LB.1 LB.2.1 LB.2.2 (stones_side HO.out)).mono ?_; rintro r2 w2 ⟨v2, rfl, hown2, hf2, hat2⟩; rw [hm1] at hown2; obtain ⟨KP, KB, KR⟩ := write1_keeps HP.out HB.out HR.out HO.out hf1 hf2; have q0 := KR.out.cell 0; simp at q0; have q1 := KR.out.frozen 0; obtain ⟨a2, n2, k2, rfl⟩ := own_slice hown2)))
  have HE : Fr (fun k => some k = (Value.slice a' n' k').ownBlock ∨ k = br) w (w2.setCell ⟨br, 0, none⟩ (.slice a2 n2 k2)) :=
    ((((Fr.refl (fun k => some k = (Value.slice a' n' k').ownBlock ∨ k = br) w).drew).trans hf1 (fun _ _ e => e.elim)).trans hf2 (fun _ _ e => .inl e)).setCell (p := ⟨br, 0, none⟩) (.inl (.inr rfl)) _
  have HV : Blk (w2.setCell ⟨br, 0, none⟩ (.slice a2 n2 k2)) br 44 #[.slice a2 n2 k2] := by simpa using KR.out.set_ 0 (.slice a2 n2 k2)
  have HF := Lib.hid HE
  have HVV := Lib.hid HV
  have HOW : (w2.setCell ⟨br, 0, none⟩ (.slice a2 n2 k2)).ownsRow 0 5 1 (.slice a2 n2 k2) (xs ++ encStones (lv.map Prod.fst)).length (bc (xs ++ encStones (lv.map Prod.fst))) := own_fr hown2 (Fr.put_ w2 br 0 _) (fun g hg e => own_ne hown2 KR.out (by decide) (by rw [hg, e]))
  have HOWW := Lib.hid HOW
  have hsz := hf1.size
  have HAT := Lib.hid hat2
  clear HE HV HOW hown1 hf1 hown2 hf2 hat2 q0 q1 hQ p1 p1d b0 b0d
  go_wp2
  go_end0
  refine ⟨rfl, _, HVV.out, HOWW.out, HF.out, ?_⟩
  rcases HAT.out with h | ⟨k, h, hk⟩
  · exact .inl h
  · exact .inr ⟨k, h, by simp at hsz; omega⟩


/-- RecordWrite at tombstones. -/
theorem recordWrite_stones (s0 s1 s2 s3 s4 s5 s6 bv : Value) (xs : List UInt8) (lv : List (Ston × Value)) (P : Nat → Prop) (w : World) (hb : Sl P w bv 1 xs.length (bc xs)) (hxl : xs.length ≤ 1073741824)
    (hsl : ∀ s ∈ [s0, s1, s2, s3, s4, s5, s6], ∃ A m c, s = .slice A m c) (hs : SlS P w s2 lv) (hll : lv.length ≤ 4096) (hil : ∀ s ∈ lv.map Prod.fst, s.ivs.length ≤ 4096) (hwf : ∀ s ∈ lv.map Prod.fst, s.wf) :
    Calls Tryz.prog 31 #[.int .i64 3, .agg #[s0, s1, s2, s3, s4, s5, s6], bv] w (WriteEnds (fun lv _ => lv = .slice none 0 0) w (xs ++ encStones (lv.map Prod.fst))) := by
  refine recordWrite_of 3 s0 s1 s2 s3 s4 s5 s6 bv xs _ P _ w hb hxl hsl (by rintro lv W rfl; exact ⟨_, _, _, rfl⟩) (fun _ _ _ h _ => h) ?_
  intro bk be bp bb br bl v W hk hp hb' hr hl hown hbr hF
  exact (write1_stones bk bp bb br _ _ P s0 s1 s2 s3 s4 s5 s6 v _ xs lv W hk hp hb' hr (own_mono hown (Nat.zero_le _)) (hs.fr hF (fun _ _ e => e)) hxl hll hil hwf hbr).mono fun r w' h => wrote_w1 (own_mono hown (Nat.zero_le _)) hr hl h
end Go.Proofs.YtbkookiigkckdaaGreatDoor

