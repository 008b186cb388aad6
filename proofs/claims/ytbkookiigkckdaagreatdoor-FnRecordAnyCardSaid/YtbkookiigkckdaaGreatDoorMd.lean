/- Decoder.MmapMarkers. -/
import Derived.Test.YtbkookiigkckdaaGreatDoorMk
namespace Go.Proofs.YtbkookiigkckdaaGreatDoor
open Go.RowKit
set_option linter.unusedVariables false
set_option linter.unusedSimpArgs false

def MarkersEnds (w : World) (base : Nat) (o : Option Nat) (pre : List Mrk) (xs : List UInt8) (r : Ending) (w' : World) : Prop :=
  Fr (fun k => some k = o) w w' ∧ match decMarkers xs with
    | some l => ∃ v', r = .returned (.tuple #[v', .nilIface]) ∧ w'.ownsRow base 166 2 v' (pre ++ l).length ((pre ++ l).flatMap Mrk.c)
    | none => ∃ t a, r = .returned (.tuple #[.slice none 0 0, .iface t a])

theorem markersEnds_none {w w' : World} {base : Nat} {o : Option Nat} {pre : List Mrk} {xs : List UInt8} {t : TypeId} {a : Value} (hd : decMarkers xs = none) (hf : Fr (fun k => some k = o) w w') : MarkersEnds w base o pre xs (.returned (.tuple #[.slice none 0 0, .iface t a])) w' := by
  unfold MarkersEnds; rw [hd]; exact ⟨hf, _, _, rfl⟩
theorem markersEnds_some {w w' : World} {base : Nat} {o : Option Nat} {pre : List Mrk} {xs : List UInt8} {l : List Mrk} {v : Value} (hd : decMarkers xs = some l) (hf : Fr (fun k => some k = o) w w') (ho : w'.ownsRow base 166 2 v (pre ++ l).length ((pre ++ l).flatMap Mrk.c)) : MarkersEnds w base o pre xs (.returned (.tuple #[v, .nilIface])) w' := by
  unfold MarkersEnds; rw [hd]; exact ⟨hf, _, rfl, ho⟩

theorem mrkStep_len {l0 l : List UInt8} (h : (mrkStep (some l0)).2 = some l) : l.length < l0.length := by
  obtain ⟨l1, h1, h1'⟩ := gBe_len (st := (gBe64 (some l0)).2) h
  obtain ⟨l2, h2, h2'⟩ := gBe_len (st := some l0) h1
  injection h2 with h2; subst h2; omega

set_option maxRecDepth 100000 in
set_option maxHeartbeats 1000000 in
theorem decMarkers_type (te : TypeId) (pe : Value) (dv : Value) (g base : Nat) (cur : Array Value) (pre : List Mrk) (xs : List UInt8) (v sv : Value) (w : World) (h : Rec te pe w g cur xs v) (hx : (gByte (some xs)).1 ≠ 5) :
    Calls Tryz.prog 79 #[dv, v, sv] w (MarkersEnds w base sv.ownBlock pre xs) := by
  have hd : decMarkers xs = none := by
    rcases xs with _ | ⟨b, r⟩
    · rfl
    · have : ¬ b = 5 := by rintro rfl; exact hx rfl
      simp [decMarkers, decParts, this]
  unfold MarkersEnds
  rw [hd]
  clear hd
  have hD := h.dec
  obtain ⟨off, c, rfl, _⟩ := h
  have hQ := decByte te pe w.heap.size g cur _ _ hD
  have hx2 : ¬ ((gByte (some xs)).1 : Int) = 5 := by omega
  clear hD hx
  generalize (gByte (some xs)).1 = x at hQ hx2
  generalize (gByte (some xs)).2 = st at hQ
  go_enter Tryz.func79, Tryz.ntmps79
  go_wp2_with (first | (go_at_call 160; refine hQ.mono ?_; rintro r w1 ⟨rfl, hD1, hf1⟩) | (go_at_call 161; refine (errNew_any _ _).mono ?_; rintro r w2 ⟨t, a, rfl, hf2⟩))
  go_ret2
  refine ⟨?_, _, _, rfl⟩
  have f1 := (((Fr.refl (fun k => some k = sv.ownBlock) w).alloc (.cells #[.slice (some ⟨g, off, none⟩) xs.length c, .nilIface] 229)).trans hf1 (fun k hk e => by omega))
  exact f1.trans hf2 (fun _ _ e => e.elim)

set_option maxRecDepth 100000 in
set_option maxHeartbeats 1000000 in
theorem decMarkers_empty (te : TypeId) (pe : Value) (dv : Value) (g base : Nat) (cur : Array Value) (pre : List Mrk) (v sv : Value) (w : World) (h : Rec te pe w g cur [5] v) (ho : w.ownsRow base 166 2 sv pre.length (pre.flatMap Mrk.c)) (hb : g < base ∧ 2 < base) :
    Calls Tryz.prog 79 #[dv, v, sv] w (MarkersEnds w base sv.ownBlock pre [5]) := by
  have hD := h.dec
  obtain ⟨off, c, rfl, _⟩ := h
  have hQ := decByte te pe w.heap.size g cur _ _ hD
  have e1 : gByte (some [(5 : UInt8)]) = (5, some []) := rfl
  rw [e1] at hQ
  have HO := Lib.hid ho
  obtain ⟨a', n', k', rfl⟩ := own_slice ho
  clear hD e1 ho
  go_enter Tryz.func79, Tryz.ntmps79
  go_wp2_with (first | (go_at_call 160; refine hQ.mono ?_; rintro r w1 ⟨rfl, hD1, hf1⟩; have hL := decLen te pe _ _ _ _ _ hD1) | (go_at_call 118; refine hL.mono ?_; rintro r w2 ⟨n, rfl, hn, _, rfl⟩; have hn0 := hn _ rfl; subst hn0))
  go_ret2
  refine markersEnds_some (l := []) rfl (((Fr.refl _ w).alloc _).trans hf1 (fun k hk e => by omega)) ?_
  rw [List.append_nil]
  exact own_fr (HO.out.alloc _) hf1 (fun k hk => by have := own_lt HO.out hk; omega)

theorem decParts_some {α : Type} {t : UInt8} {step : St → α × St} {rest s : List UInt8} {l : List α} (h : recLoop step rest.length (some rest) [] = (l, some s)) : decParts t step (t :: rest) = some l := by rw [decParts, if_pos rfl, h]
theorem decParts_none {α : Type} {t : UInt8} {step : St → α × St} {rest : List UInt8} {l : List α} (h : recLoop step rest.length (some rest) [] = (l, none)) : decParts t step (t :: rest) = none := by rw [decParts, if_pos rfl, h]

theorem recLoop_acc {α : Type} (step : St → α × St) : ∀ (k : Nat) (st : St) (pre acc : List α), recLoop step k st (pre ++ acc) = (pre ++ (recLoop step k st acc).1, (recLoop step k st acc).2)
  | 0, st, pre, acc => by simp [recLoop]
  | k + 1, none, pre, acc => by simp [recLoop]
  | k + 1, some [], pre, acc => by simp [recLoop]
  | k + 1, some (c :: r), pre, acc => by
    rw [recLoop, recLoop, List.append_assoc]
    exact recLoop_acc step k _ pre _

set_option maxRecDepth 100000 in
set_option maxHeartbeats 2000000 in
theorem decMarkers_main (te : TypeId) (pe : Value) (dv : Value) (g base : Nat) (cur : Array Value) (pre : List Mrk) (rest : List UInt8) (hne : rest ≠ []) (v sv : Value) (w : World) (h : Rec te pe w g cur (5 :: rest) v) (ho : w.ownsRow base 166 2 sv pre.length (pre.flatMap Mrk.c)) (hb : g < base ∧ 2 < base ∧ base ≤ w.heap.size) (hpl : pre.length ≤ 1073741824) :
    Calls Tryz.prog 79 #[dv, v, sv] w (MarkersEnds w base sv.ownBlock pre (5 :: rest)) := by
  obtain ⟨i0, hi0, hz0, hz1, hz2⟩ := info_parts Tryz.info166
  have hD := h.dec
  obtain ⟨off, c, rfl, _⟩ := h
  have hQ := decByte te pe w.heap.size g cur _ _ hD
  have e1 : gByte (some (5 :: rest)) = (5, some rest) := rfl
  rw [e1] at hQ
  have HO := Lib.hid ho
  obtain ⟨a', k', rfl⟩ := own_slice' ho
  have hrl : rest.length ≤ 1099511627776 := by
    obtain ⟨n, off', c', _, _, hn, hnc, _⟩ := hD.open_
    have := hn _ rfl
    simp at this; omega
  have hr0 : 0 < rest.length := List.length_pos_iff.2 hne
  have hr1 : ((rest.length : Int) == 0) = false := by simp; omega
  obtain ⟨np, hnp⟩ : ∃ np, pre.length = np := ⟨_, rfl⟩
  have HNP := Lib.hid hnp
  rw [hnp] at HO hpl ⊢
  clear hD e1 ho hne hnp
  go_enter Tryz.func79, Tryz.ntmps79
  go_wp2_with (first
    | (go_at_call 160; refine hQ.mono ?_; rintro r w1 ⟨rfl, hD1, hf1⟩; have hL := decLen te pe _ _ _ _ _ hD1)
    | (go_at_call 118; refine hL.mono ?_; rintro r w2 ⟨n, rfl, hn, _, rfl⟩; have hn0 : n = rest.length := hn _ rfl; subst hn0; clear hL; refine Hid.out ?_))
  have F1 : Fr (fun k => some k = (Value.slice a' np k').ownBlock) w w1 := ((Fr.refl (fun k => some k = (Value.slice a' np k').ownBlock) w).alloc _).trans hf1 (fun k hk e => by omega)
  have O1 : w1.ownsRow base 166 2 (.slice a' np k') np (pre.flatMap Mrk.c) := own_fr (HO.out.alloc _) hf1 (fun k hk => by have := own_lt HO.out hk; omega)
  have hs1 := F1.size
  have hn1 : ∀ k, (Value.slice a' np k').ownBlock = some k → k < w.heap.size := fun k hk => own_lt HO.out hk
  have HF1 := Lib.hid F1
  have HO1 := Lib.hid O1
  have HD1 := Lib.hid hD1
  have HN1 := Lib.hid hn1
  clear hD1 hf1 hQ F1 O1 hn1
  refine Lib.hid ?_
  go_wp2_with fail
  go_loopw [2] (fun sv wr => ∃ (st : St) (acc : List Mrk) (j : Nat), Hid (Dec te pe wr w.heap.size g cur st) ∧ Hid (wr.ownsRow base 166 2 sv (np + acc.length) ((pre ++ acc).flatMap Mrk.c)) ∧ Hid (Fr (fun k => some k = (Value.slice a' np k').ownBlock) w wr) ∧ Hid (∀ k, sv.ownBlock = some k → (some k = (Value.slice a' np k').ownBlock ∨ w.heap.size < k)) ∧
      Hid (recLoop mrkStep j st acc = recLoop mrkStep rest.length (some rest) []) ∧ Hid (∀ l, st = some l → l.length ≤ j ∧ acc.length + l.length ≤ rest.length) ∧ acc.length ≤ rest.length + 1) (fun _ wr => decM w.heap.size wr)
  case atStart => exact ⟨some rest, [], rest.length, HD1, Lib.hid (by simpa using HO1.out), HF1, Lib.hid (fun k hk => .inl hk.symm), Lib.hid rfl, Lib.hid (fun l hl => by cases hl; simp), by simp⟩
  case round =>
    obtain ⟨st, acc, j, HD, HO, HF, HB, HE, HL, hal⟩ := hrel
    obtain ⟨n6, off6, c6, p0, p1, hnl, hnc, hd, hg, h2⟩ := HD.out.open_
    have hE := decErr te pe _ _ _ _ _ HD.out
    obtain ⟨a6, k6, rfl⟩ := own_slice' HO.out
    rcases st with _ | l
    · clear hnl p1
      have hres : recLoop mrkStep rest.length (some rest) [] = (acc, none) := by rw [← HE.out]; unfold recLoop; rcases j with _ | j <;> rfl
      have HR := Lib.hid (show decMarkers (5 :: rest) = none from decParts_none hres)
      clear hres
      simp only [errV] at hE
      rcases Nat.eq_zero_or_pos n6 with rfl | hn6
      · go_wp2_with (first | (go_at_call 119; refine hE.mono ?_; rintro r w7 ⟨rfl, rfl⟩) | (go_at_call 161; refine (errNew_any _ _).mono ?_; rintro r w8 ⟨t, ae, rfl, hf8⟩))
        go_ret2
        exact markersEnds_none HR.out (HF.out.trans hf8 (fun _ _ e => e.elim))
      · have hn7 : (0 : Int) < (n6 : Int) := by omega
        go_wp2_with (first | (go_at_call 119; refine hE.mono ?_; rintro r w7 ⟨rfl, rfl⟩) | (go_at_call 161; refine (errNew_any _ _).mono ?_; rintro r w8 ⟨t, ae, rfl, hf8⟩))
        go_ret2
        exact markersEnds_none HR.out (HF.out.trans hf8 (fun _ _ e => e.elim))
    · obtain rfl : n6 = l.length := hnl l rfl
      simp only [errV] at hE
      rcases l with _ | ⟨x, r⟩
      · have hres : recLoop mrkStep rest.length (some rest) [] = (acc, some []) := by rw [← HE.out]; unfold recLoop; rcases j with _ | j <;> rfl
        have HR := Lib.hid (show decMarkers (5 :: rest) = some acc from decParts_some hres)
        clear hres hnl p1
        simp only [List.length_nil] at p0
        go_wp2_with (go_at_call 119; refine hE.mono ?_; rintro r w7 ⟨rfl, rfl⟩)
        go_ret2
        refine markersEnds_some HR.out HF.out ?_
        have h := HO.out
        rw [List.length_append, HNP.out]
        exact h
      · obtain ⟨n7, hn7⟩ : ∃ n7, (x :: r).length = n7 := ⟨_, rfl⟩
        have hn8 : (0 : Int) < (n7 : Int) := by rw [← hn7]; simp
        have hlb := HL.out _ rfl
        have hM := decM_some HD.out
        rw [hn7] at p0 hlb hM
        have hV1 := decBe64 te pe _ _ _ _ _ HD.out
        have HN7 := Lib.hid hn7
        clear hnl p1 hn7
        go_wp2_with (first
          | (go_at_call 119; refine hE.mono ?_; rintro r w7 ⟨rfl, rfl⟩)
          | (go_at_call 162; refine hV1.mono ?_; rintro r w8 ⟨rfl, hD8, hf8⟩; refine Hid.out ?_))
        have s8 := hf8.size
        have D8 := Lib.hid hD8
        have hV2 := decBe64 te pe _ _ _ _ _ hD8
        have F8 := Lib.hid hf8
        clear hD8 hf8 hV1 p0
        refine Lib.hid ?_
        go_wp2_with (go_at_call 162; refine hV2.mono ?_; rintro r w9 ⟨rfl, hD9, hf9⟩; refine Hid.out ?_)
        have FA : Fr (fun k => k = w.heap.size) wr w9 := F8.out.same hf9
        have sA := FA.size
        have DA := Lib.hid hD9
        have HFA := Lib.hid FA
        have OA : w9.ownsRow base 166 2 (.slice a6 (np + acc.length) k6) (np + acc.length) ((pre ++ acc).flatMap Mrk.c) := own_fr HO.out FA (fun k hk e => by
          rcases HB.out k hk with h | h
          · have := HN1.out k h.symm; omega
          · omega)
        have HOA := Lib.hid OA
        clear hD9 hf9 hV2 FA OA D8 F8
        refine Lib.hid ?_
        go_wp2_with (first
          | (at_builtin; refine Hid.out ?_))
        have hcells : (#[Value.int IntKind.u64 (gBe64 (some (x :: r))).1, Value.int IntKind.u64 (gBe64 (gBe64 (some (x :: r))).2).1] : Array Value) = (Mrk.c (mrkStep (some (x :: r))).1).toArray := rfl
        rw [hcells]
        have hlen7 : ∀ l, (mrkStep (some (x :: r))).2 = some l → l.length < n7 := fun l hl => HN7.out ▸ mrkStep_len hl
        have hDS : Dec te pe w9 w.heap.size g cur (mrkStep (some (x :: r))).2 := DA.out
        have HE2 : Hid (∀ j', j = j' + 1 → recLoop mrkStep j' (mrkStep (some (x :: r))).2 (acc ++ [(mrkStep (some (x :: r))).1]) = recLoop mrkStep rest.length (some rest) []) := Lib.hid (by rintro j' rfl; exact HE.out)
        clear hcells DA hE HE
        generalize mrkStep (some (x :: r)) = S at hDS hlen7 HE2 ⊢
        obtain ⟨s1, st9⟩ := S
        simp only [] at hDS hlen7 HE2 ⊢
        have hDS2 := Lib.hid hDS
        have hlen8 := Lib.hid hlen7
        clear hDS hlen7
        refine Lib.hid ?_
        refine wpList_append_src _ rfl _ _ 160 160 rfl base 166 i0 _ 2 16 Tryz.underlying160 hi0 hz0 hz1 hz2 rfl (by decide) (.slice a6 (np + acc.length) k6) (np + acc.length) ((pre ++ acc).flatMap Mrk.c) rfl (HOA.out.alloc _) _ 1 (Mrk.c s1) rfl (src_blk Tryz.underlying160 (Blk.new w9 166 (Mrk.c s1).toArray) rfl (by simp [Mrk.c, Value.oneCell'])) (by unfold maxLen; omega) (by omega) (by simp; omega) ?_
        intro v' w2 hown' hgrow hat
        obtain ⟨a9, k9, rfl⟩ := own_slice' hown'
        have hrow : ∀ k, (Value.slice a6 (np + acc.length) k6).ownBlock = some k → base ≤ k ∧ k ≠ w.heap.size := fun k hk => ⟨(HOA.out.lt k hk).1, by
          rcases HB.out k hk with h | h
          · have := HN1.out k h.symm; omega
          · omega⟩
        have hsG := hgrow.size
        simp at hsG
        have fG : Fr (fun k => some k = (Value.slice a6 (np + acc.length) k6).ownBlock) w9 w2 := ((Fr.refl (fun k => some k = (Value.slice a6 (np + acc.length) k6).ownBlock) w9).alloc _).grown hgrow (fun k hk => .inl hk.symm)
        have rD : Dec te pe w2 w.heap.size g cur st9 := hDS2.out.fr fG (fun e => (hrow _ e.symm).2 rfl) (fun e => by have := (hrow _ e.symm).1; omega) (fun e => by have := (hrow _ e.symm).1; omega)
        have rO : w2.ownsRow base 166 2 (.slice a9 (np + acc.length + 1) k9) (np + (acc ++ [s1]).length) ((pre ++ (acc ++ [s1])).flatMap Mrk.c) := by
          rw [← List.append_assoc, List.flatMap_append, List.length_append, List.length_singleton]
          simpa [Nat.add_assoc] using hown'
        have rF : Fr (fun k => some k = (Value.slice a' np k').ownBlock) w w2 := (HF.out.trans HFA.out (fun k hk e => by omega)).trans fG (fun k hk e => by
          rcases HB.out k e.symm with h | h
          · exact h
          · omega)
        have rB : ∀ k, (Value.slice a9 (np + acc.length + 1) k9).ownBlock = some k → (some k = (Value.slice a' np k').ownBlock ∨ w.heap.size < k) := fun k hk => by
          rcases hat with h | h
          · exact HB.out k (h ▸ hk)
          · rw [h] at hk; injection hk with hk; simp at hk; exact .inr (by omega)
        have rM : decM w.heap.size w2 < n7 + 1 := by
          rcases st9 with _ | l9
          · rw [decM_none rD]; omega
          · rw [decM_some rD]; have := hlen8.out l9 rfl; omega
        have RD := Lib.hid rD
        have RO := Lib.hid rO
        have RF := Lib.hid rF
        have RB := Lib.hid rB
        clear rD rO rF rB hown' hgrow hat hrow fG
        go_wp2
        go_roundw
        case rel =>
          obtain ⟨j', rfl⟩ : ∃ j', j = j' + 1 := ⟨j - 1, by have := HN7.out; simp at this; omega⟩
          refine ⟨st9, acc ++ [s1], j', RD, RO, RF, RB, Lib.hid (HE2.out j' rfl), Lib.hid (fun l hl => ?_), by simp; omega⟩
          have := hlen8.out l hl
          rw [List.length_append, List.length_singleton]
          omega
        case measure => rw [hM]; exact rM

/-- Decoder.MmapMarkers. -/
theorem decMarkers_any (te : TypeId) (pe : Value) (dv : Value) (g base : Nat) (cur : Array Value) (pre : List Mrk) (xs : List UInt8) (v sv : Value) (w : World) (h : Rec te pe w g cur xs v) (ho : w.ownsRow base 166 2 sv pre.length (pre.flatMap Mrk.c)) (hb : g < base ∧ 2 < base ∧ base ≤ w.heap.size) (hpl : pre.length ≤ 1073741824) :
    Calls Tryz.prog 79 #[dv, v, sv] w (MarkersEnds w base sv.ownBlock pre xs) := by
  by_cases hx : (gByte (some xs)).1 = 5
  · rcases xs with _ | ⟨b, rest⟩
    · exact absurd hx (by decide)
    · have hb2 : b = 5 := by
        have : b.toNat = (5 : UInt8).toNat := hx
        exact UInt8.toNat_inj.1 this
      subst hb2
      by_cases hr : rest = []
      · subst hr; exact decMarkers_empty te pe dv g base cur pre v sv w h ho ⟨hb.1, hb.2.1⟩
      · exact decMarkers_main te pe dv g base cur pre rest hr v sv w h ho hb hpl
  · exact decMarkers_type te pe dv g base cur pre xs v sv w h hx
end Go.Proofs.YtbkookiigkckdaaGreatDoor
