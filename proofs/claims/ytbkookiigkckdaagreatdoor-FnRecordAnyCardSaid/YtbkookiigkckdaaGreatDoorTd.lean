/- Decoder.Tombstones. -/
import Derived.Test.YtbkookiigkckdaaGreatDoorSe
import Derived.Test.YtbkookiigkckdaaGreatDoorMd
namespace Go.Proofs.YtbkookiigkckdaaGreatDoor
open Go.RowKit
set_option linter.unusedVariables false
set_option linter.unusedSimpArgs false

/-- A stone of one interval. -/
def one (s : Stn) : Ston := ⟨s.ref, [(s.lo, s.hi)]⟩
def StonesEnds (w : World) (base : Nat) (o : Option Nat) (pre : List Ston) (xs : List UInt8) (r : Ending) (w' : World) : Prop :=
  Fr (fun k => some k = o) w w' ∧ match decStones xs with
    | some l => ∃ v' lv, r = .returned (.tuple #[v', .nilIface]) ∧ lv.map Prod.fst = pre ++ l.map one ∧ OwnS base 147 279 w' v' lv
    | none => ∃ t a, r = .returned (.tuple #[.slice none 0 0, .iface t a])

theorem stonesEnds_none {w w' : World} {base : Nat} {o : Option Nat} {pre : List Ston} {xs : List UInt8} {t : TypeId} {a : Value} (hd : decStones xs = none) (hf : Fr (fun k => some k = o) w w') : StonesEnds w base o pre xs (.returned (.tuple #[.slice none 0 0, .iface t a])) w' := by
  unfold StonesEnds; rw [hd]; exact ⟨hf, _, _, rfl⟩
theorem stonesEnds_some {w w' : World} {base : Nat} {o : Option Nat} {pre : List Ston} {xs : List UInt8} {l : List Stn} {v : Value} {lv : List (Ston × Value)} (hd : decStones xs = some l) (hf : Fr (fun k => some k = o) w w') (hm : lv.map Prod.fst = pre ++ l.map one) (ho : OwnS base 147 279 w' v lv) : StonesEnds w base o pre xs (.returned (.tuple #[v, .nilIface])) w' := by
  unfold StonesEnds; rw [hd]; exact ⟨hf, _, _, rfl, hm, ho⟩

theorem own_one {w : World} {base e : Nat} {a b : Value} (hb : base ≤ w.heap.size) : (w.alloc (.cells #[a, b] e)).ownsRow base e 2 (.slice (some ⟨w.heap.size, 0, none⟩) 1 1) 1 [a, b] :=
  ⟨rfl, .inr ⟨_, _, _, rfl, hb, Blk.new w e #[a, b], Nat.le_refl _, by unfold maxLen; omega, rfl, rfl⟩⟩

theorem stnStep_len {l0 l : List UInt8} (h : (stnStep (some l0)).2 = some l) : l.length < l0.length := by
  obtain ⟨l1, h1, h1'⟩ := gUv_len (st := (gVar (gBe64 (some l0)).2).2) h
  obtain ⟨l2, h2, h2'⟩ := gUv_len (st := (gBe64 (some l0)).2) h1
  obtain ⟨l3, h3, h3'⟩ := gBe_len (st := some l0) h2
  injection h3 with h3; subst h3; omega

set_option maxRecDepth 100000 in
set_option maxHeartbeats 1000000 in
theorem decStones_type (te : TypeId) (pe : Value) (dv : Value) (g base : Nat) (cur : Array Value) (pre : List Ston) (xs : List UInt8) (v sv : Value) (w : World) (h : Rec te pe w g cur xs v) (hx : (gByte (some xs)).1 ≠ 3) :
    Calls Tryz.prog 74 #[dv, v, sv] w (StonesEnds w base sv.ownBlock pre xs) := by
  have hd : decStones xs = none := by
    rcases xs with _ | ⟨b, r⟩
    · rfl
    · have : ¬ b = 3 := by rintro rfl; exact hx rfl
      simp [decStones, decParts, this]
  unfold StonesEnds
  rw [hd]
  clear hd
  have hD := h.dec
  obtain ⟨off, c, rfl, _⟩ := h
  have hQ := decByte te pe w.heap.size g cur _ _ hD
  have hx2 : ¬ ((gByte (some xs)).1 : Int) = 3 := by omega
  clear hD hx
  generalize (gByte (some xs)).1 = x at hQ hx2
  generalize (gByte (some xs)).2 = st at hQ
  go_enter Tryz.func74, Tryz.ntmps74
  go_wp2_with (first | (go_at_call 160; refine hQ.mono ?_; rintro r w1 ⟨rfl, hD1, hf1⟩) | (go_at_call 161; refine (errNew_any _ _).mono ?_; rintro r w2 ⟨t, a, rfl, hf2⟩))
  go_ret2
  refine ⟨?_, _, _, rfl⟩
  have f1 := (((Fr.refl (fun k => some k = sv.ownBlock) w).alloc (.cells #[.slice (some ⟨g, off, none⟩) xs.length c, .nilIface] 229)).trans hf1 (fun k hk e => by omega))
  exact f1.trans hf2 (fun _ _ e => e.elim)

theorem OwnS.off {base te ti b t : Nat} {w w' : World} {v : Value} {lv : List (Ston × Value)} {cs : Array Value} (h : OwnS base te ti w v lv) (hb : Blk w b t cs) (h1 : te ≠ t) (h2 : ti ≠ t) (hf : Fr (fun k => k = b) w w') : OwnS base te ti w' v lv :=
  ⟨own_fr h.1 hf (fun g hg e => own_ne h.1 hb h1 (by rw [hg, e])), fun p hp => own_fr (h.2 p hp) hf (fun g hg e => own_ne (h.2 p hp) hb h2 (by rw [hg, e]))⟩
theorem OwnS.alloc {base te ti : Nat} {w : World} {v : Value} {lv : List (Ston × Value)} (h : OwnS base te ti w v lv) (o : Obj) : OwnS base te ti (w.alloc o) v lv := h.fr ((Fr.refl (fun _ => False) w).alloc o) (fun _ _ _ e => e)
theorem Dec.blk {te : TypeId} {pe : Value} {w : World} {d g : Nat} {cur : Array Value} {st : St} (h : Dec te pe w d g cur st) : ∃ cs, Blk w d 229 cs := by
  rcases st with _ | l
  · obtain ⟨_, off, c, hb, _⟩ := h; exact ⟨_, hb⟩
  · obtain ⟨off, c, hb, _⟩ := h; exact ⟨_, hb⟩
theorem stn_cells (st : St) : (#[Value.int IntKind.i64 (gVar (gBe64 st).2).1, Value.int IntKind.i64 (gVar (gVar (gBe64 st).2).2).1] : Array Value) = #[.int .i64 (stnStep st).1.lo, .int .i64 (stnStep st).1.hi] := rfl

set_option maxRecDepth 100000 in
set_option maxHeartbeats 4000000 in
theorem decStones_main (te : TypeId) (pe : Value) (dv : Value) (g base : Nat) (cur : Array Value) (lp : List (Ston × Value)) (rest : List UInt8) (v sv : Value) (w : World) (h : Rec te pe w g cur (3 :: rest) v) (ho : OwnS base 147 279 w sv lp) (hb : g < base ∧ 2 < base ∧ base ≤ w.heap.size) (hpl : lp.length ≤ 1073741824) :
    Calls Tryz.prog 74 #[dv, v, sv] w (StonesEnds w base sv.ownBlock (lp.map Prod.fst) (3 :: rest)) := by
  obtain ⟨i0, hi0, hz0, hz1, hz2⟩ := info_parts Tryz.info147
  have hD := h.dec
  obtain ⟨off, c, rfl, _⟩ := h
  have hQ := decByte te pe w.heap.size g cur _ _ hD
  have e1 : gByte (some (3 :: rest)) = (3, some rest) := rfl
  rw [e1] at hQ
  have HO := Lib.hid ho
  obtain ⟨a', k', rfl⟩ := own_slice' ho.1
  have hrl : rest.length ≤ 1099511627776 := by
    obtain ⟨n, off', c', _, _, hn, hnc, _⟩ := hD.open_
    have := hn _ rfl
    simp at this; omega
  obtain ⟨np, hnp⟩ : ∃ np, lp.length = np := ⟨_, rfl⟩
  have HNP := Lib.hid hnp
  rw [hnp] at HO hpl ⊢
  have hBD := hD.blk
  clear hD e1 ho hnp
  go_enter Tryz.func74, Tryz.ntmps74
  go_wp2_with (first
    | (go_at_call 160; refine hQ.mono ?_; rintro r w1 ⟨rfl, hD1, hf1⟩; refine Hid.out ?_))
  obtain ⟨csD, hBD⟩ := hBD
  have F1 : Fr (fun k => some k = (Value.slice a' np k').ownBlock) w w1 := ((Fr.refl (fun k => some k = (Value.slice a' np k').ownBlock) w).alloc _).trans hf1 (fun k hk e => by omega)
  have O1 : OwnS base 147 279 w1 (.slice a' np k') lp := (HO.out.alloc _).off hBD (by decide) (by decide) hf1
  have hs1 := F1.size
  have hn1 : ∀ k, (Value.slice a' np k').ownBlock = some k → k < w.heap.size := fun k hk => own_lt HO.out.1 hk
  have HF1 := Lib.hid F1
  have HO1 := Lib.hid O1
  have HD1 := Lib.hid hD1
  have HN1 := Lib.hid hn1
  clear hD1 hf1 hQ F1 O1 hn1 hBD
  refine Lib.hid ?_
  go_wp2_with fail
  go_loopw [2] (fun sv wr => ∃ (st : St) (acc : List Stn) (lo : List (Ston × Value)) (j : Nat), Hid (Dec te pe wr w.heap.size g cur st) ∧ Hid (OwnS base 147 279 wr sv lo) ∧ Hid (lo.map Prod.fst = lp.map Prod.fst ++ acc.map one) ∧ Hid (lo.length = np + acc.length) ∧ Hid (Fr (fun k => some k = (Value.slice a' np k').ownBlock) w wr) ∧ Hid (∀ k, sv.ownBlock = some k → (some k = (Value.slice a' np k').ownBlock ∨ w.heap.size < k)) ∧
      Hid (recLoop stnStep j st acc = recLoop stnStep rest.length (some rest) []) ∧ Hid (∀ l, st = some l → l.length ≤ j ∧ acc.length + l.length ≤ rest.length) ∧ acc.length ≤ rest.length + 1) (fun _ wr => decM w.heap.size wr)
  case atStart => exact ⟨some rest, [], lp, rest.length, HD1, HO1, Lib.hid (by simp), Lib.hid (by simpa using HNP.out), HF1, Lib.hid (fun k hk => .inl hk.symm), Lib.hid rfl, Lib.hid (fun l hl => by cases hl; simp), by simp⟩
  case round =>
    obtain ⟨st, acc, lo, j, HD, HO, HM, HLO, HF, HB, HE, HL, hal⟩ := hrel
    obtain ⟨n6, off6, c6, p0, p1, hnl, hnc, hd, hg, h2⟩ := HD.out.open_
    have hE := decErr te pe _ _ _ _ _ HD.out
    have hLn := decLen2 te pe _ _ _ _ _ HD.out
    obtain ⟨a6, k6, rfl⟩ := own_slice' HO.out.1
    rcases st with _ | l
    · clear hnl p1 p0
      have hres : recLoop stnStep rest.length (some rest) [] = (acc, none) := by rw [← HE.out]; unfold recLoop; rcases j with _ | j <;> rfl
      have HR := Lib.hid (show decStones (3 :: rest) = none from decParts_none hres)
      clear hres
      simp only [errV] at hE
      go_wp2_with (go_at_call 118; refine hLn.mono ?_; rintro r w7 ⟨n7, rfl, _, hb7, rfl⟩; refine Hid.out ?_)
      rcases Nat.eq_zero_or_pos n7 with rfl | hn6
      · refine Lib.hid ?_
        go_wp2_with (go_at_call 119; refine hE.mono ?_; rintro r w7 ⟨rfl, rfl⟩)
        go_ret2
        exact stonesEnds_none HR.out HF.out
      · have hn7 : (0 : Int) < (n7 : Int) := by omega
        refine Lib.hid ?_
        go_wp2_with (go_at_call 119; refine hE.mono ?_; rintro r w7 ⟨rfl, rfl⟩)
        go_ret2
        exact stonesEnds_none HR.out HF.out
    · obtain rfl : n6 = l.length := hnl l rfl
      simp only [errV] at hE
      rcases l with _ | ⟨x, r⟩
      · have hres : recLoop stnStep rest.length (some rest) [] = (acc, some []) := by rw [← HE.out]; unfold recLoop; rcases j with _ | j <;> rfl
        have HR := Lib.hid (show decStones (3 :: rest) = some acc from decParts_some hres)
        clear hres hnl p1
        simp only [List.length_nil] at p0
        go_wp2_with (go_at_call 118; refine hLn.mono ?_; rintro r w7 ⟨n7, rfl, hn7, hb7, rfl⟩; refine Hid.out ?_)
        have hn8 : n7 = 0 := hn7 [] rfl
        have hn9 : ¬ (0 : Int) < (n7 : Int) := by omega
        clear hn7 hn8
        refine Lib.hid ?_
        go_wp2_with (go_at_call 119; refine hE.mono ?_; rintro r w7 ⟨rfl, rfl⟩)
        go_ret2
        exact stonesEnds_some HR.out HF.out HM.out HO.out
      · obtain ⟨n7, hn7⟩ : ∃ n7, (x :: r).length = n7 := ⟨_, rfl⟩
        have hn8 : (0 : Int) < (n7 : Int) := by rw [← hn7]; simp
        have hlb := HL.out _ rfl
        have hM := decM_some HD.out
        rw [hn7] at p0 hlb hM
        have hV1 := decBe64 te pe _ _ _ _ _ HD.out
        have HN7 := Lib.hid hn7
        clear hnl p1 hn7
        go_wp2_with (first
          | (go_at_call 118; refine hLn.mono ?_; rintro r w7 ⟨n9, rfl, hn9, hb7, rfl⟩; have hn9' : n7 = n9 := ((hn9 _ rfl).trans HN7.out).symm; subst hn9')
          | (go_at_call 119; refine hE.mono ?_; rintro r w7 ⟨rfl, rfl⟩)
          | (go_at_call 162; refine hV1.mono ?_; rintro r w8 ⟨rfl, hD8, hf8⟩; refine Hid.out ?_))
        have s8 := hf8.size
        have D8 := Lib.hid hD8
        have hV2 := decVar te pe _ _ _ _ _ hD8
        have F8 := Lib.hid hf8
        clear hD8 hf8 hV1 p0
        refine Lib.hid ?_
        go_wp2_with (go_at_call 165; refine hV2.mono ?_; rintro r w9 ⟨rfl, hD9, hf9⟩; refine Hid.out ?_)
        have s9 := hf9.size
        have D9 := Lib.hid hD9
        have hV3 := decVar te pe _ _ _ _ _ hD9
        have F9 := Lib.hid hf9
        clear hD9 hf9 hV2
        refine Lib.hid ?_
        go_wp2_with (go_at_call 165; refine hV3.mono ?_; rintro r wA ⟨rfl, hDA, hfA⟩; refine Hid.out ?_)
        have FA : Fr (fun k => k = w.heap.size) wr wA := (F8.out.same F9.out).same hfA
        have sA := FA.size
        have DA := Lib.hid hDA
        have HFA := Lib.hid FA
        obtain ⟨csD, hBD⟩ := HD.out.blk
        have OA : OwnS base 147 279 wA (.slice a6 lo.length k6) lo := HO.out.off hBD (by decide) (by decide) FA
        have HOA := Lib.hid OA
        clear hDA hfA hV3 FA OA D8 F8 D9 F9 hBD
        refine Lib.hid ?_
        go_wp2_with (first
          | (at_builtin; refine Hid.out ?_))
        have hlen7 : ∀ l, (stnStep (some (x :: r))).2 = some l → l.length < n7 := fun l hl => HN7.out ▸ stnStep_len hl
        have hDS : Dec te pe wA w.heap.size g cur (stnStep (some (x :: r))).2 := DA.out
        have HE2 : Hid (∀ j', j = j' + 1 → recLoop stnStep j' (stnStep (some (x :: r))).2 (acc ++ [(stnStep (some (x :: r))).1]) = recLoop stnStep rest.length (some rest) []) := Lib.hid (by rintro j' rfl; exact HE.out)
        have q1 : (gBe64 (some (x :: r))).1 = (stnStep (some (x :: r))).1.ref := rfl
        have q2 : (gVar (gBe64 (some (x :: r))).2).1 = (stnStep (some (x :: r))).1.lo := rfl
        have q3 : (gVar (gVar (gBe64 (some (x :: r))).2).2).1 = (stnStep (some (x :: r))).1.hi := rfl
        rw [q3, q2, q1]
        clear DA hE HE q1 q2 q3
        generalize stnStep (some (x :: r)) = S at hDS hlen7 HE2 ⊢
        obtain ⟨s1, st9⟩ := S
        simp only [] at hDS hlen7 HE2 ⊢
        have hDS2 := Lib.hid hDS
        have hlen8 := Lib.hid hlen7
        clear hDS hlen7
        refine Lib.hid ?_
        have hbA : base ≤ wA.heap.size := by omega
        have hown1 := own_one (w := wA) (base := base) (e := 279) (a := .int .i64 s1.lo) (b := .int .i64 s1.hi) hbA
        have hloz : lo.length ≤ 1073741824 + 1099511627776 + 1 := by have := HLO.out; omega
        refine wpList_append_src _ rfl _ _ 139 139 rfl base 147 i0 _ 2 32 Tryz.underlying139 hi0 hz0 hz1 hz2 rfl (by decide) (.slice a6 lo.length k6) lo.length (lo.flatMap stc) rfl ((HOA.out.alloc _).alloc _).1 _ 1 (stc (one s1, .slice (some ⟨wA.heap.size, 0, none⟩) 1 1)) rfl (src_blk Tryz.underlying139 (blk_new2 wA _ 147 (stc (one s1, .slice (some ⟨wA.heap.size, 0, none⟩) 1 1)).toArray) rfl (by simp [stc, Value.oneCell'])) (by unfold maxLen; omega) (by omega) (by simp; omega) ?_
        intro v' w2 hown' hgrow hat
        obtain ⟨a9, k9, rfl⟩ := own_slice' hown'
        have hrow : ∀ k, (Value.slice a6 lo.length k6).ownBlock = some k → base ≤ k ∧ k ≠ w.heap.size := fun k hk => ⟨(HOA.out.1.lt k hk).1, by
          rcases HB.out k hk with h | h
          · have := HN1.out k h.symm; omega
          · omega⟩
        have hsG := hgrow.size
        simp at hsG
        have fG : Fr (fun k => some k = (Value.slice a6 lo.length k6).ownBlock) wA w2 := (((Fr.refl (fun k => some k = (Value.slice a6 lo.length k6).ownBlock) wA).alloc _).alloc _).grown hgrow (fun k hk => .inl hk.symm)
        have rD : Dec te pe w2 w.heap.size g cur st9 := hDS2.out.fr fG (fun e => (hrow _ e.symm).2 rfl) (fun e => by have := (hrow _ e.symm).1; omega) (fun e => by have := (hrow _ e.symm).1; omega)
        have rO : OwnS base 147 279 w2 (.slice a9 (lo.length + 1) k9) (lo ++ [(one s1, .slice (some ⟨wA.heap.size, 0, none⟩) 1 1)]) :=
          OwnS.push (p := (one s1, .slice (some ⟨wA.heap.size, 0, none⟩) 1 1)) ((HOA.out.alloc _).alloc _) (hown1.alloc _) hgrow hown' (by decide)
        have rMM : (lo ++ [(one s1, Value.slice (some ⟨wA.heap.size, 0, none⟩) 1 1)]).map Prod.fst = lp.map Prod.fst ++ (acc ++ [s1]).map one := by
          rw [List.map_append, List.map_append, HM.out, List.append_assoc]; rfl
        have rL : (lo ++ [(one s1, Value.slice (some ⟨wA.heap.size, 0, none⟩) 1 1)]).length = np + (acc ++ [s1]).length := by
          rw [List.length_append, List.length_append, HLO.out]; simp [Nat.add_assoc]
        have rF : Fr (fun k => some k = (Value.slice a' np k').ownBlock) w w2 := (HF.out.trans HFA.out (fun k hk e => by omega)).trans fG (fun k hk e => by
          rcases HB.out k e.symm with h | h
          · exact h
          · omega)
        have rB : ∀ k, (Value.slice a9 (lo.length + 1) k9).ownBlock = some k → (some k = (Value.slice a' np k').ownBlock ∨ w.heap.size < k) := fun k hk => by
          rcases hat with h | h
          · exact HB.out k (h ▸ hk)
          · rw [h] at hk; injection hk with hk; simp at hk; exact .inr (by omega)
        have rM : decM w.heap.size w2 < n7 + 1 := by
          rcases st9 with _ | l9
          · rw [decM_none rD]; omega
          · rw [decM_some rD]; have := hlen8.out l9 rfl; omega
        have RD := Lib.hid rD
        have RO := Lib.hid rO
        have RF := Lib.hid rF
        have RB := Lib.hid rB
        have RMM := Lib.hid rMM
        have RL := Lib.hid rL
        clear rD rO rF rB rMM rL hown' hgrow hat hrow fG hown1 HOA
        go_wp2
        go_roundw
        case rel =>
          obtain ⟨j', rfl⟩ : ∃ j', j = j' + 1 := ⟨j - 1, by have := HN7.out; simp at this; omega⟩
          have hsl : ∃ a m c, (Value.slice a9 (lo.length + 1) k9) = .slice a m c := ⟨_, _, _, rfl⟩
          refine ⟨st9, acc ++ [s1], _, j', RD, RO, RMM, RL, RF, RB, Lib.hid (HE2.out j' rfl), Lib.hid (fun l hl => ?_), by simp; omega⟩
          have := hlen8.out l hl
          rw [List.length_append, List.length_singleton]
          omega
        case measure => rw [hM]; exact rM

theorem decStones_any (te : TypeId) (pe : Value) (dv : Value) (g base : Nat) (cur : Array Value) (lp : List (Ston × Value)) (xs : List UInt8) (v sv : Value) (w : World) (h : Rec te pe w g cur xs v) (ho : OwnS base 147 279 w sv lp) (hb : g < base ∧ 2 < base ∧ base ≤ w.heap.size) (hpl : lp.length ≤ 1073741824) :
    Calls Tryz.prog 74 #[dv, v, sv] w (StonesEnds w base sv.ownBlock (lp.map Prod.fst) xs) := by
  by_cases hx : (gByte (some xs)).1 = 3
  · rcases xs with _ | ⟨b, rest⟩
    · exact absurd hx (by decide)
    · have hb2 : b = 3 := by
        have : b.toNat = (3 : UInt8).toNat := hx
        exact UInt8.toNat_inj.1 this
      subst hb2
      exact decStones_main te pe dv g base cur lp rest v sv w h ho hb hpl
  · exact decStones_type te pe dv g base cur (lp.map Prod.fst) xs v sv w h hx


end Go.Proofs.YtbkookiigkckdaaGreatDoor
