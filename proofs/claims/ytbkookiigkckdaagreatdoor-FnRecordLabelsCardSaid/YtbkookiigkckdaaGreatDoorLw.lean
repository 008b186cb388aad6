/- ScratchBuilder.Labels; Decoder.DecodeLabels. -/
import Derived.Test.YtbkookiigkckdaaGreatDoorLv
import Derived.Test.YtbkookiigkckdaaGreatDoorLn
namespace Go.Proofs.YtbkookiigkckdaaGreatDoor
open Go.RowKit
set_option linter.unusedVariables false
set_option linter.unusedSimpArgs false

theorem isEmpty_any (s : ByteArray) (w : World) : Calls Tryz.prog 56 #[.agg #[.string s]] w fun r w' => r = .returned (.bool (decide (s.size = 0))) ∧ Fr (fun _ => False) w w' := by
  by_cases h : s.size = 0
  · have h' : (s.size : Int) = 0 := by omega
    rw [decide_eq_true h]
    go_enter Tryz.func56, Tryz.ntmps56
    go_wp2
    go_ret
    exact ⟨rfl, (Fr.refl _ w).alloc _⟩
  · have h' : ((s.size : Int) == 0) = false := by rw [beq_eq_false_iff_ne]; omega
    rw [decide_eq_false h]
    go_enter Tryz.func56, Tryz.ntmps56
    go_wp2
    go_ret
    exact ⟨rfl, (Fr.refl _ w).alloc _⟩

set_option maxRecDepth 100000 in
set_option maxHeartbeats 2000000 in
theorem builderLabels_any (b0 d : Nat) (l : List Lab) (w : World) (h : Bld w b0 d l ⟨#[]⟩) (hl : l.length ≤ 4096) (hs : ∀ p ∈ l, p.1.size ≤ 1048576 ∧ p.2.size ≤ 1048576) :
    Calls Tryz.prog 132 #[.pointer (some ⟨d, 0, none⟩)] w fun r w' => r = .returned (.agg #[.string (labStr l)]) ∧ Bld w' b0 d l (labStr l) ∧ Fr (fun k => k = d) w w' := by
  obtain ⟨v, z, hb, ho⟩ := h
  obtain ⟨A, c, rfl⟩ := own_slice' ho
  have hdw := hb.lt
  have HNE := Lib.hid (own_ne ho hb (by decide))
  have F1 : Fr (fun _ => False) w (w.alloc (.cells #[.string ⟨#[]⟩] 99)) := (Fr.refl _ w).alloc _
  have hB1 : Blk (w.alloc (.cells #[.string ⟨#[]⟩] 99)) w.heap.size 99 #[.string ⟨#[]⟩] := Blk.new w 99 _
  have hQ := isEmpty_any ⟨#[]⟩ (w.alloc (.cells #[.string ⟨#[]⟩] 99))
  have hD1 := hb.fr F1 (fun e => e)
  have k1 := hD1.cell 1
  simp at k1
  have HO := Lib.hid ho
  have HD1 := Lib.hid hD1
  have HB1 := Lib.hid hB1
  have HF1 := Lib.hid F1
  have HS := Lib.hid hs
  have hle : labsSize l ≤ 1099511627776 := by
    have := labsSize_le l hs
    have h : l.length * 2097160 ≤ 4096 * 2097160 := Nat.mul_le_mul_right _ hl
    omega
  obtain ⟨n, hn⟩ : ∃ n, labsSize l = n := ⟨_, rfl⟩
  rw [hn] at hle
  obtain ⟨m, hm⟩ : ∃ m, l.length = m := ⟨_, rfl⟩
  have HM := Lib.hid hm
  have HN := Lib.hid hn
  rw [hm] at hl
  rw [decide_eq_true (show (⟨#[]⟩ : ByteArray).size = 0 from rfl)] at hQ
  have hmk : ∀ W : World, (Instr.makeSlice 44 (.int .i64 (n : Int)) (.int .i64 (n : Int))).run Tryz.prog W = .ok (.slice (some ⟨W.heap.size, 0, none⟩) n n) (W.alloc (.cells (madeCells #[.int .u8 0] n) 5)) := fun W =>
    run_make_row' (P := Tryz.prog) 44 5 (.int .u8 0) 1 Tryz.underlying44 Tryz.info5 rfl .i64 .i64 n (by omega) (by omega) W
  clear hb ho hs hm hn hB1 F1 hD1
  go_enter Tryz.func132, Tryz.ntmps132
  go_wp2_with (first
    | (go_at_call 56; refine hQ.mono ?_; rintro r w1 ⟨rfl, hf1⟩
       have hD2 := Lib.hid (HD1.out.fr hf1 (fun e => e))
       have k2 := hD2.out.cell 0
       simp at k2
       rw [HM.out] at k2
       have hFF2 := Lib.hid (HF1.out.same hf1)
       have hsl2 := Lib.hid ((Sl.ofOwn HO.out).fr hFF2.out (fun _ _ e => e))
       have hB2 := Lib.hid (HB1.out.fr hf1 (fun e => e))
       have hZ := labelsSize_any _ _ l w1 hsl2.out (by rw [HM.out]; omega) HS.out
       rw [HM.out, HN.out] at hZ)
    | (go_at_call 208; refine hZ.mono ?_; rintro r w2 ⟨rfl, hf2⟩; refine Hid.out ?_))
  have hB3 := hB2.out.fr hf2 (fun e => e)
  have hD3 := hD2.out.fr hf2 (fun e => e)
  have hsl3 := hsl2.out.fr hf2 (fun _ _ e => e)
  have hF3 := hFF2.out.same hf2
  have hDr := hD3.alloc (.cells (madeCells #[.int .u8 0] n) 5)
  have hBr := hB3.alloc (.cells (madeCells #[.int .u8 0] n) 5)
  have hnd : d ≠ w2.heap.size := Nat.ne_of_lt hD3.lt
  have hnb : w.heap.size ≠ w2.heap.size := Nat.ne_of_lt hB3.lt
  have kd0 := hDr.cell 0
  have kb0 := (World.ownsRow.lt HO.out)
  have hM := marshalLabels_any _ _ l w2.heap.size n n (w2.alloc (.cells (madeCells #[.int .u8 0] n) 5)) (hsl3.fr ((Fr.refl (fun _ => False) w2).alloc _) (fun _ _ e => e))
    (fun e => Nat.lt_irrefl _ (Nat.lt_of_lt_of_le ((World.ownsRow.lt HO.out) _ e).2 hF3.size)) (by rw [HM.out]; omega) HS.out (buf_new w2 n) HN.out.symm (Nat.le_refl _) (by omega)
  rw [HM.out] at hM kd0
  simp at kd0
  have H3 := Lib.hid (And.intro hBr (And.intro hDr (And.intro (hF3.alloc (.cells (madeCells #[.int .u8 0] n) 5)) hF3.size)))
  have H5 := Lib.hid (And.intro hnd hnb)
  clear hB3 hD3 hsl3 hF3 hDr hBr hnd hnb kb0 hQ k1 k2 hZ
  refine Lib.hid ?_
  go_wp2_with (first
    | (go_at_call 209
       refine hM.mono ?_
       rintro r w4 ⟨rfl, hB4, hf4⟩
       have hY := yolo_any w2.heap.size n n (labsBytes l) w4 hB4
       have hD4 := Lib.hid (H3.out.2.1.fr hf4 H5.out.1)
       have hR4 := Lib.hid (H3.out.1.fr hf4 H5.out.2)
       have k4 := hD4.out.cell 1
       have z4 := hD4.out.frozen 1
       simp at k4
       have hF4 : Hid (Fr (fun _ => False) w w4) := Lib.hid (H3.out.2.2.1.trans (S' := fun k => k = w2.heap.size) hf4 (fun k hk e => by have := H3.out.2.2.2; omega)))
    | (go_at_call 210; refine hY.mono ?_; rintro r w5 ⟨rfl, rfl⟩; refine Hid.out ?_))
  have hdb : w.heap.size ≠ d := by omega
  have hD5 : Blk (w4.setCell ⟨d, 1, none⟩ (.string ⟨(labsBytes l).toArray⟩)) d 119 #[.slice A l.length c, .string ⟨(labsBytes l).toArray⟩, z] := by simpa using hD4.out.set_ 1 (.string ⟨(labsBytes l).toArray⟩)
  have hR5 := hR4.out.far (p := ⟨d, 1, none⟩) hdb (.string ⟨(labsBytes l).toArray⟩)
  have hF5 : Fr (fun k => k = d) w (w4.setCell ⟨d, 1, none⟩ (.string ⟨(labsBytes l).toArray⟩)) := (hF4.out.mono (S' := fun k => k = d) (fun _ _ e => e.elim)).setCell (p := ⟨d, 1, none⟩) (.inl rfl) _
  have k5 := hD5.cell 1
  have k6 := hR5.cell 0
  have z6 := hR5.frozen 0
  simp at k5 k6
  have H6 := Lib.hid (And.intro hD5 (And.intro hR5 hF5))
  clear hD5 hR5 hF5 hM hY
  refine Lib.hid ?_
  generalize hS : (⟨(labsBytes l).toArray⟩ : ByteArray) = s at *
  go_wp2_with fail
  obtain ⟨hD5, hR5, hF5⟩ := H6.out
  have hD7 := hD5.far (p := ⟨w.heap.size, 0, none⟩) hdb.symm (.string s)
  have hR7 : Blk ((w4.setCell ⟨d, 1, none⟩ (.string s)).setCell ⟨w.heap.size, 0, none⟩ (.string s)) w.heap.size 99 #[.string s] := by simpa using hR5.set_ 0 (.string s)
  have hF7 : Fr (fun k => k = d) w ((w4.setCell ⟨d, 1, none⟩ (.string s)).setCell ⟨w.heap.size, 0, none⟩ (.string s)) := hF5.setCell (p := ⟨w.heap.size, 0, none⟩) (.inr (Nat.le_refl _)) _
  have hO7 := own_fr HO.out hF7 (fun g hg e => HNE.out (by rw [hg]; exact congrArg some e))
  generalize (w4.setCell ⟨d, 1, none⟩ (.string s)).setCell ⟨w.heap.size, 0, none⟩ (.string s) = w7 at hD7 hR7 hF7 hO7 ⊢
  refine bodyPost_ret (results_cell_row (P := Tryz.prog) rfl _ _ w.heap.size 99 #[.string s] (0, 0) _ rfl hR7 Tryz.underlying99 rfl (by kernel_rfl)) rfl ?_
  have hSS : labStr l = s := hS
  rw [hSS]
  exact ⟨rfl, ⟨_, _, hD7, hO7⟩, hF7⟩

theorem dec_fr {te : TypeId} {pe : Value} {w w' : World} {d g : Nat} {cur : Array Value} {st : St} {S : Nat → Prop} (h : Dec te pe w d g cur st) (hf : Fr S w w') (h1 : ¬ S d) (h2 : ¬ S g) (h3 : ¬ S 2) : Dec te pe w' d g cur st := by
  have key : ∀ rest E, DecOk (.iface te pe) w d g cur rest E → DecOk (.iface te pe) w' d g cur rest E := by
    rintro rest E ⟨off, c, hb, hg, hl, hm, hr, hE⟩
    exact ⟨off, c, hb.fr hf h1, hg.fr hf h2, hl, hm, hr, by rw [hf.cell (p := ⟨2, 0, none⟩) (World.block_lt_of_cell? w _ hE) h3]; exact hE⟩
  rcases st with _ | l
  · obtain ⟨rest, h⟩ := h
    exact ⟨rest, key _ _ h⟩
  · exact key _ _ h
theorem dec_blk {te : TypeId} {pe : Value} {w : World} {d g : Nat} {cur : Array Value} {st : St} (h : Dec te pe w d g cur st) : ∃ cs, Blk w d 229 cs ∧ Blk w g 5 cur ∧ 2 < w.heap.size := by
  rcases st with _ | l
  · obtain ⟨rest, off, c, hb, hg, hl, hm, hr, hE⟩ := h
    exact ⟨_, hb, hg, World.block_lt_of_cell? w _ hE⟩
  · obtain ⟨off, c, hb, hg, hl, hm, hr, hE⟩ := h
    exact ⟨_, hb, hg, World.block_lt_of_cell? w _ hE⟩

/-- What DecodeLabels may turn: the Decbuf, the builder, its rows. -/
def DS (w : World) (b0 d d2 k : Nat) : Prop := k = d2 ∨ BldS w b0 d k
theorem DS.back {w w' : World} {b0 d d2 : Nat} (h : Fr (DS w b0 d d2) w w') (k : Nat) (hk : k < w.heap.size) (hs : DS w' b0 d d2 k) : DS w b0 d d2 k := by
  rcases Classical.em (DS w b0 d d2 k) with hy | hn
  · exact hy
  · rcases hs with rfl | rfl | ⟨hb, cs, hc⟩
    · exact .inl rfl
    · exact .inr (.inl rfl)
    · exact .inr (.inr ⟨hb, cs, (h.block k hk hn).symm.trans hc⟩)
theorem DS.trans {w w' w'' : World} {b0 d d2 : Nat} (h : Fr (DS w b0 d d2) w w') (h2 : Fr (DS w' b0 d d2) w' w'') : Fr (DS w b0 d d2) w w'' := Fr.trans h h2 (DS.back h)
theorem bldS_not {w : World} {b0 d k : Nat} {t : TypeId} {cs : Array Value} (h : Blk w k t cs) (h1 : k ≠ d) (h2 : t ≠ 108) : ¬ BldS w b0 d k := by
  rintro (e | ⟨_, cs', hc⟩)
  · exact h1 e
  · exact h2 (h.tag hc).1
theorem bld_d2 {w w' : World} {b0 d d2 : Nat} {l : List Lab} {o : ByteArray} {cs : Array Value} (h : Bld w b0 d l o) (hd : Blk w d2 229 cs) (hf : Fr (fun k => k = d2) w w') : Bld w' b0 d l o := by
  obtain ⟨v, x, hb, ho⟩ := h
  exact ⟨v, x, hb.fr hf (Blk.ne_ hb hd (by decide)), own_fr ho hf (fun g hg e => own_ne ho hd (by decide) (by rw [hg]; exact congrArg some e))⟩

set_option maxRecDepth 100000 in
set_option maxHeartbeats 4000000 in
theorem decodeLabels_any (te : TypeId) (pe : Value) (b0 d d2 g : Nat) (cur : Array Value) (l0 : List Lab) (o0 : ByteArray) (st : St) (w : World) (hB : Bld w b0 d l0 o0) (hD : Dec te pe w d2 g cur st) (hb0 : b0 ≤ w.heap.size) (h2 : 2 < b0) (hbd : b0 ≤ d)
    (n : Nat) (st1 : St) (hgu : gUv st = (n, st1)) (hn : n ≤ 4096) (hu : ∀ k, k < n → (gUv (gLabs st1 k).2).1 < 9223372036854775808 ∧ (gUv (gStr (gLabs st1 k).2).2).1 < 9223372036854775808)
    (hs : ∀ p ∈ (gLabs st1 n).1, p.1.size ≤ 1048576 ∧ p.2.size ≤ 1048576) (hlen : ∀ k, (gLabs st1 k).1.length = k) :
    Calls Tryz.prog 117 #[.pointer (some ⟨d, 0, none⟩), .pointer (some ⟨d2, 0, none⟩)] w fun r w' => r = .returned (.agg #[.string (labStr (gLabs st1 n).1)]) ∧ Dec te pe w' d2 g cur (gLabs st1 n).2 ∧ Fr (DS w b0 d d2) w w' := by
  have hi : i64 n = n := by unfold i64 wrap64; omega
  have F1 : Fr (fun _ => False) w (w.alloc (.cells #[.string ⟨#[]⟩] 99)) := (Fr.refl _ w).alloc _
  have hR1 : Blk (w.alloc (.cells #[.string ⟨#[]⟩] 99)) w.heap.size 99 #[.string ⟨#[]⟩] := Blk.new w 99 _
  have hdl : d < w.heap.size := let ⟨_, _, h, _⟩ := hB; h.lt
  have hB1 : Bld (w.alloc (.cells #[.string ⟨#[]⟩] 99)) b0 d l0 o0 := hB.fr F1 (fun e => e) (fun _ _ _ e => e)
  have hD1 := dec_fr hD F1 (fun e => e) (fun e => e) (fun e => e)
  have hReset := reset_any b0 d l0 o0 _ hB1
  have HF1 := Lib.hid F1
  have HR1 := Lib.hid hR1
  have HD1 := Lib.hid hD1
  have HBB := Lib.hid hB1
  have HU := Lib.hid hu
  have HS := Lib.hid hs
  have HL := Lib.hid hlen
  have HG := Lib.hid hgu
  clear F1 hR1 hB1 hD1 hu hs hlen hB hD hgu
  go_enter Tryz.func117, Tryz.ntmps117
  go_wp2_with (first
    | (go_at_call 202
       refine hReset.mono ?_
       rintro r w1 ⟨rfl, hB2, hf2⟩
       have hD2 : Dec te pe w1 d2 g cur st := by
         obtain ⟨cs, hb2, hg2, hlt2⟩ := dec_blk HD1.out
         obtain ⟨_, _, hbb, _⟩ := HBB.out
         exact dec_fr HD1.out hf2 (fun e => Blk.ne_ hb2 hbb (by decide) e) (fun e => Blk.ne_ hg2 hbb (by decide) e) (by omega)
       have hU := decUvarint te pe d2 g cur st w1 hD2
       rw [HG.out] at hU
       dsimp only at hU
       rw [hi] at hU)
    | (go_at_call 172; refine hU.mono ?_; rintro r w2 ⟨rfl, hD3, hf3⟩; refine Hid.out ?_))
  obtain ⟨cs2, hb2, hg2, hlt2⟩ := dec_blk hD2
  have hB3 := bld_d2 hB2 hb2 hf3
  have hR3 : Blk w2 w.heap.size 99 #[.string ⟨#[]⟩] := (HR1.out.fr hf2 (by omega)).fr hf3 (fun e => Blk.ne_ (HR1.out.fr hf2 (by omega)) hb2 (by decide) e)
  have hF3 : Fr (DS w b0 d d2) w w2 := ((HF1.out.mono (S' := DS w b0 d d2) (fun _ _ e => e.elim)).trans hf2 (fun k _ e => .inr (.inl e))).trans hf3 (fun k _ e => .inl e)
  have HB3 := Lib.hid hB3
  have HD3 := Lib.hid hD3
  have HR3 := Lib.hid hR3
  have HF3 := Lib.hid hF3
  have hdd : d2 ≠ d := by
    obtain ⟨_, _, hbb, _⟩ := hB2
    exact Blk.ne_ hb2 hbb (by decide)
  have hgd : g ≠ d := by
    obtain ⟨_, _, hbb, _⟩ := hB2
    exact Blk.ne_ hg2 hbb (by decide)
  clear hB3 hD3 hR3 hF3 hb2 hg2 hB2 hD2 hf2 hf3 hU hReset HF1 HR1 HD1
  refine Lib.hid ?_
  go_wp2_with fail
  go_loopw [6] (fun vi wr => ∃ k : Nat, k ≤ n ∧ vi = .int .i64 k ∧ Hid (Bld wr b0 d (gLabs st1 k).1 ⟨#[]⟩) ∧ Hid (Dec te pe wr d2 g cur (gLabs st1 k).2) ∧ Hid (Fr (DS w b0 d d2) w wr) ∧ Hid (Blk wr w.heap.size 99 #[.string ⟨#[]⟩])) (fun vi _ => n - (intOf vi).toNat)
  case atStart => exact ⟨0, Nat.zero_le _, rfl, HB3, HD3, HF3, HR3⟩
  case round =>
    obtain ⟨k, hk, rfl, JB, JD, JF, JR⟩ := hrel
    by_cases hlt : k < n
    · obtain ⟨hu1, hu2⟩ := HU.out k hlt
      have hlk := HL.out k
      obtain ⟨lk, hlkk⟩ : ∃ lk, (gLabs st1 k).1 = lk := ⟨_, rfl⟩
      obtain ⟨sk, hskk⟩ : ∃ sk, (gLabs st1 k).2 = sk := ⟨_, rfl⟩
      have hnext : gLabs st1 (k + 1) = (lk ++ [((gStr sk).1, (gStr (gStr sk).2).1)], (gStr (gStr sk).2).2) := by
        show ((gLabs st1 k).1 ++ [(gLab (gLabs st1 k).2).1], (gLab (gLabs st1 k).2).2) = _
        rw [hlkk, hskk]; rfl
      rw [hlkk] at JB hlk
      rw [hskk] at JD hu1 hu2
      have q1 := decBytes te pe d2 g cur sk wr JD.out hu1
      have HNX := Lib.hid hnext
      clear hnext hlkk hskk
      have hszw := JF.out.size
      go_wp2_with (first
        | (go_at_call 203
           refine (hQ2).mono ?_
           rintro r w2 ⟨g2', o2, c2, rfl, hne2, hcell2, hD2, hf2⟩
           have hB2 := bld_d2 hB1 hbb1 hf2
           have hq3 := unsafeAdd_any b0 d lk ⟨#[]⟩ ((gStr sk).1, (gStr (gStr sk).2).1) g1' o1 c1 g2' o2 c2 w2 hB2 (by have := hf1.size; have := hf2.size; omega) (by omega) (fun j b hj => by
             have h1 := hcell1 j b hj
             rw [hf2.cell (p := ⟨g1', o1 + j, none⟩) (World.block_lt_of_cell? _ _ h1) hne1]; exact h1) hcell2)
        | (go_at_call 203
           refine q1.mono ?_
           rintro r w1 ⟨g1', o1, c1, rfl, hne1, hcell1, hD1, hf1⟩
           have hQ2 := decBytes te pe d2 g cur (gStr sk).2 w1 hD1 hu2
           obtain ⟨cs1, hbb0, _, _⟩ := dec_blk JD.out
           obtain ⟨cs1', hbb1, _, _⟩ := dec_blk hD1
           have hB1 := bld_d2 JB.out hbb0 hf1)
        | (go_at_call 204; refine hq3.mono ?_; rintro r w3 ⟨rfl, hB3, hf3⟩; refine Hid.out ?_))
      obtain ⟨cs3, hbb3, hgb3, _⟩ := dec_blk hD2
      have F2 : Fr (DS w b0 d d2) w w2 := (JF.out.trans hf1 (fun k _ e => .inl e)).trans hf2 (fun k _ e => .inl e)
      have hR2 : Blk w2 w.heap.size 99 #[.string ⟨#[]⟩] := (JR.out.fr hf1 (fun e => Blk.ne_ JR.out hbb0 (by decide) e)).fr hf2 (fun e => Blk.ne_ (JR.out.fr hf1 (fun e => Blk.ne_ JR.out hbb0 (by decide) e)) hbb1 (by decide) e)
      have NB : Hid (Bld w3 b0 d (gLabs st1 (k + 1)).1 ⟨#[]⟩) := Lib.hid (by rw [HNX.out]; exact hB3)
      have ND : Hid (Dec te pe w3 d2 g cur (gLabs st1 (k + 1)).2) := Lib.hid (by
        rw [HNX.out]
        exact dec_fr hD2 hf3 (bldS_not hbb3 hdd (by decide)) (bldS_not hgb3 hgd (by decide)) (fun e => by rcases e with e | ⟨e, _⟩ <;> omega))
      have NF : Hid (Fr (DS w b0 d d2) w w3) := Lib.hid (Fr.trans F2 hf3 (fun k hk e => DS.back F2 k hk (.inr e)))
      have NR : Hid (Blk w3 w.heap.size 99 #[.string ⟨#[]⟩]) := Lib.hid (hR2.fr hf3 (bldS_not hR2 (by omega) (by decide)))
      clear hB3 hf3 hD2 hf2 hB2 hq3 hcell2 hQ2 hD1 hcell1 hf1 hB1 hbb0 hbb1 hbb3 hgb3 F2 hR2 q1
      refine Lib.hid ?_
      go_wp2_with fail
      go_roundw
      case rel => exact ⟨k + 1, by omega, by go_num, NB, ND, NF, NR⟩
      case measure => simp [intOf]; omega
    · obtain rfl : k = n := by omega
      have hL := builderLabels_any b0 d (gLabs st1 k).1 wr JB.out (by rw [HL.out]; omega) HS.out
      obtain ⟨cs, hbb, hgb, _⟩ := dec_blk JD.out
      have HBQ := Lib.hid hbb
      have HGQ := Lib.hid hgb
      clear hbb hgb
      go_wp2_with (go_at_call 132
                   refine hL.mono ?_
                   rintro r w4 ⟨rfl, hB4, hf4⟩
                   have hR4 := JR.out.fr hf4 (show ¬ w.heap.size = d by omega)
                   have k4 := hR4.cell 0
                   have z4 := hR4.frozen 0
                   simp at k4)
      have hR5 : Blk (w4.setCell ⟨w.heap.size, 0, none⟩ (.string (labStr (gLabs st1 k).1))) w.heap.size 99 #[.string (labStr (gLabs st1 k).1)] := by simpa using hR4.set_ 0 (.string (labStr (gLabs st1 k).1))
      have hF5 : Fr (DS w b0 d d2) w (w4.setCell ⟨w.heap.size, 0, none⟩ (.string (labStr (gLabs st1 k).1))) := (JF.out.trans hf4 (fun k _ e => .inr (.inl e))).setCell (p := ⟨w.heap.size, 0, none⟩) (.inr (Nat.le_refl _)) _
      have hc2 : d2 ≠ w.heap.size := Blk.ne_ HBQ.out JR.out (by decide)
      have hcg : g ≠ w.heap.size := Blk.ne_ HGQ.out JR.out (by decide)
      have hD5 : Dec te pe (w4.setCell ⟨w.heap.size, 0, none⟩ (.string (labStr (gLabs st1 k).1))) d2 g cur (gLabs st1 k).2 :=
        dec_fr (dec_fr JD.out hf4 hdd hgd (by omega)) (Fr.at_ w4 w.heap.size 0 _) hc2 hcg (by omega)
      generalize w4.setCell ⟨w.heap.size, 0, none⟩ (.string (labStr (gLabs st1 k).1)) = w7 at hR5 hF5 hD5 ⊢
      refine bodyPost_ret (results_cell_row (P := Tryz.prog) rfl _ _ w.heap.size 99 #[.string (labStr (gLabs st1 k).1)] (0, 0) _ rfl hR5 Tryz.underlying99 rfl (by kernel_rfl)) rfl ?_
      exact ⟨rfl, hD5, hF5⟩
end Go.Proofs.YtbkookiigkckdaaGreatDoor
