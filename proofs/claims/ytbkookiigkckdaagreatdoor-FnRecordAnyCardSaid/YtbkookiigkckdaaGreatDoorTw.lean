/- RecordWrite's closure at tombstones; RecordWrite. -/
import Derived.Test.YtbkookiigkckdaaGreatDoorTd
import Derived.Test.YtbkookiigkckdaaGreatDoorRd
namespace Go.Proofs.YtbkookiigkckdaaGreatDoor
open Go.RowKit
set_option linter.unusedVariables false
set_option linter.unusedSimpArgs false

theorem lo_bounds {lo lv : List (Ston × Value)} (hm : lo.map Prod.fst = lv.map Prod.fst) (hsl : lv.length ≤ 4096) (hil : ∀ s ∈ lv.map Prod.fst, s.ivs.length ≤ 4096) (hwf : ∀ s ∈ lv.map Prod.fst, s.wf) :
    lo.length ≤ 4096 ∧ (∀ p ∈ lo, p.1.ivs.length ≤ 4096) ∧ (∀ s ∈ lo.map Prod.fst, s.wf) := by
  have h1 : lo.length = lv.length := by have := congrArg List.length hm; simpa using this
  refine ⟨by omega, fun p hp => hil _ ?_, fun s hs => hwf _ ?_⟩
  · rw [← hm]; exact List.mem_map.2 ⟨p, hp, rfl⟩
  · rw [← hm]; exact hs
theorem stones_side {w w1 : World} {v : Value} {m : Nat} {ys : List Value} (h : w.ownsRow 0 5 1 v m ys) : ∀ g, (w.drew.heap.size ≤ g ∧ g < w1.heap.size) → g < w1.heap.size ∧ some g ≠ v.ownBlock := fun g hg =>
  ⟨hg.2, fun e => by have h1 := own_lt h e.symm; have h2 : w.heap.size ≤ g := hg.1; omega⟩

set_option maxRecDepth 100000 in
set_option maxHeartbeats 2000000 in
theorem write1_stones (bk bp bb br : Nat) (ep lp : Value) (P : Nat → Prop) (s0 s1 s2 s3 s4 s5 s6 v z : Value) (xs : List UInt8) (lv : List (Ston × Value)) (w : World) (hk : Blk w bk 3 #[.int .i64 3]) (hp : Blk w bp 54 #[s0, s1, s2, s3, s4, s5, s6]) (hb : Blk w bb 44 #[v]) (hr : Blk w br 44 #[z])
    (hown : w.ownsRow 0 5 1 v xs.length (bc xs)) (hs : SlS P w s2 lv) (hl : xs.length ≤ 1073741824) (hsl : lv.length ≤ 4096) (hil : ∀ s ∈ lv.map Prod.fst, s.ivs.length ≤ 4096) (hwf : ∀ s ∈ lv.map Prod.fst, s.wf) (hbr : bb ≠ br) :
    Calls Tryz.prog 90 #[.pointer (some ⟨bk, 0, none⟩), ep, .pointer (some ⟨bp, 0, none⟩), .pointer (some ⟨bb, 0, none⟩), .pointer (some ⟨br, 0, none⟩), lp] w (WroteEnds w br v.ownBlock (xs ++ encStones (lv.map Prod.fst))) := by
  have hpr : bp ≠ br := Blk.ne_ hp hr (by decide)
  have k0 := hk.cell 0
  have p1 := hp.cell 2
  have b0 := hb.cell 0
  simp at k0 p1 b0
  obtain ⟨a', n', k', rfl⟩ := own_slice hown
  have hs1 : ∃ A m c, s2 = .slice A m c := let ⟨A, c, h, _⟩ := hs.1; ⟨A, _, c, h⟩
  obtain ⟨A, m, c, rfl⟩ := hs1
  have hQ := refStones_any P (.slice A m c) lv w.drew hs (by omega) (fun p hp => by have := hil p.1 (List.mem_map.2 ⟨p, hp, rfl⟩); omega)
  have HB := Lib.hid hb
  have HP := Lib.hid hp
  have HR := Lib.hid hr
  have HO := Lib.hid hown
  have p1d : w.drew.cell? ⟨bp, 2, none⟩ = some (.slice A m c) := p1
  have b0d : w.drew.cell? ⟨bb, 0, none⟩ = some (.slice a' n' k') := b0
  clear hk hp hb hr hown hs
  go_enter Tryz.func90, Tryz.ntmps90
  go_wp2_with fail
  have HW := Lib.hid hwf
  clear hwf
  go_region_held3 (fun w' => w'.cell? ⟨bp, 2, none⟩ = some (.slice A m c) ∧ w'.cell? ⟨bb, 0, none⟩ = some (.slice a' n' k'))
    ((first | (go_split_ands; refine ⟨?_, ?_⟩ <;> first | exact ((HP.out.drew).fr hf1 (fun e => e)).cell 2 | exact ((HB.out.drew).fr hf1 (fun e => e)).cell 0) | (go_split_ands; refine ⟨?_, ?_⟩ <;> first | exact KP.out.cell 2 | exact KB.out.cell 0) | (go_split_ands; refine ⟨?_, ?_⟩ <;> first | exact (KP.out.far (p := ⟨br, 0, none⟩) hpr _).cell 2 | exact (KB.out.far (p := ⟨br, 0, none⟩) hbr _).cell 0) | go_keep))
    ((first
      | (go_at_call 75; refine hQ.mono ?_; rintro r1 w1 ⟨v1, lo, rfl, hm1, hown1, hf1⟩; have LB := lo_bounds hm1 hsl hil HW.out)
      | (go_at_call 93; refine (encStones_any ep v1 _ (.slice a' n' k') xs lo w1 hown1.sl (own_fr (World.ownsRow.drew HO.out) hf1 (fun _ _ e => e)) hl LB.1 LB.2.1 LB.2.2 (stones_side HO.out)).mono ?_; rintro r2 w2 ⟨v2, rfl, hown2, hf2, hat2⟩; rw [hm1] at hown2; obtain ⟨KP, KB, KR⟩ := write1_keeps HP.out HB.out HR.out HO.out hf1 hf2; have q0 := KR.out.cell 0; simp at q0; have q1 := KR.out.frozen 0; obtain ⟨a2, n2, k2, rfl⟩ := own_slice hown2)))
  have HE : Fr (fun k => some k = (Value.slice a' n' k').ownBlock ∨ k = br) w (w2.setCell ⟨br, 0, none⟩ (.slice a2 n2 k2)) :=
    ((((Fr.refl (fun k => some k = (Value.slice a' n' k').ownBlock ∨ k = br) w).drew).trans hf1 (fun _ _ e => e.elim)).trans hf2 (fun _ _ e => .inl e)).setCell (p := ⟨br, 0, none⟩) (.inl (.inr rfl)) _
  have HV : Blk (w2.setCell ⟨br, 0, none⟩ (.slice a2 n2 k2)) br 44 #[.slice a2 n2 k2] := by simpa using KR.out.set_ 0 (.slice a2 n2 k2)
  have HF := Lib.hid HE
  have HVV := Lib.hid HV
  have HOW : (w2.setCell ⟨br, 0, none⟩ (.slice a2 n2 k2)).ownsRow 0 5 1 (.slice a2 n2 k2) (xs ++ encStones (lv.map Prod.fst)).length (bc (xs ++ encStones (lv.map Prod.fst))) := own_fr hown2 (Fr.put_ w2 br 0 _) (fun g hg e => own_ne hown2 KR.out (by decide) (by rw [hg, e]))
  have HOWW := Lib.hid HOW
  have hsz := hf1.size
  have HAT := Lib.hid hat2
  clear HE HV HOW hown1 hf1 hown2 hf2 hat2 q0 q1 hQ p1 p1d b0 b0d
  go_wp2
  go_end0
  refine ⟨rfl, _, HVV.out, HOWW.out, HF.out, ?_⟩
  rcases HAT.out with h | ⟨k, h, hk⟩
  · exact .inl h
  · exact .inr ⟨k, h, by simp at hsz; omega⟩


/-- RecordWrite at tombstones. -/
theorem recordWrite_stones (s0 s1 s2 s3 s4 s5 s6 bv : Value) (xs : List UInt8) (lv : List (Ston × Value)) (P : Nat → Prop) (w : World) (hb : Sl P w bv 1 xs.length (bc xs)) (hxl : xs.length ≤ 1073741824)
    (hsl : ∀ s ∈ [s0, s1, s2, s3, s4, s5, s6], ∃ A m c, s = .slice A m c) (hs : SlS P w s2 lv) (hll : lv.length ≤ 4096) (hil : ∀ s ∈ lv.map Prod.fst, s.ivs.length ≤ 4096) (hwf : ∀ s ∈ lv.map Prod.fst, s.wf) :
    Calls Tryz.prog 31 #[.int .i64 3, .agg #[s0, s1, s2, s3, s4, s5, s6], bv] w (WriteEnds (fun lv _ => lv = .slice none 0 0) w (xs ++ encStones (lv.map Prod.fst))) := by
  refine recordWrite_of 3 s0 s1 s2 s3 s4 s5 s6 bv xs _ P _ w hb hxl hsl (by rintro lv W rfl; exact ⟨_, _, _, rfl⟩) (fun _ _ _ h _ => h) ?_
  intro bk be bp bb br bl v W hk hp hb' hr hl hown hbr hF
  exact (write1_stones bk bp bb br _ _ P s0 s1 s2 s3 s4 s5 s6 v _ xs lv W hk hp hb' hr (own_mono hown (Nat.zero_le _)) (hs.fr hF (fun _ _ e => e)) hxl hll hil hwf hbr).mono fun r w' h => wrote_w1 (own_mono hown (Nat.zero_le _)) hr hl h
end Go.Proofs.YtbkookiigkckdaaGreatDoor
