/- Markers: RecordWrite, RecordRead, same. -/
import Derived.Test.YtbkookiigkckdaaGreatDoorRk
import Derived.Test.YtbkookiigkckdaaGreatDoorRd
import Derived.Test.YtbkookiigkckdaaGreatDoorSa
namespace Go.Proofs.YtbkookiigkckdaaGreatDoor
open Go.RowKit
set_option linter.unusedVariables false
set_option linter.unusedSimpArgs false

set_option maxRecDepth 100000 in
set_option maxHeartbeats 2000000 in
theorem write1_markers (bk bp bb br : Nat) (ep lp : Value) (P : Nat → Prop) (s0 s1 s2 s3 s4 s5 s6 v z : Value) (xs : List UInt8) (l : List Mrk) (w : World) (hk : Blk w bk 3 #[.int .i64 5]) (hp : Blk w bp 54 #[s0, s1, s2, s3, s4, s5, s6]) (hb : Blk w bb 44 #[v]) (hr : Blk w br 44 #[z])
    (hown : w.ownsRow 0 5 1 v xs.length (bc xs)) (hs : Sl P w s5 2 l.length (l.flatMap Mrk.c)) (hl : xs.length ≤ 1073741824) (hsl : l.length ≤ 1073741824) (hwf : ∀ s ∈ l, s.wf) (hbr : bb ≠ br) :
    Calls Tryz.prog 90 #[.pointer (some ⟨bk, 0, none⟩), ep, .pointer (some ⟨bp, 0, none⟩), .pointer (some ⟨bb, 0, none⟩), .pointer (some ⟨br, 0, none⟩), lp] w (WroteEnds w br v.ownBlock (xs ++ encMarkers l)) := by
  have hpr : bp ≠ br := Blk.ne_ hp hr (by decide)
  have k0 := hk.cell 0
  have p1 := hp.cell 5
  have b0 := hb.cell 0
  simp at k0 p1 b0
  obtain ⟨a', n', k', rfl⟩ := own_slice hown
  have hs1 : ∃ A m c, s5 = .slice A m c := let ⟨A, c, h, _⟩ := hs; ⟨A, _, c, h⟩
  obtain ⟨A, m, c, rfl⟩ := hs1
  have hQ := refMarkers_any P (.slice A m c) l w.drew hs (by omega)
  have HB := Lib.hid hb
  have HP := Lib.hid hp
  have HR := Lib.hid hr
  have HO := Lib.hid hown
  have p1d : w.drew.cell? ⟨bp, 5, none⟩ = some (.slice A m c) := p1
  have b0d : w.drew.cell? ⟨bb, 0, none⟩ = some (.slice a' n' k') := b0
  clear hk hp hb hr hown hs
  go_enter Tryz.func90, Tryz.ntmps90
  go_wp2_with fail
  have HW := Lib.hid hwf
  clear hwf
  go_region_held3 (fun w' => w'.cell? ⟨bp, 5, none⟩ = some (.slice A m c) ∧ w'.cell? ⟨bb, 0, none⟩ = some (.slice a' n' k'))
    ((first | (go_split_ands; refine ⟨?_, ?_⟩ <;> first | exact ((HP.out.drew).fr hf1 (fun e => e)).cell 5 | exact ((HB.out.drew).fr hf1 (fun e => e)).cell 0) | (go_split_ands; refine ⟨?_, ?_⟩ <;> first | exact KP.out.cell 5 | exact KB.out.cell 0) | (go_split_ands; refine ⟨?_, ?_⟩ <;> first | exact (KP.out.far (p := ⟨br, 0, none⟩) hpr _).cell 5 | exact (KB.out.far (p := ⟨br, 0, none⟩) hbr _).cell 0) | go_keep))
    ((first
      | (go_at_call 80; refine hQ.mono ?_; rintro r1 w1 ⟨v1, rfl, hown1, hf1⟩)
      | (go_at_call 95; refine (encMarkers_any ep v1 (fun g => v1.ownBlock = some g) (.slice a' n' k') xs l w1 (Sl.ofOwn hown1) (own_fr (World.ownsRow.drew HO.out) hf1 (fun _ _ e => e)) hl hsl HW.out (write1_side hown1 HO.out (Nat.le_refl _))).mono ?_; rintro r2 w2 ⟨v2, rfl, hown2, hf2, hat2⟩; obtain ⟨KP, KB, KR⟩ := write1_keeps HP.out HB.out HR.out HO.out hf1 hf2; have q0 := KR.out.cell 0; simp at q0; have q1 := KR.out.frozen 0; obtain ⟨a2, n2, k2, rfl⟩ := own_slice hown2)))
  have HE : Fr (fun k => some k = (Value.slice a' n' k').ownBlock ∨ k = br) w (w2.setCell ⟨br, 0, none⟩ (.slice a2 n2 k2)) :=
    ((((Fr.refl (fun k => some k = (Value.slice a' n' k').ownBlock ∨ k = br) w).drew).trans hf1 (fun _ _ e => e.elim)).trans hf2 (fun _ _ e => .inl e)).setCell (p := ⟨br, 0, none⟩) (.inl (.inr rfl)) _
  have HV : Blk (w2.setCell ⟨br, 0, none⟩ (.slice a2 n2 k2)) br 44 #[.slice a2 n2 k2] := by simpa using KR.out.set_ 0 (.slice a2 n2 k2)
  have HF := Lib.hid HE
  have HVV := Lib.hid HV
  have HOW : (w2.setCell ⟨br, 0, none⟩ (.slice a2 n2 k2)).ownsRow 0 5 1 (.slice a2 n2 k2) (xs ++ encMarkers l).length (bc (xs ++ encMarkers l)) := own_fr hown2 (Fr.put_ w2 br 0 _) (fun g hg e => own_ne hown2 KR.out (by decide) (by rw [hg, e]))
  have HOWW := Lib.hid HOW
  have hsz := hf1.size
  have HAT := Lib.hid hat2
  clear HE HV HOW hown1 hf1 hown2 hf2 hat2 q0 q1 hQ p1 p1d b0 b0d
  go_wp2
  go_end0
  refine ⟨rfl, _, HVV.out, HOWW.out, HF.out, ?_⟩
  rcases HAT.out with h | ⟨k, h, hk⟩
  · exact .inl h
  · exact .inr ⟨k, h, by simp at hsz; omega⟩


/-- RecordWrite at markers. -/
theorem recordWrite_markers (s0 s1 s2 s3 s4 s5 s6 bv : Value) (xs : List UInt8) (l : List Mrk) (P : Nat → Prop) (w : World) (hb : Sl P w bv 1 xs.length (bc xs)) (hxl : xs.length ≤ 1073741824)
    (hsl : ∀ s ∈ [s0, s1, s2, s3, s4, s5, s6], ∃ A m c, s = .slice A m c) (hs : Sl P w s5 2 l.length (l.flatMap Mrk.c)) (hll : l.length ≤ 1073741824) (hwf : ∀ s ∈ l, s.wf) :
    Calls Tryz.prog 31 #[.int .i64 5, .agg #[s0, s1, s2, s3, s4, s5, s6], bv] w (WriteEnds (fun lv _ => lv = .slice none 0 0) w (xs ++ encMarkers l)) := by
  refine recordWrite_of 5 s0 s1 s2 s3 s4 s5 s6 bv xs _ P _ w hb hxl hsl (by rintro lv W rfl; exact ⟨_, _, _, rfl⟩) (fun _ _ _ h _ => h) ?_
  intro bk be bp bb br bl v W hk hp hb' hr hl hown hbr hF
  exact (write1_markers bk bp bb br _ _ P s0 s1 s2 s3 s4 s5 s6 v _ xs l W hk hp hb' hr (own_mono hown (Nat.zero_le _)) (hs.fr hF (fun _ _ e => e)) hxl hll hwf hbr).mono fun r w' h => wrote_w1 (own_mono hown (Nat.zero_le _)) hr hl h

/-- Parts that hold markers alone, in memory of the call's own. -/
def MrkParts (base : Nat) (l : List Mrk) (ps : Array Value) (w : World) : Prop :=
  ∃ lv, ps = #[.slice none 0 0, .slice none 0 0, .slice none 0 0, .slice none 0 0, .slice none 0 0, lv, .slice none 0 0] ∧ w.ownsRow base 168 2 lv l.length (l.flatMap Mrk.c)

theorem seven_of5 {lv : Value} (h : ∃ A m c, lv = .slice A m c) : Seven #[.slice none 0 0, .slice none 0 0, .slice none 0 0, .slice none 0 0, .slice none 0 0, lv, .slice none 0 0] := by
  obtain ⟨A, m, c, rfl⟩ := h
  exact ⟨_, _, _, _, _, _, _, _, _, _, _, _, _, _, _, _, _, _, _, _, _, rfl⟩

theorem recordRead_markers (te : TypeId) (pe : Value) (q0 q1 q2 q3 q4 q5 q6 bv : Value) (pre : List Mrk) (xs : List UInt8) (P : Nat → Prop) (w : World) (hb : Sl P w bv 1 xs.length (bc xs)) (hxl : xs.length ≤ 1073741824) (hP : ∀ g, P g → g < w.heap.size)
    (hsl : ∀ s ∈ [q0, q1, q2, q3, q4, q5, q6], ∃ A m c, s = .slice A m c) (hs : Sl P w q5 2 pre.length (pre.flatMap Mrk.c)) (hpl : pre.length ≤ 1073741824) (hE : w.cell? ⟨2, 0, none⟩ = some (.iface te pe)) :
    Calls Tryz.prog 29 #[.int .i64 5, bv, .agg #[q0, q1, q2, q3, q4, q5, q6]] w (ReadDone (MrkParts w.heap.size (outM pre xs)) (decMarkers xs).isSome w) := by
  have h2 := World.block_lt_of_cell? w _ hE
  refine recordRead_of 5 q0 q1 q2 q3 q4 q5 q6 bv xs P _ _ w hb hsl ?_ ?_
  · rintro ps W W' ⟨lv, rfl, ho⟩ hv
    refine ⟨lv, rfl, own_fr ho hv ?_⟩
    rintro g hg ⟨cs, h | h⟩
    · exact own_ne ho h (by decide) hg
    · exact own_ne ho h (by decide) hg
  · intro bb bk bq bp bo W hk hb' hq hp ho hbb hbp hbo hpq hF
    have hEW : W.cell? ⟨2, 0, none⟩ = some (.iface te pe) := by rw [hF.cell (p := ⟨2, 0, none⟩) h2 (fun e => e)]; exact hE
    refine (read1_markers te pe bb bk bq bp bo P q0 q1 q2 q3 q4 q5 q6 bv xs W hb' (hb.fr hF (fun _ _ e => e)) hk hq pre (hs.fr hF (fun _ _ e => e)) hpl hp ho hEW hxl (fun g hg e => by have := hP g hg; omega) hpq (by simp only [] at h2; omega)).mono ?_
    rintro r w' ⟨rfl, hf, hbo', lv, hbp', hown⟩
    have hz := hF.size
    obtain ⟨a, c, hlv⟩ := own_slice' hown
    exact ⟨rfl, hf, hbo', _, seven_of5 ⟨_, _, _, hlv⟩, hbp', lv, rfl, own_mono hown hz⟩

set_option maxHeartbeats 400000 in
/-- The elements of two slices that read alike: same says true. -/
theorem same104_any (P Q : Nat → Prop) (u v : Value) (l : List Mrk) (w : World) (hu : Sl P w u 2 l.length (l.flatMap Mrk.c)) (hv : Sl Q w v 2 l.length (l.flatMap Mrk.c)) (hl : l.length ≤ 1099511627776) : Calls Tryz.prog 104 #[u, v] w (TrueEnds w) := by
  obtain ⟨A, c, rfl, _, hc, hr⟩ := hu
  obtain ⟨B, d, rfl, _, hd, hs⟩ := hv
  obtain ⟨n, hn⟩ : ∃ n, l.length = n := ⟨_, rfl⟩
  rw [hn] at hr hs hc hd hl ⊢
  have HN := Lib.hid hn
  have HR := Lib.hid hr
  have HS := Lib.hid hs
  clear hn hr hs
  go_enter Tryz.func104, Tryz.ntmps104
  go_wp2
  go_loopw [5] (fun i wr => ∃ k : Nat, k ≤ n ∧ i = .int .i64 k ∧ Fr (fun _ => False) w wr) (fun i _ => n - (intOf i).toNat)
  case atStart => exact ⟨0, Nat.zero_le _, rfl, Fr.refl _ _⟩
  case round =>
    obtain ⟨k, hk, rfl, hf⟩ := hrel
    by_cases hlt : k < n
    · obtain ⟨g, off, rfl, _, hcell⟩ := HR.out (by omega)
      obtain ⟨g2, off2, rfl, _, hcell2⟩ := HS.out (by omega)
      obtain ⟨x, hx⟩ : ∃ x, l[k]? = some x := ⟨_, List.getElem?_eq_getElem (by rw [HN.out]; exact hlt)⟩
      have key : ∀ {g off : Nat}, (∀ j u, (l.flatMap Mrk.c)[j]? = some u → w.cell? ⟨g, off + j, none⟩ = some u) → ∀ j, j < 2 → ∀ u, (Mrk.c x)[j]? = some u → wr.drew.cell? ⟨g, off + (k * 2 + j), none⟩ = some u := fun {g off} hcell j hj u hu => by
        have := hcell (k * 2 + j) u (by rw [flat2 Mrk.c (fun _ => rfl) l k x hx j hj]; exact hu)
        rw [hf.drew.cell (p := ⟨g, off + (k * 2 + j), none⟩) (World.block_lt_of_cell? w _ this) (fun e => e)]
        exact this
      have c0 : wr.drew.cell? ⟨g, off + k * 2, none⟩ = some (.int .u64 x.ref) := key hcell 0 (by omega) _ rfl
      have c1 : wr.drew.cell? ⟨g, off + k * 2 + 1, none⟩ = some (.int .u64 x.mm) := key hcell 1 (by omega) _ rfl
      have d0 : wr.drew.cell? ⟨g2, off2 + k * 2, none⟩ = some (.int .u64 x.ref) := key hcell2 0 (by omega) _ rfl
      have d1 : wr.drew.cell? ⟨g2, off2 + k * 2 + 1, none⟩ = some (.int .u64 x.mm) := key hcell2 1 (by omega) _ rfl
      have hf2 := Lib.hid hf.drew
      clear hcell hcell2 key hf hx
      go_wp2
      go_region
      go_wp2
      go_roundw
      case rel => exact ⟨k + 1, by omega, by go_num, hf2.out⟩
      case measure => simp [intOf]; omega
    · obtain rfl : k = n := by omega
      go_wp2
      go_ret
      exact ⟨rfl, hf⟩
end Go.Proofs.YtbkookiigkckdaaGreatDoor
