/- RecordRead's closure at tombstones; RecordRead. -/
import Derived.Test.YtbkookiigkckdaaGreatDoorTd
import Derived.Test.YtbkookiigkckdaaGreatDoorRk
import Derived.Test.YtbkookiigkckdaaGreatDoorRd
import Derived.Test.YtbkookiigkckdaaGreatDoorLb
namespace Go.Proofs.YtbkookiigkckdaaGreatDoor
open Go.RowKit
set_option linter.unusedVariables false
set_option linter.unusedSimpArgs false

def outS (pre : List Ston) (xs : List UInt8) : List Ston := match decStones xs with | some l => pre ++ l.map one | none => []

def ReadEndsS (w : World) (bb bp bo : Nat) (pre : List Ston) (xs : List UInt8) (r : Ending) (w' : World) : Prop :=
  r = .returned (.tuple #[]) ∧ Fr (fun k => k = bb ∨ k = bp ∨ k = bo) w w' ∧ Blk w' bo 4 #[.bool (decStones xs).isSome] ∧
    ∃ v lo, Blk w' bp 54 #[.slice none 0 0, .slice none 0 0, v, .slice none 0 0, .slice none 0 0, .slice none 0 0, .slice none 0 0] ∧ lo.map Prod.fst = outS pre xs ∧ OwnS w.heap.size 151 281 w' v lo

theorem outS_len (pre : List Ston) (xs : List UInt8) : (outS pre xs).length ≤ pre.length + xs.length := by
  unfold outS
  split
  · rename_i h
    have := decParts_len h
    rw [List.length_append, List.length_map]; omega
  · simp
theorem outS_ivs {pre : List Ston} {xs : List UInt8} (h : ∀ s ∈ pre, s.ivs.length ≤ 1073741824) : ∀ s ∈ outS pre xs, s.ivs.length ≤ 1073741824 := by
  unfold outS
  split
  · intro s hs
    rcases List.mem_append.1 hs with hs | hs
    · exact h s hs
    · obtain ⟨t, _, rfl⟩ := List.mem_map.1 hs
      simp [one]
  · intro s hs; cases hs

theorem stones_uniform {w w' : World} {base : Nat} {o : Option Nat} {pre : List Ston} {xs : List UInt8} {r : Ending} (h : StonesEnds w base o pre xs r w') :
    ∃ v' e lo, r = .returned (.tuple #[v', e]) ∧ lo.map Prod.fst = outS pre xs ∧ OwnS base 147 279 w' v' lo ∧ Fr (fun k => some k = o) w w' ∧ ((e = .nilIface ∧ (decStones xs).isSome = true) ∨ (∃ t a, e = .iface t a ∧ (decStones xs).isSome = false)) := by
  unfold StonesEnds at h
  unfold outS
  rcases hd : decStones xs with _ | l
  · rw [hd] at h
    obtain ⟨hf, t, a, rfl⟩ := h
    exact ⟨_, _, [], rfl, rfl, OwnS.nil _ _ _ _, hf, .inr ⟨_, _, rfl, rfl⟩⟩
  · rw [hd] at h
    obtain ⟨hf, v', lo, rfl, hm, ho⟩ := h
    exact ⟨_, _, lo, rfl, hm, ho, hf, .inl ⟨rfl, rfl⟩⟩
theorem rd_keepS {W w5 w6 : World} {b t : Nat} {cs : Array Value} {v5 : Value} {lo : List (Ston × Value)} (h : Blk W b t cs) (hf5 : Fr (fun _ => False) W.drew w5) (ho : OwnS W.drew.heap.size 147 279 w5 v5 lo) (hf6 : Fr (fun k => some k = v5.ownBlock) w5 w6) : Blk w6 b t cs :=
  (h.drew.fr hf5 (fun e => e)).fr hf6 (fun e => by have h1 := (ho.1.lt b e.symm).1; have h2 : b < W.heap.size := h.lt; exact Nat.lt_irrefl _ (Nat.lt_of_lt_of_le h2 h1))

set_option maxRecDepth 100000 in
set_option maxHeartbeats 4000000 in
theorem read1_stones (te : TypeId) (pe : Value) (bb bk bq bp bo : Nat) (P : Nat → Prop) (q0 q1 q2 q3 q4 q5 q6 v : Value) (xs : List UInt8) (w : World) (hb : Blk w bb 44 #[v]) (hv : Sl P w v 1 xs.length (bc xs)) (hk : Blk w bk 3 #[.int .i64 3]) (hq : Blk w bq 54 #[q0, q1, q2, q3, q4, q5, q6]) (lp : List (Ston × Value)) (hs : SlS P w q2 lp) (hpl : lp.length ≤ 1073741824) (hpi : ∀ s ∈ lp.map Prod.fst, s.ivs.length ≤ 1073741824)
    (hp : Blk w bp 54 #[.slice none 0 0, .slice none 0 0, .slice none 0 0, .slice none 0 0, .slice none 0 0, .slice none 0 0, .slice none 0 0]) (ho : Blk w bo 4 #[.bool false]) (hE : w.cell? ⟨2, 0, none⟩ = some (.iface te pe)) (hxl : xs.length ≤ 1073741824)
    (hPb : ∀ g, P g → g ≠ bb) (hpq : bp ≠ bq) (h2 : bb ≠ 2 ∧ bp ≠ 2 ∧ bo ≠ 2) :
    Calls Tryz.prog 66 #[.pointer (some ⟨bb, 0, none⟩), .pointer (some ⟨bk, 0, none⟩), .pointer (some ⟨bq, 0, none⟩), .pointer (some ⟨bp, 0, none⟩), .pointer (some ⟨bo, 0, none⟩)] w (ReadEndsS w bb bp bo (lp.map Prod.fst) xs) := by
  obtain ⟨i0, hi0, hz0, hz1, hz2⟩ := info_parts Tryz.info5
  have HB := Lib.hid hb
  have HV := Lib.hid hv
  have HK := Lib.hid hk
  have HQ := Lib.hid hq
  have HS := Lib.hid hs
  have HP := Lib.hid hp
  have HO := Lib.hid ho
  have HE := Lib.hid hE
  have HPB := Lib.hid hPb
  have hv1 : ∃ A m c, v = .slice A m c := let ⟨A, c, h, _⟩ := hv; ⟨A, _, c, h⟩
  obtain ⟨A, m, c, rfl⟩ := hv1
  clear hb hv hk hq hs hp ho hE hPb
  go_enter Tryz.func66, Tryz.ntmps66
  go_wp2_with (first | (go_at_call 67; refine (newDec_any _ _).mono ?_; rintro r w1 ⟨v1, rfl, ⟨a, rfl⟩, hf1⟩; refine Hid.out ?_))
  have hB1 := ((HB.out.fr hf1 (fun e => e)).alloc (.cells #[.slice (some a) 0 0, .string ⟨#[]⟩, .slice none 0 0] 119)).alloc (.cells #[] 5)
  have b1 := hB1.cell 0
  simp at b1
  clear hB1
  refine Lib.hid ?_
  go_wp2_with (at_builtin; refine Hid.out ?_)
  have hO0 := World.ownsRow_made (base := w.heap.size) (e := 5) (size := 1) (w1.alloc (.cells #[.slice (some a) 0 0, .string ⟨#[]⟩, .slice none 0 0] 119)) #[] 0 (by have := hf1.size; simp; omega) (Nat.zero_le _) rfl
  have hFA : Fr (fun _ => False) w ((w1.alloc (.cells #[.slice (some a) 0 0, .string ⟨#[]⟩, .slice none 0 0] 119)).alloc (.cells #[] 5)) := (hf1.alloc _).alloc _
  have hs1 := hf1.size
  refine Lib.hid ?_
  have hg0 : (w1.alloc (.cells #[.slice (some a) 0 0, .string ⟨#[]⟩, .slice none 0 0] 119)).heap.size = w1.heap.size + 1 := by simp
  rw [hg0] at hO0
  clear b1
  generalize World.alloc _ (Obj.cells #[] 5) = WA at hO0 hFA ⊢
  have hsA := hFA.size
  have hsrc := src_sl Tryz.underlying44 (HV.out.fr hFA (fun _ _ e => e)) (bc_one xs)
  refine wpList_append_src _ rfl _ _ 44 44 rfl w.heap.size 5 i0 (.int .u8 0) 1 1 Tryz.underlying44 hi0 hz0 hz1 hz2 rfl (by decide) (.slice (some ⟨w1.heap.size + 1, 0, none⟩) 0 0) 0 [] rfl hO0 (.slice A m c) xs.length (bc xs) rfl hsrc (by unfold maxLen; omega) (by omega) (by omega) ?_
  intro v' w2 hown' hgrow hat
  rw [Nat.zero_add, List.nil_append] at hown'
  obtain ⟨a2, k2, rfl⟩ := own_slice' hown'
  have hge : ∀ k, (Value.slice (some ⟨w1.heap.size + 1, 0, none⟩) 0 0).ownBlock = some k → w.heap.size ≤ k := fun k hk => by
    have hk : w1.heap.size + 1 = k := Option.some.inj hk
    omega
  have F2 : Fr (fun _ => False) w w2 := hFA.grown hgrow (fun k hk => .inr (hge k hk))
  have hrow2 : ∃ g2 cur2, a2 = some ⟨g2, 0, none⟩ ∧ w.heap.size ≤ g2 ∧ Blk w2 g2 5 cur2 ∧ xs.length ≤ k2 ∧ k2 ≤ maxLen ∧ cur2.toList.take xs.length = bc xs := by
    rcases hown'.2 with ⟨h, _⟩ | ⟨g2, cap, cur2, h, h1, h3, h4, h5, _, h6⟩
    · rw [h] at hat
      rcases hat with hat | hat <;> exact absurd hat (by simp [Value.ownBlock])
    · injection h with e1 e2 e3
      subst e3
      exact ⟨g2, cur2, e1, h1, h3, h4, h5, by simpa using h6⟩
  have hge2 : ∀ k, (Value.slice a2 xs.length k2).ownBlock = some k → w.heap.size ≤ k := fun k hk => (hown'.lt k hk).1
  have lB := HB.out.lt
  have gB := HB.out.fr F2 (fun e => e)
  have y0 := gB.cell 0
  have y1 := gB.frozen 0
  simp at y0
  have F3 : Fr (fun k => k = bb) w (w2.setCell ⟨bb, 0, none⟩ (.slice a2 xs.length k2)) := (F2.mono (S' := fun k => k = bb) (fun _ _ e => e.elim)).setCell (p := ⟨bb, 0, none⟩) (.inl rfl) _
  have O3 : (w2.setCell ⟨bb, 0, none⟩ (.slice a2 xs.length k2)).ownsRow w.heap.size 5 1 (.slice a2 xs.length k2) xs.length (bc xs) := own_fr hown' (Fr.put_ w2 bb 0 _) (fun k hk e => by have := hge2 k hk; omega)
  have B3 : Blk (w2.setCell ⟨bb, 0, none⟩ (.slice a2 xs.length k2)) bb 44 #[.slice a2 xs.length k2] := by simpa using gB.set_ 0 (.slice a2 xs.length k2)
  have K3 := (HK.out.fr F3 (fun e => Blk.ne_ HK.out HB.out (by decide) e)).cell 0
  have Q3 := HQ.out.fr F3 (fun e => Blk.ne_ HQ.out HB.out (by decide) e)
  have P3 := HP.out.fr F3 (fun e => Blk.ne_ HP.out HB.out (by decide) e)
  have O4 := HO.out.fr F3 (fun e => Blk.ne_ HO.out HB.out (by decide) e)
  have E3 : (w2.setCell ⟨bb, 0, none⟩ (.slice a2 xs.length k2)).cell? ⟨2, 0, none⟩ = some (.iface te pe) := by
    rw [F3.cell (p := ⟨2, 0, none⟩) (World.block_lt_of_cell? w _ HE.out) (fun e => h2.1 e.symm)]; exact HE.out
  simp at K3
  have HF3 := Lib.hid F3
  have HO3 := Lib.hid O3
  have HB3 := Lib.hid B3
  have HQ3 := Lib.hid Q3
  have HP3 := Lib.hid P3
  have HO4 := Lib.hid O4
  have HE3 := Lib.hid E3
  have HGE := Lib.hid hge2
  obtain ⟨g2, cur2, rfl, hg2, hbk2, hk2, hk2m, htk2⟩ := hrow2
  have R3 : Rec te pe (w2.setCell ⟨bb, 0, none⟩ (.slice (some ⟨g2, 0, none⟩) xs.length k2)) g2 cur2 xs (.slice (some ⟨g2, 0, none⟩) xs.length k2) := by
    refine ⟨0, k2, rfl, hbk2.far (p := ⟨bb, 0, none⟩) (by show g2 ≠ bb; omega) _, hk2, ⟨by simp [maxLen] at hk2m; omega, by omega⟩, fun j u hu => ?_, E3⟩
    rw [Nat.zero_add, ← Array.getElem?_toList]
    have hj : j < xs.length := by
      rcases Nat.lt_or_ge j xs.length with h | h
      · exact h
      · rw [List.getElem?_eq_none (by rw [bc_len]; exact h)] at hu; cases hu
    rw [← htk2, List.getElem?_take_of_lt hj] at hu
    exact hu
  have HR3 := Lib.hid R3
  have hg2l := hbk2.lt
  clear R3 hk2m htk2 hbk2
  clear F2 F3 O3 B3 Q3 P3 O4 E3 gB hge hge2 hown' hgrow hat hsrc hO0 hFA hf1
  go_wp2_with fail
  generalize w2.setCell ⟨bb, 0, none⟩ (.slice (some ⟨g2, 0, none⟩) xs.length k2) = W3 at HF3 HO3 HB3 HQ3 HP3 HO4 HE3 HR3 ⊢
  have hl3 := HR3.out
  have hg3 : g2 < W3.heap.size := let ⟨_, _, _, h, _⟩ := hl3; h.lt
  have h23 : 2 < W3.heap.size := World.block_lt_of_cell? W3 _ HE3.out
  clear hl3
  have hS3 : SlS P W3.drew q2 lp := HS.out.fr HF3.out.drew (fun g hg e => HPB.out g hg e)
  have hR1 := refStones_any P q2 lp W3.drew hS3 (by omega) (fun p hp => by have := hpi p.1 (List.mem_map.2 ⟨p, hp, rfl⟩); omega)
  have hq1 : ∃ A m c, q2 = .slice A m c := let ⟨A, c, h, _⟩ := HS.out.1; ⟨A, _, c, h⟩
  obtain ⟨Aq, mq, cq, rfl⟩ := hq1
  have x0 := HB3.out.cell 0
  have x1 := HQ3.out.cell 2
  have x0d : W3.drew.cell? ⟨bb, 0, none⟩ = some (.slice (some ⟨g2, 0, none⟩) xs.length k2) := x0
  have x1d : W3.drew.cell? ⟨bq, 2, none⟩ = some (.slice Aq mq cq) := x1
  simp at x0 x1
  clear y0 y1 K3
  go_region_held3 (fun w' => w'.cell? ⟨bb, 0, none⟩ = some (.slice (some ⟨g2, 0, none⟩) xs.length k2) ∧ w'.cell? ⟨bq, 2, none⟩ = some (.slice Aq mq cq))
    ((first | (go_split_ands; refine ⟨?_, ?_⟩ <;> first | exact (HB3.out.drew.fr hf5 (fun e => e)).cell 0 | exact (HQ3.out.drew.fr hf5 (fun e => e)).cell 2) | (go_split_ands; refine ⟨?_, ?_⟩ <;> first | exact KB.out.cell 0 | exact KQ.out.cell 2) | go_keep))
    ((first
      | (go_at_call 75; refine hR1.mono ?_; rintro r5 w5 ⟨v5, l5, rfl, hm5, hown5, hf5⟩; have hl5 : l5.length ≤ 1073741824 := by have h := congrArg List.length hm5; simp at h; omega)
      | (go_at_call 74; refine (decStones_any te pe _ g2 W3.drew.heap.size cur2 l5 xs _ v5 w5 (HR3.out.fr (w := W3) (((Fr.refl (fun _ => False) W3).drew).same hf5) (fun e => e) (fun e => e)) hown5 ⟨hg3, h23, hf5.size⟩ hl5).mono ?_; rintro r6 w6 hE6; obtain ⟨v6, e6, l6, rfl, hm6, hown6, hf6, hor6⟩ := stones_uniform hE6; clear hE6; rw [hm5] at hm6; have KB := Lib.hid (rd_keepS HB3.out hf5 hown5 hf6); have KQ := Lib.hid (rd_keepS HQ3.out hf5 hown5 hf6))))
  have T6 : Fr (fun k => k = bb) w w6 := ((HF3.out.trans (((Fr.refl (fun _ => False) W3).drew).same hf5) (fun _ _ e => e.elim)).trans hf6 (fun k hk e => by
    have h1 := (hown5.1.lt k e.symm).1
    have h2 := HF3.out.size
    simp at h1; omega))
  have P6 := rd_keepS HP3.out hf5 hown5 hf6
  have O6 := rd_keepS HO4.out hf5 hown5 hf6
  have hz6 : w.heap.size ≤ W3.drew.heap.size := HF3.out.size
  have V6 := OwnS.mono hown6 hz6
  have HT6 := Lib.hid T6
  have HP6 := Lib.hid P6
  have HO6 := Lib.hid O6
  have HV6 := Lib.hid V6
  have HOR := Lib.hid hor6
  have hsz5 := hf5.size
  have hsz6 := hf6.size
  have hb6 : ∀ k, v6.ownBlock = some k → k < w6.heap.size := fun k hk => own_lt hown6.1 hk
  clear x0 x1 x0d x1d hR1 T6 P6 O6 V6 hor6 hown5 hf5 hown6 hf6 KB KQ HO3 HB3 HQ3 HP3 HO4 HE3 HR3 HF3
  have HM6 := Lib.hid hm6
  clear hm6 hm5 hl5
  have h6len : l6.length ≤ 1073741824 + 1073741824 := by
    have h1 := outS_len (lp.map Prod.fst) xs
    have h2 := congrArg List.length HM6.out
    rw [List.length_map] at h2
    rw [List.length_map] at h1
    omega
  have h6iv : ∀ p ∈ l6, p.1.ivs.length ≤ 1073741824 := fun p hp => outS_ivs hpi p.1 (by rw [← HM6.out]; exact List.mem_map.2 ⟨p, hp, rfl⟩)
  have H6L := Lib.hid h6len
  have H6I := Lib.hid h6iv
  clear h6len h6iv hpi
  obtain ⟨a6, k6, rfl⟩ := own_slice' HV6.out.1
  go_wp2_with fail
  obtain ⟨n, hn⟩ : ∃ n, l6.length = n := ⟨_, rfl⟩
  have HN := Lib.hid hn
  rw [hn] at HV6 hb6 ⊢
  clear hn
  obtain ⟨i1, hi1, hy0, hy1, hy2⟩ := info_parts Tryz.info151
  go_loopw [113] (fun i wr => ∃ (k : Nat) (lv : Value) (lo : List (Ston × Value)), k ≤ n ∧ i = .int .i64 k ∧ Hid (Fr (fun j => j = bb ∨ j = bp) w wr) ∧ Hid (OwnS w.heap.size 147 279 wr (.slice a6 n k6) l6) ∧ Hid (Blk wr bo 4 #[.bool false]) ∧
      Hid (Blk wr bp 54 #[.slice none 0 0, .slice none 0 0, lv, .slice none 0 0, .slice none 0 0, .slice none 0 0, .slice none 0 0]) ∧ Hid (OwnS w.heap.size 151 281 wr lv lo) ∧ Hid (lo.map Prod.fst = (l6.take k).map Prod.fst) ∧ Hid (lo.length = k)) (fun i _ => n - (intOf i).toNat)
  case atStart => exact ⟨0, _, [], Nat.zero_le _, rfl, Lib.hid (Fr.mono HT6.out (fun _ _ e => Or.inl e)), HV6, HO6, HP6, Lib.hid (OwnS.nil _ _ _ _), Lib.hid rfl, Lib.hid rfl⟩
  case round =>
    obtain ⟨k, lv, lo, hk, rfl, RF, RV, RO, RP, RL, RM, RN⟩ := hrel
    by_cases hlt : k < n
    · obtain ⟨A7, c7, e7, _, _, hr7⟩ := Sl.ofOwn RV.out.1
      injection e7 with e7 e7n e7c
      clear e7n
      subst e7 e7c
      obtain ⟨g7, off7, rfl, _, hcell7⟩ := hr7 (by have := HN.out; omega)
      obtain ⟨x, hx⟩ : ∃ x, l6[k]? = some x := ⟨_, List.getElem?_eq_getElem (by rw [HN.out]; exact hlt)⟩
      have cc : ∀ j, j < 2 → ∀ u, (stc x)[j]? = some u → wr.cell? ⟨g7, off7 + (k * 2 + j), none⟩ = some u := fun j hj u hu =>
        hcell7 (k * 2 + j) u (by rw [flat2 stc (fun _ => rfl) l6 k x hx j hj]; exact hu)
      have c0 : wr.cell? ⟨g7, off7 + k * 2, none⟩ = some (.int .u64 x.1.ref) := cc 0 (by omega) _ rfl
      have c1 : wr.cell? ⟨g7, off7 + k * 2 + 1, none⟩ = some x.2 := cc 1 (by omega) _ rfl
      have hxm := List.mem_of_getElem? hx
      have hiv := RV.out.2 x hxm
      have hivl := H6I.out x hxm
      obtain ⟨⟨ref, ivs⟩, iv⟩ := x
      simp only [] at c0 c1 hiv hivl
      obtain ⟨Ai, ci, rfl⟩ := own_slice' hiv
      have HX := Lib.hid hx
      have HIV := Lib.hid hiv
      obtain ⟨aL, kL, rfl⟩ := own_slice' RL.out.1
      clear hcell7 hr7 cc hx hxm hiv
      go_wp2_with fail
      have hB8 := Blk.new wr 147 #[.int .u64 ref, .slice Ai ivs.length ci]
      have s0 := hB8.cell 0
      have s1 := hB8.cell 1
      have hP8 := RP.out.alloc (.cells #[.int .u64 ref, .slice Ai ivs.length ci] 147)
      have s3 := hP8.cell 2
      simp only [List.getElem?_toArray, List.getElem?_cons_zero, List.getElem?_cons_succ] at s0 s1 s3
      have lP := RP.out.lt
      have hsz := RF.out.size
      have hloz : lo.length ≤ 1073741824 + 1073741824 := by have h1 := RN.out; have h2 := H6L.out; have h3 := HN.out; omega
      have hk40 : k < 4294967296 := by have h1 := RN.out; omega
      have HB8 := Lib.hid hB8
      have HP8 := Lib.hid hP8
      have hC := unintervals_any _ (.slice Ai ivs.length ci) ivs (wr.alloc (.cells #[.int .u64 ref, .slice Ai ivs.length ci] 147)).drew (Sl.ofOwn (HIV.out.alloc (.cells #[.int .u64 ref, .slice Ai ivs.length ci] 147)).drew) (by omega)
      clear hB8 hP8
      refine wp_region_but (fun w' => w'.cell? ⟨bp, 2, none⟩ = some (.slice aL lo.length kL) ∧ w'.cell? ⟨wr.heap.size, 0, none⟩ = some (.int .u64 ref) ∧ w'.cell? ⟨wr.heap.size, 1, none⟩ = some (.slice Ai ivs.length ci)) 9 (by kernel_rfl) ⟨s3, s0, s1⟩ ?_
      intro hS
      refine wpBut_take 0 (.pointer (some ⟨bp, 2, none⟩)) rfl (by kernel_rfl) (by kernel_rfl) (by kernel_rfl) (by kernel_rfl) (fun _ _ _ h => h) (by rfl) (by intro w; go_simp) hS ?_
      try simp only [Act.put, List.setIfInBounds_toArray, List.set_cons_zero, List.set_cons_succ]
      refine wpBut_load 1 [9, 11] (.slice aL lo.length kL) rfl (by kernel_rfl) (by kernel_rfl) (by kernel_rfl) (by kernel_rfl) (by kernel_rfl) (by kernel_rfl) (by kernel_rfl) (fun _ _ _ h => h) (by rfl) (by rintro w ⟨h1, h2, h3⟩; go_simp) hS ?_
      try simp only [Act.put, List.setIfInBounds_toArray, List.set_cons_zero, List.set_cons_succ]
      refine wpBut_take 2 (.pointer (some ⟨wr.heap.size, 0, none⟩)) rfl (by kernel_rfl) (by kernel_rfl) (by kernel_rfl) (by kernel_rfl) (fun _ _ _ h => h) (by rfl) (by intro w; go_simp) hS ?_
      try simp only [Act.put, List.setIfInBounds_toArray, List.set_cons_zero, List.set_cons_succ]
      refine wpBut_load 3 [7, 8, 9, 11] (.int .u64 ref) rfl (by kernel_rfl) (by kernel_rfl) (by kernel_rfl) (by kernel_rfl) (by kernel_rfl) (by kernel_rfl) (by kernel_rfl) (fun _ _ _ h => h) (by rfl) (by rintro w ⟨h1, h2, h3⟩; go_simp) hS ?_
      try simp only [Act.put, List.setIfInBounds_toArray, List.set_cons_zero, List.set_cons_succ]
      refine wpBut_take 4 (.pointer (some ⟨wr.heap.size, 1, none⟩)) rfl (by kernel_rfl) (by kernel_rfl) (by kernel_rfl) (by kernel_rfl) (fun _ _ _ h => h) (by rfl) (by intro w; go_simp) hS ?_
      try simp only [Act.put, List.setIfInBounds_toArray, List.set_cons_zero, List.set_cons_succ]
      refine wpBut_load 5 [6, 7, 8, 9, 11] (.slice Ai ivs.length ci) rfl (by kernel_rfl) (by kernel_rfl) (by kernel_rfl) (by kernel_rfl) (by kernel_rfl) (by kernel_rfl) (by kernel_rfl) (fun _ _ _ h => h) (by rfl) (by rintro w ⟨h1, h2, h3⟩; go_simp) hS ?_
      try simp only [Act.put, List.setIfInBounds_toArray, List.set_cons_zero, List.set_cons_succ]
      refine wpBut_one 6 (by kernel_rfl) rfl (by rfl) (fun K hK => ?_)
      go_simp
      go_at_call 76
      refine hC.mono ?_
      rintro r w5 ⟨v5, rfl, hown5, hf5⟩
      obtain ⟨a5, k5, rfl⟩ := own_slice' hown5
      have F5 := Lib.hid (((Fr.refl (fun _ => False) wr).alloc (.cells #[.int .u64 ref, .slice Ai ivs.length ci] 147)).drew.same hf5)
      have P5 := Lib.hid (HP8.out.drew.fr hf5 (fun e => e))
      have B5 := Lib.hid (HB8.out.drew.fr hf5 (fun e => e))
      have hS5 : w5.cell? ⟨bp, 2, none⟩ = some (.slice aL lo.length kL) ∧ w5.cell? ⟨wr.heap.size, 0, none⟩ = some (.int .u64 ref) ∧ w5.cell? ⟨wr.heap.size, 1, none⟩ = some (.slice Ai ivs.length ci) := ⟨P5.out.cell 2, B5.out.cell 0, B5.out.cell 1⟩
      have hz5 := F5.out.size
      have N5 := Lib.hid (own_mono hown5 (base' := w.heap.size) (by simp; omega))
      have L5 := Lib.hid (RL.out.fr F5.out (fun _ _ _ e => e))
      refine hK.out _ _ hS5 ?_
      clear hK K hS hC hown5 hf5
      try simp only [Act.put, List.setIfInBounds_toArray, List.set_cons_zero, List.set_cons_succ]
      refine wpBut_take 7 (.agg #[.int .u64 ref, .slice a5 ivs.length k5]) rfl (by kernel_rfl) (by kernel_rfl) (by kernel_rfl) (by kernel_rfl) (fun _ _ _ h => h) (by rfl) (by intro w; go_simp) hS5 ?_
      try simp only [Act.put, List.setIfInBounds_toArray, List.set_cons_zero, List.set_cons_succ]
      refine wpBut_one 8 (by kernel_rfl) rfl (by rfl) (fun K hK => ?_)
      go_simp
      refine hK.out _ _ ⟨(P5.out.alloc _).cell 2, (B5.out.alloc _).cell 0, (B5.out.alloc _).cell 1⟩ ?_
      clear hK K hS5
      try simp only [Act.put, List.setIfInBounds_toArray, List.set_cons_zero, List.set_cons_succ]
      refine wpBut_last 9 (by kernel_rfl) rfl (by kernel_rfl) (by rfl) (fun K hK => ?_)
      refine wp_append_src _ _ _ 48 48 (by rfl) w.heap.size 151 i1 _ 2 32 Tryz.underlying48 hi1 hy0 hy1 hy2 rfl (by decide) (.slice aL lo.length kL) lo.length (lo.flatMap stc) (by rfl) (L5.out.alloc _).1 _ 1 (stc (⟨ref, ivs⟩, .slice a5 ivs.length k5)) (by rfl) (src_blk Tryz.underlying48 (Blk.new w5 151 (stc (⟨ref, ivs⟩, .slice a5 ivs.length k5)).toArray) rfl (by simp [stc, Value.oneCell'])) (by unfold maxLen; omega) (by omega) (by simp; omega) ?_
      intro v' w2 hown' hgrow hat
      obtain ⟨a9, k9, rfl⟩ := own_slice' hown'
      have KP9 := Lib.hid ((P5.out.alloc _).grown hgrow (Ne.symm (own_ne RL.out.1 RP.out (by decide))))
      have p9 := KP9.out.cell 2
      have z9 := KP9.out.frozen 2
      simp at p9
      refine hK.out _ _ ?_
      clear hK K
      try simp only [Act.put, List.setIfInBounds_toArray, List.set_cons_zero, List.set_cons_succ]
      refine wpBut_last 10 (by kernel_rfl) rfl (by kernel_rfl) (by rfl) (fun K hK => ?_)
      go_simp
      refine hK.out _ _ ?_
      clear hK K
      refine wpBut_last 11 (by kernel_rfl) rfl (by kernel_rfl) (by rfl) (fun K hK => ?_)
      go_simp
      refine hK.out _ _ ?_
      clear hK K
      refine wpBut_done (by kernel_rfl) ?_ _
      have newP : Blk (w2.setCell ⟨bp, 2, none⟩ (.slice a9 (lo.length + 1) k9)) bp 54 #[.slice none 0 0, .slice none 0 0, .slice a9 (lo.length + 1) k9, .slice none 0 0, .slice none 0 0, .slice none 0 0, .slice none 0 0] := by simpa using KP9.out.set_ 2 (.slice a9 (lo.length + 1) k9)
      have O5 := (RO.out.fr F5.out (fun e => e)).alloc (.cells (stc (⟨ref, ivs⟩, .slice a5 ivs.length k5)).toArray 151)
      have newO : Blk (w2.setCell ⟨bp, 2, none⟩ (.slice a9 (lo.length + 1) k9)) bo 4 #[.bool false] := (O5.grown hgrow (Ne.symm (own_ne RL.out.1 RO.out (by decide)))).far (p := ⟨bp, 2, none⟩) (Blk.ne_ RO.out RP.out (by decide)) _
      have newL0 : OwnS w.heap.size 151 281 w2 (.slice a9 (lo.length + 1) k9) (lo ++ [(⟨ref, ivs⟩, .slice a5 ivs.length k5)]) :=
        OwnS.push (p := (⟨ref, ivs⟩, .slice a5 ivs.length k5)) (L5.out.alloc _) (N5.out.alloc _) hgrow hown' (by decide)
      have newL : OwnS w.heap.size 151 281 (w2.setCell ⟨bp, 2, none⟩ (.slice a9 (lo.length + 1) k9)) (.slice a9 (lo.length + 1) k9) (lo ++ [(⟨ref, ivs⟩, .slice a5 ivs.length k5)]) := newL0.off KP9.out (by decide) (by decide) (Fr.put_ w2 bp 2 _)
      have fG : Fr (fun j => some j = (Value.slice aL lo.length kL).ownBlock ∨ j = bp) wr (w2.setCell ⟨bp, 2, none⟩ (.slice a9 (lo.length + 1) k9)) :=
        (((F5.out.mono (S' := fun j => some j = (Value.slice aL lo.length kL).ownBlock ∨ j = bp) (fun _ _ e => e.elim)).alloc _).grown hgrow (fun g hg => .inl (.inl hg.symm))).setCell (p := ⟨bp, 2, none⟩) (.inl (.inr rfl)) _
      have newV : OwnS w.heap.size 147 279 (w2.setCell ⟨bp, 2, none⟩ (.slice a9 (lo.length + 1) k9)) (.slice (some ⟨g7, off7, none⟩) n k6) l6 := by
        refine ⟨own_fr RV.out.1 fG (fun g hg e => ?_), fun p hp => own_fr (RV.out.2 p hp) fG (fun g hg e => ?_)⟩
        · rcases e with e | e
          · exact own_own RV.out.1 RL.out.1 (by decide) g hg e.symm
          · exact own_ne RV.out.1 RP.out (by decide) (by rw [hg, e])
        · rcases e with e | e
          · exact own_own (RV.out.2 p hp) RL.out.1 (by decide) g hg e.symm
          · exact own_ne (RV.out.2 p hp) RP.out (by decide) (by rw [hg, e])
      have newF : Fr (fun j => j = bb ∨ j = bp) w (w2.setCell ⟨bp, 2, none⟩ (.slice a9 (lo.length + 1) k9)) := RF.out.trans fG (fun j hj e => by
        rcases e with e | e
        · have := (RL.out.1.lt j e.symm).1; omega
        · exact .inr e)
      have newM : (lo ++ [((⟨ref, ivs⟩ : Ston), Value.slice a5 ivs.length k5)]).map Prod.fst = (l6.take (k + 1)).map Prod.fst := by
        rw [List.take_add_one, HX.out, List.map_append, List.map_append, RM.out]
        rfl
      have newN : (lo ++ [((⟨ref, ivs⟩ : Ston), Value.slice a5 ivs.length k5)]).length = k + 1 := by rw [List.length_append, RN.out]; rfl
      have NP := Lib.hid newP
      have NO := Lib.hid newO
      have NL := Lib.hid newL
      have NV := Lib.hid newV
      have NF := Lib.hid newF
      have NM := Lib.hid newM
      have NN := Lib.hid newN
      clear newP newO newL0 newL newV newF newM newN fG hown' hgrow hat p9 z9 c0 c1 s0 s1 s3 O5 L5 N5 F5 P5 B5
      go_wp2
      go_roundw
      case rel => exact ⟨k + 1, _, _, by omega, by go_num, NF, NV, NO, NP, NL, NM, NN⟩
      case measure => simp [intOf]; omega
    · obtain rfl : k = n := by omega
      have o0 := RO.out.cell 0
      have o1 := RO.out.frozen 0
      simp at o0
      have W1 : Blk (wr.setCell ⟨bo, 0, none⟩ (.bool (decStones xs).isSome)) bo 4 #[.bool (decStones xs).isSome] := by simpa using RO.out.set_ 0 (.bool (decStones xs).isSome)
      have W2 := RP.out.far (p := ⟨bo, 0, none⟩) (Blk.ne_ RP.out RO.out (by decide)) (.bool (decStones xs).isSome)
      have W3' := OwnS.off RL.out RO.out (by decide) (by decide) (Fr.put_ wr bo 0 (.bool (decStones xs).isSome))
      have W4 : Fr (fun k => k = bb ∨ k = bp ∨ k = bo) w (wr.setCell ⟨bo, 0, none⟩ (.bool (decStones xs).isSome)) := (Fr.mono (S' := fun k => k = bb ∨ k = bp ∨ k = bo) RF.out (fun _ _ e => e.elim (fun h => Or.inl h) (fun h => Or.inr (Or.inl h)))).setCell (p := ⟨bo, 0, none⟩) (.inl (.inr (.inr rfl))) _
      rcases HOR.out with ⟨rfl, hsome⟩ | ⟨t, ae, rfl, hsome⟩
      all_goals
        rw [hsome] at W1 W2 W3' W4
        have hW1 := Lib.hid W1
        have hW2 := Lib.hid W2
        have hW3 := Lib.hid W3'
        have hW4 := Lib.hid W4
        clear W1 W2 W3' W4
        go_wp2_with fail
        go_end0
        refine ⟨rfl, hW4.out, by rw [hsome]; exact hW1.out, lv, lo, hW2.out, ?_, hW3.out⟩
        have e1 : l6.take k = l6 := List.take_of_length_le (by rw [HN.out]; exact Nat.le_refl _)
        rw [RM.out, e1, HM6.out]

/-- Parts that hold tombstones alone, in memory of the call's own. -/
def StnParts (base : Nat) (l : List Ston) (ps : Array Value) (w : World) : Prop :=
  ∃ v lo, ps = #[.slice none 0 0, .slice none 0 0, v, .slice none 0 0, .slice none 0 0, .slice none 0 0, .slice none 0 0] ∧ lo.map Prod.fst = l ∧ OwnS base 151 281 w v lo

theorem seven_of2 {lv : Value} (h : ∃ A m c, lv = .slice A m c) : Seven #[.slice none 0 0, .slice none 0 0, lv, .slice none 0 0, .slice none 0 0, .slice none 0 0, .slice none 0 0] := by
  obtain ⟨A, m, c, rfl⟩ := h
  exact ⟨_, _, _, _, _, _, _, _, _, _, _, _, _, _, _, _, _, _, _, _, _, rfl⟩

theorem recordRead_stones (te : TypeId) (pe : Value) (q0 q1 q2 q3 q4 q5 q6 bv : Value) (lp : List (Ston × Value)) (xs : List UInt8) (P : Nat → Prop) (w : World) (hb : Sl P w bv 1 xs.length (bc xs)) (hxl : xs.length ≤ 1073741824) (hP : ∀ g, P g → g < w.heap.size)
    (hsl : ∀ s ∈ [q0, q1, q2, q3, q4, q5, q6], ∃ A m c, s = .slice A m c) (hs : SlS P w q2 lp) (hpl : lp.length ≤ 1073741824) (hpi : ∀ s ∈ lp.map Prod.fst, s.ivs.length ≤ 1073741824) (hE : w.cell? ⟨2, 0, none⟩ = some (.iface te pe)) :
    Calls Tryz.prog 29 #[.int .i64 3, bv, .agg #[q0, q1, q2, q3, q4, q5, q6]] w (ReadDone (StnParts w.heap.size (outS (lp.map Prod.fst) xs)) (decStones xs).isSome w) := by
  have h2 := World.block_lt_of_cell? w _ hE
  refine recordRead_of 3 q0 q1 q2 q3 q4 q5 q6 bv xs P _ _ w hb hsl ?_ ?_
  · rintro ps W W' ⟨v, lo, rfl, hm, ho⟩ hv
    refine ⟨v, lo, rfl, hm, own_fr ho.1 hv ?_, fun p hp => own_fr (ho.2 p hp) hv ?_⟩
    · rintro g hg ⟨cs, h | h⟩
      · exact own_ne ho.1 h (by decide) hg
      · exact own_ne ho.1 h (by decide) hg
    · rintro g hg ⟨cs, h | h⟩
      · exact own_ne (ho.2 p hp) h (by decide) hg
      · exact own_ne (ho.2 p hp) h (by decide) hg
  · intro bb bk bq bp bo W hk hb' hq hp ho hbb hbp hbo hpq hF
    have hEW : W.cell? ⟨2, 0, none⟩ = some (.iface te pe) := by rw [hF.cell (p := ⟨2, 0, none⟩) h2 (fun e => e)]; exact hE
    refine (read1_stones te pe bb bk bq bp bo P q0 q1 q2 q3 q4 q5 q6 bv xs W hb' (hb.fr hF (fun _ _ e => e)) hk hq lp (hs.fr hF (fun _ _ e => e)) hpl hpi hp ho hEW hxl (fun g hg e => by have := hP g hg; omega) hpq (by simp only [] at h2; omega)).mono ?_
    rintro r w' ⟨rfl, hf, hbo', v, lo, hbp', hm, hown⟩
    have hz := hF.size
    obtain ⟨a, c, hlv⟩ := own_slice' hown.1
    exact ⟨rfl, hf, hbo', _, seven_of2 ⟨_, _, _, hlv⟩, hbp', v, lo, rfl, hm, OwnS.mono hown hz⟩
end Go.Proofs.YtbkookiigkckdaaGreatDoor
