/- RecordRead's closure at samples. -/
import Derived.Test.YtbkookiigkckdaaGreatDoorSd
import Derived.Test.YtbkookiigkckdaaGreatDoorTy
import Derived.Test.YtbkookiigkckdaaGreatDoorWb
import Derived.Test.YtbkookiigkckdaaGreatDoorLb

namespace Go.Proofs.YtbkookiigkckdaaGreatDoor
open Go.RowKit
set_option linter.unusedVariables false
set_option linter.unusedSimpArgs false

theorem bitsOf_any (b : Nat) (w : World) : Calls Tryz.prog 73 #[.float .f64 b] w fun r w' => r = .returned (.int .u64 b) ∧ w = w' := by
  have h := run168
  go_enter Tryz.func73, Tryz.ntmps73
  go_wp2_with fail
  go_ret
  exact ⟨rfl, rfl⟩

theorem Tryz.info113 : (Tryz.prog.info? 113).map (fun i => (i.zero, i.size, i.bytes)) = some (some (.agg #[.int .u64 0, .int .i64 0, .int .u64 0]), 3, 24) := by kernel_rfl

def nilS : Value := .slice none 0 0

/-- What RecordRead's closure does at samples. -/
def ReadEnds (w : World) (bb bp bo : Nat) (xs : List UInt8) (r : Ending) (w' : World) : Prop :=
  r = .returned (.tuple #[]) ∧ Fr (fun k => k = bb ∨ k = bp ∨ k = bo) w w' ∧ Blk w' bo 4 #[.bool (decSamples xs).isSome] ∧
    ∃ lv, Blk w' bp 54 #[.slice none 0 0, lv, .slice none 0 0, .slice none 0 0, .slice none 0 0, .slice none 0 0, .slice none 0 0] ∧ w'.ownsRow w.heap.size 113 3 lv ((decSamples xs).getD []).length (((decSamples xs).getD []).flatMap Smp.a)

theorem smpLoop_len (br : Nat) (bt : Int) : ∀ (k : Nat) (st : St) (acc : List Smp), (smpLoop br bt k st acc).1.length ≤ acc.length + k
  | 0, st, acc => by simp [smpLoop]
  | k + 1, none, acc => by simp [smpLoop]
  | k + 1, some [], acc => by simp [smpLoop]
  | k + 1, some (c :: r), acc => by
    have h := smpLoop_len br bt k (smpStep br bt (some (c :: r))).2 (acc ++ [(smpStep br bt (some (c :: r))).1])
    rw [List.length_append, List.length_singleton] at h
    show (smpLoop br bt k (smpStep br bt (some (c :: r))).2 (acc ++ [(smpStep br bt (some (c :: r))).1])).1.length ≤ _
    omega
theorem decSamples_len (xs : List UInt8) : ((decSamples xs).getD []).length ≤ xs.length := by
  rcases xs with _ | ⟨b, rest⟩
  · simp [decSamples]
  · unfold decSamples
    simp only []
    split
    · split
      · simp
      · have h := smpLoop_len (gBe64 (some rest)).1 (gBe64i (gBe64 (some rest)).2).1 rest.length (gBe64i (gBe64 (some rest)).2).2 []
        split
        · rename_i l' _ e
          rw [e] at h
          simp at h ⊢; omega
        · simp
    · simp

theorem Rec.fr {te : TypeId} {pe : Value} {w w' : World} {g : Nat} {cur : Array Value} {xs : List UInt8} {v : Value} {S : Nat → Prop} (h : Rec te pe w g cur xs v) (hf : Fr S w w') (hg : ¬ S g) (h2 : ¬ S 2) : Rec te pe w' g cur xs v := by
  obtain ⟨off, c, rfl, hg', hl, hm, hr, hE⟩ := h
  refine ⟨off, c, rfl, hg'.fr hf hg, hl, hm, hr, ?_⟩
  rw [hf.cell (p := ⟨2, 0, none⟩) (World.block_lt_of_cell? w _ hE) h2]; exact hE

theorem rd_keep {W w5 w6 : World} {b t : Nat} {cs : Array Value} {v5 : Value} {n : Nat} {xs : List Value} (h : Blk W b t cs) (hf5 : Fr (fun _ => False) W.drew w5) (ho : w5.ownsRow W.drew.heap.size 137 3 v5 n xs) (hf6 : Fr (fun k => some k = v5.ownBlock) w5 w6) : Blk w6 b t cs :=
  (h.drew.fr hf5 (fun e => e)).fr hf6 (fun e => by have h1 := (ho.lt b e.symm).1; have h2 : b < W.heap.size := h.lt; exact Nat.lt_irrefl _ (Nat.lt_of_lt_of_le h2 h1))

theorem grown_keeps {W w2 wr : World} {b t : Nat} {cs : Array Value} {v : Value} {n : Nat} {xs : List Value} {base : Nat} {o : Obj} (h : Blk W b t cs) (hg : ((W.alloc o).drew).grownBy w2 v.ownBlock) (hne : v.ownBlock ≠ some b) : Blk w2 b t cs :=
  ((h.alloc o).drew).grown hg (fun e => hne e.symm)

theorem own_own {w : World} {base base' : Nat} {e e' : TypeId} {size size' n n' : Nat} {v v' : Value} {xs xs' : List Value} (h : w.ownsRow base e size v n xs) (h' : w.ownsRow base' e' size' v' n' xs') (hne : e ≠ e') : ∀ g, v.ownBlock = some g → v'.ownBlock ≠ some g := by
  intro g hg
  rcases h.2 with ⟨rfl, _⟩ | ⟨g', cap, cur, rfl, _, hh, _⟩
  · simp [Value.ownBlock] at hg
  · have : g' = g := by simpa [Value.ownBlock] using hg
    subst this
    exact own_ne (t := e) h' hh (Ne.symm hne)

theorem samples_uniform {w w' : World} {base : Nat} {o : Option Nat} {xs : List UInt8} {r : Ending} (h : SamplesEnds w base o xs r w') :
    ∃ v' e, r = .returned (.tuple #[v', e]) ∧ w'.ownsRow base 137 3 v' ((decSamples xs).getD []).length (((decSamples xs).getD []).flatMap Smp.b) ∧ Fr (fun k => some k = o) w w' ∧ ((e = .nilIface ∧ (decSamples xs).isSome = true) ∨ (∃ t a, e = .iface t a ∧ (decSamples xs).isSome = false)) := by
  unfold SamplesEnds at h
  rcases hd : decSamples xs with _ | l
  · rw [hd] at h
    obtain ⟨hf, t, a, rfl⟩ := h
    exact ⟨_, _, rfl, World.ownsRow_nil _ _ _ _, hf, .inr ⟨_, _, rfl, rfl⟩⟩
  · rw [hd] at h
    obtain ⟨hf, v', rfl, ho⟩ := h
    exact ⟨_, _, rfl, ho, hf, .inl ⟨rfl, rfl⟩⟩

set_option maxRecDepth 100000 in
set_option maxHeartbeats 4000000 in
theorem read1_samples (te : TypeId) (pe : Value) (bb bk bq bp bo : Nat) (P : Nat → Prop) (q0 q1 q2 q3 q4 q5 q6 v : Value) (xs : List UInt8) (w : World) (hb : Blk w bb 44 #[v]) (hv : Sl P w v 1 xs.length (bc xs)) (hk : Blk w bk 3 #[.int .i64 2]) (hq : Blk w bq 54 #[q0, q1, q2, q3, q4, q5, q6]) (hs : Sl P w q1 3 0 [])
    (hp : Blk w bp 54 #[.slice none 0 0, .slice none 0 0, .slice none 0 0, .slice none 0 0, .slice none 0 0, .slice none 0 0, .slice none 0 0]) (ho : Blk w bo 4 #[.bool false]) (hE : w.cell? ⟨2, 0, none⟩ = some (.iface te pe)) (hxl : xs.length ≤ 1073741824)
    (hPb : ∀ g, P g → g ≠ bb) (hpq : bp ≠ bq) (h2 : bb ≠ 2 ∧ bp ≠ 2 ∧ bo ≠ 2) :
    Calls Tryz.prog 66 #[.pointer (some ⟨bb, 0, none⟩), .pointer (some ⟨bk, 0, none⟩), .pointer (some ⟨bq, 0, none⟩), .pointer (some ⟨bp, 0, none⟩), .pointer (some ⟨bo, 0, none⟩)] w (ReadEnds w bb bp bo xs) := by
  obtain ⟨i0, hi0, hz0, hz1, hz2⟩ := info_parts Tryz.info5
  have HB := Lib.hid hb
  have HV := Lib.hid hv
  have HK := Lib.hid hk
  have HQ := Lib.hid hq
  have HS := Lib.hid hs
  have HP := Lib.hid hp
  have HO := Lib.hid ho
  have HE := Lib.hid hE
  have HPB := Lib.hid hPb
  have hv1 : ∃ A m c, v = .slice A m c := let ⟨A, c, h, _⟩ := hv; ⟨A, _, c, h⟩
  obtain ⟨A, m, c, rfl⟩ := hv1
  clear hb hv hk hq hs hp ho hE hPb
  go_enter Tryz.func66, Tryz.ntmps66
  go_wp2_with (first | (go_at_call 67; refine (newDec_any _ _).mono ?_; rintro r w1 ⟨v1, rfl, ⟨a, rfl⟩, hf1⟩; refine Hid.out ?_))
  have hB1 := ((HB.out.fr hf1 (fun e => e)).alloc (.cells #[.slice (some a) 0 0, .string ⟨#[]⟩, .slice none 0 0] 119)).alloc (.cells #[] 5)
  have b1 := hB1.cell 0
  simp at b1
  clear hB1
  refine Lib.hid ?_
  go_wp2_with (at_builtin; refine Hid.out ?_)
  have hO0 := World.ownsRow_made (base := w.heap.size) (e := 5) (size := 1) (w1.alloc (.cells #[.slice (some a) 0 0, .string ⟨#[]⟩, .slice none 0 0] 119)) #[] 0 (by have := hf1.size; simp; omega) (Nat.zero_le _) rfl
  have hFA : Fr (fun _ => False) w ((w1.alloc (.cells #[.slice (some a) 0 0, .string ⟨#[]⟩, .slice none 0 0] 119)).alloc (.cells #[] 5)) := (hf1.alloc _).alloc _
  have hs1 := hf1.size
  refine Lib.hid ?_
  have hg0 : (w1.alloc (.cells #[.slice (some a) 0 0, .string ⟨#[]⟩, .slice none 0 0] 119)).heap.size = w1.heap.size + 1 := by simp
  rw [hg0] at hO0
  clear b1
  generalize World.alloc _ (Obj.cells #[] 5) = WA at hO0 hFA ⊢
  have hsA := hFA.size
  have hsrc := src_sl Tryz.underlying44 (HV.out.fr hFA (fun _ _ e => e)) (bc_one xs)
  refine wpList_append_src _ rfl _ _ 44 44 rfl w.heap.size 5 i0 (.int .u8 0) 1 1 Tryz.underlying44 hi0 hz0 hz1 hz2 rfl (by decide) (.slice (some ⟨w1.heap.size + 1, 0, none⟩) 0 0) 0 [] rfl hO0 (.slice A m c) xs.length (bc xs) rfl hsrc (by unfold maxLen; omega) (by omega) (by omega) ?_
  intro v' w2 hown' hgrow hat
  rw [Nat.zero_add, List.nil_append] at hown'
  obtain ⟨a2, k2, rfl⟩ := own_slice' hown'
  have hge : ∀ k, (Value.slice (some ⟨w1.heap.size + 1, 0, none⟩) 0 0).ownBlock = some k → w.heap.size ≤ k := fun k hk => by
    have hk : w1.heap.size + 1 = k := Option.some.inj hk
    omega
  have F2 : Fr (fun _ => False) w w2 := hFA.grown hgrow (fun k hk => .inr (hge k hk))
  have hrow2 : ∃ g2 cur2, a2 = some ⟨g2, 0, none⟩ ∧ w.heap.size ≤ g2 ∧ Blk w2 g2 5 cur2 ∧ xs.length ≤ k2 ∧ k2 ≤ maxLen ∧ cur2.toList.take xs.length = bc xs := by
    rcases hown'.2 with ⟨h, _⟩ | ⟨g2, cap, cur2, h, h1, h3, h4, h5, _, h6⟩
    · rw [h] at hat
      rcases hat with hat | hat <;> exact absurd hat (by simp [Value.ownBlock])
    · injection h with e1 e2 e3
      subst e3
      exact ⟨g2, cur2, e1, h1, h3, h4, h5, by simpa using h6⟩
  have hge2 : ∀ k, (Value.slice a2 xs.length k2).ownBlock = some k → w.heap.size ≤ k := fun k hk => (hown'.lt k hk).1
  have lB := HB.out.lt
  have gB := HB.out.fr F2 (fun e => e)
  have y0 := gB.cell 0
  have y1 := gB.frozen 0
  simp at y0
  have F3 : Fr (fun k => k = bb) w (w2.setCell ⟨bb, 0, none⟩ (.slice a2 xs.length k2)) := (F2.mono (S' := fun k => k = bb) (fun _ _ e => e.elim)).setCell (p := ⟨bb, 0, none⟩) (.inl rfl) _
  have O3 : (w2.setCell ⟨bb, 0, none⟩ (.slice a2 xs.length k2)).ownsRow w.heap.size 5 1 (.slice a2 xs.length k2) xs.length (bc xs) := own_fr hown' (Fr.put_ w2 bb 0 _) (fun k hk e => by have := hge2 k hk; omega)
  have B3 : Blk (w2.setCell ⟨bb, 0, none⟩ (.slice a2 xs.length k2)) bb 44 #[.slice a2 xs.length k2] := by simpa using gB.set_ 0 (.slice a2 xs.length k2)
  have K3 := (HK.out.fr F3 (fun e => Blk.ne_ HK.out HB.out (by decide) e)).cell 0
  have Q3 := HQ.out.fr F3 (fun e => Blk.ne_ HQ.out HB.out (by decide) e)
  have P3 := HP.out.fr F3 (fun e => Blk.ne_ HP.out HB.out (by decide) e)
  have O4 := HO.out.fr F3 (fun e => Blk.ne_ HO.out HB.out (by decide) e)
  have E3 : (w2.setCell ⟨bb, 0, none⟩ (.slice a2 xs.length k2)).cell? ⟨2, 0, none⟩ = some (.iface te pe) := by
    rw [F3.cell (p := ⟨2, 0, none⟩) (World.block_lt_of_cell? w _ HE.out) (fun e => h2.1 e.symm)]; exact HE.out
  simp at K3
  have HF3 := Lib.hid F3
  have HO3 := Lib.hid O3
  have HB3 := Lib.hid B3
  have HQ3 := Lib.hid Q3
  have HP3 := Lib.hid P3
  have HO4 := Lib.hid O4
  have HE3 := Lib.hid E3
  have HGE := Lib.hid hge2
  obtain ⟨g2, cur2, rfl, hg2, hbk2, hk2, hk2m, htk2⟩ := hrow2
  have R3 : Rec te pe (w2.setCell ⟨bb, 0, none⟩ (.slice (some ⟨g2, 0, none⟩) xs.length k2)) g2 cur2 xs (.slice (some ⟨g2, 0, none⟩) xs.length k2) := by
    refine ⟨0, k2, rfl, hbk2.far (p := ⟨bb, 0, none⟩) (by show g2 ≠ bb; omega) _, hk2, ⟨by simp [maxLen] at hk2m; omega, by omega⟩, fun j u hu => ?_, E3⟩
    rw [Nat.zero_add, ← Array.getElem?_toList]
    have hj : j < xs.length := by
      rcases Nat.lt_or_ge j xs.length with h | h
      · exact h
      · rw [List.getElem?_eq_none (by rw [bc_len]; exact h)] at hu; cases hu
    rw [← htk2, List.getElem?_take_of_lt hj] at hu
    exact hu
  have HR3 := Lib.hid R3
  have hg2l := hbk2.lt
  clear R3 hk2m htk2 hbk2
  clear F2 F3 O3 B3 Q3 P3 O4 E3 gB hge hge2 hown' hgrow hat hsrc hO0 hFA hf1
  go_wp2_with fail
  generalize w2.setCell ⟨bb, 0, none⟩ (.slice (some ⟨g2, 0, none⟩) xs.length k2) = W3 at HF3 HO3 HB3 HQ3 HP3 HO4 HE3 HR3 ⊢
  have hl3 := HR3.out
  have hg3 : g2 < W3.heap.size := let ⟨_, _, _, h, _⟩ := hl3; h.lt
  have h23 : 2 < W3.heap.size := World.block_lt_of_cell? W3 _ HE3.out
  clear hl3
  have hS3 : Sl P W3.drew q1 3 ([] : List Smp).length (([] : List Smp).flatMap Smp.a) := by
    obtain ⟨A, c, rfl, h1, h2, _⟩ := HS.out
    exact ⟨A, c, rfl, rfl, h2, fun h => absurd h (by simp)⟩
  have hR1 := refSamples_any P q1 [] W3.drew hS3 (by simp)
  have hq1 : ∃ A m c, q1 = .slice A m c := let ⟨A, c, h, _⟩ := HS.out; ⟨A, _, c, h⟩
  obtain ⟨Aq, mq, cq, rfl⟩ := hq1
  have x0 := HB3.out.cell 0
  have x1 := HQ3.out.cell 1
  have x0d : W3.drew.cell? ⟨bb, 0, none⟩ = some (.slice (some ⟨g2, 0, none⟩) xs.length k2) := x0
  have x1d : W3.drew.cell? ⟨bq, 1, none⟩ = some (.slice Aq mq cq) := x1
  simp at x0 x1
  clear y0 y1 K3
  go_region_held3 (fun w' => w'.cell? ⟨bb, 0, none⟩ = some (.slice (some ⟨g2, 0, none⟩) xs.length k2) ∧ w'.cell? ⟨bq, 1, none⟩ = some (.slice Aq mq cq))
    ((first | (go_split_ands; refine ⟨?_, ?_⟩ <;> first | exact (HB3.out.drew.fr hf5 (fun e => e)).cell 0 | exact (HQ3.out.drew.fr hf5 (fun e => e)).cell 1) | (go_split_ands; refine ⟨?_, ?_⟩ <;> first | exact KB.out.cell 0 | exact KQ.out.cell 1) | go_keep))
    ((first
      | (go_at_call 72; refine hR1.mono ?_; rintro r5 w5 ⟨v5, rfl, hown5, hf5⟩)
      | (go_at_call 71; refine (decSamples_any te pe _ g2 W3.drew.heap.size cur2 xs _ v5 w5 (HR3.out.fr (w := W3) (((Fr.refl (fun _ => False) W3).drew).same hf5) (fun e => e) (fun e => e)) hown5 ⟨hg3, h23, hf5.size⟩).mono ?_; rintro r6 w6 hE6; obtain ⟨v6, e6, rfl, hown6, hf6, hor6⟩ := samples_uniform hE6; clear hE6; have KB := Lib.hid (rd_keep HB3.out hf5 hown5 hf6); have KQ := Lib.hid (rd_keep HQ3.out hf5 hown5 hf6))))
  have T6 : Fr (fun k => k = bb) w w6 := ((HF3.out.trans (((Fr.refl (fun _ => False) W3).drew).same hf5) (fun _ _ e => e.elim)).trans hf6 (fun k hk e => by
    have h1 := (hown5.lt k e.symm).1
    have h2 := HF3.out.size
    simp at h1; omega))
  have P6 := rd_keep HP3.out hf5 hown5 hf6
  have O6 := rd_keep HO4.out hf5 hown5 hf6
  have hz6 : w.heap.size ≤ W3.drew.heap.size := HF3.out.size
  have V6 := own_mono hown6 hz6
  have HT6 := Lib.hid T6
  have HP6 := Lib.hid P6
  have HO6 := Lib.hid O6
  have HV6 := Lib.hid V6
  have HOR := Lib.hid hor6
  have hsz5 := hf5.size
  have hsz6 := hf6.size
  have hb6 : ∀ k, v6.ownBlock = some k → k < w6.heap.size := fun k hk => own_lt hown6 hk
  clear x0 x1 x0d x1d hR1 T6 P6 O6 V6 hor6 hown5 hf5 hown6 hf6 KB KQ HO3 HB3 HQ3 HP3 HO4 HE3 HR3 HF3
  obtain ⟨l, hl⟩ : ∃ l, (decSamples xs).getD [] = l := ⟨_, rfl⟩
  rw [hl] at HV6
  have HLL := Lib.hid hl
  clear hl
  obtain ⟨a6, k6, rfl⟩ := own_slice' HV6.out
  go_wp2_with fail
  obtain ⟨n, hn⟩ : ∃ n, l.length = n := ⟨_, rfl⟩
  have HN := Lib.hid hn
  rw [hn] at HV6 hb6 ⊢
  clear hn
  obtain ⟨i1, hi1, hy0, hy1, hy2⟩ := info_parts Tryz.info113
  go_loopw [81] (fun i wr => ∃ (k : Nat) (lv : Value), k ≤ n ∧ i = .int .i64 k ∧ Hid (Fr (fun j => j = bb ∨ j = bp) w wr) ∧ Hid (wr.ownsRow w.heap.size 137 3 (.slice a6 n k6) n (l.flatMap Smp.b)) ∧ Hid (Blk wr bo 4 #[.bool false]) ∧
      Hid (Blk wr bp 54 #[.slice none 0 0, lv, .slice none 0 0, .slice none 0 0, .slice none 0 0, .slice none 0 0, .slice none 0 0]) ∧ Hid (wr.ownsRow w.heap.size 113 3 lv k ((l.take k).flatMap Smp.a))) (fun i _ => n - (intOf i).toNat)
  case atStart => exact ⟨0, _, Nat.zero_le _, rfl, Lib.hid (Fr.mono HT6.out (fun _ _ e => Or.inl e)), HV6, HO6, HP6, Lib.hid (World.ownsRow_nil _ _ _ _)⟩
  case round =>
    obtain ⟨k, lv, hk, rfl, RF, RV, RO, RP, RL⟩ := hrel
    by_cases hlt : k < n
    · obtain ⟨A7, c7, e7, _, _, hr7⟩ := Sl.ofOwn RV.out
      injection e7 with e7 _ e7c
      subst e7 e7c
      obtain ⟨g7, off7, rfl, _, hcell7⟩ := hr7 (by omega)
      obtain ⟨x, hx⟩ : ∃ x, l[k]? = some x := ⟨_, List.getElem?_eq_getElem (by rw [HN.out]; exact hlt)⟩
      have cc : ∀ j, j < 3 → ∀ u, (Smp.b x)[j]? = some u → wr.cell? ⟨g7, off7 + (k * 3 + j), none⟩ = some u := fun j hj u hu =>
        hcell7 (k * 3 + j) u (by rw [flat3 Smp.b (fun _ => rfl) l k x hx j hj]; exact hu)
      have c0 : wr.cell? ⟨g7, off7 + k * 3, none⟩ = some (.int .u64 x.ref) := cc 0 (by omega) _ rfl
      have c1 : wr.cell? ⟨g7, off7 + k * 3 + 1, none⟩ = some (.int .i64 x.t) := cc 1 (by omega) _ rfl
      have c2 : wr.cell? ⟨g7, off7 + k * 3 + 2, none⟩ = some (.float .f64 x.v) := cc 2 (by omega) _ rfl
      have hsf := run_store_float
      have HX := Lib.hid hx
      obtain ⟨aL, kL, rfl⟩ := own_slice' RL.out
      clear hcell7 hr7 cc hx
      go_wp2_with fail
      have hB8 := Blk.new wr 137 #[.int .u64 x.ref, .int .i64 x.t, .float .f64 x.v]
      have s0 := hB8.cell 0
      have s1 := hB8.cell 1
      have s2 := hB8.cell 2
      have hP8 := RP.out.alloc (.cells #[.int .u64 x.ref, .int .i64 x.t, .float .f64 x.v] 137)
      have s3 := hP8.cell 1
      simp only [List.getElem?_toArray, List.getElem?_cons_zero, List.getElem?_cons_succ] at s0 s1 s2 s3
      have lP := RP.out.lt
      have hsz := RF.out.size
      have hk40 : k < 1099511627776 := by have h1 := decSamples_len xs; rw [HLL.out, HN.out] at h1; omega
      have HB8 := Lib.hid hB8
      have HP8 := Lib.hid hP8
      have hbpl := RP.out.lt
      have s4 : ∀ o : Obj, ((wr.alloc (.cells #[.int .u64 x.ref, .int .i64 x.t, .float .f64 x.v] 137)).drew.alloc o).cell? ⟨bp, 1, none⟩ = some (.slice aL k kL) := fun o => by
        have h := (hP8.drew.alloc o).cell 1
        simp only [List.getElem?_toArray, List.getElem?_cons_zero, List.getElem?_cons_succ] at h
        exact h
      clear hB8 hP8
      refine wp_region_but (fun w' => w'.cell? ⟨bp, 1, none⟩ = some (.slice aL k kL) ∧ w'.cell? ⟨wr.heap.size, 0, none⟩ = some (.int .u64 x.ref) ∧ w'.cell? ⟨wr.heap.size, 1, none⟩ = some (.int .i64 x.t) ∧ w'.cell? ⟨wr.heap.size, 2, none⟩ = some (.float .f64 x.v)) 11 (by kernel_rfl) ⟨s3, s0, s1, s2⟩ ?_
      intro hS
      refine wpBut_take 0 (.pointer (some ⟨bp, 1, none⟩)) rfl (by kernel_rfl) (by kernel_rfl) (by kernel_rfl) (by kernel_rfl) (fun _ _ _ h => h) (by rfl) (by intro w; go_simp) hS ?_
      try simp only [Act.put, List.setIfInBounds_toArray, List.set_cons_zero, List.set_cons_succ]
      refine wpBut_load 1 [11, 13] (.slice aL k kL) rfl (by kernel_rfl) (by kernel_rfl) (by kernel_rfl) (by kernel_rfl) (by kernel_rfl) (by kernel_rfl) (by kernel_rfl) (fun _ _ _ h => h) (by rfl) (by rintro w ⟨h1, h2, h3, h4⟩; go_simp) hS ?_
      try simp only [Act.put, List.setIfInBounds_toArray, List.set_cons_zero, List.set_cons_succ]
      refine wpBut_take 2 (.pointer (some ⟨wr.heap.size, 0, none⟩)) rfl (by kernel_rfl) (by kernel_rfl) (by kernel_rfl) (by kernel_rfl) (fun _ _ _ h => h) (by rfl) (by intro w; go_simp) hS ?_
      try simp only [Act.put, List.setIfInBounds_toArray, List.set_cons_zero, List.set_cons_succ]
      refine wpBut_load 3 [9, 10, 11, 13] (.int .u64 x.ref) rfl (by kernel_rfl) (by kernel_rfl) (by kernel_rfl) (by kernel_rfl) (by kernel_rfl) (by kernel_rfl) (by kernel_rfl) (fun _ _ _ h => h) (by rfl) (by rintro w ⟨h1, h2, h3, h4⟩; go_simp) hS ?_
      try simp only [Act.put, List.setIfInBounds_toArray, List.set_cons_zero, List.set_cons_succ]
      refine wpBut_take 4 (.pointer (some ⟨wr.heap.size, 1, none⟩)) rfl (by kernel_rfl) (by kernel_rfl) (by kernel_rfl) (by kernel_rfl) (fun _ _ _ h => h) (by rfl) (by intro w; go_simp) hS ?_
      try simp only [Act.put, List.setIfInBounds_toArray, List.set_cons_zero, List.set_cons_succ]
      refine wpBut_load 5 [9, 10, 11, 13] (.int .i64 x.t) rfl (by kernel_rfl) (by kernel_rfl) (by kernel_rfl) (by kernel_rfl) (by kernel_rfl) (by kernel_rfl) (by kernel_rfl) (fun _ _ _ h => h) (by rfl) (by rintro w ⟨h1, h2, h3, h4⟩; go_simp) hS ?_
      try simp only [Act.put, List.setIfInBounds_toArray, List.set_cons_zero, List.set_cons_succ]
      refine wpBut_take 6 (.pointer (some ⟨wr.heap.size, 2, none⟩)) rfl (by kernel_rfl) (by kernel_rfl) (by kernel_rfl) (by kernel_rfl) (fun _ _ _ h => h) (by rfl) (by intro w; go_simp) hS ?_
      try simp only [Act.put, List.setIfInBounds_toArray, List.set_cons_zero, List.set_cons_succ]
      refine wpBut_load 7 [8, 9, 10, 11, 13] (.float .f64 x.v) rfl (by kernel_rfl) (by kernel_rfl) (by kernel_rfl) (by kernel_rfl) (by kernel_rfl) (by kernel_rfl) (by kernel_rfl) (fun _ _ _ h => h) (by rfl) (by rintro w ⟨h1, h2, h3, h4⟩; go_simp) hS ?_
      try simp only [Act.put, List.setIfInBounds_toArray, List.set_cons_zero, List.set_cons_succ]
      refine wpBut_one 8 (by kernel_rfl) rfl (by rfl) (fun K hK => ?_)
      go_simp
      go_at_call 73
      refine (bitsOf_any _ _).mono ?_
      rintro r w' ⟨rfl, rfl⟩
      refine hK.out _ _ hS ?_
      clear hK K
      try simp only [Act.put, List.setIfInBounds_toArray, List.set_cons_zero, List.set_cons_succ]
      refine wpBut_take 9 (.agg #[.int .u64 x.ref, .int .i64 x.t, .int .u64 x.v]) rfl (by kernel_rfl) (by kernel_rfl) (by kernel_rfl) (by kernel_rfl) (fun _ _ _ h => h) (by rfl) (by intro w; go_simp) hS ?_
      try simp only [Act.put, List.setIfInBounds_toArray, List.set_cons_zero, List.set_cons_succ]
      refine wpBut_one 10 (by kernel_rfl) rfl (by rfl) (fun K hK => ?_)
      go_simp
      refine hK.out _ _ ⟨(HP8.out.alloc _).drew.cell 1, (HB8.out.alloc _).drew.cell 0, (HB8.out.alloc _).drew.cell 1, (HB8.out.alloc _).drew.cell 2⟩ ?_
      clear hK K
      try simp only [Act.put, List.setIfInBounds_toArray, List.set_cons_zero, List.set_cons_succ]
      refine wpBut_last 11 (by kernel_rfl) rfl (by kernel_rfl) (by rfl) (fun K hK => ?_)
      refine wp_append_src _ _ _ 47 47 (by rfl) w.heap.size 113 i1 _ 3 24 Tryz.underlying47 hi1 hy0 hy1 hy2 rfl (by decide) (.slice aL k kL) k ((l.take k).flatMap Smp.a) (by rfl) ((RL.out.alloc _).alloc _).drew _ 1 (Smp.a x) (by rfl) (src_blk Tryz.underlying47 (blk_new2 wr _ 113 (Smp.a x).toArray).drew rfl (by simp [Smp.a, Value.oneCell'])) (by unfold maxLen; omega) (by omega) (by simp; omega) ?_
      intro v' w2 hown' hgrow hat
      obtain ⟨a9, k9, rfl⟩ := own_slice' hown'
      have KP9 := Lib.hid (grown_keeps (wr := wr) (n := k) (xs := []) (base := 0) HP8.out hgrow (own_ne RL.out RP.out (by decide)))
      have p9 := KP9.out.cell 1
      have z9 := KP9.out.frozen 1
      simp at p9
      refine hK.out _ _ ?_
      clear hK K hS
      try simp only [Act.put, List.setIfInBounds_toArray, List.set_cons_zero, List.set_cons_succ]
      refine wpBut_last 12 (by kernel_rfl) rfl (by kernel_rfl) (by rfl) (fun K hK => ?_)
      go_simp
      refine hK.out _ _ ?_
      clear hK K
      refine wpBut_last 13 (by kernel_rfl) rfl (by kernel_rfl) (by rfl) (fun K hK => ?_)
      go_simp
      refine hK.out _ _ ?_
      clear hK K
      refine wpBut_done (by kernel_rfl) ?_ _
      all_goals
        have newP : Blk (w2.setCell ⟨bp, 1, none⟩ (.slice a9 (k + 1) k9)) bp 54 #[.slice none 0 0, .slice a9 (k + 1) k9, .slice none 0 0, .slice none 0 0, .slice none 0 0, .slice none 0 0, .slice none 0 0] := by simpa using KP9.out.set_ 1 (.slice a9 (k + 1) k9)
        have newO : Blk (w2.setCell ⟨bp, 1, none⟩ (.slice a9 (k + 1) k9)) bo 4 #[.bool false] := (((RO.out.alloc (.cells #[.int .u64 x.ref, .int .i64 x.t, .float .f64 x.v] 137)).alloc _).drew.grown hgrow (Ne.symm (own_ne RL.out RO.out (by decide)))).far (p := ⟨bp, 1, none⟩) (Blk.ne_ RO.out RP.out (by decide)) _
        have newL : (w2.setCell ⟨bp, 1, none⟩ (.slice a9 (k + 1) k9)).ownsRow w.heap.size 113 3 (.slice a9 (k + 1) k9) (k + 1) ((l.take (k + 1)).flatMap Smp.a) := by
          rw [flatMap_take_succ Smp.a l k x HX.out]
          exact own_fr hown' (Fr.put_ w2 bp 1 _) (fun g hg e => own_ne hown' KP9.out (by decide) (by rw [hg, e]))
        have fG : Fr (fun j => some j = (Value.slice aL k kL).ownBlock ∨ j = bp) wr (w2.setCell ⟨bp, 1, none⟩ (.slice a9 (k + 1) k9)) :=
          (((((Fr.refl (fun j => some j = (Value.slice aL k kL).ownBlock ∨ j = bp) wr).alloc (.cells #[.int .u64 x.ref, .int .i64 x.t, .float .f64 x.v] 137)).alloc _).drew).grown hgrow (fun g hg => .inl (.inl hg.symm))).setCell (p := ⟨bp, 1, none⟩) (.inl (.inr rfl)) _
        have newV := own_fr RV.out fG (fun g hg e => by
          rcases e with e | e
          · exact own_own RV.out RL.out (by decide) g hg e.symm
          · exact own_ne RV.out RP.out (by decide) (by rw [hg, e]))
        have newF : Fr (fun j => j = bb ∨ j = bp) w (w2.setCell ⟨bp, 1, none⟩ (.slice a9 (k + 1) k9)) := RF.out.trans fG (fun j hj e => by
          rcases e with e | e
          · have := (RL.out.lt j e.symm).1; omega
          · exact .inr e)
        have NP := Lib.hid newP
        have NO := Lib.hid newO
        have NL := Lib.hid newL
        have NV := Lib.hid newV
        have NF := Lib.hid newF
        clear newP newO newL newV newF fG hown' hgrow hat p9 z9 c0 c1 c2 s0 s1 s2 s3 s4
        go_wp2
        go_roundw
        case rel => exact ⟨k + 1, _, by omega, by go_num, NF, NV, NO, NP, NL⟩
        case measure => simp [intOf]; omega
    · obtain rfl : k = n := by omega
      have o0 := RO.out.cell 0
      have o1 := RO.out.frozen 0
      simp at o0
      have W1 : Blk (wr.setCell ⟨bo, 0, none⟩ (.bool (decSamples xs).isSome)) bo 4 #[.bool (decSamples xs).isSome] := by simpa using RO.out.set_ 0 (.bool (decSamples xs).isSome)
      have W2 := RP.out.far (p := ⟨bo, 0, none⟩) (Blk.ne_ RP.out RO.out (by decide)) (.bool (decSamples xs).isSome)
      have W3' := own_fr RL.out (Fr.put_ wr bo 0 (.bool (decSamples xs).isSome)) (fun g hg e => own_ne RL.out RO.out (by decide) (by rw [hg, e]))
      have W4 : Fr (fun k => k = bb ∨ k = bp ∨ k = bo) w (wr.setCell ⟨bo, 0, none⟩ (.bool (decSamples xs).isSome)) := (Fr.mono (S' := fun k => k = bb ∨ k = bp ∨ k = bo) RF.out (fun _ _ e => e.elim (fun h => Or.inl h) (fun h => Or.inr (Or.inl h)))).setCell (p := ⟨bo, 0, none⟩) (.inl (.inr (.inr rfl))) _
      rcases HOR.out with ⟨rfl, hsome⟩ | ⟨t, ae, rfl, hsome⟩
      all_goals
        rw [hsome] at W1 W2 W3' W4
        have hW1 := Lib.hid W1
        have hW2 := Lib.hid W2
        have hW3 := Lib.hid W3'
        have hW4 := Lib.hid W4
        clear W1 W2 W3' W4
        go_wp2_with fail
        go_end0
        refine ⟨rfl, hW4.out, by rw [hsome]; exact hW1.out, lv, hW2.out, ?_⟩
        have e1 : l.take k = l := List.take_of_length_le (by rw [HN.out]; exact Nat.le_refl _)
        have h3 := hW3.out
        rw [e1] at h3
        rw [HLL.out, HN.out]
        exact h3
