/- Texts of this seat, merged: Lo, Yb. -/
import Derived.Test.YtbkookiigkckdaaGreatDoorK12
import Derived.Test.YtbkookiigkckdaaGreatDoorK13
import Derived.Test.YtbkookiigkckdaaGreatDoorK01
/- spec.Sorted. Printed by gen_lo.py. -/
namespace Go.Proofs.YtbkookiigkckdaaGreatDoor
open Go.RowKit
set_option linter.unusedVariables false
set_option linter.unusedSimpArgs false

/-- Either of two operations may come up, ahead of number c. -/
theorem wpBut_two {P : Program} {ops : Array Oper} {Q : Exit → Act → World → Prop} {md : Region.Mode} {S : World → Prop} {c : Nat} (i j : Nat) {fuel : Nat} {listed : Array Bool} {a : Act} {w : World} {oi oj : Oper}
    (hr : Region.ready md ops listed = [i, j]) (hoi : ops[i]? = some oi) (hoj : ops[j]? = some oj) (hwi : Region.wanted oi (yielded ops a.tmps) = true) (hwj : Region.wanted oj (yielded ops a.tmps) = true)
    (hi : ∀ K' : Act → World → Prop, Shut (∀ a w, S w → wpBut P md ops Q S c fuel (listed.setIfInBounds i true) a w → K' a w) → Oper.wp P oi a w K' Q)
    (hj : ∀ K' : Act → World → Prop, Shut (∀ a w, S w → wpBut P md ops Q S c fuel (listed.setIfInBounds j true) a w → K' a w) → Oper.wp P oj a w K' Q) : wpBut P md ops Q S c (fuel + 1) listed a w := by
  refine ⟨fun h0 => (by rw [hr] at h0; cases h0), fun k hk => ?_⟩
  rw [hr] at hk
  rcases List.mem_cons.mp hk with e | hk
  · subst e
    unfold wpOp
    simp only [hoi, hwi, if_true]
    exact .inl (hi _ (fun a w hS hW => ⟨fun _ => hS, hW⟩))
  · rw [List.mem_singleton] at hk
    subst hk
    unfold wpOp
    simp only [hoj, hwj, if_true]
    exact .inl (hj _ (fun a w hS hW => ⟨fun _ => hS, hW⟩))

theorem less_lt : ∀ x y : List UInt8, Op.bytesLess x y = decide (x < y)
  | x, [] => by cases x <;> simp [Op.bytesLess]
  | [], _ :: _ => by simp [Op.bytesLess]
  | a :: x, b :: y => by
    rw [Op.bytesLess, less_lt x y]
    simp only [List.cons_lt_cons_iff, Bool.decide_or, Bool.decide_and]
    congr 1
theorem less_ltL (x y : Lab) : Op.bytesLess x.1.toList y.1.toList = ltL x y := by
  rw [less_lt, Lib.toList_data, Lib.toList_data]; rfl
theorem labc_one (l : List Lab) : ∀ u ∈ l.flatMap labc, u.oneCell' = true := by
  intro u hu
  obtain ⟨x, _, hx⟩ := List.mem_flatMap.mp hu
  simp [labc] at hx
  rcases hx with rfl | rfl <;> rfl
theorem Tryz.elem31' : Tryz.prog.elem 31 = 40 := by kernel_rfl
theorem Tryz.size40 (w : World) : (sizeOf 40).run Tryz.prog w = .ok 2 w := by kernel_rfl

theorem labs_split (o : List Lab) (j : Nat) (hj : j ≤ o.length) : (o.flatMap labc).take (j * 2) = (o.take j).flatMap labc ∧ (o.flatMap labc).drop (j * 2) = (o.drop j).flatMap labc := by
  have e : o.flatMap labc = (o.take j).flatMap labc ++ (o.drop j).flatMap labc := by rw [← List.flatMap_append, List.take_append_drop]
  have h : ((o.take j).flatMap labc).length = j * 2 := by rw [flat2_len, List.length_take, Nat.min_eq_left hj]
  rw [e]
  exact ⟨List.take_left' h, List.drop_left' h⟩

/-- The head and the tail of a list of labels in memory, as they are appended. -/
theorem sl_take {P : Nat → Prop} {W : World} {A : Option Addr} {c : Nat} {o : List Lab} {k j : Nat} (h : Sl P W (.slice A k c) 2 k (o.flatMap labc)) (ho : o.length = k) (hj : j ≤ k) : Sl P W (.slice A j c) 2 j ((o.take j).flatMap labc) := by
  obtain ⟨A', c', e, hl, hc, hr⟩ := h
  injection e with e1 _ e3
  subst e1 e3
  refine ⟨A, c, rfl, by rw [flat2_len, List.length_take]; omega, by omega, fun h0 => ?_⟩
  obtain ⟨g, off, hA, hP, hcell⟩ := hr (by omega)
  refine ⟨g, off, hA, hP, fun i u hu => hcell i u ?_⟩
  rw [← (labs_split o j (by omega)).1, List.getElem?_take] at hu
  split at hu
  · exact hu
  · cases hu
theorem sl_drop {P : Nat → Prop} {W0 : World} {A : Option Addr} {c : Nat} {o : List Lab} {k j : Nat} (h : Sl P W0 (.slice A k c) 2 k (o.flatMap labc)) (ho : o.length = k) (hj : j ≤ k) :
    ∃ A', (∀ W, (Instr.slice 31 (.slice A k c) (some (.int .i64 j)) none none).run Tryz.prog W = .ok (.slice A' (k - j) (c - j)) W) ∧ ∀ W, Sl P W (.slice A k c) 2 k (o.flatMap labc) → Sl P W (.slice A' (k - j) (c - j)) 2 (k - j) ((o.drop j).flatMap labc) := by
  have hrun : ∀ W, (Instr.slice 31 (.slice A k c) (some (.int .i64 j)) none none).run Tryz.prog W = .ok (sliced A j k c 2) W := fun W => by
    have h := run_slice_l (P := Tryz.prog) W 31 A k c (by rw [Tryz.elem31']; exact Tryz.underlying31) .i64 j (by omega) (by omega)
    rw [Tryz.elem31', Tryz.size40] at h
    rw [h]
    simp [Result.andThen]
  refine ⟨if c = j then A else A.map (fun a : Addr => a.add (j * 2)), fun W => hrun W, fun W h2 => ?_⟩
  obtain ⟨A', c', e, hl, hc, hr⟩ := h2
  injection e with e1 _ e3
  subst e1 e3
  refine ⟨_, _, rfl, by rw [flat2_len, List.length_drop]; omega, by omega, fun h0 => ?_⟩
  obtain ⟨g, off, rfl, hP, hcell⟩ := hr (by omega)
  have hcj : ¬ c = j := by omega
  have e1 : (⟨g, off, none⟩ : Addr).add (j * 2) = ⟨g, off + j * 2, none⟩ := by unfold Addr.add; split <;> simp_all
  refine ⟨g, off + j * 2, by simp [hcj, e1], hP, fun i u hu => ?_⟩
  rw [← (labs_split o j (by omega)).2, List.getElem?_drop] at hu
  rw [Nat.add_assoc]
  exact hcell _ _ hu

theorem own_empty40 (W : World) (base : Nat) (h : base ≤ W.heap.size) : (W.alloc (.cells #[] 40)).ownsRow base 40 2 (.slice (some ⟨W.heap.size, 0, none⟩) 0 0) 0 [] :=
  World.ownsRow_made (base := base) (e := 40) (size := 2) W #[] 0 h (Nat.zero_le _) rfl

set_option maxRecDepth 100000 in
set_option maxHeartbeats 8000000 in
theorem sorted_any (P : Nat → Prop) (v : Value) (l : List Lab) (w : World) (h : Sl P w v 2 l.length (l.flatMap labc)) (hl : l.length ≤ 1099511627776) : Calls Tryz.prog 24 #[v] w (LabEnds 40 w (sortL l)) := by
  unfold LabEnds
  rw [lsort_length]
  obtain ⟨A, c, rfl, _, hc, hr⟩ := h
  obtain ⟨n, hn⟩ : ∃ n, l.length = n := ⟨_, rfl⟩
  rw [hn] at hr hc hl ⊢
  have HN := Lib.hid hn
  have HR := Lib.hid hr
  obtain ⟨i0, hi0, hz0, hz1, hz2⟩ := info_parts Tryz.info40
  clear hn hr
  go_enter Tryz.func24, Tryz.ntmps24
  go_wp2
  go_loopw [3, 4] (fun vo vi wr => ∃ k : Nat, k ≤ n ∧ vi = .int .i64 k ∧ Hid (wr.ownsRow w.heap.size 40 2 vo k ((sortL (l.take k)).flatMap labc)) ∧ Hid (Fr (fun _ => False) w wr)) (fun _ vi _ => n - (intOf vi).toNat)
  case atStart => exact ⟨0, Nat.zero_le _, rfl, Lib.hid (World.ownsRow_nil _ _ _ _), Lib.hid (Fr.refl _ _)⟩
  case round =>
    obtain ⟨k, hk, rfl, HO, HF⟩ := hrel
    by_cases hlt : k < n
    · obtain ⟨g, off, rfl, _, hcell⟩ := HR.out (by omega)
      obtain ⟨x, hx⟩ : ∃ x, l[k]? = some x := ⟨_, List.getElem?_eq_getElem (by rw [HN.out]; exact hlt)⟩
      have cx : ∀ W, Fr (fun _ => False) w W → W.cell? ⟨g, off + k * 2, none⟩ = some (.string x.1) ∧ W.cell? ⟨g, off + k * 2 + 1, none⟩ = some (.string x.2) := fun W hF => by
        have cc : ∀ j, j < 2 → ∀ u, (labc x)[j]? = some u → W.cell? ⟨g, off + (k * 2 + j), none⟩ = some u := fun j hj u hu => by
          have := hcell (k * 2 + j) u (by rw [flat2 labc (fun _ => rfl) l k x hx j hj]; exact hu)
          rw [hF.cell (p := ⟨g, off + (k * 2 + j), none⟩) (World.block_lt_of_cell? w _ this) (fun e => e)]
          exact this
        exact ⟨cc 0 (by omega) _ rfl, cc 1 (by omega) _ rfl⟩
      have hlen : (sortL (l.take k)).length = k := by rw [lsort_length, List.length_take]; have := HN.out; omega
      have hstep := lsort_snoc ltL l k x hx
      obtain ⟨o, ho⟩ : ∃ o, sortL (l.take k) = o := ⟨_, rfl⟩
      have hlen' : o.length = k := by rw [← ho]; exact hlen
      have hstep' : sortL (l.take (k + 1)) = lins ltL o x := by rw [← ho]; exact hstep
      rw [ho] at HO
      obtain ⟨A2, c2, rfl⟩ := own_slice' HO.out
      have HX := Lib.hid cx
      have HL := Lib.hid hlen'
      have HST := Lib.hid hstep'
      have HSO := Lib.hid (Sl.ofOwn HO.out)
      clear cx hlen hstep ho hx hcell hlen' hstep'
      go_wp2
      go_loopw [5] (fun vj w' => ∃ j : Nat, j ≤ k ∧ vj = .int .i64 j ∧ Hid (lpos ltL x o k = lpos ltL x o j) ∧ Hid (Fr (fun _ => False) wr w')) (fun vj _ => (intOf vj).toNat)
      case atStart => exact ⟨k, Nat.le_refl _, rfl, Lib.hid rfl, Lib.hid (Fr.refl _ _)⟩
      case round =>
        obtain ⟨j, hj, rfl, HJ, HF2⟩ := hrel
        have HFF : Hid (Fr (fun _ => False) w wr) := Lib.hid (HF.out.same HF2.out)
        rcases j with _ | j
        · have HP : Hid (lpos ltL x o o.length = 0) := Lib.hid (by rw [HL.out, HJ.out]; rfl)
          go_wp2
          go_region
          all_goals go_wp2
          have HSL : Hid (∀ W, Fr (fun _ => False) wr W → Sl (fun g => (Value.slice A2 k c2).ownBlock = some g) W (.slice A2 k c2) 2 k (o.flatMap labc)) := Lib.hid (fun W hW => (HSO.out.fr (HF2.out.same hW) (fun _ _ e => e)))
          have hjk : 0 ≤ k := by omega
          have hto := cutTo Tryz.elem31' Tryz.underlying31 Tryz.size40 A2 k c2 (0) .i64 ((0 : Nat) : Int) rfl (by have h := HSO.out; obtain ⟨_, _, e, _, h, _⟩ := h; injection e with e1 e2 e3; omega)
          have HSRC1 : Hid (∀ W, Fr (fun _ => False) wr W → Src Tryz.prog 2 31 (.slice A2 (0) c2) (0) ((o.take (0)).flatMap labc) W) := Lib.hid (fun W hW => src_sl Tryz.underlying31 (sl_take (HSL.out W hW) HL.out hjk) (labc_one _))
          have HSRC3 : Hid (∀ W, Fr (fun _ => False) wr W → Src Tryz.prog 2 31 (.slice A2 (k - (0)) (c2 - (0))) (k - (0)) ((o.drop (0)).flatMap labc) W) := Lib.hid (fun W hW => src_sl Tryz.underlying31 (by have h := HSL.out W hW; simpa using h) (labc_one _))
          have hlin : lins ltL o x = o.take (0) ++ x :: o.drop (0) := by unfold lins; rw [HP.out]
          have HLIN := Lib.hid hlin
          have hsz9 := HFF.out.size
          clear hlin HSL
          refine wp_region_but (fun w' => Fr (fun _ => False) wr w') 14 (by kernel_rfl) ((Fr.refl _ wr).drew.drew) ?_
          intro hS
          have F0 : Fr (fun _ => False) wr wr.drew.drew := (Fr.refl _ wr).drew.drew
          generalize wr.drew.drew = W0 at F0 hS ⊢
          refine wpBut_take 1 (.slice A2 k c2) rfl (by kernel_rfl) (by kernel_rfl) (by kernel_rfl) (by kernel_rfl) (fun _ _ _ h => h) (by rfl) (by intro w; go_simp) hS ?_
          try simp only [Act.put, List.setIfInBounds_toArray, List.set_cons_zero, List.set_cons_succ]
          refine wpBut_take 2 (.int .i64 ((0 : Nat) : Int)) rfl (by kernel_rfl) (by kernel_rfl) (by kernel_rfl) (by kernel_rfl) (fun _ _ _ h => h) (by rfl) (by intro w; go_simp) hS ?_
          try simp only [Act.put, List.setIfInBounds_toArray, List.set_cons_zero, List.set_cons_succ]
          refine wpBut_take 3 (.slice A2 (0) c2) rfl (by kernel_rfl) (by kernel_rfl) (by kernel_rfl) (by kernel_rfl) (fun _ _ _ h => h) (by rfl) (by intro w; go_simp) hS ?_
          try simp only [Act.put, List.setIfInBounds_toArray, List.set_cons_zero, List.set_cons_succ]
          refine wpBut_take 5 (.slice (some ⟨g, off, none⟩) n c) rfl (by kernel_rfl) (by kernel_rfl) (by kernel_rfl) (by kernel_rfl) (fun _ _ _ h => h) (by rfl) (by intro w; go_simp) hS ?_
          try simp only [Act.put, List.setIfInBounds_toArray, List.set_cons_zero, List.set_cons_succ]
          refine wpBut_take 6 (.int .i64 k) rfl (by kernel_rfl) (by kernel_rfl) (by kernel_rfl) (by kernel_rfl) (fun _ _ _ h => h) (by rfl) (by intro w; go_simp) hS ?_
          try simp only [Act.put, List.setIfInBounds_toArray, List.set_cons_zero, List.set_cons_succ]
          refine wpBut_take 7 (.pointer (some ⟨g, off + k * 2, none⟩)) rfl (by kernel_rfl) (by kernel_rfl) (by kernel_rfl) (by kernel_rfl) (fun _ _ _ h => h) (by rfl) (by intro w; go_simp) hS ?_
          try simp only [Act.put, List.setIfInBounds_toArray, List.set_cons_zero, List.set_cons_succ]
          refine wpBut_load 8 [9, 10, 14] (.agg #[.string x.1, .string x.2]) rfl (by kernel_rfl) (by kernel_rfl) (by kernel_rfl) (by kernel_rfl) (by kernel_rfl) (by kernel_rfl) (by kernel_rfl) (fun _ _ _ h => h) (by rfl) (by rintro w h1; obtain ⟨h2, h3⟩ := HX.out _ (HFF.out.same h1); go_simp) hS ?_
          try simp only [Act.put, List.setIfInBounds_toArray, List.set_cons_zero, List.set_cons_succ]
          refine wpBut_take 11 (.slice A2 k c2) rfl (by kernel_rfl) (by kernel_rfl) (by kernel_rfl) (by kernel_rfl) (fun _ _ _ h => h) (by rfl) (by intro w; go_simp) hS ?_
          try simp only [Act.put, List.setIfInBounds_toArray, List.set_cons_zero, List.set_cons_succ]
          refine wpBut_take 12 (.int .i64 ((0 : Nat) : Int)) rfl (by kernel_rfl) (by kernel_rfl) (by kernel_rfl) (by kernel_rfl) (fun _ _ _ h => h) (by rfl) (by intro w; go_simp) hS ?_
          try simp only [Act.put, List.setIfInBounds_toArray, List.set_cons_zero, List.set_cons_succ]
          refine wpBut_take 13 (.slice A2 (k - (0)) (c2 - (0))) rfl (by kernel_rfl) (by kernel_rfl) (by kernel_rfl) (by kernel_rfl) (fun _ _ _ h => h) (by rfl) (by intro w; go_simp) hS ?_
          try simp only [Act.put, List.setIfInBounds_toArray, List.set_cons_zero, List.set_cons_succ]
          refine wpBut_two 0 9 (by kernel_rfl) rfl rfl (by rfl) (by rfl) (fun K hK => ?_) (fun K hK => ?_)
          · go_simp
            have o0 := own_empty40 W0 wr.heap.size F0.size
            have F1 := F0.alloc (.cells #[] 40)
            have he0 := F0.size
            refine hK.out _ _ F1 ?_
            clear hK K hS
            try simp only [Act.put, List.setIfInBounds_toArray, List.set_cons_zero, List.set_cons_succ]
            generalize World.alloc W0 (Obj.cells #[] 40) = W1 at o0 F1 ⊢
            generalize W0.heap.size = e0 at o0 he0 ⊢
            have hS := F1
            refine wpBut_two 4 9 (by kernel_rfl) rfl rfl (by rfl) (by rfl) (fun K hK => ?_) (fun K hK => ?_)
            · refine wp_append_src W1 _ _ 31 31 (by rfl) wr.heap.size 40 i0 _ 2 32 Tryz.underlying31 hi0 hz0 hz1 hz2 rfl (by decide) (.slice (some ⟨e0, 0, none⟩) 0 0) 0 [] (by rfl) o0 (.slice A2 (0) c2) (0) ((o.take (0)).flatMap labc) (by rfl) (HSRC1.out _ F1) (by unfold maxLen; omega) (by omega) F1.size ?_
              intro v1 W2 hown1 hgrow1 hat1
              rw [Nat.zero_add, List.nil_append] at hown1
              have F2 := F1.grown hgrow1 (fun q hq => .inr (by have hq : e0 = q := Option.some.inj hq; omega))
              obtain ⟨a1, n1, k1, rfl⟩ := own_slice hown1
              refine hK.out _ _ F2 ?_
              clear hK K hS hgrow1 hat1
              try simp only [Act.put, List.setIfInBounds_toArray, List.set_cons_zero, List.set_cons_succ]
              have hS := F2
              refine wpBut_one 9 (by kernel_rfl) rfl (by rfl) (fun K hK => ?_)
              go_simp
              have B9 : Blk (W2.alloc (.cells #[.string x.1, .string x.2] 40)) W2.heap.size 40 #[.string x.1, .string x.2] := Blk.new W2 40 _
              have F3 := F2.alloc (.cells #[.string x.1, .string x.2] 40)
              have hown1b := World.ownsRow.alloc hown1 (.cells #[.string x.1, .string x.2] 40)
              refine hK.out _ _ F3 ?_
              clear hK K hS
              try simp only [Act.put, List.setIfInBounds_toArray, List.set_cons_zero, List.set_cons_succ]
              generalize World.alloc W2 (Obj.cells #[.string x.1, .string x.2] 40) = W3 at B9 F3 hown1b ⊢
              generalize W2.heap.size = g9 at B9 ⊢
              have hS := F3
              refine wpBut_one 10 (by kernel_rfl) rfl (by rfl) (fun K hK => ?_)
              refine wp_append_src W3 _ _ 31 31 (by rfl) wr.heap.size 40 i0 _ 2 32 Tryz.underlying31 hi0 hz0 hz1 hz2 rfl (by decide) (.slice a1 n1 k1) (0) ((o.take (0)).flatMap labc) (by rfl) hown1b _ 1 (labc x) (by rfl) (src_blk (cs := labc x) Tryz.underlying31 B9 rfl (by simp [labc, Value.oneCell'])) (by unfold maxLen; omega) (by omega) F3.size ?_
              intro v2 W4 hown2 hgrow2 hat2
              have F4 := F3.grown hgrow2 (fun q hq => .inr ((World.ownsRow.lt hown1b q hq).1))
              obtain ⟨a2, n2, k2, rfl⟩ := own_slice hown2
              refine hK.out _ _ F4 ?_
              clear hK K hS hgrow2 hat2
              try simp only [Act.put, List.setIfInBounds_toArray, List.set_cons_zero, List.set_cons_succ]
              have hS := F4
              refine wpBut_last 14 (by kernel_rfl) rfl (by kernel_rfl) (by rfl) (fun K hK => ?_)
              refine wp_append_src W4 _ _ 31 31 (by rfl) wr.heap.size 40 i0 _ 2 32 Tryz.underlying31 hi0 hz0 hz1 hz2 rfl (by decide) (.slice a2 n2 k2) (0 + 1) ((o.take (0)).flatMap labc ++ labc x) (by rfl) hown2 (.slice A2 (k - (0)) (c2 - (0))) (k - (0)) ((o.drop (0)).flatMap labc) (by rfl) (HSRC3.out _ F4) (by unfold maxLen; omega) (by omega) F4.size ?_
              intro v3 W5 hown3 hgrow3 hat3
              have F5 := F4.grown hgrow3 (fun q hq => .inr ((World.ownsRow.lt hown2 q hq).1))
              obtain ⟨a3, n3, k3, rfl⟩ := own_slice hown3
              have hown4 : W5.ownsRow w.heap.size 40 2 (.slice a3 n3 k3) (k + 1) ((sortL (l.take (k + 1))).flatMap labc) := by
                rw [HST.out, HLIN.out]
                have e1 : 0 + 1 + (k - (0)) = k + 1 := by omega
                rw [e1] at hown3
                have h := own_mono hown3 hsz9
                simpa [List.flatMap_append, List.flatMap_cons] using h
              have HO4 := Lib.hid hown4
              have HF4 := Lib.hid (HFF.out.same F5)
              refine hK.out _ _ ?_
              clear hK K hS hgrow3 hat3 hown3 hown4
              try simp only [Act.put, List.setIfInBounds_toArray, List.set_cons_zero, List.set_cons_succ]
              refine wpBut_last 15 (by kernel_rfl) rfl (by kernel_rfl) (by rfl) (fun K hK => ?_)
              go_simp
              refine hK.out _ _ ?_
              clear hK K
              refine wpBut_done (by kernel_rfl) ?_ _
              go_wp2
              go_roundw
              case rel => exact ⟨k + 1, by omega, by go_num, HO4, HF4⟩
              case measure => simp [intOf]; omega
            · go_simp
              have B9 : Blk (W1.alloc (.cells #[.string x.1, .string x.2] 40)) W1.heap.size 40 #[.string x.1, .string x.2] := Blk.new W1 40 _
              have F2 := F1.alloc (.cells #[.string x.1, .string x.2] 40)
              have o0b := World.ownsRow.alloc o0 (.cells #[.string x.1, .string x.2] 40)
              have hne9 : W1.heap.size ≠ e0 := fun e => by have h := own_lt o0 (k := e0) rfl; omega
              refine hK.out _ _ F2 ?_
              clear hK K hS
              try simp only [Act.put, List.setIfInBounds_toArray, List.set_cons_zero, List.set_cons_succ]
              generalize World.alloc W1 (Obj.cells #[.string x.1, .string x.2] 40) = W2 at B9 F2 o0b ⊢
              generalize W1.heap.size = g9 at B9 hne9 ⊢
              have hS := F2
              refine wpBut_one 4 (by kernel_rfl) rfl (by rfl) (fun K hK => ?_)
              refine wp_append_src W2 _ _ 31 31 (by rfl) wr.heap.size 40 i0 _ 2 32 Tryz.underlying31 hi0 hz0 hz1 hz2 rfl (by decide) (.slice (some ⟨e0, 0, none⟩) 0 0) 0 [] (by rfl) o0b (.slice A2 (0) c2) (0) ((o.take (0)).flatMap labc) (by rfl) (HSRC1.out _ F2) (by unfold maxLen; omega) (by omega) F2.size ?_
              intro v1 W3 hown1 hgrow1 hat1
              rw [Nat.zero_add, List.nil_append] at hown1
              have F3 := F2.grown hgrow1 (fun q hq => .inr (by have hq : e0 = q := Option.some.inj hq; omega))
              have B9b := B9.grown hgrow1 (fun e => hne9 (Option.some.inj e))
              obtain ⟨a1, n1, k1, rfl⟩ := own_slice hown1
              refine hK.out _ _ F3 ?_
              clear hK K hS hgrow1 hat1
              try simp only [Act.put, List.setIfInBounds_toArray, List.set_cons_zero, List.set_cons_succ]
              have hS := F3
              refine wpBut_one 10 (by kernel_rfl) rfl (by rfl) (fun K hK => ?_)
              refine wp_append_src W3 _ _ 31 31 (by rfl) wr.heap.size 40 i0 _ 2 32 Tryz.underlying31 hi0 hz0 hz1 hz2 rfl (by decide) (.slice a1 n1 k1) (0) ((o.take (0)).flatMap labc) (by rfl) hown1 _ 1 (labc x) (by rfl) (src_blk (cs := labc x) Tryz.underlying31 B9b rfl (by simp [labc, Value.oneCell'])) (by unfold maxLen; omega) (by omega) F3.size ?_
              intro v2 W4 hown2 hgrow2 hat2
              have F4 := F3.grown hgrow2 (fun q hq => .inr ((World.ownsRow.lt hown1 q hq).1))
              obtain ⟨a2, n2, k2, rfl⟩ := own_slice hown2
              refine hK.out _ _ F4 ?_
              clear hK K hS hgrow2 hat2
              try simp only [Act.put, List.setIfInBounds_toArray, List.set_cons_zero, List.set_cons_succ]
              have hS := F4
              refine wpBut_last 14 (by kernel_rfl) rfl (by kernel_rfl) (by rfl) (fun K hK => ?_)
              refine wp_append_src W4 _ _ 31 31 (by rfl) wr.heap.size 40 i0 _ 2 32 Tryz.underlying31 hi0 hz0 hz1 hz2 rfl (by decide) (.slice a2 n2 k2) (0 + 1) ((o.take (0)).flatMap labc ++ labc x) (by rfl) hown2 (.slice A2 (k - (0)) (c2 - (0))) (k - (0)) ((o.drop (0)).flatMap labc) (by rfl) (HSRC3.out _ F4) (by unfold maxLen; omega) (by omega) F4.size ?_
              intro v3 W5 hown3 hgrow3 hat3
              have F5 := F4.grown hgrow3 (fun q hq => .inr ((World.ownsRow.lt hown2 q hq).1))
              obtain ⟨a3, n3, k3, rfl⟩ := own_slice hown3
              have hown4 : W5.ownsRow w.heap.size 40 2 (.slice a3 n3 k3) (k + 1) ((sortL (l.take (k + 1))).flatMap labc) := by
                rw [HST.out, HLIN.out]
                have e1 : 0 + 1 + (k - (0)) = k + 1 := by omega
                rw [e1] at hown3
                have h := own_mono hown3 hsz9
                simpa [List.flatMap_append, List.flatMap_cons] using h
              have HO4 := Lib.hid hown4
              have HF4 := Lib.hid (HFF.out.same F5)
              refine hK.out _ _ ?_
              clear hK K hS hgrow3 hat3 hown3 hown4
              try simp only [Act.put, List.setIfInBounds_toArray, List.set_cons_zero, List.set_cons_succ]
              refine wpBut_last 15 (by kernel_rfl) rfl (by kernel_rfl) (by rfl) (fun K hK => ?_)
              go_simp
              refine hK.out _ _ ?_
              clear hK K
              refine wpBut_done (by kernel_rfl) ?_ _
              go_wp2
              go_roundw
              case rel => exact ⟨k + 1, by omega, by go_num, HO4, HF4⟩
              case measure => simp [intOf]; omega
          · go_simp
            have B9 : Blk (W0.alloc (.cells #[.string x.1, .string x.2] 40)) W0.heap.size 40 #[.string x.1, .string x.2] := Blk.new W0 40 _
            have F1 := F0.alloc (.cells #[.string x.1, .string x.2] 40)
            refine hK.out _ _ F1 ?_
            clear hK K hS
            try simp only [Act.put, List.setIfInBounds_toArray, List.set_cons_zero, List.set_cons_succ]
            generalize World.alloc W0 (Obj.cells #[.string x.1, .string x.2] 40) = W1 at B9 F1 ⊢
            generalize W0.heap.size = g9 at B9 ⊢
            have hS := F1
            refine wpBut_one 0 (by kernel_rfl) rfl (by rfl) (fun K hK => ?_)
            go_simp
            have o0 := own_empty40 W1 wr.heap.size F1.size
            have F2 := F1.alloc (.cells #[] 40)
            have he0 := F1.size
            have hne9 : g9 ≠ W1.heap.size := Nat.ne_of_lt B9.lt
            have B9b := B9.alloc (.cells #[] 40)
            refine hK.out _ _ F2 ?_
            clear hK K hS
            try simp only [Act.put, List.setIfInBounds_toArray, List.set_cons_zero, List.set_cons_succ]
            generalize World.alloc W1 (Obj.cells #[] 40) = W2 at o0 F2 B9b ⊢
            generalize W1.heap.size = e0 at o0 he0 hne9 ⊢
            have hS := F2
            refine wpBut_one 4 (by kernel_rfl) rfl (by rfl) (fun K hK => ?_)
            refine wp_append_src W2 _ _ 31 31 (by rfl) wr.heap.size 40 i0 _ 2 32 Tryz.underlying31 hi0 hz0 hz1 hz2 rfl (by decide) (.slice (some ⟨e0, 0, none⟩) 0 0) 0 [] (by rfl) o0 (.slice A2 (0) c2) (0) ((o.take (0)).flatMap labc) (by rfl) (HSRC1.out _ F2) (by unfold maxLen; omega) (by omega) F2.size ?_
            intro v1 W3 hown1 hgrow1 hat1
            rw [Nat.zero_add, List.nil_append] at hown1
            have F3 := F2.grown hgrow1 (fun q hq => .inr (by have hq : e0 = q := Option.some.inj hq; omega))
            have B9c := B9b.grown hgrow1 (fun e => hne9 (Option.some.inj e))
            obtain ⟨a1, n1, k1, rfl⟩ := own_slice hown1
            refine hK.out _ _ F3 ?_
            clear hK K hS hgrow1 hat1
            try simp only [Act.put, List.setIfInBounds_toArray, List.set_cons_zero, List.set_cons_succ]
            have hS := F3
            refine wpBut_one 10 (by kernel_rfl) rfl (by rfl) (fun K hK => ?_)
            refine wp_append_src W3 _ _ 31 31 (by rfl) wr.heap.size 40 i0 _ 2 32 Tryz.underlying31 hi0 hz0 hz1 hz2 rfl (by decide) (.slice a1 n1 k1) (0) ((o.take (0)).flatMap labc) (by rfl) hown1 _ 1 (labc x) (by rfl) (src_blk (cs := labc x) Tryz.underlying31 B9c rfl (by simp [labc, Value.oneCell'])) (by unfold maxLen; omega) (by omega) F3.size ?_
            intro v2 W4 hown2 hgrow2 hat2
            have F4 := F3.grown hgrow2 (fun q hq => .inr ((World.ownsRow.lt hown1 q hq).1))
            obtain ⟨a2, n2, k2, rfl⟩ := own_slice hown2
            refine hK.out _ _ F4 ?_
            clear hK K hS hgrow2 hat2
            try simp only [Act.put, List.setIfInBounds_toArray, List.set_cons_zero, List.set_cons_succ]
            have hS := F4
            refine wpBut_last 14 (by kernel_rfl) rfl (by kernel_rfl) (by rfl) (fun K hK => ?_)
            refine wp_append_src W4 _ _ 31 31 (by rfl) wr.heap.size 40 i0 _ 2 32 Tryz.underlying31 hi0 hz0 hz1 hz2 rfl (by decide) (.slice a2 n2 k2) (0 + 1) ((o.take (0)).flatMap labc ++ labc x) (by rfl) hown2 (.slice A2 (k - (0)) (c2 - (0))) (k - (0)) ((o.drop (0)).flatMap labc) (by rfl) (HSRC3.out _ F4) (by unfold maxLen; omega) (by omega) F4.size ?_
            intro v3 W5 hown3 hgrow3 hat3
            have F5 := F4.grown hgrow3 (fun q hq => .inr ((World.ownsRow.lt hown2 q hq).1))
            obtain ⟨a3, n3, k3, rfl⟩ := own_slice hown3
            have hown4 : W5.ownsRow w.heap.size 40 2 (.slice a3 n3 k3) (k + 1) ((sortL (l.take (k + 1))).flatMap labc) := by
              rw [HST.out, HLIN.out]
              have e1 : 0 + 1 + (k - (0)) = k + 1 := by omega
              rw [e1] at hown3
              have h := own_mono hown3 hsz9
              simpa [List.flatMap_append, List.flatMap_cons] using h
            have HO4 := Lib.hid hown4
            have HF4 := Lib.hid (HFF.out.same F5)
            refine hK.out _ _ ?_
            clear hK K hS hgrow3 hat3 hown3 hown4
            try simp only [Act.put, List.setIfInBounds_toArray, List.set_cons_zero, List.set_cons_succ]
            refine wpBut_last 15 (by kernel_rfl) rfl (by kernel_rfl) (by rfl) (fun K hK => ?_)
            go_simp
            refine hK.out _ _ ?_
            clear hK K
            refine wpBut_done (by kernel_rfl) ?_ _
            go_wp2
            go_roundw
            case rel => exact ⟨k + 1, by omega, by go_num, HO4, HF4⟩
            case measure => simp [intOf]; omega
        · obtain ⟨g2, off2, rfl, _, hcell2⟩ : ∃ g2 off2, A2 = some ⟨g2, off2, none⟩ ∧ True ∧ ∀ i u, (o.flatMap labc)[i]? = some u → (_ : World).cell? ⟨g2, off2 + i, none⟩ = some u := by
            obtain ⟨A3, c3, e3, _, _, h3⟩ := HSO.out
            injection e3 with e1 _ e2
            subst e1 e2
            obtain ⟨g2, off2, h4, _, h5⟩ := h3 (by omega)
            exact ⟨g2, off2, h4, trivial, h5⟩
          obtain ⟨y, hy⟩ : ∃ y, o[j]? = some y := ⟨_, List.getElem?_eq_getElem (by rw [HL.out]; omega)⟩
          have d0 : wr.drew.cell? ⟨g, off + k * 2, none⟩ = some (.string x.1) := (HX.out _ HFF.out.drew).1
          have d1 : wr.drew.cell? ⟨g2, off2 + j * 2, none⟩ = some (.string y.1) := by
            have := hcell2 (j * 2 + 0) (.string y.1) (by rw [flat2 labc (fun _ => rfl) o j y hy 0 (by omega)]; rfl)
            have h6 := HF2.out.drew.cell (p := ⟨g2, off2 + j * 2, none⟩) (World.block_lt_of_cell? _ _ this) (fun e => e)
            rw [h6]; exact this
          have HY := Lib.hid hy
          have HF3 := Lib.hid HF2.out.drew
          clear hcell2 hy
          by_cases hxy : ltL x y = true
          · have hless : Op.bytesLess x.1.toList y.1.toList = true := by rw [less_ltL, hxy]
            have HJ3 : Hid (lpos ltL x o k = lpos ltL x o j) := Lib.hid (by
              rw [HJ.out, lpos, HY.out]
              simp [hxy])
            clear hxy
            go_wp2
            go_region
            all_goals go_wp2
            exact ⟨⟨j, by omega, by first | rfl | go_num, HJ3, HF3⟩, by simp [intOf]; try omega⟩
          · have hxy0 : ltL x y = false := by simpa using hxy
            have hless : Op.bytesLess x.1.toList y.1.toList = false := by rw [less_ltL, hxy0]
            have HP : Hid (lpos ltL x o o.length = j + 1) := Lib.hid (by
              rw [HL.out, HJ.out, lpos, HY.out]
              simp [hxy0])
            clear hxy hxy0
            go_wp2
            go_region
            all_goals go_wp2
            clear d0 d1 hless
            generalize some (⟨g2, off2, none⟩ : Addr) = A2 at *
            have HSL : Hid (∀ W, Fr (fun _ => False) wr W → Sl (fun g => (Value.slice A2 k c2).ownBlock = some g) W (.slice A2 k c2) 2 k (o.flatMap labc)) := Lib.hid (fun W hW => (HSO.out.fr (HF2.out.same hW) (fun _ _ e => e)))
            have hjk : j + 1 ≤ k := by omega
            obtain ⟨A3, hrun3, hsl3⟩ := sl_drop HSO.out HL.out hjk
            have hto := cutTo Tryz.elem31' Tryz.underlying31 Tryz.size40 A2 k c2 (j + 1) .i64 ((j + 1 : Nat) : Int) rfl (by have h := HSO.out; obtain ⟨_, _, e, _, h, _⟩ := h; injection e with e1 e2 e3; omega)
            have HSRC1 : Hid (∀ W, Fr (fun _ => False) wr W → Src Tryz.prog 2 31 (.slice A2 (j + 1) c2) (j + 1) ((o.take (j + 1)).flatMap labc) W) := Lib.hid (fun W hW => src_sl Tryz.underlying31 (sl_take (HSL.out W hW) HL.out hjk) (labc_one _))
            have HSRC3 : Hid (∀ W, Fr (fun _ => False) wr W → Src Tryz.prog 2 31 (.slice A3 (k - (j + 1)) (c2 - (j + 1))) (k - (j + 1)) ((o.drop (j + 1)).flatMap labc) W) := Lib.hid (fun W hW => src_sl Tryz.underlying31 (hsl3 W (HSL.out W hW)) (labc_one _))
            have hlin : lins ltL o x = o.take (j + 1) ++ x :: o.drop (j + 1) := by unfold lins; rw [HP.out]
            have hrun3b : ∀ W, (Instr.slice 31 (.slice A2 k c2) (some (.int .i64 ((j : Int) + 1))) none none).run Tryz.prog W = .ok (.slice A3 (k - (j + 1)) (c2 - (j + 1))) W := hrun3
            have htob : ∀ W, (Instr.slice 31 (.slice A2 k c2) none (some (.int .i64 ((j : Int) + 1))) none).run Tryz.prog W = .ok (.slice A2 (j + 1) c2) W := hto
            clear hrun3 hto
            have HLIN := Lib.hid hlin
            have hsz9 := HFF.out.size
            clear hlin hsl3 HSL
            refine wp_region_but (fun w' => Fr (fun _ => False) wr w') 14 (by kernel_rfl) ((Fr.refl _ wr).drew.drew) ?_
            intro hS
            have F0 : Fr (fun _ => False) wr wr.drew.drew := (Fr.refl _ wr).drew.drew
            generalize wr.drew.drew = W0 at F0 hS ⊢
            refine wpBut_take 1 (.slice A2 k c2) rfl (by kernel_rfl) (by kernel_rfl) (by kernel_rfl) (by kernel_rfl) (fun _ _ _ h => h) (by rfl) (by intro w; go_simp) hS ?_
            try simp only [Act.put, List.setIfInBounds_toArray, List.set_cons_zero, List.set_cons_succ]
            refine wpBut_take 2 (.int .i64 ((j + 1 : Nat) : Int)) rfl (by kernel_rfl) (by kernel_rfl) (by kernel_rfl) (by kernel_rfl) (fun _ _ _ h => h) (by rfl) (by intro w; go_simp) hS ?_
            try simp only [Act.put, List.setIfInBounds_toArray, List.set_cons_zero, List.set_cons_succ]
            refine wpBut_take 3 (.slice A2 (j + 1) c2) rfl (by kernel_rfl) (by kernel_rfl) (by kernel_rfl) (by kernel_rfl) (fun _ _ _ h => h) (by rfl) (by intro w; go_simp) hS ?_
            try simp only [Act.put, List.setIfInBounds_toArray, List.set_cons_zero, List.set_cons_succ]
            refine wpBut_take 5 (.slice (some ⟨g, off, none⟩) n c) rfl (by kernel_rfl) (by kernel_rfl) (by kernel_rfl) (by kernel_rfl) (fun _ _ _ h => h) (by rfl) (by intro w; go_simp) hS ?_
            try simp only [Act.put, List.setIfInBounds_toArray, List.set_cons_zero, List.set_cons_succ]
            refine wpBut_take 6 (.int .i64 k) rfl (by kernel_rfl) (by kernel_rfl) (by kernel_rfl) (by kernel_rfl) (fun _ _ _ h => h) (by rfl) (by intro w; go_simp) hS ?_
            try simp only [Act.put, List.setIfInBounds_toArray, List.set_cons_zero, List.set_cons_succ]
            refine wpBut_take 7 (.pointer (some ⟨g, off + k * 2, none⟩)) rfl (by kernel_rfl) (by kernel_rfl) (by kernel_rfl) (by kernel_rfl) (fun _ _ _ h => h) (by rfl) (by intro w; go_simp) hS ?_
            try simp only [Act.put, List.setIfInBounds_toArray, List.set_cons_zero, List.set_cons_succ]
            refine wpBut_load 8 [9, 10, 14] (.agg #[.string x.1, .string x.2]) rfl (by kernel_rfl) (by kernel_rfl) (by kernel_rfl) (by kernel_rfl) (by kernel_rfl) (by kernel_rfl) (by kernel_rfl) (fun _ _ _ h => h) (by rfl) (by rintro w h1; obtain ⟨h2, h3⟩ := HX.out _ (HFF.out.same h1); go_simp) hS ?_
            try simp only [Act.put, List.setIfInBounds_toArray, List.set_cons_zero, List.set_cons_succ]
            refine wpBut_take 11 (.slice A2 k c2) rfl (by kernel_rfl) (by kernel_rfl) (by kernel_rfl) (by kernel_rfl) (fun _ _ _ h => h) (by rfl) (by intro w; go_simp) hS ?_
            try simp only [Act.put, List.setIfInBounds_toArray, List.set_cons_zero, List.set_cons_succ]
            refine wpBut_take 12 (.int .i64 ((j + 1 : Nat) : Int)) rfl (by kernel_rfl) (by kernel_rfl) (by kernel_rfl) (by kernel_rfl) (fun _ _ _ h => h) (by rfl) (by intro w; go_simp) hS ?_
            try simp only [Act.put, List.setIfInBounds_toArray, List.set_cons_zero, List.set_cons_succ]
            refine wpBut_take 13 (.slice A3 (k - (j + 1)) (c2 - (j + 1))) rfl (by kernel_rfl) (by kernel_rfl) (by kernel_rfl) (by kernel_rfl) (fun _ _ _ h => h) (by rfl) (by intro w; go_simp) hS ?_
            try simp only [Act.put, List.setIfInBounds_toArray, List.set_cons_zero, List.set_cons_succ]
            refine wpBut_two 0 9 (by kernel_rfl) rfl rfl (by rfl) (by rfl) (fun K hK => ?_) (fun K hK => ?_)
            · go_simp
              have o0 := own_empty40 W0 wr.heap.size F0.size
              have F1 := F0.alloc (.cells #[] 40)
              have he0 := F0.size
              refine hK.out _ _ F1 ?_
              clear hK K hS
              try simp only [Act.put, List.setIfInBounds_toArray, List.set_cons_zero, List.set_cons_succ]
              generalize World.alloc W0 (Obj.cells #[] 40) = W1 at o0 F1 ⊢
              generalize W0.heap.size = e0 at o0 he0 ⊢
              have hS := F1
              refine wpBut_two 4 9 (by kernel_rfl) rfl rfl (by rfl) (by rfl) (fun K hK => ?_) (fun K hK => ?_)
              · refine wp_append_src W1 _ _ 31 31 (by rfl) wr.heap.size 40 i0 _ 2 32 Tryz.underlying31 hi0 hz0 hz1 hz2 rfl (by decide) (.slice (some ⟨e0, 0, none⟩) 0 0) 0 [] (by rfl) o0 (.slice A2 (j + 1) c2) (j + 1) ((o.take (j + 1)).flatMap labc) (by rfl) (HSRC1.out _ F1) (by unfold maxLen; omega) (by omega) F1.size ?_
                intro v1 W2 hown1 hgrow1 hat1
                rw [Nat.zero_add, List.nil_append] at hown1
                have F2 := F1.grown hgrow1 (fun q hq => .inr (by have hq : e0 = q := Option.some.inj hq; omega))
                obtain ⟨a1, n1, k1, rfl⟩ := own_slice hown1
                refine hK.out _ _ F2 ?_
                clear hK K hS hgrow1 hat1
                try simp only [Act.put, List.setIfInBounds_toArray, List.set_cons_zero, List.set_cons_succ]
                have hS := F2
                refine wpBut_one 9 (by kernel_rfl) rfl (by rfl) (fun K hK => ?_)
                go_simp
                have B9 : Blk (W2.alloc (.cells #[.string x.1, .string x.2] 40)) W2.heap.size 40 #[.string x.1, .string x.2] := Blk.new W2 40 _
                have F3 := F2.alloc (.cells #[.string x.1, .string x.2] 40)
                have hown1b := World.ownsRow.alloc hown1 (.cells #[.string x.1, .string x.2] 40)
                refine hK.out _ _ F3 ?_
                clear hK K hS
                try simp only [Act.put, List.setIfInBounds_toArray, List.set_cons_zero, List.set_cons_succ]
                generalize World.alloc W2 (Obj.cells #[.string x.1, .string x.2] 40) = W3 at B9 F3 hown1b ⊢
                generalize W2.heap.size = g9 at B9 ⊢
                have hS := F3
                refine wpBut_one 10 (by kernel_rfl) rfl (by rfl) (fun K hK => ?_)
                refine wp_append_src W3 _ _ 31 31 (by rfl) wr.heap.size 40 i0 _ 2 32 Tryz.underlying31 hi0 hz0 hz1 hz2 rfl (by decide) (.slice a1 n1 k1) (j + 1) ((o.take (j + 1)).flatMap labc) (by rfl) hown1b _ 1 (labc x) (by rfl) (src_blk (cs := labc x) Tryz.underlying31 B9 rfl (by simp [labc, Value.oneCell'])) (by unfold maxLen; omega) (by omega) F3.size ?_
                intro v2 W4 hown2 hgrow2 hat2
                have F4 := F3.grown hgrow2 (fun q hq => .inr ((World.ownsRow.lt hown1b q hq).1))
                obtain ⟨a2, n2, k2, rfl⟩ := own_slice hown2
                refine hK.out _ _ F4 ?_
                clear hK K hS hgrow2 hat2
                try simp only [Act.put, List.setIfInBounds_toArray, List.set_cons_zero, List.set_cons_succ]
                have hS := F4
                refine wpBut_last 14 (by kernel_rfl) rfl (by kernel_rfl) (by rfl) (fun K hK => ?_)
                refine wp_append_src W4 _ _ 31 31 (by rfl) wr.heap.size 40 i0 _ 2 32 Tryz.underlying31 hi0 hz0 hz1 hz2 rfl (by decide) (.slice a2 n2 k2) (j + 1 + 1) ((o.take (j + 1)).flatMap labc ++ labc x) (by rfl) hown2 (.slice A3 (k - (j + 1)) (c2 - (j + 1))) (k - (j + 1)) ((o.drop (j + 1)).flatMap labc) (by rfl) (HSRC3.out _ F4) (by unfold maxLen; omega) (by omega) F4.size ?_
                intro v3 W5 hown3 hgrow3 hat3
                have F5 := F4.grown hgrow3 (fun q hq => .inr ((World.ownsRow.lt hown2 q hq).1))
                obtain ⟨a3, n3, k3, rfl⟩ := own_slice hown3
                have hown4 : W5.ownsRow w.heap.size 40 2 (.slice a3 n3 k3) (k + 1) ((sortL (l.take (k + 1))).flatMap labc) := by
                  rw [HST.out, HLIN.out]
                  have e1 : j + 1 + 1 + (k - (j + 1)) = k + 1 := by omega
                  rw [e1] at hown3
                  have h := own_mono hown3 hsz9
                  simpa [List.flatMap_append, List.flatMap_cons] using h
                have HO4 := Lib.hid hown4
                have HF4 := Lib.hid (HFF.out.same F5)
                refine hK.out _ _ ?_
                clear hK K hS hgrow3 hat3 hown3 hown4
                try simp only [Act.put, List.setIfInBounds_toArray, List.set_cons_zero, List.set_cons_succ]
                refine wpBut_last 15 (by kernel_rfl) rfl (by kernel_rfl) (by rfl) (fun K hK => ?_)
                go_simp
                refine hK.out _ _ ?_
                clear hK K
                refine wpBut_done (by kernel_rfl) ?_ _
                go_wp2
                go_roundw
                case rel => exact ⟨k + 1, by omega, by go_num, HO4, HF4⟩
                case measure => simp [intOf]; omega
              · go_simp
                have B9 : Blk (W1.alloc (.cells #[.string x.1, .string x.2] 40)) W1.heap.size 40 #[.string x.1, .string x.2] := Blk.new W1 40 _
                have F2 := F1.alloc (.cells #[.string x.1, .string x.2] 40)
                have o0b := World.ownsRow.alloc o0 (.cells #[.string x.1, .string x.2] 40)
                have hne9 : W1.heap.size ≠ e0 := fun e => by have h := own_lt o0 (k := e0) rfl; omega
                refine hK.out _ _ F2 ?_
                clear hK K hS
                try simp only [Act.put, List.setIfInBounds_toArray, List.set_cons_zero, List.set_cons_succ]
                generalize World.alloc W1 (Obj.cells #[.string x.1, .string x.2] 40) = W2 at B9 F2 o0b ⊢
                generalize W1.heap.size = g9 at B9 hne9 ⊢
                have hS := F2
                refine wpBut_one 4 (by kernel_rfl) rfl (by rfl) (fun K hK => ?_)
                refine wp_append_src W2 _ _ 31 31 (by rfl) wr.heap.size 40 i0 _ 2 32 Tryz.underlying31 hi0 hz0 hz1 hz2 rfl (by decide) (.slice (some ⟨e0, 0, none⟩) 0 0) 0 [] (by rfl) o0b (.slice A2 (j + 1) c2) (j + 1) ((o.take (j + 1)).flatMap labc) (by rfl) (HSRC1.out _ F2) (by unfold maxLen; omega) (by omega) F2.size ?_
                intro v1 W3 hown1 hgrow1 hat1
                rw [Nat.zero_add, List.nil_append] at hown1
                have F3 := F2.grown hgrow1 (fun q hq => .inr (by have hq : e0 = q := Option.some.inj hq; omega))
                have B9b := B9.grown hgrow1 (fun e => hne9 (Option.some.inj e))
                obtain ⟨a1, n1, k1, rfl⟩ := own_slice hown1
                refine hK.out _ _ F3 ?_
                clear hK K hS hgrow1 hat1
                try simp only [Act.put, List.setIfInBounds_toArray, List.set_cons_zero, List.set_cons_succ]
                have hS := F3
                refine wpBut_one 10 (by kernel_rfl) rfl (by rfl) (fun K hK => ?_)
                refine wp_append_src W3 _ _ 31 31 (by rfl) wr.heap.size 40 i0 _ 2 32 Tryz.underlying31 hi0 hz0 hz1 hz2 rfl (by decide) (.slice a1 n1 k1) (j + 1) ((o.take (j + 1)).flatMap labc) (by rfl) hown1 _ 1 (labc x) (by rfl) (src_blk (cs := labc x) Tryz.underlying31 B9b rfl (by simp [labc, Value.oneCell'])) (by unfold maxLen; omega) (by omega) F3.size ?_
                intro v2 W4 hown2 hgrow2 hat2
                have F4 := F3.grown hgrow2 (fun q hq => .inr ((World.ownsRow.lt hown1 q hq).1))
                obtain ⟨a2, n2, k2, rfl⟩ := own_slice hown2
                refine hK.out _ _ F4 ?_
                clear hK K hS hgrow2 hat2
                try simp only [Act.put, List.setIfInBounds_toArray, List.set_cons_zero, List.set_cons_succ]
                have hS := F4
                refine wpBut_last 14 (by kernel_rfl) rfl (by kernel_rfl) (by rfl) (fun K hK => ?_)
                refine wp_append_src W4 _ _ 31 31 (by rfl) wr.heap.size 40 i0 _ 2 32 Tryz.underlying31 hi0 hz0 hz1 hz2 rfl (by decide) (.slice a2 n2 k2) (j + 1 + 1) ((o.take (j + 1)).flatMap labc ++ labc x) (by rfl) hown2 (.slice A3 (k - (j + 1)) (c2 - (j + 1))) (k - (j + 1)) ((o.drop (j + 1)).flatMap labc) (by rfl) (HSRC3.out _ F4) (by unfold maxLen; omega) (by omega) F4.size ?_
                intro v3 W5 hown3 hgrow3 hat3
                have F5 := F4.grown hgrow3 (fun q hq => .inr ((World.ownsRow.lt hown2 q hq).1))
                obtain ⟨a3, n3, k3, rfl⟩ := own_slice hown3
                have hown4 : W5.ownsRow w.heap.size 40 2 (.slice a3 n3 k3) (k + 1) ((sortL (l.take (k + 1))).flatMap labc) := by
                  rw [HST.out, HLIN.out]
                  have e1 : j + 1 + 1 + (k - (j + 1)) = k + 1 := by omega
                  rw [e1] at hown3
                  have h := own_mono hown3 hsz9
                  simpa [List.flatMap_append, List.flatMap_cons] using h
                have HO4 := Lib.hid hown4
                have HF4 := Lib.hid (HFF.out.same F5)
                refine hK.out _ _ ?_
                clear hK K hS hgrow3 hat3 hown3 hown4
                try simp only [Act.put, List.setIfInBounds_toArray, List.set_cons_zero, List.set_cons_succ]
                refine wpBut_last 15 (by kernel_rfl) rfl (by kernel_rfl) (by rfl) (fun K hK => ?_)
                go_simp
                refine hK.out _ _ ?_
                clear hK K
                refine wpBut_done (by kernel_rfl) ?_ _
                go_wp2
                go_roundw
                case rel => exact ⟨k + 1, by omega, by go_num, HO4, HF4⟩
                case measure => simp [intOf]; omega
            · go_simp
              have B9 : Blk (W0.alloc (.cells #[.string x.1, .string x.2] 40)) W0.heap.size 40 #[.string x.1, .string x.2] := Blk.new W0 40 _
              have F1 := F0.alloc (.cells #[.string x.1, .string x.2] 40)
              refine hK.out _ _ F1 ?_
              clear hK K hS
              try simp only [Act.put, List.setIfInBounds_toArray, List.set_cons_zero, List.set_cons_succ]
              generalize World.alloc W0 (Obj.cells #[.string x.1, .string x.2] 40) = W1 at B9 F1 ⊢
              generalize W0.heap.size = g9 at B9 ⊢
              have hS := F1
              refine wpBut_one 0 (by kernel_rfl) rfl (by rfl) (fun K hK => ?_)
              go_simp
              have o0 := own_empty40 W1 wr.heap.size F1.size
              have F2 := F1.alloc (.cells #[] 40)
              have he0 := F1.size
              have hne9 : g9 ≠ W1.heap.size := Nat.ne_of_lt B9.lt
              have B9b := B9.alloc (.cells #[] 40)
              refine hK.out _ _ F2 ?_
              clear hK K hS
              try simp only [Act.put, List.setIfInBounds_toArray, List.set_cons_zero, List.set_cons_succ]
              generalize World.alloc W1 (Obj.cells #[] 40) = W2 at o0 F2 B9b ⊢
              generalize W1.heap.size = e0 at o0 he0 hne9 ⊢
              have hS := F2
              refine wpBut_one 4 (by kernel_rfl) rfl (by rfl) (fun K hK => ?_)
              refine wp_append_src W2 _ _ 31 31 (by rfl) wr.heap.size 40 i0 _ 2 32 Tryz.underlying31 hi0 hz0 hz1 hz2 rfl (by decide) (.slice (some ⟨e0, 0, none⟩) 0 0) 0 [] (by rfl) o0 (.slice A2 (j + 1) c2) (j + 1) ((o.take (j + 1)).flatMap labc) (by rfl) (HSRC1.out _ F2) (by unfold maxLen; omega) (by omega) F2.size ?_
              intro v1 W3 hown1 hgrow1 hat1
              rw [Nat.zero_add, List.nil_append] at hown1
              have F3 := F2.grown hgrow1 (fun q hq => .inr (by have hq : e0 = q := Option.some.inj hq; omega))
              have B9c := B9b.grown hgrow1 (fun e => hne9 (Option.some.inj e))
              obtain ⟨a1, n1, k1, rfl⟩ := own_slice hown1
              refine hK.out _ _ F3 ?_
              clear hK K hS hgrow1 hat1
              try simp only [Act.put, List.setIfInBounds_toArray, List.set_cons_zero, List.set_cons_succ]
              have hS := F3
              refine wpBut_one 10 (by kernel_rfl) rfl (by rfl) (fun K hK => ?_)
              refine wp_append_src W3 _ _ 31 31 (by rfl) wr.heap.size 40 i0 _ 2 32 Tryz.underlying31 hi0 hz0 hz1 hz2 rfl (by decide) (.slice a1 n1 k1) (j + 1) ((o.take (j + 1)).flatMap labc) (by rfl) hown1 _ 1 (labc x) (by rfl) (src_blk (cs := labc x) Tryz.underlying31 B9c rfl (by simp [labc, Value.oneCell'])) (by unfold maxLen; omega) (by omega) F3.size ?_
              intro v2 W4 hown2 hgrow2 hat2
              have F4 := F3.grown hgrow2 (fun q hq => .inr ((World.ownsRow.lt hown1 q hq).1))
              obtain ⟨a2, n2, k2, rfl⟩ := own_slice hown2
              refine hK.out _ _ F4 ?_
              clear hK K hS hgrow2 hat2
              try simp only [Act.put, List.setIfInBounds_toArray, List.set_cons_zero, List.set_cons_succ]
              have hS := F4
              refine wpBut_last 14 (by kernel_rfl) rfl (by kernel_rfl) (by rfl) (fun K hK => ?_)
              refine wp_append_src W4 _ _ 31 31 (by rfl) wr.heap.size 40 i0 _ 2 32 Tryz.underlying31 hi0 hz0 hz1 hz2 rfl (by decide) (.slice a2 n2 k2) (j + 1 + 1) ((o.take (j + 1)).flatMap labc ++ labc x) (by rfl) hown2 (.slice A3 (k - (j + 1)) (c2 - (j + 1))) (k - (j + 1)) ((o.drop (j + 1)).flatMap labc) (by rfl) (HSRC3.out _ F4) (by unfold maxLen; omega) (by omega) F4.size ?_
              intro v3 W5 hown3 hgrow3 hat3
              have F5 := F4.grown hgrow3 (fun q hq => .inr ((World.ownsRow.lt hown2 q hq).1))
              obtain ⟨a3, n3, k3, rfl⟩ := own_slice hown3
              have hown4 : W5.ownsRow w.heap.size 40 2 (.slice a3 n3 k3) (k + 1) ((sortL (l.take (k + 1))).flatMap labc) := by
                rw [HST.out, HLIN.out]
                have e1 : j + 1 + 1 + (k - (j + 1)) = k + 1 := by omega
                rw [e1] at hown3
                have h := own_mono hown3 hsz9
                simpa [List.flatMap_append, List.flatMap_cons] using h
              have HO4 := Lib.hid hown4
              have HF4 := Lib.hid (HFF.out.same F5)
              refine hK.out _ _ ?_
              clear hK K hS hgrow3 hat3 hown3 hown4
              try simp only [Act.put, List.setIfInBounds_toArray, List.set_cons_zero, List.set_cons_succ]
              refine wpBut_last 15 (by kernel_rfl) rfl (by kernel_rfl) (by rfl) (fun K hK => ?_)
              go_simp
              refine hK.out _ _ ?_
              clear hK K
              refine wpBut_done (by kernel_rfl) ?_ _
              go_wp2
              go_roundw
              case rel => exact ⟨k + 1, by omega, by go_num, HO4, HF4⟩
              case measure => simp [intOf]; omega
    · go_wp2
      go_ret
      obtain rfl : k = n := by omega
      have e : l.take k = l := List.take_of_length_le (by rw [HN.out]; exact Nat.le_refl _)
      have h := HO.out
      rw [e] at h
      exact ⟨_, rfl, h, HF.out⟩
end Go.Proofs.YtbkookiigkckdaaGreatDoor

/- impl.byName 60; slices.SortFunc 59 at impl.Label. -/
namespace Go.Proofs.YtbkookiigkckdaaGreatDoor
open Go.RowKit Go.Sort
set_option linter.unusedVariables false
set_option linter.unusedSimpArgs false

def nameCmp (x y : Lab) : Int := if ltL x y = true then -1 else if ltL y x = true then 1 else 0
theorem name_lt (x y : Lab) : ltOf nameCmp x y = ltL x y := by
  unfold ltOf nameCmp
  cases ltL x y <;> cases ltL y x <;> simp
theorem name_eq {x y : Lab} (h1 : ltL x y = false) (h2 : ltL y x = false) : x.1.toList = y.1.toList := by
  simp only [ltL, nlt, decide_eq_false_iff_not, List.not_lt] at h1 h2
  rw [Lib.toList_data, Lib.toList_data]
  exact List.le_antisymm h2 h1
theorem name_ne {x y : Lab} (h : ltL y x = true) : x.1.toList ≠ y.1.toList := fun e => by
  rw [Lib.toList_data, Lib.toList_data] at e
  simp only [ltL, nlt, decide_eq_true_eq] at h
  rw [e] at h
  exact List.lt_irrefl _ h
theorem swoName : SWO (ltOf nameCmp) where
  irrefl x := by rw [name_lt]; exact ltL_irrefl x
  trans x y z h1 h2 := by rw [name_lt] at *; exact ltL_trans x y z h1 h2
  ntrans x y z h1 h2 := by rw [name_lt] at *; exact ltL_ntrans x y z h1 h2

set_option maxHeartbeats 1000000 in
theorem byName_any (x y : Lab) (W : World) : Calls Tryz.prog 60 #[.agg #[.string x.1, .string x.2], .agg #[.string y.1, .string y.2]] W fun e w' => e = .returned (.int .i64 (nameCmp x y)) ∧ ∃ q os', w' = grow (W.drewN q) os' := by
  have hxy := less_ltL x y
  have hyx := less_ltL y x
  cases h1 : ltL x y with
  | true =>
    have e : nameCmp x y = -1 := by unfold nameCmp; rw [h1]; rfl
    rw [h1] at hxy
    rw [e]
    clear e h1 hyx
    go_enter Tryz.func60, Tryz.ntmps60
    go_wp2
    go_ret
    exact ⟨rfl, 0, _, by rw [alloc_eq_grow, alloc_eq_grow, grow_grow]; rfl⟩
  | false =>
    rw [h1] at hxy
    cases h2 : ltL y x with
    | true =>
      have e : nameCmp x y = 1 := by unfold nameCmp; rw [h1, h2]; rfl
      have hne : (x.1.toList == y.1.toList) = false := by rw [beq_eq_false_iff_ne]; exact name_ne h2
      rw [h2] at hyx
      rw [e]
      clear e h1 h2
      go_enter Tryz.func60, Tryz.ntmps60
      go_wp2
      go_ret
      exact ⟨rfl, 0, _, by rw [alloc_eq_grow, alloc_eq_grow, grow_grow]; rfl⟩
    | false =>
      have e : nameCmp x y = 0 := by unfold nameCmp; rw [h1, h2]; rfl
      have hne : (x.1.toList == y.1.toList) = true := by rw [beq_iff_eq]; exact name_eq h1 h2
      rw [h2] at hyx
      rw [e]
      clear e h1 h2
      go_enter Tryz.func60, Tryz.ntmps60
      go_wp2
      go_ret
      exact ⟨rfl, 0, _, by rw [alloc_eq_grow, alloc_eq_grow, grow_grow]; rfl⟩

def Sort2Ends (v : Value) (l : List Lab) (w : World) (r : Ending) (w' : World) : Prop :=
  r = .returned (.tuple #[]) ∧ ∃ l' : List Lab, l'.Perm l ∧ l'.Pairwise (fun a b => nlt b.1 a.1 = false) ∧ Sl (fun g => v.ownBlock = some g) w' v 2 l'.length (l'.flatMap labc) ∧ Fr (fun g => v.ownBlock = some g) w w'

theorem sort2_any (base : Nat) (v : Value) (l : List Lab) (w : World) (h : w.ownsRow base 40 2 v l.length (l.flatMap labc)) (hl : l.length ≤ 12) :
    Calls Tryz.prog 59 #[v, .func (.func 60) #[] #[]] w (Sort2Ends v l w) := by
  rcases h with ⟨hlen, ⟨rfl, hn⟩ | ⟨g, c, cur, rfl, hb, hh, hc, hm, hcs, ht⟩⟩
  · have e : l = [] := List.eq_nil_of_length_eq_zero hn
    subst e
    have hcon := AnyF.slices_SortFunc_none Tryz.sortLab2 none 0 (.func (.func 60) #[] #[]) w
    refine hcon.mono ?_
    rintro r w' ⟨rfl, rfl⟩
    refine ⟨rfl, [], List.Perm.refl _, List.Pairwise.nil, ?_, Fr.refl _ _⟩
    exact Sl.ofOwn (World.ownsRow_nil (base := base) (e := 40) (size := 2) (w := w'))
  · have eg : ∀ args w, (callFunc 60 args).run Tryz.prog w = .ok (.enter 60 args) w := enters_of Tryz.func60 (by kernel_rfl) rfl
    have hblk : g < w.heap.size := Blk.lt (t := 40) hh
    have hH : HoldsK labc 2 w g 0 l.toArray := by
      unfold HoldsK
      rw [flatK_labs]
      intro j hj
      have hj2 : j < (l.flatMap labc).length := by simpa using hj
      rw [Nat.zero_add, Blk.cell (t := 40) hh, getElem!_pos _ j hj]
      refine ⟨?_, Blk.frozen (t := 40) hh j⟩
      have e : (l.flatMap labc)[j]? = cur[j]? := by
        rw [← ht, List.getElem?_take, if_pos (by omega)]
        simp
      rw [← e, List.getElem?_eq_getElem hj2]
      simp
    have hcon := AnyQ.slices_SortFunc_small_sorted Tryz.sortLab2 2 Tryz.isAgg40 Tryz.sizeOf40 labc (fun _ => rfl) (fun x v hv => by simp [labc] at hv; rcases hv with rfl | rfl <;> rfl) nameCmp 60 #[] swoName g 0 c l.toArray w eg (fun _ _ _ _ x y => byName_any x y _) hH hblk (by simpa using hl) len157
    change Calls Tryz.prog 59 #[.slice (some ⟨g, 0, none⟩) l.toArray.size c, _] _ _ at hcon
    rw [List.size_toArray] at hcon
    refine hcon.mono ?_
    rintro r w' ⟨rfl, d', n, os, hp, hs, rfl⟩
    obtain ⟨hsz, _, hperm⟩ := hp
    have hsz' : d'.size = l.length := by simpa using hsz
    have ed : d'.toList.toArray = d' := by simp
    refine ⟨rfl, d'.toList, ?_, ?_, ?_, (Fr.sortWorldK n g 0 d' os hblk).mono fun k _ e => by subst e; rfl⟩
    · have e1 : d'.extract 0 l.length = d' := by rw [← hsz']; simp
      have e2 : l.toArray.extract 0 l.length = l.toArray := by simp
      rw [e1, e2] at hperm
      exact hperm
    · rw [List.pairwise_iff_getElem]
      intro i j hi hj hij
      have hi' : i < d'.size := by simpa using hi
      have hj' : j < d'.size := by simpa using hj
      have := hs i j (Nat.zero_le _) hij (by omega)
      rw [getElem!_pos d' j hj', getElem!_pos d' i hi', name_lt] at this
      simpa [ltL] using this
    · have hH2 : HoldsK labc 2 (sortWorldK labc 2 w g 0 n d' os) g 0 d' := holdsK_sortWorldK_c labc 2 w g 0 l.toArray d' n os hH hblk (by simpa using hsz')
      have e9 : d'.toList.length = l.length := by simpa using hsz'
      show Sl (fun k => (Value.slice (some ⟨g, 0, none⟩) l.length c).ownBlock = some k) _ (.slice (some ⟨g, 0, none⟩) l.length c) 2 _ _
      rw [e9]
      refine ⟨some ⟨g, 0, none⟩, c, rfl, ?_, hc, fun _ => ⟨g, 0, rfl, rfl, ?_⟩⟩
      · rw [flat2_len, e9]
      · intro j u hu
        have hj : j < (d'.toList.flatMap labc).length := by
          rcases Nat.lt_or_ge j (d'.toList.flatMap labc).length with h | h
          · exact h
          · rw [List.getElem?_eq_none h] at hu; cases hu
        unfold HoldsK at hH2
        rw [← ed, flatK_labs, ed] at hH2
        have := (hH2 j (by simpa using hj)).1
        rw [this, getElem!_pos _ j (by simpa using hj)]
        rw [List.getElem?_eq_getElem hj] at hu
        simpa using hu
end Go.Proofs.YtbkookiigkckdaaGreatDoor

