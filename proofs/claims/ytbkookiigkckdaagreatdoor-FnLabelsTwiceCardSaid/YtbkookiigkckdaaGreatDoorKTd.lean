/- laws.FnLabelsTwice 6: the walk. Printed by gen_zw.py. -/
import Derived.Test.YtbkookiigkckdaaGreatDoorK28
import Derived.Test.YtbkookiigkckdaaGreatDoorKTc
import Derived.Test.YtbkookiigkckdaaGreatDoorK12
namespace Go.Proofs.YtbkookiigkckdaaGreatDoor
open Go.RowKit
set_option linter.unusedVariables false
set_option linter.unusedSimpArgs false

theorem sorted_uniq (l : List Lab) (hs : l.Pairwise (fun a b => nlt b.1 a.1 = false)) (ha : ∀ k x y, l[k]? = some x → l[k + 1]? = some y → x.1 ≠ y.1) : l.Pairwise (fun a b => a.1 ≠ b.1) := by
  rw [List.pairwise_iff_getElem] at hs ⊢
  intro i j hi hj hij e
  have h1 := ha i l[i] l[i + 1] (List.getElem?_eq_getElem hi) (List.getElem?_eq_getElem (by omega))
  by_cases h : i + 1 = j
  · subst h
    exact h1 e
  · have h2 := hs i (i + 1) hi (by omega) (by omega)
    have h3 := hs (i + 1) j (by omega) hj (by omega)
    rw [← e] at h3
    simp only [nlt, decide_eq_false_iff_not, List.not_lt] at h2 h3
    exact h1 (ByteArray.ext (Array.toList_inj.1 (List.le_antisymm h2 h3)))
theorem two_in {α : Type} (p : α → Bool) (l : List α) (k : Nat) (x y : α) (hx : l[k]? = some x) (hy : l[k + 1]? = some y) (px : p x = true) (py : p y = true) : 2 ≤ (l.filter p).length := by
  obtain ⟨hk, ek⟩ := List.getElem?_eq_some_iff.mp hx
  obtain ⟨hk2, ek2⟩ := List.getElem?_eq_some_iff.mp hy
  have e : l = l.take k ++ x :: y :: l.drop (k + 1 + 1) := by
    rw [← ek, ← ek2, ← List.drop_eq_getElem_cons hk2, ← List.drop_eq_getElem_cons hk, List.take_append_drop]
  rw [e, List.filter_append, List.filter_cons, if_pos px, List.filter_cons, if_pos py, List.length_append, List.length_cons, List.length_cons]
  omega

theorem labOk_one (x : Lab) : LabOk [x] 12 600 ↔ (x.1.size ≠ 0 ∧ x.1.size ≤ 600 ∧ x.2.size ≤ 600) := by
  unfold LabOk
  constructor
  · intro h
    exact h.2.1 x (List.mem_singleton.mpr rfl)
  · intro h
    exact ⟨by simp, fun p hp => by rw [List.mem_singleton] at hp; subst hp; exact h, List.pairwise_singleton ..⟩
theorem slice_one (g off n c k : Nat) (hk : k < n) (hn : n ≤ c) (W : World) : (Instr.slice 31 (.slice (some ⟨g, off, none⟩) n c) (some (.int .i64 k)) (some (.int .i64 ((k : Int) + 1))) none).run Tryz.prog W = .ok (.slice (some ⟨g, off + k * 2, none⟩) 1 (c - k)) W := by
  have h := run_slice_lh (P := Tryz.prog) W 31 (some ⟨g, off, none⟩) n c (by rw [Tryz.elem31']; exact Tryz.underlying31) .i64 .i64 k ((k : Int) + 1) (by omega) (by omega) (by omega)
  rw [Tryz.elem31', Tryz.size40] at h
  rw [h]
  have e1 : ((k : Int) + 1).toNat = k + 1 := by omega
  have e2 : (⟨g, off, none⟩ : Addr).add (k * 2) = ⟨g, off + k * 2, none⟩ := by unfold Addr.add; split <;> simp_all
  have e3 : ¬ c = k := by omega
  simp [Result.andThen, sliced, e1, e2, e3]

/-- An operation whose guard says no. -/
theorem wpBut_skip {P : Program} {ops : Array Oper} {Q : Exit → Act → World → Prop} {md : Region.Mode} {S : World → Prop} {c : Nat} (i : Nat) {oi : Oper} {fuel : Nat} {listed : Array Bool} {a : Act} {w : World} (hi : ops[i]? = some oi)
    (hs : Region.noSelect ops = true) (hf : Region.free md ops listed i = true) (hr : (Region.ready md ops listed).contains i = true) (hic : (i == c) = false)
    (hQ : ∀ c a w, Q (.panic c) (a.put oi.dst undef) w → Q (.panic c) a w) (hw : Region.wanted oi (yielded ops a.tmps) = false) (hS : S w)
    (h : wpBut P md ops Q S c fuel (listed.setIfInBounds i true) (a.put oi.dst undef) w) : wpBut P md ops Q S c (fuel + 1) listed a w :=
  wpBut_early hi (Region.noSelect_spec hs) hQ (by simpa using hic) fuel listed a w (Region.free_spec hi hf) (fun _ => hS) (by simpa using hr) (.inr ⟨hw, rfl⟩) h

/-- LabelsAbout asked which name stands twice. -/
def TwiceU (l : List Lab) (w : World) (r : Ending) (w' : World) : Prop :=
  ∃ (n va : Int) (em er du : Bool) (a3 : Option Addr) (n3 c3 : Nat) (tw tx : ByteArray), r = .returned (.agg #[.int .i64 n, .bool em, .slice a3 n3 c3, .string tw, .bool du, .string tx, .int .i64 va, .bool er]) ∧ (du = true → 1 < (l.filter (hasName tw)).length) ∧ (du = true ↔ ¬ LabOk l 12 600) ∧ Fr (fun _ => False) w w'
theorem twiceU_any (T : Lib.PrintTabs) (te : TypeId) (pe : Value) (P : Nat → Prop) (v : Value) (l : List Lab) (w : World) (hT : TabsAt T w) (hS : Sl P w v 2 l.length (l.flatMap labc)) (hl : l.length ≤ 12) (hok : ∀ p ∈ l, p.1.size ≠ 0 ∧ p.1.size ≤ 600 ∧ p.2.size ≤ 600) (hE : StopOk te pe w) :
    Calls Tryz.prog 23 #[v, .int .i64 0] w (TwiceU l w) := by
  refine (about_any T te pe P v l 0 w (by omega) hT hS hl (sizes_of hok) hE.cell hE.q1 hE.q0).mono ?_
  rintro r w' ⟨l', o, mp, tw, tx, du, rfl, h1, h2, h3, h4, h5, h6, h7, h8, h9⟩
  obtain ⟨a3, c3, rfl⟩ : ∃ A c, mp = .slice A o.length c := let ⟨A, c, h, _⟩ := h8; ⟨A, c, h⟩
  refine ⟨_, _, _, _, du, a3, _, c3, tw, tx, rfl, fun hd => ?_, ?_, h9⟩
  · obtain ⟨k, x, y, hx, hy, he, rfl⟩ := h6.2 hd
    have h := two_in (hasName x.1) l' k x y hx hy (by simp [hasName]) (by simp [hasName, he])
    rw [(h1.filter _).length_eq] at h
    exact h
  · cases du with
    | false =>
      obtain ⟨_, ha⟩ := h6.1 rfl
      have hu := sorted_uniq l' h2 ha
      have hu2 : l.Pairwise (fun a b => a.1 ≠ b.1) := h1.pairwise hu (fun h e => h e.symm)
      exact ⟨(fun e => by cases e), fun h => absurd ⟨hl, hok, hu2⟩ h⟩
    | true =>
      obtain ⟨k, x, y, hx, hy, he, _⟩ := h6.2 rfl
      refine ⟨fun _ h => ?_, fun _ => rfl⟩
      have hu' : l'.Pairwise (fun a b => a.1 ≠ b.1) := h1.symm.pairwise h.2.2 (fun h e => h e.symm)
      obtain ⟨hk, ek⟩ := List.getElem?_eq_some_iff.mp hx
      obtain ⟨hk2, ek2⟩ := List.getElem?_eq_some_iff.mp hy
      have := List.pairwise_iff_getElem.mp hu' k (k + 1) hk hk2 (by omega)
      rw [ek, ek2] at this
      exact this he

set_option maxRecDepth 100000 in
set_option maxHeartbeats 8000000 in
theorem labTwice_walk (T : Lib.PrintTabs) (te : TypeId) (pe : Value) (P : Nat → Prop) (lv : Value) (l : List Lab) (w : World) (hS : Sl P w lv 2 l.length (l.flatMap labc)) (hl : l.length ≤ 9223372036854775807) (hs : ∀ p ∈ l, p.1.size ≤ 9223372036854775807 ∧ p.2.size ≤ 9223372036854775807) (hT : TabsAt T w) (hE : StopOk te pe w) :
    Calls Tryz.prog 6 #[lv] w (TrueEnds w) := by
  have mixed : Tryz.prog.follows .mixedOrders = true := by kernel_rfl
  obtain ⟨A, c, rfl⟩ : ∃ A c, lv = .slice A l.length c := let ⟨A, c, h, _⟩ := hS; ⟨A, c, h⟩
  have q21 := fits10_any P _ l w hS hl hs
  by_cases hfit : l.length ≤ 2147483647 ∧ ∀ p ∈ l, Fit p
  · have q21 := bool_yes hfit q21
    by_cases hok : l.length ≤ 12
    · have q22 : Hid (∀ W, Fr (fun _ => False) w W → Calls Tryz.prog 22 #[.slice A l.length c] W (BoolEnds (LabOk l 12 600) W)) := Lib.hid (fun W hF => labels_any P _ l W (hS.fr hF (fun _ _ e => e)) (by omega))
      have q23 : Hid ((∀ p ∈ l, p.1.size ≠ 0 ∧ p.1.size ≤ 600 ∧ p.2.size ≤ 600) → ∀ W, Fr (fun _ => False) w W → Calls Tryz.prog 23 #[.slice A l.length c, .int .i64 0] W (TwiceU l W)) := Lib.hid (fun h W hF => twiceU_any T te pe P _ l W (tabs_fr hT hF (fun _ _ e => e)) (hS.fr hF (fun _ _ e => e)) hok h (hE.still hF))
      have q27 : Hid (∀ (t : ByteArray) (g c0 : Nat) W, Fr (fun _ => False) w W → W.cell? ⟨g, 0, none⟩ = some (.string t) → Calls Tryz.prog 27 #[.slice A l.length c, .slice (some ⟨g, 0, none⟩) 1 c0, .bool true] W (LabEnds 40 W (l.filter (hasName t)))) := Lib.hid (fun t g c0 W hF hg => kept_any P _ l t g c0 W (hS.fr hF (fun _ _ e => e)) (by omega) hg)
      obtain ⟨A', c', e', hlen, hnc, hr⟩ := hS
      injection e' with e1 e2 e3
      subst e1 e3
      have HR := Lib.hid hr
      obtain ⟨n, hn⟩ : ∃ n, l.length = n := ⟨_, rfl⟩
      have HN := Lib.hid hn
      rw [hn] at q21 q22 q23 q27 HR hok hnc ⊢
      have hnI : (n : Int) ≤ 12 := by omega
      clear hE hs hT hfit hl hr e2 hlen hn
      go_enter Tryz.func6, Tryz.ntmps6
      go_wp2_with (go_at_call 21; refine q21.mono ?_; rintro r w1 ⟨rfl, hf1⟩; have HF1 := Lib.hid hf1; clear hf1)
      go_loopw [14] (fun vi wr => ∃ k : Nat, vi = .int .i64 k ∧ k ≤ n ∧ Hid (∀ x ∈ l.take k, x.1.size ≠ 0 ∧ x.1.size ≤ 600 ∧ x.2.size ≤ 600) ∧ Hid (Fr (fun _ => False) w wr)) (fun vi _ => n - (intOf vi).toNat)
      case atStart => exact ⟨0, rfl, Nat.zero_le _, Lib.hid (fun x hx => by simp at hx), HF1⟩
      case round =>
        obtain ⟨k, rfl, hk, HA, HF⟩ := hrel
        by_cases hlt : k < n
        · obtain ⟨g, off, rfl, hPg, hcell⟩ := HR.out (by omega)
          obtain ⟨x, hx⟩ : ∃ x, l[k]? = some x := ⟨_, List.getElem?_eq_getElem (by rw [HN.out]; exact hlt)⟩
          have hcells : ∀ j u, (labc x)[j]? = some u → wr.cell? ⟨g, off + k * 2 + j, none⟩ = some u := fun j u hu => by
            have hj : j < 2 := by
              rcases Nat.lt_or_ge j 2 with h | h
              · exact h
              · rw [List.getElem?_eq_none (by show 2 ≤ j; exact h)] at hu; cases hu
            have := hcell (k * 2 + j) u (by rw [flat2 labc (fun _ => rfl) l k x hx j hj]; exact hu)
            rw [← Nat.add_assoc] at this
            rw [HF.out.cell (p := ⟨g, off + k * 2 + j, none⟩) (World.block_lt_of_cell? w _ this) (fun e => e)]
            exact this
          have hS1 : Sl P wr (.slice (some ⟨g, off + k * 2, none⟩) 1 (c - k)) 2 1 ([x].flatMap labc) :=
            ⟨_, _, rfl, rfl, by omega, fun _ => ⟨g, off + k * 2, rfl, hPg, fun j u hu => hcells j u (by simpa using hu)⟩⟩
          have hrun := slice_one g off n c k hlt hnc
          have hL1 := labels_any P _ [x] wr hS1 (by simp)
          by_cases h1 : LabOk [x] 12 600
          · have hL2 := bool_yes h1 hL1
            have HA' : Hid (∀ y ∈ l.take (k + 1), y.1.size ≠ 0 ∧ y.1.size ≤ 600 ∧ y.2.size ≤ 600) := Lib.hid (fun y hy => by
              rw [List.take_add_one, hx] at hy
              rcases List.mem_append.mp hy with hy | hy
              · exact HA.out y hy
              · simp at hy
                subst hy
                exact (labOk_one y).mp h1)
            clear hcells hS1 hL1 h1 hx hcell hPg
            go_wp2_with (go_at_call 22; refine hL2.mono ?_; rintro r w3 ⟨rfl, hf3⟩)
            go_roundw
            case rel => exact ⟨k + 1, by go_num, hlt, HA', Lib.hid (HF.out.same hf3)⟩
            case measure => simp [intOf]; omega
          · have hL2 := bool_no h1 hL1
            clear hcells hS1 hL1 h1 hx hcell hPg
            go_wp2_with (first
              | (go_at_call 22; refine hL2.mono ?_; rintro r w3 ⟨rfl, hf3⟩)
              | (go_at_call 16; refine (labelsAlive_any _).mono ?_; rintro r w5 ⟨rfl, hf5⟩))
            go_ret
            exact ⟨rfl, (HF.out.same hf3).same hf5⟩
        · obtain rfl : k = n := by omega
          have HALL : Hid (∀ x ∈ l, x.1.size ≠ 0 ∧ x.1.size ≤ 600 ∧ x.2.size ≤ 600) := Lib.hid (by have := HA.out; rw [← HN.out, List.take_length] at this; exact this)
          go_wp2_with (go_at_call 23; refine (q23.out HALL.out _ HF.out).mono ?_; rintro r w6 ⟨n6, va, em, er, du, a3, n3, c3, tw, tx, rfl, hd1, hd2, hf6⟩)
          obtain ⟨W7, hW7⟩ : ∃ W7, w6.alloc (.cells #[.int .i64 n6, .bool em, .slice a3 n3 c3, .string tw, .bool du, .string tx, .int .i64 va, .bool er] 34) = W7 := ⟨_, rfl⟩
          have hb7 : Blk W7 w6.heap.size 34 #[.int .i64 n6, .bool em, .slice a3 n3 c3, .string tw, .bool du, .string tx, .int .i64 va, .bool er] := by rw [← hW7]; exact Blk.new _ _ _
          have HF7 : Hid (Fr (fun _ => False) w W7) := Lib.hid (by rw [← hW7]; exact (HF.out.same hf6).alloc _)
          have HC := Lib.hid (fun W (hf : Fr (fun _ => False) W7 W) => And.intro ((hb7.fr hf (fun e => e)).cell 4) ((hb7.fr hf (fun e => e)).cell 3))
          have HD1 := Lib.hid hd1
          have q22' : Hid (∀ W, Fr (fun _ => False) W7 W → Calls Tryz.prog 22 #[.slice A k c] W fun r w' => r = .returned (.bool (!du)) ∧ Fr (fun _ => False) W w') := Lib.hid (fun W hF => by
            cases du with
            | false => exact bool_yes (Classical.byContradiction fun h => by have := hd2.mpr h; cases this) (q22.out W (HF7.out.same hF))
            | true => exact bool_no (hd2.mp rfl) (q22.out W (HF7.out.same hF)))
          rw [hW7]
          clear hb7 hd1 hd2 hW7 hf6
          cases du with
          | false =>
            refine wp_region_but (fun w' => Fr (fun _ => False) W7 w') 23 (by kernel_rfl) ((Fr.refl _ W7).drew) ?_
            intro hS
            have F0 : Fr (fun _ => False) W7 W7.drew := (Fr.refl _ W7).drew
            generalize W7.drew = W70 at F0 hS ⊢
            refine wpBut_one 0 (by kernel_rfl) rfl (by kernel_rfl) (fun K hK => ?_)
            go_simp
            refine (labelsAlive_any _).mono ?_
            rintro r w8 ⟨rfl, hf8⟩
            have F8 := F0.same hf8
            refine hK.out _ _ F8 ?_
            clear hK K hS
            try simp only [Act.put, List.setIfInBounds_toArray, List.set_cons_zero, List.set_cons_succ]
            have hS := F8
            refine wpBut_take 1 (.bool true) rfl (by kernel_rfl) (by kernel_rfl) (by kernel_rfl) (by kernel_rfl) (fun _ _ _ h => h) (by kernel_rfl) (by intro w; go_simp) hS ?_
            try simp only [Act.put, List.setIfInBounds_toArray, List.set_cons_zero, List.set_cons_succ]
            refine wpBut_take 2 (.pointer (some ⟨w6.heap.size, 4, none⟩)) rfl (by kernel_rfl) (by kernel_rfl) (by kernel_rfl) (by kernel_rfl) (fun _ _ _ h => h) (by kernel_rfl) (by intro w; go_simp) hS ?_
            try simp only [Act.put, List.setIfInBounds_toArray, List.set_cons_zero, List.set_cons_succ]
            refine wpBut_load 3 [7, 8, 9, 10, 11, 12, 13, 14, 15, 16, 17, 18, 19, 20, 21, 22, 23] (.bool false) rfl (by kernel_rfl) (by kernel_rfl) (by kernel_rfl) (by kernel_rfl) (by kernel_rfl) (by kernel_rfl) (by kernel_rfl) (fun _ _ _ h => h) (by kernel_rfl) (by rintro w h1; have h2 := (HC.out _ h1).1; go_simp) hS ?_
            try simp only [Act.put, List.setIfInBounds_toArray, List.set_cons_zero, List.set_cons_succ]
            refine wpBut_take 4 (.slice A k c) rfl (by kernel_rfl) (by kernel_rfl) (by kernel_rfl) (by kernel_rfl) (fun _ _ _ h => h) (by kernel_rfl) (by intro w; go_simp) hS ?_
            try simp only [Act.put, List.setIfInBounds_toArray, List.set_cons_zero, List.set_cons_succ]
            refine wpBut_one 5 (by kernel_rfl) rfl (by kernel_rfl) (fun K hK => ?_)
            go_simp
            refine (q22'.out _ hS).mono ?_
            rintro r w9 ⟨rfl, hf9⟩
            have F9 := F8.same hf9
            refine hK.out _ _ F9 ?_
            clear hK K hS
            try simp only [Act.put, List.setIfInBounds_toArray, List.set_cons_zero, List.set_cons_succ]
            have hS := F9
            refine wpBut_take 6 (.bool false) rfl (by kernel_rfl) (by kernel_rfl) (by kernel_rfl) (by kernel_rfl) (fun _ _ _ h => h) (by kernel_rfl) (by intro w; go_simp) hS ?_
            try simp only [Act.put, List.setIfInBounds_toArray, List.set_cons_zero, List.set_cons_succ]
            refine wpBut_take 7 (.bool true) rfl (by kernel_rfl) (by kernel_rfl) (by kernel_rfl) (by kernel_rfl) (fun _ _ _ h => h) (by kernel_rfl) (by intro w; go_simp) hS ?_
            try simp only [Act.put, List.setIfInBounds_toArray, List.set_cons_zero, List.set_cons_succ]
            refine wpBut_take 8 (.bool true) rfl (by kernel_rfl) (by kernel_rfl) (by kernel_rfl) (by kernel_rfl) (fun _ _ _ h => h) (by kernel_rfl) (by intro w; go_simp) hS ?_
            try simp only [Act.put, List.setIfInBounds_toArray, List.set_cons_zero, List.set_cons_succ]
            refine wpBut_take 9 (.bool true) rfl (by kernel_rfl) (by kernel_rfl) (by kernel_rfl) (by kernel_rfl) (fun _ _ _ h => h) (by kernel_rfl) (by intro w; go_simp) hS ?_
            try simp only [Act.put, List.setIfInBounds_toArray, List.set_cons_zero, List.set_cons_succ]
            refine wpBut_take 10 (.pointer (some ⟨w6.heap.size, 4, none⟩)) rfl (by kernel_rfl) (by kernel_rfl) (by kernel_rfl) (by kernel_rfl) (fun _ _ _ h => h) (by kernel_rfl) (by intro w; go_simp) hS ?_
            try simp only [Act.put, List.setIfInBounds_toArray, List.set_cons_zero, List.set_cons_succ]
            refine wpBut_load 11 [12, 13, 14, 15, 16, 17, 18, 19, 20, 21, 22, 23] (.bool false) rfl (by kernel_rfl) (by kernel_rfl) (by kernel_rfl) (by kernel_rfl) (by kernel_rfl) (by kernel_rfl) (by kernel_rfl) (fun _ _ _ h => h) (by kernel_rfl) (by rintro w h1; have h2 := (HC.out _ h1).1; go_simp) hS ?_
            try simp only [Act.put, List.setIfInBounds_toArray, List.set_cons_zero, List.set_cons_succ]
            refine wpBut_take 12 (.bool true) rfl (by kernel_rfl) (by kernel_rfl) (by kernel_rfl) (by kernel_rfl) (fun _ _ _ h => h) (by kernel_rfl) (by intro w; go_simp) hS ?_
            try simp only [Act.put, List.setIfInBounds_toArray, List.set_cons_zero, List.set_cons_succ]
            refine wpBut_take 13 (.bool true) rfl (by kernel_rfl) (by kernel_rfl) (by kernel_rfl) (by kernel_rfl) (fun _ _ _ h => h) (by kernel_rfl) (by intro w; go_simp) hS ?_
            try simp only [Act.put, List.setIfInBounds_toArray, List.set_cons_zero, List.set_cons_succ]
            refine wpBut_skip 14 rfl (by kernel_rfl) (by kernel_rfl) (by kernel_rfl) (by kernel_rfl) (fun _ _ _ h => h) (by kernel_rfl) hS ?_
            try simp only [Act.put, List.setIfInBounds_toArray, List.set_cons_zero, List.set_cons_succ]
            refine wpBut_skip 15 rfl (by kernel_rfl) (by kernel_rfl) (by kernel_rfl) (by kernel_rfl) (fun _ _ _ h => h) (by kernel_rfl) hS ?_
            try simp only [Act.put, List.setIfInBounds_toArray, List.set_cons_zero, List.set_cons_succ]
            refine wpBut_skip 16 rfl (by kernel_rfl) (by kernel_rfl) (by kernel_rfl) (by kernel_rfl) (fun _ _ _ h => h) (by kernel_rfl) hS ?_
            try simp only [Act.put, List.setIfInBounds_toArray, List.set_cons_zero, List.set_cons_succ]
            refine wpBut_skip 17 rfl (by kernel_rfl) (by kernel_rfl) (by kernel_rfl) (by kernel_rfl) (fun _ _ _ h => h) (by kernel_rfl) hS ?_
            try simp only [Act.put, List.setIfInBounds_toArray, List.set_cons_zero, List.set_cons_succ]
            refine wpBut_skip 18 rfl (by kernel_rfl) (by kernel_rfl) (by kernel_rfl) (by kernel_rfl) (fun _ _ _ h => h) (by kernel_rfl) hS ?_
            try simp only [Act.put, List.setIfInBounds_toArray, List.set_cons_zero, List.set_cons_succ]
            refine wpBut_skip 19 rfl (by kernel_rfl) (by kernel_rfl) (by kernel_rfl) (by kernel_rfl) (fun _ _ _ h => h) (by kernel_rfl) hS ?_
            try simp only [Act.put, List.setIfInBounds_toArray, List.set_cons_zero, List.set_cons_succ]
            refine wpBut_skip 20 rfl (by kernel_rfl) (by kernel_rfl) (by kernel_rfl) (by kernel_rfl) (fun _ _ _ h => h) (by kernel_rfl) hS ?_
            try simp only [Act.put, List.setIfInBounds_toArray, List.set_cons_zero, List.set_cons_succ]
            refine wpBut_take 21 (.bool true) rfl (by kernel_rfl) (by kernel_rfl) (by kernel_rfl) (by kernel_rfl) (fun _ _ _ h => h) (by kernel_rfl) (by intro w; go_simp) hS ?_
            try simp only [Act.put, List.setIfInBounds_toArray, List.set_cons_zero, List.set_cons_succ]
            refine wpBut_take 22 (.bool true) rfl (by kernel_rfl) (by kernel_rfl) (by kernel_rfl) (by kernel_rfl) (fun _ _ _ h => h) (by kernel_rfl) (by intro w; go_simp) hS ?_
            try simp only [Act.put, List.setIfInBounds_toArray, List.set_cons_zero, List.set_cons_succ]
            refine wpBut_last 23 (by kernel_rfl) rfl (by kernel_rfl) (by kernel_rfl) (fun K hK => ?_)
            go_simp
            refine hK.out _ _ ?_
            clear hK K
            refine wpBut_done (by kernel_rfl) ?_ _
            go_wp2
            go_ret
            exact ⟨rfl, HF7.out.same hS⟩
          | true =>
            have HLEN := Lib.hid (HD1.out rfl)
            go_region_held3 (fun w' => w'.cell? ⟨w6.heap.size, 4, none⟩ = some (.bool true) ∧ w'.cell? ⟨w6.heap.size, 3, none⟩ = some (.string tw) ∧ Fr (fun _ => False) W7 w') (refine ⟨(HC.out _ ?_).1, (HC.out _ ?_).2, ?_⟩ <;> (repeat first | with_reducible assumption | with_reducible apply Fr.refl | with_reducible apply Fr.drew | with_reducible apply Fr.alloc))
              (first
                | (go_at_call 16; refine (labelsAlive_any _).mono ?_; rintro r w8 ⟨rfl, hf8⟩
                   have g8 : Fr (fun _ => False) W7 w8 := Fr.same (S := fun _ => False) (by repeat first | with_reducible assumption | with_reducible apply Fr.refl | with_reducible apply Fr.drew | with_reducible apply Fr.alloc) hf8
                   clear hf8)
                | (go_at_call 22; refine (q22'.out _ ?_).mono ?_; (repeat first | with_reducible assumption | with_reducible apply Fr.refl | with_reducible apply Fr.drew | with_reducible apply Fr.alloc); rintro r w9 ⟨rfl, hf9⟩
                   have g9 : Fr (fun _ => False) W7 w9 := Fr.same (S := fun _ => False) (by repeat first | with_reducible assumption | with_reducible apply Fr.refl | with_reducible apply Fr.drew | with_reducible apply Fr.alloc) hf9
                   clear hf9)
                | (go_at_call 27; refine (q27.out tw _ _ _ ?_ ?_).mono ?_; (refine HF7.out.same ?_; (repeat first | with_reducible assumption | with_reducible apply Fr.refl | with_reducible apply Fr.drew | with_reducible apply Fr.alloc)); (exact (Blk.new _ _ _).cell 0); rintro r w10 ⟨v10, rfl, hown10, hf10⟩
                   have g10 : Fr (fun _ => False) W7 w10 := Fr.same (S := fun _ => False) (by repeat first | with_reducible assumption | with_reducible apply Fr.refl | with_reducible apply Fr.drew | with_reducible apply Fr.alloc) hf10
                   obtain ⟨a10, n10, k10, rfl⟩ := own_slice hown10
                   have hlen10 : (1 : Int) < (n10 : Int) := by
                     obtain ⟨A5, c5, e5, _⟩ := Sl.ofOwn hown10
                     injection e5 with _ e6 _
                     have := HLEN.out
                     omega
                   clear hf10 hown10))
            all_goals (
              go_wp2
              go_ret
              exact ⟨rfl, HF7.out.same (by repeat first | with_reducible assumption | with_reducible apply Fr.refl | with_reducible apply Fr.drew | with_reducible apply Fr.alloc)⟩)
    · have hok' : (12 : Int) < l.length := by omega
      generalize l.length = n at q21 hok'
      clear hS hE hs hfit hok hT hl
      go_enter Tryz.func6, Tryz.ntmps6
      go_wp2_with (first
        | (go_at_call 21; refine q21.mono ?_; rintro r w1 ⟨rfl, hf1⟩)
        | (go_at_call 16; refine (labelsAlive_any _).mono ?_; rintro r w3 ⟨rfl, hf3⟩))
      go_ret
      exact ⟨rfl, hf1.same hf3⟩
  · have q21 := bool_no hfit q21
    generalize l.length = n at q21
    clear hS hE hs hfit hT hl
    go_enter Tryz.func6, Tryz.ntmps6
    go_wp2_with (go_at_call 21; refine q21.mono ?_; rintro r w1 ⟨rfl, hf1⟩)
    go_ret
    exact ⟨rfl, hf1⟩
end Go.Proofs.YtbkookiigkckdaaGreatDoor
