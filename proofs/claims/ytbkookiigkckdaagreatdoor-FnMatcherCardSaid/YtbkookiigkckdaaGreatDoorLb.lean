/- A region that draws its order: loads are taken first where nobody writes their cells AHEAD of them; what comes behind them (an append and the store of what it hands back) may write. -/
import Derived.OrdersHeld
import Derived.StillTail
import Derived.Deep.RegionHeld3
import Derived.RowKit
namespace Go.Proofs.YtbkookiigkckdaaGreatDoor
open Go Go.RowKit
set_option linter.unusedVariables false
section
variable {P : Program} {ops : Array Oper} {Q : Exit → Act → World → Prop} {md : Region.Mode} {S : World → Prop} {c : Nat}

/-- Whatever order is picked, and S holds behind every operation as long as number c has not come up. -/
def wpBut (P : Program) (md : Region.Mode) (ops : Array Oper) (Q : Exit → Act → World → Prop) (S : World → Prop) (c : Nat) : Nat → Array Bool → Act → World → Prop
  | 0, listed, a, w => Region.ready md ops listed = [] ∧ Q .normal a w
  | fuel + 1, listed, a, w =>
    (Region.ready md ops listed = [] → Q .normal a w) ∧
    ∀ i ∈ Region.ready md ops listed, wpOp P ops Q i (fun a' w' => ((listed.setIfInBounds i true).getD c false = false → S w') ∧ wpBut P md ops Q S c fuel (listed.setIfInBounds i true) a' w') a w

theorem wpAny_of_but : ∀ (fuel : Nat) (listed : Array Bool) (a : Act) (w : World), wpBut P md ops Q S c fuel listed a w → wpAny P md ops Q fuel listed a w
  | 0, _, _, _, h => h
  | fuel + 1, _, _, _, h => ⟨h.1, fun i hi => wpOp_mono (fun a' w' h' => wpAny_of_but fuel _ a' w' h'.2) (h.2 i hi)⟩

/-- Every operation of C waits for i, or for another one of C. -/
def behind (md : Region.Mode) (ops : Array Oper) (i : Nat) (C : List Nat) : Bool :=
  C.all fun j => Region.waitsFor md ops j i || C.any fun k => Region.waitsFor md ops j k

theorem not_ready_behind {C : List Nat} {i j : Nat} {listed : Array Bool} (hb : behind md ops i C = true) (hi : listed.getD i false = false) (hC : ∀ k ∈ C, listed.getD k false = false) (hj : j ∈ Region.ready md ops listed) : j ∉ C := by
  intro hjC
  obtain ⟨_, oj, hoj, hall⟩ := mem_ready.1 hj
  have h1 := List.all_eq_true.1 hb j hjC
  rw [Bool.or_eq_true] at h1
  have key : ∀ k, listed.getD k false = false → Region.waitsFor md ops j k = true → False := fun k hk hw => by
    obtain ⟨oj', hoj', e, he, hbd, hon⟩ := Region.waitsFor_spec hw
    have : oj' = oj := Option.some.inj (hoj'.symm.trans hoj)
    subst this
    have h2 := hall e he hbd
    rw [hon, hk] at h2
    cases h2
  rcases h1 with h1 | h1
  · exact key i hi h1
  · obtain ⟨k, hk, hw⟩ := List.any_eq_true.1 h1
    exact key k (hC k hk) hw

/-- A load is taken first: nothing that may come ahead of it writes its cell. -/
theorem wpBut_first {C : List Nat} {i : Nat} {oi : Oper} {v : Value} (hi : ops[i]? = some oi) (hsel : ∀ (j : Nat) (o : Oper) cs b, ops[j]? = some o → o.op ≠ .select cs b)
    (hQ : ∀ c a w, Q (.panic c) (a.put oi.dst v) w → Q (.panic c) a w) (hb : behind md ops i C = true) (hc : c ∈ C) (hic : i ≠ c) :
    ∀ (fuel : Nat) (listed : Array Bool) (a : Act) (w : World),
      (∀ j oj, ops[j]? = some oj → j ≠ i → listed.getD j true = false → (∀ e ∈ oj.after, Region.binds md e = true → e.on ≠ i) → oi.apart ops oj = true) →
      (∀ k ∈ C, listed.getD k false = false) → i ∈ Region.ready md ops listed → YieldsIf P ops S oi v a → S w →
      wpBut P md ops Q S c fuel (listed.setIfInBounds i true) (a.put oi.dst v) w → wpBut P md ops Q S c (fuel + 1) listed a w := by
  intro fuel
  induction fuel with
  | zero =>
    intro listed a w _ _ hr hy hS H
    refine ⟨fun h => (by rw [h] at hr; cases hr), fun j hj => ?_⟩
    by_cases hji : j = i
    · subst hji; exact hy.wpOp hi hS ⟨fun _ => hS, H⟩
    · have := ready_mono hj hji
      rw [H.1] at this
      cases this
  | succ fuel ih =>
    intro listed a w hfree hC hr hy hS H
    refine ⟨fun h => (by rw [h] at hr; cases hr), fun j hj => ?_⟩
    by_cases hji : j = i
    · subst hji; exact hy.wpOp hi hS ⟨fun _ => hS, H⟩
    · have h1 := H.2 j (ready_mono hj hji)
      obtain ⟨hjun, oj, hoj, hall⟩ := mem_ready.1 hj
      have hiun := getD_both (mem_ready.1 hr).1
      have hjC : j ∉ C := not_ready_behind hb hiun hC hj
      have hjc : j ≠ c := by rintro rfl; exact hjC hc
      have hnot : ∀ e ∈ oj.after, Region.binds md e = true → e.on ≠ i := fun e he hb heq => by
        have h1 := hall e he hb
        rw [heq, hiun] at h1
        cases h1
      have h2 := wpOp_putIf hoj (hfree j oj hoj hji hjun hnot) (fun cs b => hsel i oi cs b hi) (fun cs b => hsel j oj cs b hoj) hQ hy h1
      have hfree' : ∀ k ok, ops[k]? = some ok → k ≠ i → (listed.setIfInBounds j true).getD k true = false →
          (∀ e ∈ ok.after, Region.binds md e = true → e.on ≠ i) → oi.apart ops ok = true := fun k ok hk hki hun hno => by
        refine hfree k ok hk hki ?_ hno
        by_cases hjk : j = k
        · subst hjk; exact hjun
        · rw [getD_set_ne true hjk] at hun; exact hun
      have hC' : ∀ k ∈ C, (listed.setIfInBounds j true).getD k false = false := fun k hk => by
        have hkj : j ≠ k := by rintro rfl; exact hjC hk
        rw [getD_set_ne false hkj]; exact hC k hk
      have hcu : ((listed.setIfInBounds i true).setIfInBounds j true).getD c false = false := by
        rw [getD_set_ne false hjc, getD_set_ne false hic]; exact hC c hc
      refine wpOp_mono (fun a' w' h3 => ⟨fun _ => h3.2.1 hcu, ih (listed.setIfInBounds j true) a' w' hfree' hC' (ready_mono hr (Ne.symm hji)) h3.1 (h3.2.1 hcu) ?_⟩) h2
      rw [Array.setIfInBounds_comm _ _ hji]
      exact h3.2.2

/-- An operation that yields whatever the world is taken first. -/
theorem wpBut_early {i : Nat} {oi : Oper} {v : Value} (hi : ops[i]? = some oi) (hsel : ∀ (j : Nat) (o : Oper) cs b, ops[j]? = some o → o.op ≠ .select cs b)
    (hQ : ∀ c a w, Q (.panic c) (a.put oi.dst v) w → Q (.panic c) a w) (hic : i ≠ c) :
    ∀ (fuel : Nat) (listed : Array Bool) (a : Act) (w : World),
      (∀ j oj, ops[j]? = some oj → j ≠ i → listed.getD j true = false → (∀ e ∈ oj.after, Region.binds md e = true → e.on ≠ i) → oi.apart ops oj = true) →
      (listed.getD c false = false → S w) → i ∈ Region.ready md ops listed → Yields P ops oi v a →
      wpBut P md ops Q S c fuel (listed.setIfInBounds i true) (a.put oi.dst v) w → wpBut P md ops Q S c (fuel + 1) listed a w := by
  have hset : ∀ (l : Array Bool), (l.setIfInBounds i true).getD c false = l.getD c false := fun l => getD_set_ne false hic
  intro fuel
  induction fuel with
  | zero =>
    intro listed a w _ hI hr hy H
    refine ⟨fun h => (by rw [h] at hr; cases hr), fun j hj => ?_⟩
    by_cases hji : j = i
    · subst hji; exact hy.wpOp hi ⟨fun h => hI (by rw [hset] at h; exact h), H⟩
    · have := ready_mono hj hji
      rw [H.1] at this
      cases this
  | succ fuel ih =>
    intro listed a w hfree hI hr hy H
    refine ⟨fun h => (by rw [h] at hr; cases hr), fun j hj => ?_⟩
    by_cases hji : j = i
    · subst hji; exact hy.wpOp hi ⟨fun h => hI (by rw [hset] at h; exact h), H⟩
    · have h1 := H.2 j (ready_mono hj hji)
      obtain ⟨hjun, oj, hoj, hall⟩ := mem_ready.1 hj
      have hiun := getD_both (mem_ready.1 hr).1
      have hnot : ∀ e ∈ oj.after, Region.binds md e = true → e.on ≠ i := fun e he hb heq => by
        have h1 := hall e he hb
        rw [heq, hiun] at h1
        cases h1
      have h2 := wpOp_put hoj (hfree j oj hoj hji hjun hnot) (fun cs b => hsel i oi cs b hi) (fun cs b => hsel j oj cs b hoj) hQ hy h1
      have hfree' : ∀ k ok, ops[k]? = some ok → k ≠ i → (listed.setIfInBounds j true).getD k true = false →
          (∀ e ∈ ok.after, Region.binds md e = true → e.on ≠ i) → oi.apart ops ok = true := fun k ok hk hki hun hno => by
        refine hfree k ok hk hki ?_ hno
        by_cases hjk : j = k
        · subst hjk; exact hjun
        · rw [getD_set_ne true hjk] at hun; exact hun
      have hsw : ((listed.setIfInBounds i true).setIfInBounds j true).getD c false = (listed.setIfInBounds j true).getD c false := by
        rw [Array.setIfInBounds_comm _ _ (Ne.symm hji), hset]
      refine wpOp_mono (fun a' w' h3 => ⟨fun h => h3.2.1 (by rw [hsw]; exact h), ih (listed.setIfInBounds j true) a' w' hfree' (fun h => h3.2.1 (by rw [hsw]; exact h)) (ready_mono hr (Ne.symm hji)) h3.1 ?_⟩) h2
      rw [Array.setIfInBounds_comm _ _ hji]
      exact h3.2.2

theorem wpBut_load (i : Nat) (C : List Nat) {oi : Oper} (v : Value) {fuel : Nat} {listed : Array Bool} {a : Act} {w : World} (hi : ops[i]? = some oi)
    (hs : Region.noSelect ops = true) (hf : Region.free md ops listed i = true) (hr : (Region.ready md ops listed).contains i = true) (hb : behind md ops i C = true) (hC : (C.all fun k => !listed.getD k false) = true) (hc : C.contains c = true) (hic : (i == c) = false)
    (hQ : ∀ c a w, Q (.panic c) (a.put oi.dst v) w → Q (.panic c) a w) (hw : Region.wanted oi (yielded ops a.tmps) = true) (hy : ∀ w, S w → (execOp a.eval oi).run P w = .ok (.value v) w) (hS : S w)
    (h : wpBut P md ops Q S c fuel (listed.setIfInBounds i true) (a.put oi.dst v) w) : wpBut P md ops Q S c (fuel + 1) listed a w :=
  wpBut_first hi (Region.noSelect_spec hs) hQ hb (by simpa using hc) (by simpa using hic) fuel listed a w (Region.free_spec hi hf) (fun k hk => by simpa using List.all_eq_true.1 hC k hk) (by simpa using hr) (.inl ⟨hw, hy⟩) hS h
theorem wpBut_take (i : Nat) {oi : Oper} (v : Value) {fuel : Nat} {listed : Array Bool} {a : Act} {w : World} (hi : ops[i]? = some oi)
    (hs : Region.noSelect ops = true) (hf : Region.free md ops listed i = true) (hr : (Region.ready md ops listed).contains i = true) (hic : (i == c) = false)
    (hQ : ∀ c a w, Q (.panic c) (a.put oi.dst v) w → Q (.panic c) a w) (hw : Region.wanted oi (yielded ops a.tmps) = true) (hy : ∀ w, (execOp a.eval oi).run P w = .ok (.value v) w) (hS : S w)
    (h : wpBut P md ops Q S c fuel (listed.setIfInBounds i true) (a.put oi.dst v) w) : wpBut P md ops Q S c (fuel + 1) listed a w :=
  wpBut_early hi (Region.noSelect_spec hs) hQ (by simpa using hic) fuel listed a w (Region.free_spec hi hf) (fun _ => hS) (by simpa using hr) (.inl ⟨hw, hy⟩) h

/-- One operation alone may come up, ahead of number c. -/
theorem wpBut_one (i : Nat) {fuel : Nat} {listed : Array Bool} {a : Act} {w : World} {o : Oper} (hr : Region.ready md ops listed = [i]) (ho : ops[i]? = some o)
    (hw : Region.wanted o (yielded ops a.tmps) = true)
    (h : ∀ K' : Act → World → Prop, Shut (∀ a w, S w → wpBut P md ops Q S c fuel (listed.setIfInBounds i true) a w → K' a w) → Oper.wp P o a w K' Q) : wpBut P md ops Q S c (fuel + 1) listed a w := by
  refine ⟨fun h0 => (by rw [hr] at h0; cases h0), fun j hj => ?_⟩
  rw [hr, List.mem_singleton] at hj
  subst hj
  unfold wpOp
  simp only [ho, hw, if_true]
  exact .inl (h _ (fun a w hS hW => ⟨fun _ => hS, hW⟩))
/-- One operation alone may come up: number c, or behind it: S is not asked. -/
theorem wpBut_last (i : Nat) {fuel : Nat} {listed : Array Bool} {a : Act} {w : World} {o : Oper} (hr : Region.ready md ops listed = [i]) (ho : ops[i]? = some o) (hc : (listed.setIfInBounds i true).getD c false = true)
    (hw : Region.wanted o (yielded ops a.tmps) = true)
    (h : ∀ K' : Act → World → Prop, Shut (∀ a w, wpBut P md ops Q S c fuel (listed.setIfInBounds i true) a w → K' a w) → Oper.wp P o a w K' Q) : wpBut P md ops Q S c (fuel + 1) listed a w := by
  refine ⟨fun h0 => (by rw [hr] at h0; cases h0), fun j hj => ?_⟩
  rw [hr, List.mem_singleton] at hj
  subst hj
  unfold wpOp
  simp only [ho, hw, if_true]
  exact .inl (h _ (fun a w hW => ⟨fun hn => (by rw [hc] at hn; cases hn), hW⟩))
theorem wpBut_done {listed : Array Bool} {a : Act} {w : World} (hr : Region.ready md ops listed = []) (h : Q .normal a w) :
    ∀ fuel, wpBut P md ops Q S c fuel listed a w
  | 0 => ⟨hr, h⟩
  | _ + 1 => ⟨fun _ => h, by rw [hr]; simp⟩

theorem wp_region_but (S : World → Prop) (c : Nat) {id : Nat} {a : Act} {w : World} (hm : P.follows .mixedOrders = true) (hS : S w.drew)
    (h : S w.drew → wpBut P .any ops Q S c ops.size (Array.replicate ops.size false) a w.drew) : (Code.region id ops true).wp P Q a w :=
  wp_region_any hm (wpAny_of_but _ _ _ _ (h hS))
end
end Go.Proofs.YtbkookiigkckdaaGreatDoor
