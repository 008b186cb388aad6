/- Texts of this seat, merged: Ty, Lb, Rr, H1. -/
import Derived.Test.YtbkookiigkckdaaGreatDoorK01
import Derived.Test.YtbkookiigkckdaaGreatDoorK05
import Derived.OrdersHeld
import Derived.StillTail
import Derived.Deep.RegionHeld3
import Derived.RowKit
/- The small functions of the records: NewDecoder, Type and its text, the types of metrics. -/
namespace Go.Proofs.YtbkookiigkckdaaGreatDoor
open Go.RowKit
set_option linter.unusedVariables false
set_option linter.unusedSimpArgs false

/-- A call that leaves alone all that was there. -/
def NewEnds (V : Value → World → Prop) (w : World) (r : Ending) (w' : World) : Prop := ∃ v, r = .returned v ∧ V v w' ∧ Fr (fun _ => False) w w'

theorem Tryz.info108 : (Tryz.prog.info? 108).map (fun i => (i.zero, i.size, i.bytes)) = some (some (.agg #[.string ⟨#[]⟩, .string ⟨#[]⟩]), 2, 32) := by kernel_rfl

set_option maxRecDepth 100000 in
theorem scratch_any (w : World) : Calls Tryz.prog 129 #[.int .i64 0] w (NewEnds (fun v _ => ∃ a, v = .agg #[.slice (some a) 0 0, .string ⟨#[]⟩, .slice none 0 0]) w) := by
  obtain ⟨i0, hi0, hz0, hz1, hz2⟩ := info_parts Tryz.info108
  have hms : ∀ W : World, (Instr.makeSlice 115 (.int .i64 0) (.int .i64 0)).run Tryz.prog W = .ok (.slice (some ⟨W.heap.size, 0, none⟩) 0 0) (W.alloc (.cells #[] 108)) := fun W => by
    have h := run_make (P := Tryz.prog) W 115 108 i0 _ Tryz.underlying115 hi0 hz0 .i64 .i64 0 0 (by omega) (by omega) (by omega) (by omega)
    simp [madeCells, hz1, Array.range_zero'] at h
    exact h
  go_enter Tryz.func129, Tryz.ntmps129
  go_wp2_with fail
  simp [Exit.then, bodyPost, results, Tryz.results129, go_sem]
  exact ⟨_, rfl, ⟨_, rfl⟩, (((Fr.refl _ w).alloc _).alloc _)⟩

theorem type_none (d : Value) (P : Nat → Prop) (v : Value) (w : World) (h : Sl P w v 1 0 []) : Calls Tryz.prog 112 #[d, v] w fun r w' => r = .returned (.int .u8 255) ∧ w = w' := by
  obtain ⟨A, c, rfl, _⟩ := h
  go_enter Tryz.func112, Tryz.ntmps112
  go_wp2_with fail
  go_ret
  exact ⟨rfl, rfl⟩

/-- The type of a record by its first byte. -/
def typeOf : List UInt8 → Nat
  | [] => 255
  | c :: _ => if 1 ≤ c.toNat ∧ c.toNat ≤ 10 then c.toNat else 255

theorem type_ten (k : Nat) (hk : 1 ≤ k ∧ k ≤ 10) (d : Value) (a : Addr) (n c : Nat) (hn : 0 < n) (w : World) (h : w.cell? a = some (.int .u8 k)) : Calls Tryz.prog 112 #[d, .slice (some a) n c] w fun r w' => r = .returned (.int .u8 k) ∧ w = w' := by
  have hn0 : ¬ ((n : Int) < 1) := by omega
  have hn1 : (0 : Int) < (n : Int) := by omega
  obtain ⟨g, off, x⟩ := a
  obtain rfl | rfl | rfl | rfl | rfl | rfl | rfl | rfl | rfl | rfl : k = 1 ∨ k = 2 ∨ k = 3 ∨ k = 4 ∨ k = 5 ∨ k = 6 ∨ k = 7 ∨ k = 8 ∨ k = 9 ∨ k = 10 := by omega
  all_goals
    go_enter Tryz.func112, Tryz.ntmps112
    go_wp2_with fail
    go_ret
    exact ⟨rfl, rfl⟩

theorem type_odd (k : Nat) (hk : ¬ (1 ≤ k ∧ k ≤ 10)) (d : Value) (a : Addr) (n c : Nat) (hn : 0 < n) (w : World) (h : w.cell? a = some (.int .u8 k)) : Calls Tryz.prog 112 #[d, .slice (some a) n c] w fun r w' => r = .returned (.int .u8 255) ∧ w = w' := by
  have hn0 : ¬ ((n : Int) < 1) := by omega
  have hn1 : (0 : Int) < (n : Int) := by omega
  obtain ⟨g, off, x⟩ := a
  have e1 : ¬ (k : Int) = 1 := by omega
  have e2 : ¬ (k : Int) = 2 := by omega
  have e3 : ¬ (k : Int) = 3 := by omega
  have e4 : ¬ (k : Int) = 4 := by omega
  have e5 : ¬ (k : Int) = 5 := by omega
  have e6 : ¬ (k : Int) = 6 := by omega
  have e7 : ¬ (k : Int) = 7 := by omega
  have e8 : ¬ (k : Int) = 8 := by omega
  have e9 : ¬ (k : Int) = 9 := by omega
  have e10 : ¬ (k : Int) = 10 := by omega
  clear hk
  go_enter Tryz.func112, Tryz.ntmps112
  go_wp2_with fail
  go_ret
  exact ⟨rfl, rfl⟩

/-- Decoder.Type. -/
theorem type_any (d v : Value) (P : Nat → Prop) (xs : List UInt8) (w : World) (h : Sl P w v 1 xs.length (bc xs)) : Calls Tryz.prog 112 #[d, v] w fun r w' => r = .returned (.int .u8 (typeOf xs)) ∧ w = w' := by
  rcases xs with _ | ⟨c, r⟩
  · exact type_none d P v w h
  · obtain ⟨A, cap, rfl, _, _, hr⟩ := h
    obtain ⟨g, off, rfl, _, hc⟩ := hr (by simp)
    have h0 := hc 0 _ rfl
    by_cases hk : 1 ≤ c.toNat ∧ c.toNat ≤ 10
    · rw [typeOf, if_pos hk]; exact type_ten c.toNat hk d _ _ _ (by simp) w h0
    · rw [typeOf, if_neg hk]; exact type_odd c.toNat hk d _ _ _ (by simp) w h0

/-- NewDecoder. -/
theorem newDec_any (v : Value) (w : World) : Calls Tryz.prog 67 #[v] w (NewEnds (fun v _ => ∃ a, v = .agg #[.slice (some a) 0 0, .string ⟨#[]⟩, .slice none 0 0]) w) := by
  have hS := scratch_any (w.alloc (.cells #[.slice none 0 0, .string ⟨#[]⟩, .slice none 0 0] 119))
  go_enter Tryz.func67, Tryz.ntmps67
  go_wp2_with (refine hS.mono ?_; rintro r w1 ⟨v1, rfl, ⟨a, rfl⟩, hf1⟩; refine Hid.out ?_)
  have hB := (Blk.new w 119 #[.slice none 0 0, .string ⟨#[]⟩, .slice none 0 0]).fr hf1 (fun e => e)
  have k0 := hB.cell 0
  have k1 := hB.cell 1
  have k2 := hB.cell 2
  have z0 := hB.frozen 0
  have z1 := hB.frozen 1
  have z2 := hB.frozen 2
  simp at k0 k1 k2
  have m1 := hB.set_ 0 (.slice (some a) 0 0)
  have m2 := m1.set_ 1 (.string ⟨#[]⟩)
  have m3 := m2.set_ 2 (.slice none 0 0)
  have e0 := m1.cell 0
  have e1 := m2.cell 1
  have e2 := m3.cell 2
  simp only [List.size_toArray, List.length_cons, List.setIfInBounds_toArray, List.set_cons_zero, List.set_cons_succ, List.getElem?_toArray, List.getElem?_cons_zero, List.getElem?_cons_succ] at e0 e1 e2
  have HF := Lib.hid ((((Fr.refl (fun _ => False) w).alloc _).same hf1))
  have HB := Lib.hid hB
  clear hS hf1 hB m1 m2 m3
  refine Lib.hid ?_
  go_wp2_with fail
  simp [Exit.then, bodyPost, results, Tryz.results67, go_sem, e0, e1, e2]
  exact ⟨_, rfl, ⟨_, rfl⟩, ((HF.out.setCell (p := ⟨w.heap.size, 0, none⟩) (.inr (Nat.le_refl _)) _).setCell (p := ⟨w.heap.size, 1, none⟩) (.inr (Nat.le_refl _)) _).setCell (p := ⟨w.heap.size, 2, none⟩) (.inr (Nat.le_refl _)) _⟩

/-- The text of a record's type. -/
def typeName : Nat → ByteArray
  | 1 => ⟨#[115, 101, 114, 105, 101, 115]⟩
  | 2 => ⟨#[115, 97, 109, 112, 108, 101, 115]⟩
  | 3 => ⟨#[116, 111, 109, 98, 115, 116, 111, 110, 101, 115]⟩
  | 4 => ⟨#[101, 120, 101, 109, 112, 108, 97, 114, 115]⟩
  | 5 => ⟨#[109, 109, 97, 112, 109, 97, 114, 107, 101, 114, 115]⟩
  | 6 => ⟨#[109, 101, 116, 97, 100, 97, 116, 97]⟩
  | 7 => ⟨#[104, 105, 115, 116, 111, 103, 114, 97, 109, 95, 115, 97, 109, 112, 108, 101, 115]⟩
  | 8 => ⟨#[102, 108, 111, 97, 116, 95, 104, 105, 115, 116, 111, 103, 114, 97, 109, 95, 115, 97, 109, 112, 108, 101, 115]⟩
  | 9 => ⟨#[99, 117, 115, 116, 111, 109, 95, 98, 117, 99, 107, 101, 116, 115, 95, 104, 105, 115, 116, 111, 103, 114, 97, 109, 95, 115, 97, 109, 112, 108, 101, 115]⟩
  | 10 => ⟨#[99, 117, 115, 116, 111, 109, 95, 98, 117, 99, 107, 101, 116, 115, 95, 102, 108, 111, 97, 116, 95, 104, 105, 115, 116, 111, 103, 114, 97, 109, 95, 115, 97, 109, 112, 108, 101, 115]⟩
  | _ => ⟨#[117, 110, 107, 110, 111, 119, 110]⟩

theorem typeString_ten (k : Nat) (hk : k = 1 ∨ k = 2 ∨ k = 3 ∨ k = 4 ∨ k = 5 ∨ k = 6 ∨ k = 7 ∨ k = 8 ∨ k = 9 ∨ k = 10 ∨ k = 255) (w : World) : Calls Tryz.prog 113 #[.int .u8 k] w fun r w' => r = .returned (.string (typeName k)) ∧ w = w' := by
  obtain rfl | rfl | rfl | rfl | rfl | rfl | rfl | rfl | rfl | rfl | rfl := hk
  all_goals
    go_enter Tryz.func113, Tryz.ntmps113
    go_wp2_with fail
    go_ret
    exact ⟨rfl, rfl⟩

theorem typeOf_ten (xs : List UInt8) : typeOf xs = 1 ∨ typeOf xs = 2 ∨ typeOf xs = 3 ∨ typeOf xs = 4 ∨ typeOf xs = 5 ∨ typeOf xs = 6 ∨ typeOf xs = 7 ∨ typeOf xs = 8 ∨ typeOf xs = 9 ∨ typeOf xs = 10 ∨ typeOf xs = 255 := by
  rcases xs with _ | ⟨c, r⟩
  · simp [typeOf]
  · have e : typeOf (c :: r) = if 1 ≤ c.toNat ∧ c.toNat ≤ 10 then c.toNat else 255 := rfl
    rw [e]
    by_cases h : 1 ≤ c.toNat ∧ c.toNat ≤ 10
    · rw [if_pos h]; omega
    · rw [if_neg h]; simp

/-- RecordType. -/
theorem recordType_any (v : Value) (P : Nat → Prop) (xs : List UInt8) (w : World) (h : Sl P w v 1 xs.length (bc xs)) : Calls Tryz.prog 42 #[v] w (NewEnds (fun u _ => u = .tuple #[.int .i64 (typeOf xs), .string (typeName (typeOf xs))]) w) := by
  have HS := Lib.hid h
  have h3 := typeOf_ten xs
  generalize hk : typeOf xs = k at h3 ⊢
  have HK := Lib.hid hk
  have hkb : k ≤ 255 := by omega
  have H3 := Lib.hid h3
  clear hk h h3
  go_enter Tryz.func42, Tryz.ntmps42
  go_wp2_with (first
    | (go_at_call 67; refine (newDec_any _ _).mono ?_; rintro r w1 ⟨v1, rfl, ⟨a, rfl⟩, hf1⟩)
    | (go_at_call 112; refine (type_any _ v P xs _ ((HS.out.fr hf1 (fun _ _ e => e)).fr ((Fr.refl (fun _ => False) w1).alloc _) (fun _ _ e => e))).mono ?_; rintro r w2 ⟨rfl, rfl⟩; rw [HK.out])
    | (go_at_call 113; refine (typeString_ten k H3.out _).mono ?_; rintro r w3 ⟨rfl, rfl⟩))
  go_ret2
  exact ⟨_, rfl, rfl, ((Fr.refl (fun _ => False) w).same hf1).alloc _⟩

end Go.Proofs.YtbkookiigkckdaaGreatDoor

/- A region that draws its order: loads are taken first where nobody writes their cells AHEAD of them; what comes behind them (an append and the store of what it hands back) may write. -/
namespace Go.Proofs.YtbkookiigkckdaaGreatDoor
open Go Go.RowKit
set_option linter.unusedVariables false
section
variable {P : Program} {ops : Array Oper} {Q : Exit → Act → World → Prop} {md : Region.Mode} {S : World → Prop} {c : Nat}

/-- Whatever order is picked, and S holds behind every operation as long as number c has not come up. -/
def wpBut (P : Program) (md : Region.Mode) (ops : Array Oper) (Q : Exit → Act → World → Prop) (S : World → Prop) (c : Nat) : Nat → Array Bool → Act → World → Prop
  | 0, listed, a, w => Region.ready md ops listed = [] ∧ Q .normal a w
  | fuel + 1, listed, a, w =>
    (Region.ready md ops listed = [] → Q .normal a w) ∧
    ∀ i ∈ Region.ready md ops listed, wpOp P ops Q i (fun a' w' => ((listed.setIfInBounds i true).getD c false = false → S w') ∧ wpBut P md ops Q S c fuel (listed.setIfInBounds i true) a' w') a w

theorem wpAny_of_but : ∀ (fuel : Nat) (listed : Array Bool) (a : Act) (w : World), wpBut P md ops Q S c fuel listed a w → wpAny P md ops Q fuel listed a w
  | 0, _, _, _, h => h
  | fuel + 1, _, _, _, h => ⟨h.1, fun i hi => wpOp_mono (fun a' w' h' => wpAny_of_but fuel _ a' w' h'.2) (h.2 i hi)⟩

/-- Every operation of C waits for i, or for another one of C. -/
def behind (md : Region.Mode) (ops : Array Oper) (i : Nat) (C : List Nat) : Bool :=
  C.all fun j => Region.waitsFor md ops j i || C.any fun k => Region.waitsFor md ops j k

theorem not_ready_behind {C : List Nat} {i j : Nat} {listed : Array Bool} (hb : behind md ops i C = true) (hi : listed.getD i false = false) (hC : ∀ k ∈ C, listed.getD k false = false) (hj : j ∈ Region.ready md ops listed) : j ∉ C := by
  intro hjC
  obtain ⟨_, oj, hoj, hall⟩ := mem_ready.1 hj
  have h1 := List.all_eq_true.1 hb j hjC
  rw [Bool.or_eq_true] at h1
  have key : ∀ k, listed.getD k false = false → Region.waitsFor md ops j k = true → False := fun k hk hw => by
    obtain ⟨oj', hoj', e, he, hbd, hon⟩ := Region.waitsFor_spec hw
    have : oj' = oj := Option.some.inj (hoj'.symm.trans hoj)
    subst this
    have h2 := hall e he hbd
    rw [hon, hk] at h2
    cases h2
  rcases h1 with h1 | h1
  · exact key i hi h1
  · obtain ⟨k, hk, hw⟩ := List.any_eq_true.1 h1
    exact key k (hC k hk) hw

/-- A load is taken first: nothing that may come ahead of it writes its cell. -/
theorem wpBut_first {C : List Nat} {i : Nat} {oi : Oper} {v : Value} (hi : ops[i]? = some oi) (hsel : ∀ (j : Nat) (o : Oper) cs b, ops[j]? = some o → o.op ≠ .select cs b)
    (hQ : ∀ c a w, Q (.panic c) (a.put oi.dst v) w → Q (.panic c) a w) (hb : behind md ops i C = true) (hc : c ∈ C) (hic : i ≠ c) :
    ∀ (fuel : Nat) (listed : Array Bool) (a : Act) (w : World),
      (∀ j oj, ops[j]? = some oj → j ≠ i → listed.getD j true = false → (∀ e ∈ oj.after, Region.binds md e = true → e.on ≠ i) → oi.apart ops oj = true) →
      (∀ k ∈ C, listed.getD k false = false) → i ∈ Region.ready md ops listed → YieldsIf P ops S oi v a → S w →
      wpBut P md ops Q S c fuel (listed.setIfInBounds i true) (a.put oi.dst v) w → wpBut P md ops Q S c (fuel + 1) listed a w := by
  intro fuel
  induction fuel with
  | zero =>
    intro listed a w _ _ hr hy hS H
    refine ⟨fun h => (by rw [h] at hr; cases hr), fun j hj => ?_⟩
    by_cases hji : j = i
    · subst hji; exact hy.wpOp hi hS ⟨fun _ => hS, H⟩
    · have := ready_mono hj hji
      rw [H.1] at this
      cases this
  | succ fuel ih =>
    intro listed a w hfree hC hr hy hS H
    refine ⟨fun h => (by rw [h] at hr; cases hr), fun j hj => ?_⟩
    by_cases hji : j = i
    · subst hji; exact hy.wpOp hi hS ⟨fun _ => hS, H⟩
    · have h1 := H.2 j (ready_mono hj hji)
      obtain ⟨hjun, oj, hoj, hall⟩ := mem_ready.1 hj
      have hiun := getD_both (mem_ready.1 hr).1
      have hjC : j ∉ C := not_ready_behind hb hiun hC hj
      have hjc : j ≠ c := by rintro rfl; exact hjC hc
      have hnot : ∀ e ∈ oj.after, Region.binds md e = true → e.on ≠ i := fun e he hb heq => by
        have h1 := hall e he hb
        rw [heq, hiun] at h1
        cases h1
      have h2 := wpOp_putIf hoj (hfree j oj hoj hji hjun hnot) (fun cs b => hsel i oi cs b hi) (fun cs b => hsel j oj cs b hoj) hQ hy h1
      have hfree' : ∀ k ok, ops[k]? = some ok → k ≠ i → (listed.setIfInBounds j true).getD k true = false →
          (∀ e ∈ ok.after, Region.binds md e = true → e.on ≠ i) → oi.apart ops ok = true := fun k ok hk hki hun hno => by
        refine hfree k ok hk hki ?_ hno
        by_cases hjk : j = k
        · subst hjk; exact hjun
        · rw [getD_set_ne true hjk] at hun; exact hun
      have hC' : ∀ k ∈ C, (listed.setIfInBounds j true).getD k false = false := fun k hk => by
        have hkj : j ≠ k := by rintro rfl; exact hjC hk
        rw [getD_set_ne false hkj]; exact hC k hk
      have hcu : ((listed.setIfInBounds i true).setIfInBounds j true).getD c false = false := by
        rw [getD_set_ne false hjc, getD_set_ne false hic]; exact hC c hc
      refine wpOp_mono (fun a' w' h3 => ⟨fun _ => h3.2.1 hcu, ih (listed.setIfInBounds j true) a' w' hfree' hC' (ready_mono hr (Ne.symm hji)) h3.1 (h3.2.1 hcu) ?_⟩) h2
      rw [Array.setIfInBounds_comm _ _ hji]
      exact h3.2.2

/-- An operation that yields whatever the world is taken first. -/
theorem wpBut_early {i : Nat} {oi : Oper} {v : Value} (hi : ops[i]? = some oi) (hsel : ∀ (j : Nat) (o : Oper) cs b, ops[j]? = some o → o.op ≠ .select cs b)
    (hQ : ∀ c a w, Q (.panic c) (a.put oi.dst v) w → Q (.panic c) a w) (hic : i ≠ c) :
    ∀ (fuel : Nat) (listed : Array Bool) (a : Act) (w : World),
      (∀ j oj, ops[j]? = some oj → j ≠ i → listed.getD j true = false → (∀ e ∈ oj.after, Region.binds md e = true → e.on ≠ i) → oi.apart ops oj = true) →
      (listed.getD c false = false → S w) → i ∈ Region.ready md ops listed → Yields P ops oi v a →
      wpBut P md ops Q S c fuel (listed.setIfInBounds i true) (a.put oi.dst v) w → wpBut P md ops Q S c (fuel + 1) listed a w := by
  have hset : ∀ (l : Array Bool), (l.setIfInBounds i true).getD c false = l.getD c false := fun l => getD_set_ne false hic
  intro fuel
  induction fuel with
  | zero =>
    intro listed a w _ hI hr hy H
    refine ⟨fun h => (by rw [h] at hr; cases hr), fun j hj => ?_⟩
    by_cases hji : j = i
    · subst hji; exact hy.wpOp hi ⟨fun h => hI (by rw [hset] at h; exact h), H⟩
    · have := ready_mono hj hji
      rw [H.1] at this
      cases this
  | succ fuel ih =>
    intro listed a w hfree hI hr hy H
    refine ⟨fun h => (by rw [h] at hr; cases hr), fun j hj => ?_⟩
    by_cases hji : j = i
    · subst hji; exact hy.wpOp hi ⟨fun h => hI (by rw [hset] at h; exact h), H⟩
    · have h1 := H.2 j (ready_mono hj hji)
      obtain ⟨hjun, oj, hoj, hall⟩ := mem_ready.1 hj
      have hiun := getD_both (mem_ready.1 hr).1
      have hnot : ∀ e ∈ oj.after, Region.binds md e = true → e.on ≠ i := fun e he hb heq => by
        have h1 := hall e he hb
        rw [heq, hiun] at h1
        cases h1
      have h2 := wpOp_put hoj (hfree j oj hoj hji hjun hnot) (fun cs b => hsel i oi cs b hi) (fun cs b => hsel j oj cs b hoj) hQ hy h1
      have hfree' : ∀ k ok, ops[k]? = some ok → k ≠ i → (listed.setIfInBounds j true).getD k true = false →
          (∀ e ∈ ok.after, Region.binds md e = true → e.on ≠ i) → oi.apart ops ok = true := fun k ok hk hki hun hno => by
        refine hfree k ok hk hki ?_ hno
        by_cases hjk : j = k
        · subst hjk; exact hjun
        · rw [getD_set_ne true hjk] at hun; exact hun
      have hsw : ((listed.setIfInBounds i true).setIfInBounds j true).getD c false = (listed.setIfInBounds j true).getD c false := by
        rw [Array.setIfInBounds_comm _ _ (Ne.symm hji), hset]
      refine wpOp_mono (fun a' w' h3 => ⟨fun h => h3.2.1 (by rw [hsw]; exact h), ih (listed.setIfInBounds j true) a' w' hfree' (fun h => h3.2.1 (by rw [hsw]; exact h)) (ready_mono hr (Ne.symm hji)) h3.1 ?_⟩) h2
      rw [Array.setIfInBounds_comm _ _ hji]
      exact h3.2.2

theorem wpBut_load (i : Nat) (C : List Nat) {oi : Oper} (v : Value) {fuel : Nat} {listed : Array Bool} {a : Act} {w : World} (hi : ops[i]? = some oi)
    (hs : Region.noSelect ops = true) (hf : Region.free md ops listed i = true) (hr : (Region.ready md ops listed).contains i = true) (hb : behind md ops i C = true) (hC : (C.all fun k => !listed.getD k false) = true) (hc : C.contains c = true) (hic : (i == c) = false)
    (hQ : ∀ c a w, Q (.panic c) (a.put oi.dst v) w → Q (.panic c) a w) (hw : Region.wanted oi (yielded ops a.tmps) = true) (hy : ∀ w, S w → (execOp a.eval oi).run P w = .ok (.value v) w) (hS : S w)
    (h : wpBut P md ops Q S c fuel (listed.setIfInBounds i true) (a.put oi.dst v) w) : wpBut P md ops Q S c (fuel + 1) listed a w :=
  wpBut_first hi (Region.noSelect_spec hs) hQ hb (by simpa using hc) (by simpa using hic) fuel listed a w (Region.free_spec hi hf) (fun k hk => by simpa using List.all_eq_true.1 hC k hk) (by simpa using hr) (.inl ⟨hw, hy⟩) hS h
theorem wpBut_take (i : Nat) {oi : Oper} (v : Value) {fuel : Nat} {listed : Array Bool} {a : Act} {w : World} (hi : ops[i]? = some oi)
    (hs : Region.noSelect ops = true) (hf : Region.free md ops listed i = true) (hr : (Region.ready md ops listed).contains i = true) (hic : (i == c) = false)
    (hQ : ∀ c a w, Q (.panic c) (a.put oi.dst v) w → Q (.panic c) a w) (hw : Region.wanted oi (yielded ops a.tmps) = true) (hy : ∀ w, (execOp a.eval oi).run P w = .ok (.value v) w) (hS : S w)
    (h : wpBut P md ops Q S c fuel (listed.setIfInBounds i true) (a.put oi.dst v) w) : wpBut P md ops Q S c (fuel + 1) listed a w :=
  wpBut_early hi (Region.noSelect_spec hs) hQ (by simpa using hic) fuel listed a w (Region.free_spec hi hf) (fun _ => hS) (by simpa using hr) (.inl ⟨hw, hy⟩) h

/-- One operation alone may come up, ahead of number c. -/
theorem wpBut_one (i : Nat) {fuel : Nat} {listed : Array Bool} {a : Act} {w : World} {o : Oper} (hr : Region.ready md ops listed = [i]) (ho : ops[i]? = some o)
    (hw : Region.wanted o (yielded ops a.tmps) = true)
    (h : ∀ K' : Act → World → Prop, Shut (∀ a w, S w → wpBut P md ops Q S c fuel (listed.setIfInBounds i true) a w → K' a w) → Oper.wp P o a w K' Q) : wpBut P md ops Q S c (fuel + 1) listed a w := by
  refine ⟨fun h0 => (by rw [hr] at h0; cases h0), fun j hj => ?_⟩
  rw [hr, List.mem_singleton] at hj
  subst hj
  unfold wpOp
  simp only [ho, hw, if_true]
  exact .inl (h _ (fun a w hS hW => ⟨fun _ => hS, hW⟩))
/-- One operation alone may come up: number c, or behind it: S is not asked. -/
theorem wpBut_last (i : Nat) {fuel : Nat} {listed : Array Bool} {a : Act} {w : World} {o : Oper} (hr : Region.ready md ops listed = [i]) (ho : ops[i]? = some o) (hc : (listed.setIfInBounds i true).getD c false = true)
    (hw : Region.wanted o (yielded ops a.tmps) = true)
    (h : ∀ K' : Act → World → Prop, Shut (∀ a w, wpBut P md ops Q S c fuel (listed.setIfInBounds i true) a w → K' a w) → Oper.wp P o a w K' Q) : wpBut P md ops Q S c (fuel + 1) listed a w := by
  refine ⟨fun h0 => (by rw [hr] at h0; cases h0), fun j hj => ?_⟩
  rw [hr, List.mem_singleton] at hj
  subst hj
  unfold wpOp
  simp only [ho, hw, if_true]
  exact .inl (h _ (fun a w hW => ⟨fun hn => (by rw [hc] at hn; cases hn), hW⟩))
theorem wpBut_done {listed : Array Bool} {a : Act} {w : World} (hr : Region.ready md ops listed = []) (h : Q .normal a w) :
    ∀ fuel, wpBut P md ops Q S c fuel listed a w
  | 0 => ⟨hr, h⟩
  | _ + 1 => ⟨fun _ => h, by rw [hr]; simp⟩

theorem wp_region_but (S : World → Prop) (c : Nat) {id : Nat} {a : Act} {w : World} (hm : P.follows .mixedOrders = true) (hS : S w.drew)
    (h : S w.drew → wpBut P .any ops Q S c ops.size (Array.replicate ops.size false) a w.drew) : (Code.region id ops true).wp P Q a w :=
  wp_region_any hm (wpAny_of_but _ _ _ _ (h hS))
end
end Go.Proofs.YtbkookiigkckdaaGreatDoor

/- RecordRead's closure at samples. -/
namespace Go.Proofs.YtbkookiigkckdaaGreatDoor
open Go.RowKit
set_option linter.unusedVariables false
set_option linter.unusedSimpArgs false

theorem bitsOf_any (b : Nat) (w : World) : Calls Tryz.prog 73 #[.float .f64 b] w fun r w' => r = .returned (.int .u64 b) ∧ w = w' := by
  have h := run168
  go_enter Tryz.func73, Tryz.ntmps73
  go_wp2_with fail
  go_ret
  exact ⟨rfl, rfl⟩

theorem Tryz.info113 : (Tryz.prog.info? 113).map (fun i => (i.zero, i.size, i.bytes)) = some (some (.agg #[.int .u64 0, .int .i64 0, .int .u64 0]), 3, 24) := by kernel_rfl

def nilS : Value := .slice none 0 0

/-- What RecordRead's closure does at samples. -/
def ReadEnds (w : World) (bb bp bo : Nat) (xs : List UInt8) (r : Ending) (w' : World) : Prop :=
  r = .returned (.tuple #[]) ∧ Fr (fun k => k = bb ∨ k = bp ∨ k = bo) w w' ∧ Blk w' bo 4 #[.bool (decSamples xs).isSome] ∧
    ∃ lv, Blk w' bp 54 #[.slice none 0 0, lv, .slice none 0 0, .slice none 0 0, .slice none 0 0, .slice none 0 0, .slice none 0 0] ∧ w'.ownsRow w.heap.size 113 3 lv ((decSamples xs).getD []).length (((decSamples xs).getD []).flatMap Smp.a)

theorem smpLoop_len (br : Nat) (bt : Int) : ∀ (k : Nat) (st : St) (acc : List Smp), (smpLoop br bt k st acc).1.length ≤ acc.length + k
  | 0, st, acc => by simp [smpLoop]
  | k + 1, none, acc => by simp [smpLoop]
  | k + 1, some [], acc => by simp [smpLoop]
  | k + 1, some (c :: r), acc => by
    have h := smpLoop_len br bt k (smpStep br bt (some (c :: r))).2 (acc ++ [(smpStep br bt (some (c :: r))).1])
    rw [List.length_append, List.length_singleton] at h
    show (smpLoop br bt k (smpStep br bt (some (c :: r))).2 (acc ++ [(smpStep br bt (some (c :: r))).1])).1.length ≤ _
    omega
theorem decSamples_len (xs : List UInt8) : ((decSamples xs).getD []).length ≤ xs.length := by
  rcases xs with _ | ⟨b, rest⟩
  · simp [decSamples]
  · unfold decSamples
    simp only []
    split
    · split
      · simp
      · have h := smpLoop_len (gBe64 (some rest)).1 (gBe64i (gBe64 (some rest)).2).1 rest.length (gBe64i (gBe64 (some rest)).2).2 []
        split
        · rename_i l' _ e
          rw [e] at h
          simp at h ⊢; omega
        · simp
    · simp

theorem Rec.fr {te : TypeId} {pe : Value} {w w' : World} {g : Nat} {cur : Array Value} {xs : List UInt8} {v : Value} {S : Nat → Prop} (h : Rec te pe w g cur xs v) (hf : Fr S w w') (hg : ¬ S g) (h2 : ¬ S 2) : Rec te pe w' g cur xs v := by
  obtain ⟨off, c, rfl, hg', hl, hm, hr, hE⟩ := h
  refine ⟨off, c, rfl, hg'.fr hf hg, hl, hm, hr, ?_⟩
  rw [hf.cell (p := ⟨2, 0, none⟩) (World.block_lt_of_cell? w _ hE) h2]; exact hE

theorem rd_keep {W w5 w6 : World} {b t : Nat} {cs : Array Value} {v5 : Value} {n : Nat} {xs : List Value} (h : Blk W b t cs) (hf5 : Fr (fun _ => False) W.drew w5) (ho : w5.ownsRow W.drew.heap.size 137 3 v5 n xs) (hf6 : Fr (fun k => some k = v5.ownBlock) w5 w6) : Blk w6 b t cs :=
  (h.drew.fr hf5 (fun e => e)).fr hf6 (fun e => by have h1 := (ho.lt b e.symm).1; have h2 : b < W.heap.size := h.lt; exact Nat.lt_irrefl _ (Nat.lt_of_lt_of_le h2 h1))

theorem grown_keeps {W w2 wr : World} {b t : Nat} {cs : Array Value} {v : Value} {n : Nat} {xs : List Value} {base : Nat} {o : Obj} (h : Blk W b t cs) (hg : ((W.alloc o).drew).grownBy w2 v.ownBlock) (hne : v.ownBlock ≠ some b) : Blk w2 b t cs :=
  ((h.alloc o).drew).grown hg (fun e => hne e.symm)

theorem own_own {w : World} {base base' : Nat} {e e' : TypeId} {size size' n n' : Nat} {v v' : Value} {xs xs' : List Value} (h : w.ownsRow base e size v n xs) (h' : w.ownsRow base' e' size' v' n' xs') (hne : e ≠ e') : ∀ g, v.ownBlock = some g → v'.ownBlock ≠ some g := by
  intro g hg
  rcases h.2 with ⟨rfl, _⟩ | ⟨g', cap, cur, rfl, _, hh, _⟩
  · simp [Value.ownBlock] at hg
  · have : g' = g := by simpa [Value.ownBlock] using hg
    subst this
    exact own_ne (t := e) h' hh (Ne.symm hne)

theorem samples_uniform {w w' : World} {base : Nat} {o : Option Nat} {xs : List UInt8} {r : Ending} (h : SamplesEnds w base o xs r w') :
    ∃ v' e, r = .returned (.tuple #[v', e]) ∧ w'.ownsRow base 137 3 v' ((decSamples xs).getD []).length (((decSamples xs).getD []).flatMap Smp.b) ∧ Fr (fun k => some k = o) w w' ∧ ((e = .nilIface ∧ (decSamples xs).isSome = true) ∨ (∃ t a, e = .iface t a ∧ (decSamples xs).isSome = false)) := by
  unfold SamplesEnds at h
  rcases hd : decSamples xs with _ | l
  · rw [hd] at h
    obtain ⟨hf, t, a, rfl⟩ := h
    exact ⟨_, _, rfl, World.ownsRow_nil _ _ _ _, hf, .inr ⟨_, _, rfl, rfl⟩⟩
  · rw [hd] at h
    obtain ⟨hf, v', rfl, ho⟩ := h
    exact ⟨_, _, rfl, ho, hf, .inl ⟨rfl, rfl⟩⟩

set_option maxRecDepth 100000 in
set_option maxHeartbeats 4000000 in
theorem read1_samples (te : TypeId) (pe : Value) (bb bk bq bp bo : Nat) (P : Nat → Prop) (q0 q1 q2 q3 q4 q5 q6 v : Value) (xs : List UInt8) (w : World) (hb : Blk w bb 44 #[v]) (hv : Sl P w v 1 xs.length (bc xs)) (hk : Blk w bk 3 #[.int .i64 2]) (hq : Blk w bq 54 #[q0, q1, q2, q3, q4, q5, q6]) (hs : Sl P w q1 3 0 [])
    (hp : Blk w bp 54 #[.slice none 0 0, .slice none 0 0, .slice none 0 0, .slice none 0 0, .slice none 0 0, .slice none 0 0, .slice none 0 0]) (ho : Blk w bo 4 #[.bool false]) (hE : w.cell? ⟨2, 0, none⟩ = some (.iface te pe)) (hxl : xs.length ≤ 1073741824)
    (hPb : ∀ g, P g → g ≠ bb) (hpq : bp ≠ bq) (h2 : bb ≠ 2 ∧ bp ≠ 2 ∧ bo ≠ 2) :
    Calls Tryz.prog 66 #[.pointer (some ⟨bb, 0, none⟩), .pointer (some ⟨bk, 0, none⟩), .pointer (some ⟨bq, 0, none⟩), .pointer (some ⟨bp, 0, none⟩), .pointer (some ⟨bo, 0, none⟩)] w (ReadEnds w bb bp bo xs) := by
  obtain ⟨i0, hi0, hz0, hz1, hz2⟩ := info_parts Tryz.info5
  have HB := Lib.hid hb
  have HV := Lib.hid hv
  have HK := Lib.hid hk
  have HQ := Lib.hid hq
  have HS := Lib.hid hs
  have HP := Lib.hid hp
  have HO := Lib.hid ho
  have HE := Lib.hid hE
  have HPB := Lib.hid hPb
  have hv1 : ∃ A m c, v = .slice A m c := let ⟨A, c, h, _⟩ := hv; ⟨A, _, c, h⟩
  obtain ⟨A, m, c, rfl⟩ := hv1
  clear hb hv hk hq hs hp ho hE hPb
  go_enter Tryz.func66, Tryz.ntmps66
  go_wp2_with (first | (go_at_call 67; refine (newDec_any _ _).mono ?_; rintro r w1 ⟨v1, rfl, ⟨a, rfl⟩, hf1⟩; refine Hid.out ?_))
  have hB1 := ((HB.out.fr hf1 (fun e => e)).alloc (.cells #[.slice (some a) 0 0, .string ⟨#[]⟩, .slice none 0 0] 119)).alloc (.cells #[] 5)
  have b1 := hB1.cell 0
  simp at b1
  clear hB1
  refine Lib.hid ?_
  go_wp2_with (at_builtin; refine Hid.out ?_)
  have hO0 := World.ownsRow_made (base := w.heap.size) (e := 5) (size := 1) (w1.alloc (.cells #[.slice (some a) 0 0, .string ⟨#[]⟩, .slice none 0 0] 119)) #[] 0 (by have := hf1.size; simp; omega) (Nat.zero_le _) rfl
  have hFA : Fr (fun _ => False) w ((w1.alloc (.cells #[.slice (some a) 0 0, .string ⟨#[]⟩, .slice none 0 0] 119)).alloc (.cells #[] 5)) := (hf1.alloc _).alloc _
  have hs1 := hf1.size
  refine Lib.hid ?_
  have hg0 : (w1.alloc (.cells #[.slice (some a) 0 0, .string ⟨#[]⟩, .slice none 0 0] 119)).heap.size = w1.heap.size + 1 := by simp
  rw [hg0] at hO0
  clear b1
  generalize World.alloc _ (Obj.cells #[] 5) = WA at hO0 hFA ⊢
  have hsA := hFA.size
  have hsrc := src_sl Tryz.underlying44 (HV.out.fr hFA (fun _ _ e => e)) (bc_one xs)
  refine wpList_append_src _ rfl _ _ 44 44 rfl w.heap.size 5 i0 (.int .u8 0) 1 1 Tryz.underlying44 hi0 hz0 hz1 hz2 rfl (by decide) (.slice (some ⟨w1.heap.size + 1, 0, none⟩) 0 0) 0 [] rfl hO0 (.slice A m c) xs.length (bc xs) rfl hsrc (by unfold maxLen; omega) (by omega) (by omega) ?_
  intro v' w2 hown' hgrow hat
  rw [Nat.zero_add, List.nil_append] at hown'
  obtain ⟨a2, k2, rfl⟩ := own_slice' hown'
  have hge : ∀ k, (Value.slice (some ⟨w1.heap.size + 1, 0, none⟩) 0 0).ownBlock = some k → w.heap.size ≤ k := fun k hk => by
    have hk : w1.heap.size + 1 = k := Option.some.inj hk
    omega
  have F2 : Fr (fun _ => False) w w2 := hFA.grown hgrow (fun k hk => .inr (hge k hk))
  have hrow2 : ∃ g2 cur2, a2 = some ⟨g2, 0, none⟩ ∧ w.heap.size ≤ g2 ∧ Blk w2 g2 5 cur2 ∧ xs.length ≤ k2 ∧ k2 ≤ maxLen ∧ cur2.toList.take xs.length = bc xs := by
    rcases hown'.2 with ⟨h, _⟩ | ⟨g2, cap, cur2, h, h1, h3, h4, h5, _, h6⟩
    · rw [h] at hat
      rcases hat with hat | hat <;> exact absurd hat (by simp [Value.ownBlock])
    · injection h with e1 e2 e3
      subst e3
      exact ⟨g2, cur2, e1, h1, h3, h4, h5, by simpa using h6⟩
  have hge2 : ∀ k, (Value.slice a2 xs.length k2).ownBlock = some k → w.heap.size ≤ k := fun k hk => (hown'.lt k hk).1
  have lB := HB.out.lt
  have gB := HB.out.fr F2 (fun e => e)
  have y0 := gB.cell 0
  have y1 := gB.frozen 0
  simp at y0
  have F3 : Fr (fun k => k = bb) w (w2.setCell ⟨bb, 0, none⟩ (.slice a2 xs.length k2)) := (F2.mono (S' := fun k => k = bb) (fun _ _ e => e.elim)).setCell (p := ⟨bb, 0, none⟩) (.inl rfl) _
  have O3 : (w2.setCell ⟨bb, 0, none⟩ (.slice a2 xs.length k2)).ownsRow w.heap.size 5 1 (.slice a2 xs.length k2) xs.length (bc xs) := own_fr hown' (Fr.put_ w2 bb 0 _) (fun k hk e => by have := hge2 k hk; omega)
  have B3 : Blk (w2.setCell ⟨bb, 0, none⟩ (.slice a2 xs.length k2)) bb 44 #[.slice a2 xs.length k2] := by simpa using gB.set_ 0 (.slice a2 xs.length k2)
  have K3 := (HK.out.fr F3 (fun e => Blk.ne_ HK.out HB.out (by decide) e)).cell 0
  have Q3 := HQ.out.fr F3 (fun e => Blk.ne_ HQ.out HB.out (by decide) e)
  have P3 := HP.out.fr F3 (fun e => Blk.ne_ HP.out HB.out (by decide) e)
  have O4 := HO.out.fr F3 (fun e => Blk.ne_ HO.out HB.out (by decide) e)
  have E3 : (w2.setCell ⟨bb, 0, none⟩ (.slice a2 xs.length k2)).cell? ⟨2, 0, none⟩ = some (.iface te pe) := by
    rw [F3.cell (p := ⟨2, 0, none⟩) (World.block_lt_of_cell? w _ HE.out) (fun e => h2.1 e.symm)]; exact HE.out
  simp at K3
  have HF3 := Lib.hid F3
  have HO3 := Lib.hid O3
  have HB3 := Lib.hid B3
  have HQ3 := Lib.hid Q3
  have HP3 := Lib.hid P3
  have HO4 := Lib.hid O4
  have HE3 := Lib.hid E3
  have HGE := Lib.hid hge2
  obtain ⟨g2, cur2, rfl, hg2, hbk2, hk2, hk2m, htk2⟩ := hrow2
  have R3 : Rec te pe (w2.setCell ⟨bb, 0, none⟩ (.slice (some ⟨g2, 0, none⟩) xs.length k2)) g2 cur2 xs (.slice (some ⟨g2, 0, none⟩) xs.length k2) := by
    refine ⟨0, k2, rfl, hbk2.far (p := ⟨bb, 0, none⟩) (by show g2 ≠ bb; omega) _, hk2, ⟨by simp [maxLen] at hk2m; omega, by omega⟩, fun j u hu => ?_, E3⟩
    rw [Nat.zero_add, ← Array.getElem?_toList]
    have hj : j < xs.length := by
      rcases Nat.lt_or_ge j xs.length with h | h
      · exact h
      · rw [List.getElem?_eq_none (by rw [bc_len]; exact h)] at hu; cases hu
    rw [← htk2, List.getElem?_take_of_lt hj] at hu
    exact hu
  have HR3 := Lib.hid R3
  have hg2l := hbk2.lt
  clear R3 hk2m htk2 hbk2
  clear F2 F3 O3 B3 Q3 P3 O4 E3 gB hge hge2 hown' hgrow hat hsrc hO0 hFA hf1
  go_wp2_with fail
  generalize w2.setCell ⟨bb, 0, none⟩ (.slice (some ⟨g2, 0, none⟩) xs.length k2) = W3 at HF3 HO3 HB3 HQ3 HP3 HO4 HE3 HR3 ⊢
  have hl3 := HR3.out
  have hg3 : g2 < W3.heap.size := let ⟨_, _, _, h, _⟩ := hl3; h.lt
  have h23 : 2 < W3.heap.size := World.block_lt_of_cell? W3 _ HE3.out
  clear hl3
  have hS3 : Sl P W3.drew q1 3 ([] : List Smp).length (([] : List Smp).flatMap Smp.a) := by
    obtain ⟨A, c, rfl, h1, h2, _⟩ := HS.out
    exact ⟨A, c, rfl, rfl, h2, fun h => absurd h (by simp)⟩
  have hR1 := refSamples_any P q1 [] W3.drew hS3 (by simp)
  have hq1 : ∃ A m c, q1 = .slice A m c := let ⟨A, c, h, _⟩ := HS.out; ⟨A, _, c, h⟩
  obtain ⟨Aq, mq, cq, rfl⟩ := hq1
  have x0 := HB3.out.cell 0
  have x1 := HQ3.out.cell 1
  have x0d : W3.drew.cell? ⟨bb, 0, none⟩ = some (.slice (some ⟨g2, 0, none⟩) xs.length k2) := x0
  have x1d : W3.drew.cell? ⟨bq, 1, none⟩ = some (.slice Aq mq cq) := x1
  simp at x0 x1
  clear y0 y1 K3
  go_region_held3 (fun w' => w'.cell? ⟨bb, 0, none⟩ = some (.slice (some ⟨g2, 0, none⟩) xs.length k2) ∧ w'.cell? ⟨bq, 1, none⟩ = some (.slice Aq mq cq))
    ((first | (go_split_ands; refine ⟨?_, ?_⟩ <;> first | exact (HB3.out.drew.fr hf5 (fun e => e)).cell 0 | exact (HQ3.out.drew.fr hf5 (fun e => e)).cell 1) | (go_split_ands; refine ⟨?_, ?_⟩ <;> first | exact KB.out.cell 0 | exact KQ.out.cell 1) | go_keep))
    ((first
      | (go_at_call 72; refine hR1.mono ?_; rintro r5 w5 ⟨v5, rfl, hown5, hf5⟩)
      | (go_at_call 71; refine (decSamples_any te pe _ g2 W3.drew.heap.size cur2 xs _ v5 w5 (HR3.out.fr (w := W3) (((Fr.refl (fun _ => False) W3).drew).same hf5) (fun e => e) (fun e => e)) hown5 ⟨hg3, h23, hf5.size⟩).mono ?_; rintro r6 w6 hE6; obtain ⟨v6, e6, rfl, hown6, hf6, hor6⟩ := samples_uniform hE6; clear hE6; have KB := Lib.hid (rd_keep HB3.out hf5 hown5 hf6); have KQ := Lib.hid (rd_keep HQ3.out hf5 hown5 hf6))))
  have T6 : Fr (fun k => k = bb) w w6 := ((HF3.out.trans (((Fr.refl (fun _ => False) W3).drew).same hf5) (fun _ _ e => e.elim)).trans hf6 (fun k hk e => by
    have h1 := (hown5.lt k e.symm).1
    have h2 := HF3.out.size
    simp at h1; omega))
  have P6 := rd_keep HP3.out hf5 hown5 hf6
  have O6 := rd_keep HO4.out hf5 hown5 hf6
  have hz6 : w.heap.size ≤ W3.drew.heap.size := HF3.out.size
  have V6 := own_mono hown6 hz6
  have HT6 := Lib.hid T6
  have HP6 := Lib.hid P6
  have HO6 := Lib.hid O6
  have HV6 := Lib.hid V6
  have HOR := Lib.hid hor6
  have hsz5 := hf5.size
  have hsz6 := hf6.size
  have hb6 : ∀ k, v6.ownBlock = some k → k < w6.heap.size := fun k hk => own_lt hown6 hk
  clear x0 x1 x0d x1d hR1 T6 P6 O6 V6 hor6 hown5 hf5 hown6 hf6 KB KQ HO3 HB3 HQ3 HP3 HO4 HE3 HR3 HF3
  obtain ⟨l, hl⟩ : ∃ l, (decSamples xs).getD [] = l := ⟨_, rfl⟩
  rw [hl] at HV6
  have HLL := Lib.hid hl
  clear hl
  obtain ⟨a6, k6, rfl⟩ := own_slice' HV6.out
  go_wp2_with fail
  obtain ⟨n, hn⟩ : ∃ n, l.length = n := ⟨_, rfl⟩
  have HN := Lib.hid hn
  rw [hn] at HV6 hb6 ⊢
  clear hn
  obtain ⟨i1, hi1, hy0, hy1, hy2⟩ := info_parts Tryz.info113
  go_loopw [81] (fun i wr => ∃ (k : Nat) (lv : Value), k ≤ n ∧ i = .int .i64 k ∧ Hid (Fr (fun j => j = bb ∨ j = bp) w wr) ∧ Hid (wr.ownsRow w.heap.size 137 3 (.slice a6 n k6) n (l.flatMap Smp.b)) ∧ Hid (Blk wr bo 4 #[.bool false]) ∧
      Hid (Blk wr bp 54 #[.slice none 0 0, lv, .slice none 0 0, .slice none 0 0, .slice none 0 0, .slice none 0 0, .slice none 0 0]) ∧ Hid (wr.ownsRow w.heap.size 113 3 lv k ((l.take k).flatMap Smp.a))) (fun i _ => n - (intOf i).toNat)
  case atStart => exact ⟨0, _, Nat.zero_le _, rfl, Lib.hid (Fr.mono HT6.out (fun _ _ e => Or.inl e)), HV6, HO6, HP6, Lib.hid (World.ownsRow_nil _ _ _ _)⟩
  case round =>
    obtain ⟨k, lv, hk, rfl, RF, RV, RO, RP, RL⟩ := hrel
    by_cases hlt : k < n
    · obtain ⟨A7, c7, e7, _, _, hr7⟩ := Sl.ofOwn RV.out
      injection e7 with e7 _ e7c
      subst e7 e7c
      obtain ⟨g7, off7, rfl, _, hcell7⟩ := hr7 (by omega)
      obtain ⟨x, hx⟩ : ∃ x, l[k]? = some x := ⟨_, List.getElem?_eq_getElem (by rw [HN.out]; exact hlt)⟩
      have cc : ∀ j, j < 3 → ∀ u, (Smp.b x)[j]? = some u → wr.cell? ⟨g7, off7 + (k * 3 + j), none⟩ = some u := fun j hj u hu =>
        hcell7 (k * 3 + j) u (by rw [flat3 Smp.b (fun _ => rfl) l k x hx j hj]; exact hu)
      have c0 : wr.cell? ⟨g7, off7 + k * 3, none⟩ = some (.int .u64 x.ref) := cc 0 (by omega) _ rfl
      have c1 : wr.cell? ⟨g7, off7 + k * 3 + 1, none⟩ = some (.int .i64 x.t) := cc 1 (by omega) _ rfl
      have c2 : wr.cell? ⟨g7, off7 + k * 3 + 2, none⟩ = some (.float .f64 x.v) := cc 2 (by omega) _ rfl
      have hsf := run_store_float
      have HX := Lib.hid hx
      obtain ⟨aL, kL, rfl⟩ := own_slice' RL.out
      clear hcell7 hr7 cc hx
      go_wp2_with fail
      have hB8 := Blk.new wr 137 #[.int .u64 x.ref, .int .i64 x.t, .float .f64 x.v]
      have s0 := hB8.cell 0
      have s1 := hB8.cell 1
      have s2 := hB8.cell 2
      have hP8 := RP.out.alloc (.cells #[.int .u64 x.ref, .int .i64 x.t, .float .f64 x.v] 137)
      have s3 := hP8.cell 1
      simp only [List.getElem?_toArray, List.getElem?_cons_zero, List.getElem?_cons_succ] at s0 s1 s2 s3
      have lP := RP.out.lt
      have hsz := RF.out.size
      have hk40 : k < 1099511627776 := by have h1 := decSamples_len xs; rw [HLL.out, HN.out] at h1; omega
      have HB8 := Lib.hid hB8
      have HP8 := Lib.hid hP8
      have hbpl := RP.out.lt
      have s4 : ∀ o : Obj, ((wr.alloc (.cells #[.int .u64 x.ref, .int .i64 x.t, .float .f64 x.v] 137)).drew.alloc o).cell? ⟨bp, 1, none⟩ = some (.slice aL k kL) := fun o => by
        have h := (hP8.drew.alloc o).cell 1
        simp only [List.getElem?_toArray, List.getElem?_cons_zero, List.getElem?_cons_succ] at h
        exact h
      clear hB8 hP8
      refine wp_region_but (fun w' => w'.cell? ⟨bp, 1, none⟩ = some (.slice aL k kL) ∧ w'.cell? ⟨wr.heap.size, 0, none⟩ = some (.int .u64 x.ref) ∧ w'.cell? ⟨wr.heap.size, 1, none⟩ = some (.int .i64 x.t) ∧ w'.cell? ⟨wr.heap.size, 2, none⟩ = some (.float .f64 x.v)) 11 (by kernel_rfl) ⟨s3, s0, s1, s2⟩ ?_
      intro hS
      refine wpBut_take 0 (.pointer (some ⟨bp, 1, none⟩)) rfl (by kernel_rfl) (by kernel_rfl) (by kernel_rfl) (by kernel_rfl) (fun _ _ _ h => h) (by rfl) (by intro w; go_simp) hS ?_
      try simp only [Act.put, List.setIfInBounds_toArray, List.set_cons_zero, List.set_cons_succ]
      refine wpBut_load 1 [11, 13] (.slice aL k kL) rfl (by kernel_rfl) (by kernel_rfl) (by kernel_rfl) (by kernel_rfl) (by kernel_rfl) (by kernel_rfl) (by kernel_rfl) (fun _ _ _ h => h) (by rfl) (by rintro w ⟨h1, h2, h3, h4⟩; go_simp) hS ?_
      try simp only [Act.put, List.setIfInBounds_toArray, List.set_cons_zero, List.set_cons_succ]
      refine wpBut_take 2 (.pointer (some ⟨wr.heap.size, 0, none⟩)) rfl (by kernel_rfl) (by kernel_rfl) (by kernel_rfl) (by kernel_rfl) (fun _ _ _ h => h) (by rfl) (by intro w; go_simp) hS ?_
      try simp only [Act.put, List.setIfInBounds_toArray, List.set_cons_zero, List.set_cons_succ]
      refine wpBut_load 3 [9, 10, 11, 13] (.int .u64 x.ref) rfl (by kernel_rfl) (by kernel_rfl) (by kernel_rfl) (by kernel_rfl) (by kernel_rfl) (by kernel_rfl) (by kernel_rfl) (fun _ _ _ h => h) (by rfl) (by rintro w ⟨h1, h2, h3, h4⟩; go_simp) hS ?_
      try simp only [Act.put, List.setIfInBounds_toArray, List.set_cons_zero, List.set_cons_succ]
      refine wpBut_take 4 (.pointer (some ⟨wr.heap.size, 1, none⟩)) rfl (by kernel_rfl) (by kernel_rfl) (by kernel_rfl) (by kernel_rfl) (fun _ _ _ h => h) (by rfl) (by intro w; go_simp) hS ?_
      try simp only [Act.put, List.setIfInBounds_toArray, List.set_cons_zero, List.set_cons_succ]
      refine wpBut_load 5 [9, 10, 11, 13] (.int .i64 x.t) rfl (by kernel_rfl) (by kernel_rfl) (by kernel_rfl) (by kernel_rfl) (by kernel_rfl) (by kernel_rfl) (by kernel_rfl) (fun _ _ _ h => h) (by rfl) (by rintro w ⟨h1, h2, h3, h4⟩; go_simp) hS ?_
      try simp only [Act.put, List.setIfInBounds_toArray, List.set_cons_zero, List.set_cons_succ]
      refine wpBut_take 6 (.pointer (some ⟨wr.heap.size, 2, none⟩)) rfl (by kernel_rfl) (by kernel_rfl) (by kernel_rfl) (by kernel_rfl) (fun _ _ _ h => h) (by rfl) (by intro w; go_simp) hS ?_
      try simp only [Act.put, List.setIfInBounds_toArray, List.set_cons_zero, List.set_cons_succ]
      refine wpBut_load 7 [8, 9, 10, 11, 13] (.float .f64 x.v) rfl (by kernel_rfl) (by kernel_rfl) (by kernel_rfl) (by kernel_rfl) (by kernel_rfl) (by kernel_rfl) (by kernel_rfl) (fun _ _ _ h => h) (by rfl) (by rintro w ⟨h1, h2, h3, h4⟩; go_simp) hS ?_
      try simp only [Act.put, List.setIfInBounds_toArray, List.set_cons_zero, List.set_cons_succ]
      refine wpBut_one 8 (by kernel_rfl) rfl (by rfl) (fun K hK => ?_)
      go_simp
      go_at_call 73
      refine (bitsOf_any _ _).mono ?_
      rintro r w' ⟨rfl, rfl⟩
      refine hK.out _ _ hS ?_
      clear hK K
      try simp only [Act.put, List.setIfInBounds_toArray, List.set_cons_zero, List.set_cons_succ]
      refine wpBut_take 9 (.agg #[.int .u64 x.ref, .int .i64 x.t, .int .u64 x.v]) rfl (by kernel_rfl) (by kernel_rfl) (by kernel_rfl) (by kernel_rfl) (fun _ _ _ h => h) (by rfl) (by intro w; go_simp) hS ?_
      try simp only [Act.put, List.setIfInBounds_toArray, List.set_cons_zero, List.set_cons_succ]
      refine wpBut_one 10 (by kernel_rfl) rfl (by rfl) (fun K hK => ?_)
      go_simp
      refine hK.out _ _ ⟨(HP8.out.alloc _).drew.cell 1, (HB8.out.alloc _).drew.cell 0, (HB8.out.alloc _).drew.cell 1, (HB8.out.alloc _).drew.cell 2⟩ ?_
      clear hK K
      try simp only [Act.put, List.setIfInBounds_toArray, List.set_cons_zero, List.set_cons_succ]
      refine wpBut_last 11 (by kernel_rfl) rfl (by kernel_rfl) (by rfl) (fun K hK => ?_)
      refine wp_append_src _ _ _ 47 47 (by rfl) w.heap.size 113 i1 _ 3 24 Tryz.underlying47 hi1 hy0 hy1 hy2 rfl (by decide) (.slice aL k kL) k ((l.take k).flatMap Smp.a) (by rfl) ((RL.out.alloc _).alloc _).drew _ 1 (Smp.a x) (by rfl) (src_blk Tryz.underlying47 (blk_new2 wr _ 113 (Smp.a x).toArray).drew rfl (by simp [Smp.a, Value.oneCell'])) (by unfold maxLen; omega) (by omega) (by simp; omega) ?_
      intro v' w2 hown' hgrow hat
      obtain ⟨a9, k9, rfl⟩ := own_slice' hown'
      have KP9 := Lib.hid (grown_keeps (wr := wr) (n := k) (xs := []) (base := 0) HP8.out hgrow (own_ne RL.out RP.out (by decide)))
      have p9 := KP9.out.cell 1
      have z9 := KP9.out.frozen 1
      simp at p9
      refine hK.out _ _ ?_
      clear hK K hS
      try simp only [Act.put, List.setIfInBounds_toArray, List.set_cons_zero, List.set_cons_succ]
      refine wpBut_last 12 (by kernel_rfl) rfl (by kernel_rfl) (by rfl) (fun K hK => ?_)
      go_simp
      refine hK.out _ _ ?_
      clear hK K
      refine wpBut_last 13 (by kernel_rfl) rfl (by kernel_rfl) (by rfl) (fun K hK => ?_)
      go_simp
      refine hK.out _ _ ?_
      clear hK K
      refine wpBut_done (by kernel_rfl) ?_ _
      all_goals
        have newP : Blk (w2.setCell ⟨bp, 1, none⟩ (.slice a9 (k + 1) k9)) bp 54 #[.slice none 0 0, .slice a9 (k + 1) k9, .slice none 0 0, .slice none 0 0, .slice none 0 0, .slice none 0 0, .slice none 0 0] := by simpa using KP9.out.set_ 1 (.slice a9 (k + 1) k9)
        have newO : Blk (w2.setCell ⟨bp, 1, none⟩ (.slice a9 (k + 1) k9)) bo 4 #[.bool false] := (((RO.out.alloc (.cells #[.int .u64 x.ref, .int .i64 x.t, .float .f64 x.v] 137)).alloc _).drew.grown hgrow (Ne.symm (own_ne RL.out RO.out (by decide)))).far (p := ⟨bp, 1, none⟩) (Blk.ne_ RO.out RP.out (by decide)) _
        have newL : (w2.setCell ⟨bp, 1, none⟩ (.slice a9 (k + 1) k9)).ownsRow w.heap.size 113 3 (.slice a9 (k + 1) k9) (k + 1) ((l.take (k + 1)).flatMap Smp.a) := by
          rw [flatMap_take_succ Smp.a l k x HX.out]
          exact own_fr hown' (Fr.put_ w2 bp 1 _) (fun g hg e => own_ne hown' KP9.out (by decide) (by rw [hg, e]))
        have fG : Fr (fun j => some j = (Value.slice aL k kL).ownBlock ∨ j = bp) wr (w2.setCell ⟨bp, 1, none⟩ (.slice a9 (k + 1) k9)) :=
          (((((Fr.refl (fun j => some j = (Value.slice aL k kL).ownBlock ∨ j = bp) wr).alloc (.cells #[.int .u64 x.ref, .int .i64 x.t, .float .f64 x.v] 137)).alloc _).drew).grown hgrow (fun g hg => .inl (.inl hg.symm))).setCell (p := ⟨bp, 1, none⟩) (.inl (.inr rfl)) _
        have newV := own_fr RV.out fG (fun g hg e => by
          rcases e with e | e
          · exact own_own RV.out RL.out (by decide) g hg e.symm
          · exact own_ne RV.out RP.out (by decide) (by rw [hg, e]))
        have newF : Fr (fun j => j = bb ∨ j = bp) w (w2.setCell ⟨bp, 1, none⟩ (.slice a9 (k + 1) k9)) := RF.out.trans fG (fun j hj e => by
          rcases e with e | e
          · have := (RL.out.lt j e.symm).1; omega
          · exact .inr e)
        have NP := Lib.hid newP
        have NO := Lib.hid newO
        have NL := Lib.hid newL
        have NV := Lib.hid newV
        have NF := Lib.hid newF
        clear newP newO newL newV newF fG hown' hgrow hat p9 z9 c0 c1 c2 s0 s1 s2 s3 s4
        go_wp2
        go_roundw
        case rel => exact ⟨k + 1, _, by omega, by go_num, NF, NV, NO, NP, NL⟩
        case measure => simp [intOf]; omega
    · obtain rfl : k = n := by omega
      have o0 := RO.out.cell 0
      have o1 := RO.out.frozen 0
      simp at o0
      have W1 : Blk (wr.setCell ⟨bo, 0, none⟩ (.bool (decSamples xs).isSome)) bo 4 #[.bool (decSamples xs).isSome] := by simpa using RO.out.set_ 0 (.bool (decSamples xs).isSome)
      have W2 := RP.out.far (p := ⟨bo, 0, none⟩) (Blk.ne_ RP.out RO.out (by decide)) (.bool (decSamples xs).isSome)
      have W3' := own_fr RL.out (Fr.put_ wr bo 0 (.bool (decSamples xs).isSome)) (fun g hg e => own_ne RL.out RO.out (by decide) (by rw [hg, e]))
      have W4 : Fr (fun k => k = bb ∨ k = bp ∨ k = bo) w (wr.setCell ⟨bo, 0, none⟩ (.bool (decSamples xs).isSome)) := (Fr.mono (S' := fun k => k = bb ∨ k = bp ∨ k = bo) RF.out (fun _ _ e => e.elim (fun h => Or.inl h) (fun h => Or.inr (Or.inl h)))).setCell (p := ⟨bo, 0, none⟩) (.inl (.inr (.inr rfl))) _
      rcases HOR.out with ⟨rfl, hsome⟩ | ⟨t, ae, rfl, hsome⟩
      all_goals
        rw [hsome] at W1 W2 W3' W4
        have hW1 := Lib.hid W1
        have hW2 := Lib.hid W2
        have hW3 := Lib.hid W3'
        have hW4 := Lib.hid W4
        clear W1 W2 W3' W4
        go_wp2_with fail
        go_end0
        refine ⟨rfl, hW4.out, by rw [hsome]; exact hW1.out, lv, hW2.out, ?_⟩
        have e1 : l.take k = l := List.take_of_length_le (by rw [HN.out]; exact Nat.le_refl _)
        have h3 := hW3.out
        rw [e1] at h3
        rw [HLL.out, HN.out]
        exact h3
end Go.Proofs.YtbkookiigkckdaaGreatDoor

/- Histograms: impl.spans, unspans, floats, bitsOfAll. Printed by gen_h1.py. -/
namespace Go.Proofs.YtbkookiigkckdaaGreatDoor
open Go.RowKit
set_option linter.unusedVariables false
set_option linter.unusedSimpArgs false

def spc (p : Int × Nat) : List Value := [.int .i32 p.1, .int .u32 p.2]
def i1 (x : Int) : List Value := [.int .i64 x]
def u1 (x : Nat) : List Value := [.int .u64 x]
def f1 (x : Nat) : List Value := [.float .f64 x]
theorem Tryz.info361 : (Tryz.prog.info? 361).map (fun i => (i.zero, i.size, i.bytes)) = some (some (.agg #[.int .i32 0, .int .u32 0]), 2, 8) := by kernel_rfl
theorem Tryz.info319 : (Tryz.prog.info? 319).map (fun i => (i.zero, i.size, i.bytes)) = some (some (.agg #[.int .i32 0, .int .u32 0]), 2, 8) := by kernel_rfl
theorem Tryz.info135 : (Tryz.prog.info? 135).map (fun i => (i.zero, i.size, i.bytes)) = some (some (.float .f64 0), 1, 8) := by kernel_rfl
theorem Tryz.info111 : (Tryz.prog.info? 111).map (fun i => (i.zero, i.size, i.bytes)) = some (some (.int .u64 0), 1, 8) := by kernel_rfl
theorem Tryz.info2 : (Tryz.prog.info? 2).map (fun i => (i.zero, i.size, i.bytes)) = some (some (.int .i64 0), 1, 8) := by kernel_rfl

theorem flat1 {α : Type} (f : α → List Value) (h1 : ∀ x, (f x).length = 1) : ∀ (l : List α) (k : Nat) (x : α), l[k]? = some x → (l.flatMap f)[k]? = (f x)[0]?
  | [], k, x, h => by simp at h
  | y :: l, 0, x, h => by
    simp at h; subst h
    rw [List.flatMap_cons, List.getElem?_append_left (by rw [h1]; omega)]
  | y :: l, k + 1, x, h => by
    rw [List.flatMap_cons, List.getElem?_append_right (by rw [h1]; omega), h1, Nat.add_sub_cancel]
    exact flat1 f h1 l k x (by simpa using h)

def RowEnds (t : TypeId) (size : Nat) (w : World) (n : Nat) (cs : List Value) (r : Ending) (w' : World) : Prop :=
  ∃ v, r = .returned v ∧ w'.ownsRow w.heap.size t size v n cs ∧ Fr (fun _ => False) w w'


set_option maxHeartbeats 1000000 in
set_option maxRecDepth 100000 in
theorem spans_any (P : Nat → Prop) (v : Value) (l : List (Int × Nat)) (w : World) (h : Sl P w v 2 l.length (l.flatMap spc)) (hl : l.length ≤ 1099511627776) :
    Calls Tryz.prog 235 #[v] w (RowEnds 361 2 w l.length (l.flatMap spc)) := by
  obtain ⟨A, c, rfl, hlen, hnc, hr⟩ := h
  obtain ⟨n, hn⟩ : ∃ n, l.length = n := ⟨_, rfl⟩
  rw [hn] at hr hnc hl ⊢
  have HN := Lib.hid hn
  have HR := Lib.hid hr
  obtain ⟨i0, hi0, hz0, hz1, hz2⟩ := info_parts Tryz.info361
  clear hn hr hlen
  go_enter Tryz.func235, Tryz.ntmps235
  go_wp2
  go_loopw [3, 8] (fun v i wr => ∃ k : Nat, k ≤ n ∧ i = .int .i64 k ∧ wr.ownsRow w.heap.size 361 2 v k ((l.take k).flatMap spc) ∧ Fr (fun _ => False) w wr) (fun _ i _ => n - (intOf i).toNat)
  case atStart => exact ⟨0, Nat.zero_le _, rfl, World.ownsRow_nil _ _ _ _, Fr.refl _ _⟩
  case round =>
    obtain ⟨k, hk, rfl, hown, hf⟩ := hrel
    by_cases hlt : k < n
    · obtain ⟨g, off, rfl, _, hcell⟩ := HR.out (by omega)
      obtain ⟨x, hx⟩ : ∃ x, l[k]? = some x := ⟨_, List.getElem?_eq_getElem (by rw [HN.out]; exact hlt)⟩
      have cc : ∀ j, j < 2 → ∀ u, (spc x)[j]? = some u → wr.cell? ⟨g, off + (k * 2 + j), none⟩ = some u := fun j hj u hu => by
        have := hcell (k * 2 + j) u (by rw [flat2 spc (fun _ => rfl) l k x hx j hj]; exact hu)
        rw [hf.cell (p := ⟨g, off + (k * 2 + j), none⟩) (World.block_lt_of_cell? w _ this) (fun e => e)]
        exact this
      have c0 : wr.cell? ⟨g, off + k * 2, none⟩ = some (.int .i32 x.1) := cc 0 (by omega) _ rfl
      have c1 : wr.cell? ⟨g, off + k * 2 + 1, none⟩ = some (.int .u32 x.2) := cc 1 (by omega) _ rfl
      have HC := Lib.hid hcell
      have HO := Lib.hid hown
      have HX := Lib.hid hx
      obtain ⟨a', n', k', rfl⟩ := own_slice hown
      clear hcell cc hown hx
      go_wp2_with (at_builtin; refine Hid.out ?_)
      refine Lib.hid ?_
      refine wpList_append_src _ rfl _ _ 285 285 rfl w.heap.size 361 i0 _ 2 8 Tryz.underlying285 hi0 hz0 hz1 hz2 rfl (by decide) _ k ((l.take k).flatMap spc) rfl ((HO.out.alloc _).alloc _) _ 1 (spc x) rfl (src_blk Tryz.underlying285 (blk_new2 wr _ 361 (spc x).toArray) rfl (by simp [spc, Value.oneCell'])) (by unfold maxLen; omega) (by omega) (by have := hf.size; simp; omega) ?_
      intro v' w2 hown' hgrow hat
      have hown2 : w2.ownsRow w.heap.size 361 2 v' (k + 1) ((l.take (k + 1)).flatMap spc) := by rw [flatMap_take_succ spc l k x HX.out]; exact hown'
      have hf2 : Fr (fun _ => False) w w2 := ((hf.alloc _).alloc _).grown hgrow (fun g hg => .inr (((HO.out.lt g hg)).1))
      have HO2 := Lib.hid hown2
      have HF2 := Lib.hid hf2
      clear hown' hgrow hown2 hf2 hf c0 c1 hat
      go_wp2
      go_roundw
      case rel => exact ⟨k + 1, by omega, by go_num, HO2.out, HF2.out⟩
      case measure => simp [intOf]; omega
    · go_wp2
      go_ret
      obtain rfl : k = n := by omega
      refine ⟨_, rfl, ?_, hf⟩
      rw [← HN.out] at hown ⊢
      rw [List.take_length] at hown
      exact hown


set_option maxHeartbeats 1000000 in
set_option maxRecDepth 100000 in
theorem unspans_any (P : Nat → Prop) (v : Value) (l : List (Int × Nat)) (w : World) (h : Sl P w v 2 l.length (l.flatMap spc)) (hl : l.length ≤ 1099511627776) :
    Calls Tryz.prog 237 #[v] w (RowEnds 319 2 w l.length (l.flatMap spc)) := by
  obtain ⟨A, c, rfl, hlen, hnc, hr⟩ := h
  obtain ⟨n, hn⟩ : ∃ n, l.length = n := ⟨_, rfl⟩
  rw [hn] at hr hnc hl ⊢
  have HN := Lib.hid hn
  have HR := Lib.hid hr
  obtain ⟨i0, hi0, hz0, hz1, hz2⟩ := info_parts Tryz.info319
  clear hn hr hlen
  go_enter Tryz.func237, Tryz.ntmps237
  go_wp2
  go_loopw [3, 8] (fun v i wr => ∃ k : Nat, k ≤ n ∧ i = .int .i64 k ∧ wr.ownsRow w.heap.size 319 2 v k ((l.take k).flatMap spc) ∧ Fr (fun _ => False) w wr) (fun _ i _ => n - (intOf i).toNat)
  case atStart => exact ⟨0, Nat.zero_le _, rfl, World.ownsRow_nil _ _ _ _, Fr.refl _ _⟩
  case round =>
    obtain ⟨k, hk, rfl, hown, hf⟩ := hrel
    by_cases hlt : k < n
    · obtain ⟨g, off, rfl, _, hcell⟩ := HR.out (by omega)
      obtain ⟨x, hx⟩ : ∃ x, l[k]? = some x := ⟨_, List.getElem?_eq_getElem (by rw [HN.out]; exact hlt)⟩
      have cc : ∀ j, j < 2 → ∀ u, (spc x)[j]? = some u → wr.cell? ⟨g, off + (k * 2 + j), none⟩ = some u := fun j hj u hu => by
        have := hcell (k * 2 + j) u (by rw [flat2 spc (fun _ => rfl) l k x hx j hj]; exact hu)
        rw [hf.cell (p := ⟨g, off + (k * 2 + j), none⟩) (World.block_lt_of_cell? w _ this) (fun e => e)]
        exact this
      have c0 : wr.cell? ⟨g, off + k * 2, none⟩ = some (.int .i32 x.1) := cc 0 (by omega) _ rfl
      have c1 : wr.cell? ⟨g, off + k * 2 + 1, none⟩ = some (.int .u32 x.2) := cc 1 (by omega) _ rfl
      have HC := Lib.hid hcell
      have HO := Lib.hid hown
      have HX := Lib.hid hx
      obtain ⟨a', n', k', rfl⟩ := own_slice hown
      clear hcell cc hown hx
      go_wp2_with (at_builtin; refine Hid.out ?_)
      refine Lib.hid ?_
      refine wpList_append_src _ rfl _ _ 188 188 rfl w.heap.size 319 i0 _ 2 8 Tryz.underlying188 hi0 hz0 hz1 hz2 rfl (by decide) _ k ((l.take k).flatMap spc) rfl ((HO.out.alloc _).alloc _) _ 1 (spc x) rfl (src_blk Tryz.underlying188 (blk_new2 wr _ 319 (spc x).toArray) rfl (by simp [spc, Value.oneCell'])) (by unfold maxLen; omega) (by omega) (by have := hf.size; simp; omega) ?_
      intro v' w2 hown' hgrow hat
      have hown2 : w2.ownsRow w.heap.size 319 2 v' (k + 1) ((l.take (k + 1)).flatMap spc) := by rw [flatMap_take_succ spc l k x HX.out]; exact hown'
      have hf2 : Fr (fun _ => False) w w2 := ((hf.alloc _).alloc _).grown hgrow (fun g hg => .inr (((HO.out.lt g hg)).1))
      have HO2 := Lib.hid hown2
      have HF2 := Lib.hid hf2
      clear hown' hgrow hown2 hf2 hf c0 c1 hat
      go_wp2
      go_roundw
      case rel => exact ⟨k + 1, by omega, by go_num, HO2.out, HF2.out⟩
      case measure => simp [intOf]; omega
    · go_wp2
      go_ret
      obtain rfl : k = n := by omega
      refine ⟨_, rfl, ?_, hf⟩
      rw [← HN.out] at hown ⊢
      rw [List.take_length] at hown
      exact hown


set_option maxHeartbeats 1000000 in
set_option maxRecDepth 100000 in
theorem floats_any (P : Nat → Prop) (v : Value) (l : List Nat) (w : World) (h : Sl P w v 1 l.length (l.flatMap u1)) (hl : l.length ≤ 1099511627776) :
    Calls Tryz.prog 236 #[v] w (RowEnds 135 1 w l.length (l.flatMap f1)) := by
  obtain ⟨A, c, rfl, hlen, hnc, hr⟩ := h
  obtain ⟨n, hn⟩ : ∃ n, l.length = n := ⟨_, rfl⟩
  rw [hn] at hr hnc hl ⊢
  have HN := Lib.hid hn
  have HR := Lib.hid hr
  obtain ⟨i0, hi0, hz0, hz1, hz2⟩ := info_parts Tryz.info135
  clear hn hr hlen
  go_enter Tryz.func236, Tryz.ntmps236
  go_wp2
  go_loopw [3, 8] (fun v i wr => ∃ k : Nat, k ≤ n ∧ i = .int .i64 k ∧ wr.ownsRow w.heap.size 135 1 v k ((l.take k).flatMap f1) ∧ Fr (fun _ => False) w wr) (fun _ i _ => n - (intOf i).toNat)
  case atStart => exact ⟨0, Nat.zero_le _, rfl, World.ownsRow_nil _ _ _ _, Fr.refl _ _⟩
  case round =>
    obtain ⟨k, hk, rfl, hown, hf⟩ := hrel
    by_cases hlt : k < n
    · obtain ⟨g, off, rfl, _, hcell⟩ := HR.out (by omega)
      obtain ⟨x, hx⟩ : ∃ x, l[k]? = some x := ⟨_, List.getElem?_eq_getElem (by rw [HN.out]; exact hlt)⟩
      have c0 : wr.cell? ⟨g, off + k, none⟩ = some (.int .u64 x) := by
        have := hcell k (.int .u64 x) (by rw [flat1 u1 (fun _ => rfl) l k x hx]; rfl)
        rw [hf.cell (p := ⟨g, off + k, none⟩) (World.block_lt_of_cell? w _ this) (fun e => e)]
        exact this
      have HC := Lib.hid hcell
      have HO := Lib.hid hown
      have HX := Lib.hid hx
      obtain ⟨a', n', k', rfl⟩ := own_slice hown
      clear hcell hown hx
      go_wp2_with (first
        | (go_at_call 167; refine (float_any _ _).mono ?_; rintro r w' ⟨rfl, rfl⟩)
        | (at_builtin; refine Hid.out ?_))
      refine Lib.hid ?_
      refine wpList_append_src _ rfl _ _ 286 286 rfl w.heap.size 135 i0 _ 1 8 Tryz.underlying286 hi0 hz0 hz1 hz2 rfl (by decide) _ k ((l.take k).flatMap f1) rfl (HO.out.alloc _) _ 1 (f1 x) rfl (src_blk Tryz.underlying286 (Blk.new wr 135 (f1 x).toArray) rfl (by simp [f1, Value.oneCell'])) (by unfold maxLen; omega) (by omega) (by have := hf.size; simp; omega) ?_
      intro v' w2 hown' hgrow hat
      have hown2 : w2.ownsRow w.heap.size 135 1 v' (k + 1) ((l.take (k + 1)).flatMap f1) := by rw [flatMap_take_succ f1 l k x HX.out]; exact hown'
      have hf2 : Fr (fun _ => False) w w2 := (hf.alloc _).grown hgrow (fun g hg => .inr (((HO.out.lt g hg)).1))
      have HO2 := Lib.hid hown2
      have HF2 := Lib.hid hf2
      clear hown' hgrow hown2 hf2 hf c0 hat
      go_wp2
      go_roundw
      case rel => exact ⟨k + 1, by omega, by go_num, HO2.out, HF2.out⟩
      case measure => simp [intOf]; omega
    · go_wp2
      go_ret
      obtain rfl : k = n := by omega
      refine ⟨_, rfl, ?_, hf⟩
      rw [← HN.out] at hown ⊢
      rw [List.take_length] at hown
      exact hown


set_option maxHeartbeats 1000000 in
set_option maxRecDepth 100000 in
theorem bitsOfAll_any (P : Nat → Prop) (v : Value) (l : List Nat) (w : World) (h : Sl P w v 1 l.length (l.flatMap f1)) (hl : l.length ≤ 1099511627776) :
    Calls Tryz.prog 238 #[v] w (RowEnds 111 1 w l.length (l.flatMap u1)) := by
  obtain ⟨A, c, rfl, hlen, hnc, hr⟩ := h
  obtain ⟨n, hn⟩ : ∃ n, l.length = n := ⟨_, rfl⟩
  rw [hn] at hr hnc hl ⊢
  have HN := Lib.hid hn
  have HR := Lib.hid hr
  obtain ⟨i0, hi0, hz0, hz1, hz2⟩ := info_parts Tryz.info111
  clear hn hr hlen
  go_enter Tryz.func238, Tryz.ntmps238
  go_wp2
  go_loopw [3, 8] (fun v i wr => ∃ k : Nat, k ≤ n ∧ i = .int .i64 k ∧ wr.ownsRow w.heap.size 111 1 v k ((l.take k).flatMap u1) ∧ Fr (fun _ => False) w wr) (fun _ i _ => n - (intOf i).toNat)
  case atStart => exact ⟨0, Nat.zero_le _, rfl, World.ownsRow_nil _ _ _ _, Fr.refl _ _⟩
  case round =>
    obtain ⟨k, hk, rfl, hown, hf⟩ := hrel
    by_cases hlt : k < n
    · obtain ⟨g, off, rfl, _, hcell⟩ := HR.out (by omega)
      obtain ⟨x, hx⟩ : ∃ x, l[k]? = some x := ⟨_, List.getElem?_eq_getElem (by rw [HN.out]; exact hlt)⟩
      have c0 : wr.cell? ⟨g, off + k, none⟩ = some (.float .f64 x) := by
        have := hcell k (.float .f64 x) (by rw [flat1 f1 (fun _ => rfl) l k x hx]; rfl)
        rw [hf.cell (p := ⟨g, off + k, none⟩) (World.block_lt_of_cell? w _ this) (fun e => e)]
        exact this
      have HC := Lib.hid hcell
      have HO := Lib.hid hown
      have HX := Lib.hid hx
      obtain ⟨a', n', k', rfl⟩ := own_slice hown
      clear hcell hown hx
      go_wp2_with (first
        | (go_at_call 73; refine (bitsOf_any _ _).mono ?_; rintro r w' ⟨rfl, rfl⟩)
        | (at_builtin; refine Hid.out ?_))
      refine Lib.hid ?_
      refine wpList_append_src _ rfl _ _ 190 190 rfl w.heap.size 111 i0 _ 1 8 Tryz.underlying190 hi0 hz0 hz1 hz2 rfl (by decide) _ k ((l.take k).flatMap u1) rfl (HO.out.alloc _) _ 1 (u1 x) rfl (src_blk Tryz.underlying190 (Blk.new wr 111 (u1 x).toArray) rfl (by simp [u1, Value.oneCell'])) (by unfold maxLen; omega) (by omega) (by have := hf.size; simp; omega) ?_
      intro v' w2 hown' hgrow hat
      have hown2 : w2.ownsRow w.heap.size 111 1 v' (k + 1) ((l.take (k + 1)).flatMap u1) := by rw [flatMap_take_succ u1 l k x HX.out]; exact hown'
      have hf2 : Fr (fun _ => False) w w2 := (hf.alloc _).grown hgrow (fun g hg => .inr (((HO.out.lt g hg)).1))
      have HO2 := Lib.hid hown2
      have HF2 := Lib.hid hf2
      clear hown' hgrow hown2 hf2 hf c0 hat
      go_wp2
      go_roundw
      case rel => exact ⟨k + 1, by omega, by go_num, HO2.out, HF2.out⟩
      case measure => simp [intOf]; omega
    · go_wp2
      go_ret
      obtain rfl : k = n := by omega
      refine ⟨_, rfl, ?_, hf⟩
      rw [← HN.out] at hown ⊢
      rw [List.take_length] at hown
      exact hown

end Go.Proofs.YtbkookiigkckdaaGreatDoor

