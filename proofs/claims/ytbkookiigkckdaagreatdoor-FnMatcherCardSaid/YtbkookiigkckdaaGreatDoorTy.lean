/- The small functions of the records: NewDecoder, Type and its text, the types of metrics. -/
import Derived.Test.YtbkookiigkckdaaGreatDoorSmp

namespace Go.Proofs.YtbkookiigkckdaaGreatDoor
open Go.RowKit
set_option linter.unusedVariables false
set_option linter.unusedSimpArgs false

/-- A call that leaves alone all that was there. -/
def NewEnds (V : Value → World → Prop) (w : World) (r : Ending) (w' : World) : Prop := ∃ v, r = .returned v ∧ V v w' ∧ Fr (fun _ => False) w w'

theorem Tryz.info108 : (Tryz.prog.info? 108).map (fun i => (i.zero, i.size, i.bytes)) = some (some (.agg #[.string ⟨#[]⟩, .string ⟨#[]⟩]), 2, 32) := by kernel_rfl

set_option maxRecDepth 100000 in
theorem scratch_any (w : World) : Calls Tryz.prog 129 #[.int .i64 0] w (NewEnds (fun v _ => ∃ a, v = .agg #[.slice (some a) 0 0, .string ⟨#[]⟩, .slice none 0 0]) w) := by
  obtain ⟨i0, hi0, hz0, hz1, hz2⟩ := info_parts Tryz.info108
  have hms : ∀ W : World, (Instr.makeSlice 115 (.int .i64 0) (.int .i64 0)).run Tryz.prog W = .ok (.slice (some ⟨W.heap.size, 0, none⟩) 0 0) (W.alloc (.cells #[] 108)) := fun W => by
    have h := run_make (P := Tryz.prog) W 115 108 i0 _ Tryz.underlying115 hi0 hz0 .i64 .i64 0 0 (by omega) (by omega) (by omega) (by omega)
    simp [madeCells, hz1, Array.range_zero'] at h
    exact h
  go_enter Tryz.func129, Tryz.ntmps129
  go_wp2_with fail
  simp [Exit.then, bodyPost, results, Tryz.results129, go_sem]
  exact ⟨_, rfl, ⟨_, rfl⟩, (((Fr.refl _ w).alloc _).alloc _)⟩

theorem type_none (d : Value) (P : Nat → Prop) (v : Value) (w : World) (h : Sl P w v 1 0 []) : Calls Tryz.prog 112 #[d, v] w fun r w' => r = .returned (.int .u8 255) ∧ w = w' := by
  obtain ⟨A, c, rfl, _⟩ := h
  go_enter Tryz.func112, Tryz.ntmps112
  go_wp2_with fail
  go_ret
  exact ⟨rfl, rfl⟩

/-- The type of a record by its first byte. -/
def typeOf : List UInt8 → Nat
  | [] => 255
  | c :: _ => if 1 ≤ c.toNat ∧ c.toNat ≤ 10 then c.toNat else 255

theorem type_ten (k : Nat) (hk : 1 ≤ k ∧ k ≤ 10) (d : Value) (a : Addr) (n c : Nat) (hn : 0 < n) (w : World) (h : w.cell? a = some (.int .u8 k)) : Calls Tryz.prog 112 #[d, .slice (some a) n c] w fun r w' => r = .returned (.int .u8 k) ∧ w = w' := by
  have hn0 : ¬ ((n : Int) < 1) := by omega
  have hn1 : (0 : Int) < (n : Int) := by omega
  obtain ⟨g, off, x⟩ := a
  obtain rfl | rfl | rfl | rfl | rfl | rfl | rfl | rfl | rfl | rfl : k = 1 ∨ k = 2 ∨ k = 3 ∨ k = 4 ∨ k = 5 ∨ k = 6 ∨ k = 7 ∨ k = 8 ∨ k = 9 ∨ k = 10 := by omega
  all_goals
    go_enter Tryz.func112, Tryz.ntmps112
    go_wp2_with fail
    go_ret
    exact ⟨rfl, rfl⟩

theorem type_odd (k : Nat) (hk : ¬ (1 ≤ k ∧ k ≤ 10)) (d : Value) (a : Addr) (n c : Nat) (hn : 0 < n) (w : World) (h : w.cell? a = some (.int .u8 k)) : Calls Tryz.prog 112 #[d, .slice (some a) n c] w fun r w' => r = .returned (.int .u8 255) ∧ w = w' := by
  have hn0 : ¬ ((n : Int) < 1) := by omega
  have hn1 : (0 : Int) < (n : Int) := by omega
  obtain ⟨g, off, x⟩ := a
  have e1 : ¬ (k : Int) = 1 := by omega
  have e2 : ¬ (k : Int) = 2 := by omega
  have e3 : ¬ (k : Int) = 3 := by omega
  have e4 : ¬ (k : Int) = 4 := by omega
  have e5 : ¬ (k : Int) = 5 := by omega
  have e6 : ¬ (k : Int) = 6 := by omega
  have e7 : ¬ (k : Int) = 7 := by omega
  have e8 : ¬ (k : Int) = 8 := by omega
  have e9 : ¬ (k : Int) = 9 := by omega
  have e10 : ¬ (k : Int) = 10 := by omega
  clear hk
  go_enter Tryz.func112, Tryz.ntmps112
  go_wp2_with fail
  go_ret
  exact ⟨rfl, rfl⟩

/-- Decoder.Type. -/
theorem type_any (d v : Value) (P : Nat → Prop) (xs : List UInt8) (w : World) (h : Sl P w v 1 xs.length (bc xs)) : Calls Tryz.prog 112 #[d, v] w fun r w' => r = .returned (.int .u8 (typeOf xs)) ∧ w = w' := by
  rcases xs with _ | ⟨c, r⟩
  · exact type_none d P v w h
  · obtain ⟨A, cap, rfl, _, _, hr⟩ := h
    obtain ⟨g, off, rfl, _, hc⟩ := hr (by simp)
    have h0 := hc 0 _ rfl
    by_cases hk : 1 ≤ c.toNat ∧ c.toNat ≤ 10
    · rw [typeOf, if_pos hk]; exact type_ten c.toNat hk d _ _ _ (by simp) w h0
    · rw [typeOf, if_neg hk]; exact type_odd c.toNat hk d _ _ _ (by simp) w h0

/-- NewDecoder. -/
theorem newDec_any (v : Value) (w : World) : Calls Tryz.prog 67 #[v] w (NewEnds (fun v _ => ∃ a, v = .agg #[.slice (some a) 0 0, .string ⟨#[]⟩, .slice none 0 0]) w) := by
  have hS := scratch_any (w.alloc (.cells #[.slice none 0 0, .string ⟨#[]⟩, .slice none 0 0] 119))
  go_enter Tryz.func67, Tryz.ntmps67
  go_wp2_with (refine hS.mono ?_; rintro r w1 ⟨v1, rfl, ⟨a, rfl⟩, hf1⟩; refine Hid.out ?_)
  have hB := (Blk.new w 119 #[.slice none 0 0, .string ⟨#[]⟩, .slice none 0 0]).fr hf1 (fun e => e)
  have k0 := hB.cell 0
  have k1 := hB.cell 1
  have k2 := hB.cell 2
  have z0 := hB.frozen 0
  have z1 := hB.frozen 1
  have z2 := hB.frozen 2
  simp at k0 k1 k2
  have m1 := hB.set_ 0 (.slice (some a) 0 0)
  have m2 := m1.set_ 1 (.string ⟨#[]⟩)
  have m3 := m2.set_ 2 (.slice none 0 0)
  have e0 := m1.cell 0
  have e1 := m2.cell 1
  have e2 := m3.cell 2
  simp only [List.size_toArray, List.length_cons, List.setIfInBounds_toArray, List.set_cons_zero, List.set_cons_succ, List.getElem?_toArray, List.getElem?_cons_zero, List.getElem?_cons_succ] at e0 e1 e2
  have HF := Lib.hid ((((Fr.refl (fun _ => False) w).alloc _).same hf1))
  have HB := Lib.hid hB
  clear hS hf1 hB m1 m2 m3
  refine Lib.hid ?_
  go_wp2_with fail
  simp [Exit.then, bodyPost, results, Tryz.results67, go_sem, e0, e1, e2]
  exact ⟨_, rfl, ⟨_, rfl⟩, ((HF.out.setCell (p := ⟨w.heap.size, 0, none⟩) (.inr (Nat.le_refl _)) _).setCell (p := ⟨w.heap.size, 1, none⟩) (.inr (Nat.le_refl _)) _).setCell (p := ⟨w.heap.size, 2, none⟩) (.inr (Nat.le_refl _)) _⟩

/-- The text of a record's type. -/
def typeName : Nat → ByteArray
  | 1 => ⟨#[115, 101, 114, 105, 101, 115]⟩
  | 2 => ⟨#[115, 97, 109, 112, 108, 101, 115]⟩
  | 3 => ⟨#[116, 111, 109, 98, 115, 116, 111, 110, 101, 115]⟩
  | 4 => ⟨#[101, 120, 101, 109, 112, 108, 97, 114, 115]⟩
  | 5 => ⟨#[109, 109, 97, 112, 109, 97, 114, 107, 101, 114, 115]⟩
  | 6 => ⟨#[109, 101, 116, 97, 100, 97, 116, 97]⟩
  | 7 => ⟨#[104, 105, 115, 116, 111, 103, 114, 97, 109, 95, 115, 97, 109, 112, 108, 101, 115]⟩
  | 8 => ⟨#[102, 108, 111, 97, 116, 95, 104, 105, 115, 116, 111, 103, 114, 97, 109, 95, 115, 97, 109, 112, 108, 101, 115]⟩
  | 9 => ⟨#[99, 117, 115, 116, 111, 109, 95, 98, 117, 99, 107, 101, 116, 115, 95, 104, 105, 115, 116, 111, 103, 114, 97, 109, 95, 115, 97, 109, 112, 108, 101, 115]⟩
  | 10 => ⟨#[99, 117, 115, 116, 111, 109, 95, 98, 117, 99, 107, 101, 116, 115, 95, 102, 108, 111, 97, 116, 95, 104, 105, 115, 116, 111, 103, 114, 97, 109, 95, 115, 97, 109, 112, 108, 101, 115]⟩
  | _ => ⟨#[117, 110, 107, 110, 111, 119, 110]⟩

theorem typeString_ten (k : Nat) (hk : k = 1 ∨ k = 2 ∨ k = 3 ∨ k = 4 ∨ k = 5 ∨ k = 6 ∨ k = 7 ∨ k = 8 ∨ k = 9 ∨ k = 10 ∨ k = 255) (w : World) : Calls Tryz.prog 113 #[.int .u8 k] w fun r w' => r = .returned (.string (typeName k)) ∧ w = w' := by
  obtain rfl | rfl | rfl | rfl | rfl | rfl | rfl | rfl | rfl | rfl | rfl := hk
  all_goals
    go_enter Tryz.func113, Tryz.ntmps113
    go_wp2_with fail
    go_ret
    exact ⟨rfl, rfl⟩

theorem typeOf_ten (xs : List UInt8) : typeOf xs = 1 ∨ typeOf xs = 2 ∨ typeOf xs = 3 ∨ typeOf xs = 4 ∨ typeOf xs = 5 ∨ typeOf xs = 6 ∨ typeOf xs = 7 ∨ typeOf xs = 8 ∨ typeOf xs = 9 ∨ typeOf xs = 10 ∨ typeOf xs = 255 := by
  rcases xs with _ | ⟨c, r⟩
  · simp [typeOf]
  · have e : typeOf (c :: r) = if 1 ≤ c.toNat ∧ c.toNat ≤ 10 then c.toNat else 255 := rfl
    rw [e]
    by_cases h : 1 ≤ c.toNat ∧ c.toNat ≤ 10
    · rw [if_pos h]; omega
    · rw [if_neg h]; simp

/-- RecordType. -/
theorem recordType_any (v : Value) (P : Nat → Prop) (xs : List UInt8) (w : World) (h : Sl P w v 1 xs.length (bc xs)) : Calls Tryz.prog 42 #[v] w (NewEnds (fun u _ => u = .tuple #[.int .i64 (typeOf xs), .string (typeName (typeOf xs))]) w) := by
  have HS := Lib.hid h
  have h3 := typeOf_ten xs
  generalize hk : typeOf xs = k at h3 ⊢
  have HK := Lib.hid hk
  have hkb : k ≤ 255 := by omega
  have H3 := Lib.hid h3
  clear hk h h3
  go_enter Tryz.func42, Tryz.ntmps42
  go_wp2_with (first
    | (go_at_call 67; refine (newDec_any _ _).mono ?_; rintro r w1 ⟨v1, rfl, ⟨a, rfl⟩, hf1⟩)
    | (go_at_call 112; refine (type_any _ v P xs _ ((HS.out.fr hf1 (fun _ _ e => e)).fr ((Fr.refl (fun _ => False) w1).alloc _) (fun _ _ e => e))).mono ?_; rintro r w2 ⟨rfl, rfl⟩; rw [HK.out])
    | (go_at_call 113; refine (typeString_ten k H3.out _).mono ?_; rintro r w3 ⟨rfl, rfl⟩))
  go_ret2
  exact ⟨_, rfl, rfl, ((Fr.refl (fun _ => False) w).same hf1).alloc _⟩

end Go.Proofs.YtbkookiigkckdaaGreatDoor
