/- The matchers: NewMatcher 139, matcher 48, Inverse 49, Matches 50, the spec's Matches 20. -/
import Derived.Test.YtbkookiigkckdaaGreatDoorMs
import Derived.Test.YtbkookiigkckdaaGreatDoorNm
namespace Go.Proofs.YtbkookiigkckdaaGreatDoor
open Go.RowKit
set_option linter.unusedVariables false
set_option linter.unusedSimpArgs false

/-- Kind 0 is equality, kind 1 its contrary. -/
def Kind01 (K : Int) : Prop := K = 0 ∨ K = 1
def mq (K : Int) (vl s : ByteArray) : Bool := if K = 0 then decide (s = vl) else !decide (s = vl)

theorem matAt_new (w : World) (K : Int) (nm vl : ByteArray) (t : TypeId) : MatAt w.heap.size K nm vl (w.alloc (.cells #[.int .i64 K, .string nm, .string vl] t)) :=
  have hb := Blk.new w t #[.int .i64 K, .string nm, .string vl]
  ⟨hb.cell 0, hb.cell 1, hb.cell 2, hb.lt⟩

set_option maxHeartbeats 4000000 in
set_option maxRecDepth 100000 in
theorem newMatcher_any (K : Int) (hK : Kind01 K) (nm vl : ByteArray) (w : World) : Calls Tryz.prog 139 #[.int .i64 K, .string nm, .string vl] w fun e w' => (∃ mb, e = .returned (.tuple #[.pointer (some ⟨mb, 0, none⟩), .nilIface]) ∧ MatAt mb K nm vl w') ∧ Fr (fun _ => False) w w' := by
  have HN := Lib.hid (matAt_new w K nm vl 251)
  have HF := Lib.hid ((Fr.refl (fun _ => False) w).alloc (.cells #[.int .i64 K, .string nm, .string vl] 251))
  rcases hK with rfl | rfl
  · go_enter Tryz.func139, Tryz.ntmps139
    go_wp2
    go_ret2
    exact ⟨⟨_, rfl, HN.out⟩, HF.out⟩
  · go_enter Tryz.func139, Tryz.ntmps139
    go_wp2
    go_ret2
    exact ⟨⟨_, rfl, HN.out⟩, HF.out⟩

set_option maxHeartbeats 4000000 in
set_option maxRecDepth 100000 in
theorem matcher_any (K : Int) (hK : Kind01 K) (nm vl : ByteArray) (w : World) : Calls Tryz.prog 48 #[.agg #[.int .i64 K, .string nm, .string vl]] w fun e w' => (∃ mb, e = .returned (.pointer (some ⟨mb, 0, none⟩)) ∧ MatAt mb K nm vl w') ∧ Fr (fun _ => False) w w' := by
  have hN := newMatcher_any K hK nm vl (w.alloc (.cells #[.int .i64 K, .string nm, .string vl] 23))
  have HF := Lib.hid ((Fr.refl (fun _ => False) w).alloc (.cells #[.int .i64 K, .string nm, .string vl] 23))
  have HN := Lib.hid hN
  clear hN
  rcases hK with rfl | rfl
  · go_enter Tryz.func48, Tryz.ntmps48
    go_wp2_with (go_at_call 139; refine HN.out.mono ?_; rintro e w1 ⟨⟨mb, rfl, hm⟩, hf⟩; have HM := Lib.hid hm; have HF1 := Lib.hid hf; clear hm hf)
    go_ret
    exact ⟨⟨mb, rfl, HM.out⟩, HF.out.trans HF1.out (fun _ _ e => e)⟩
  · go_enter Tryz.func48, Tryz.ntmps48
    go_wp2_with (go_at_call 139; refine HN.out.mono ?_; rintro e w1 ⟨⟨mb, rfl, hm⟩, hf⟩; have HM := Lib.hid hm; have HF1 := Lib.hid hf; clear hm hf)
    go_ret
    exact ⟨⟨mb, rfl, HM.out⟩, HF.out.trans HF1.out (fun _ _ e => e)⟩

set_option maxHeartbeats 4000000 in
set_option maxRecDepth 100000 in
theorem inverse_any (mb : Nat) (K : Int) (hK : Kind01 K) (nm vl : ByteArray) (w : World) (hM : MatAt mb K nm vl w) : Calls Tryz.prog 49 #[.pointer (some ⟨mb, 0, none⟩)] w fun e w' => (∃ mb, e = .returned (.tuple #[.pointer (some ⟨mb, 0, none⟩), .nilIface]) ∧ MatAt mb (1 - K) nm vl w') ∧ Fr (fun _ => False) w w' := by
  have mixed : Tryz.prog.follows .mixedOrders = true := by kernel_rfl
  obtain ⟨m0, m1, m2, m3⟩ := hM
  rcases hK with rfl | rfl
  · go_enter Tryz.func49, Tryz.ntmps49
    go_wp2
    go_region_with_o (go_at_call 139; refine (newMatcher_any 1 (.inr rfl) nm vl _).mono ?_; rintro e w1 ⟨⟨mb2, rfl, hm⟩, hf⟩; have HM := Lib.hid hm; have HF1 := Lib.hid hf; clear hm hf)
    all_goals (
      go_wp2
      go_ret2
      exact ⟨⟨mb2, rfl, HM.out⟩, ((Fr.refl _ w).drew).trans HF1.out (fun _ _ e => e)⟩)
  · go_enter Tryz.func49, Tryz.ntmps49
    go_wp2
    go_region_with_o (go_at_call 139; refine (newMatcher_any 0 (.inl rfl) nm vl _).mono ?_; rintro e w1 ⟨⟨mb2, rfl, hm⟩, hf⟩; have HM := Lib.hid hm; have HF1 := Lib.hid hf; clear hm hf)
    all_goals (
      go_wp2
      go_ret2
      exact ⟨⟨mb2, rfl, HM.out⟩, ((Fr.refl _ w).drew).trans HF1.out (fun _ _ e => e)⟩)

theorem str_eq (a b : ByteArray) : (a.toList == b.toList) = decide (a = b) := by
  rw [Lib.toList_data, Lib.toList_data]
  by_cases h : a = b
  · subst h; simp
  · have : a.data.toList ≠ b.data.toList := fun e => h (ByteArray.ext (Array.ext' e))
    rw [beq_eq_false_iff_ne.mpr this, decide_eq_false h]

set_option maxHeartbeats 4000000 in
set_option maxRecDepth 100000 in
theorem matches_any (mb : Nat) (K : Int) (hK : Kind01 K) (nm vl s : ByteArray) (w : World) (hM : MatAt mb K nm vl w) : Calls Tryz.prog 50 #[.pointer (some ⟨mb, 0, none⟩), .string s] w fun e w' => e = .returned (.bool (mq K vl s)) ∧ Fr (fun _ => False) w w' := by
  obtain ⟨m0, m1, m2, m3⟩ := hM
  have HF := Lib.hid (Fr.refl (fun _ => False) w)
  have hs := str_eq s vl
  rcases hK with rfl | rfl
  · go_enter Tryz.func50, Tryz.ntmps50
    go_wp2
    go_ret
    exact ⟨by simp [mq, hs], HF.out⟩
  · go_enter Tryz.func50, Tryz.ntmps50
    go_wp2
    go_ret
    exact ⟨by simp [mq, hs], HF.out⟩

set_option maxHeartbeats 4000000 in
set_option maxRecDepth 100000 in
theorem specMatches_any (K : Int) (hK : Kind01 K) (nm vl s : ByteArray) (w : World) : Calls Tryz.prog 20 #[.agg #[.int .i64 K, .string nm, .string vl], .string s] w fun e w' => e = .returned (.bool (mq K vl s)) ∧ Fr (fun _ => False) w w' := by
  have HF := Lib.hid ((Fr.refl (fun _ => False) w).alloc (.cells #[.int .i64 K, .string nm, .string vl] 23))
  have hs := str_eq vl s
  have hsy : decide (vl = s) = decide (s = vl) := decide_eq_decide.mpr ⟨Eq.symm, Eq.symm⟩
  rcases hK with rfl | rfl
  · go_enter Tryz.func20, Tryz.ntmps20
    go_wp2
    go_ret
    exact ⟨by simp [mq, hs, hsy], HF.out⟩
  · go_enter Tryz.func20, Tryz.ntmps20
    go_wp2
    go_ret
    exact ⟨by simp [mq, hs, hsy], HF.out⟩
end Go.Proofs.YtbkookiigkckdaaGreatDoor
