/- The types of metrics. -/
import Derived.Test.YtbkookiigkckdaaGreatDoorSmp

namespace Go.Proofs.YtbkookiigkckdaaGreatDoor
open Go.RowKit
set_option linter.unusedVariables false
set_option linter.unusedSimpArgs false

def metricName : Nat → ByteArray
  | 1 => ⟨#[99, 111, 117, 110, 116, 101, 114]⟩
  | 2 => ⟨#[103, 97, 117, 103, 101]⟩
  | 3 => ⟨#[104, 105, 115, 116, 111, 103, 114, 97, 109]⟩
  | 4 => ⟨#[103, 97, 117, 103, 101, 104, 105, 115, 116, 111, 103, 114, 97, 109]⟩
  | 5 => ⟨#[115, 117, 109, 109, 97, 114, 121]⟩
  | 6 => ⟨#[105, 110, 102, 111]⟩
  | 7 => ⟨#[115, 116, 97, 116, 101, 115, 101, 116]⟩
  | _ => ⟨#[117, 110, 107, 110, 111, 119, 110]⟩

def metricOf (k : Nat) : Nat := if k ≤ 7 then k else 0

theorem toMetric_some (k : Nat) (hk : k = 1 ∨ k = 2 ∨ k = 3 ∨ k = 4 ∨ k = 5 ∨ k = 6 ∨ k = 7) (w : World) : Calls Tryz.prog 121 #[.int .u8 k] w fun r w' => r = .returned (.string (metricName k)) ∧ w = w' := by
  obtain rfl | rfl | rfl | rfl | rfl | rfl | rfl := hk
  all_goals
    go_enter Tryz.func121, Tryz.ntmps121
    go_wp2_with fail
    go_ret
    exact ⟨rfl, rfl⟩

theorem toMetric_none (k : Nat) (hk : k = 0 ∨ 7 < k) (w : World) : Calls Tryz.prog 121 #[.int .u8 k] w fun r w' => r = .returned (.string (metricName 0)) ∧ w = w' := by
  have e1 : ¬ (k : Int) = 1 := by omega
  have e2 : ¬ (k : Int) = 2 := by omega
  have e3 : ¬ (k : Int) = 3 := by omega
  have e4 : ¬ (k : Int) = 4 := by omega
  have e5 : ¬ (k : Int) = 5 := by omega
  have e6 : ¬ (k : Int) = 6 := by omega
  have e7 : ¬ (k : Int) = 7 := by omega
  clear hk
  go_enter Tryz.func121, Tryz.ntmps121
  go_wp2_with fail
  go_ret
  exact ⟨rfl, rfl⟩

theorem getMetric_any (k : Nat) (hk : k = 0 ∨ k = 1 ∨ k = 2 ∨ k = 3 ∨ k = 4 ∨ k = 5 ∨ k = 6 ∨ k = 7) (w : World) : Calls Tryz.prog 120 #[.string (metricName k)] w fun r w' => r = .returned (.int .u8 k) ∧ w = w' := by
  obtain rfl | rfl | rfl | rfl | rfl | rfl | rfl | rfl := hk
  all_goals
    simp only [metricName]
    go_enter Tryz.func120, Tryz.ntmps120
    go_wp2_with fail
    go_ret
    exact ⟨rfl, rfl⟩

/-- RecordMetric. -/
theorem recordMetric_any (k : Nat) (w : World) : Calls Tryz.prog 44 #[.int .u8 k] w fun r w' => r = .returned (.int .u8 (metricOf k)) ∧ w = w' := by
  by_cases h : k = 1 ∨ k = 2 ∨ k = 3 ∨ k = 4 ∨ k = 5 ∨ k = 6 ∨ k = 7
  · have e : metricOf k = k := if_pos (by omega)
    rw [e]
    have h1 := toMetric_some k h w
    have h2 := getMetric_any k (.inr h) w
    clear h e
    go_enter Tryz.func44, Tryz.ntmps44
    go_wp2_with (first | (go_at_call 121; refine h1.mono ?_; rintro r w1 ⟨rfl, rfl⟩) | (go_at_call 120; refine h2.mono ?_; rintro r w1 ⟨rfl, rfl⟩))
    go_ret
    exact ⟨rfl, rfl⟩
  · have e : metricOf k = 0 := by unfold metricOf; split <;> omega
    rw [e]
    have h1 := toMetric_none k (by omega) w
    have h2 := getMetric_any 0 (.inl rfl) w
    clear h e
    go_enter Tryz.func44, Tryz.ntmps44
    go_wp2_with (first | (go_at_call 121; refine h1.mono ?_; rintro r w1 ⟨rfl, rfl⟩) | (go_at_call 120; refine h2.mono ?_; rintro r w1 ⟨rfl, rfl⟩))
    go_ret
    exact ⟨rfl, rfl⟩

end Go.Proofs.YtbkookiigkckdaaGreatDoor
