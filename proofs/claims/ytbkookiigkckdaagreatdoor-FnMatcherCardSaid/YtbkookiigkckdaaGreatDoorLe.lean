/- What spec.Sorted computes of unique names is what New keeps, in plain Lean. -/
import Derived.Test.YtbkookiigkckdaaGreatDoorLs
import Derived.Test.YtbkookiigkckdaaGreatDoorLx
namespace Go.Proofs.YtbkookiigkckdaaGreatDoor
open Go.RowKit Go.Sort
set_option linter.unusedVariables false
set_option linter.unusedSimpArgs false

def ltL (a b : Lab) : Bool := nlt a.1 b.1
theorem ltL_irrefl (a : Lab) : ltL a a = false := by simp [ltL, nlt, List.lt_irrefl]
theorem ltL_trans (a b c : Lab) (h1 : ltL a b = true) (h2 : ltL b c = true) : ltL a c = true := by
  simp only [ltL, nlt, decide_eq_true_eq] at *; exact List.lt_trans h1 h2
theorem ltL_ntrans (a b c : Lab) (h1 : ltL a b = false) (h2 : ltL b c = false) : ltL a c = false := by
  simp only [ltL, nlt, decide_eq_false_iff_not, List.not_lt] at *
  exact List.le_trans h2 h1
abbrev sortL (l : List Lab) : List Lab := lsort ltL l

theorem names_one : ∀ (l : List Lab), l.Pairwise (fun a b => a.1 ≠ b.1) → ∀ a ∈ l, ∀ b ∈ l, a.1 = b.1 → a = b
  | [], _, a, ha, _, _, _ => by cases ha
  | x :: l, h, a, ha, b, hb, e => by
    obtain ⟨h1, h2⟩ := List.pairwise_cons.mp h
    rcases List.mem_cons.mp ha with ea | ha2
    · subst ea
      rcases List.mem_cons.mp hb with eb | hb2
      · exact eb.symm
      · exact absurd e (h1 b hb2)
    · rcases List.mem_cons.mp hb with eb | hb2
      · subst eb
        exact absurd e.symm (h1 a ha2)
      · exact names_one l h2 a ha2 b hb2 e

/-- What New keeps of labels with unique names is what spec.Sorted returns. -/
theorem sorted_same (l l' : List Lab) (hp : l'.Perm l) (hs : l'.Pairwise (fun a b => nlt b.1 a.1 = false)) (hu : l.Pairwise (fun a b => a.1 ≠ b.1)) : l' = sortL l := by
  obtain ⟨h1, h2⟩ := lsort_sorted ltL ltL_trans ltL_irrefl ltL_ntrans l
  refine sorted_one ltL (sortL l) l' (hp.trans h2.symm) h1 hs ?_
  intro a ha b hb h3 h4
  refine names_one l hu a (h2.mem_iff.mp ha) b (h2.mem_iff.mp hb) ?_
  simp only [ltL, nlt, decide_eq_false_iff_not, List.not_lt] at h3 h4
  have h5 : a.1.data.toList = b.1.data.toList := List.le_antisymm h4 h3
  exact ByteArray.ext (Array.toList_inj.1 h5)

end Go.Proofs.YtbkookiigkckdaaGreatDoor
