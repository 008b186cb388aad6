/- Insertion sort, in plain Lean: what spec.Sorted computes. -/
namespace Go.Proofs.YtbkookiigkckdaaGreatDoor
/-- Where an element is put, from behind. -/
def lpos {α} (lt : α → α → Bool) (x : α) (out : List α) : Nat → Nat
  | 0 => 0
  | k + 1 => match out[k]? with
    | some y => if lt x y = true then lpos lt x out k else k + 1
    | none => k + 1
def lins {α} (lt : α → α → Bool) (out : List α) (x : α) : List α := out.take (lpos lt x out out.length) ++ x :: out.drop (lpos lt x out out.length)
def lsort {α} (lt : α → α → Bool) (l : List α) : List α := l.foldl (lins lt) []

theorem lpos_le {α} (lt : α → α → Bool) (x : α) (out : List α) : ∀ k, lpos lt x out k ≤ k
  | 0 => Nat.le_refl _
  | k + 1 => by
    unfold lpos
    split
    · split
      · exact Nat.le_succ_of_le (lpos_le lt x out k)
      · exact Nat.le_refl _
    · exact Nat.le_refl _
theorem lpos_behind {α} (lt : α → α → Bool) (x : α) (out : List α) : ∀ k j y, lpos lt x out k ≤ j → j < k → out[j]? = some y → lt x y = true
  | 0, j, y, _, h, _ => by omega
  | k + 1, j, y, h1, h2, hy => by
    unfold lpos at h1
    split at h1
    · rename_i z hz
      split at h1
      · rename_i hlt
        by_cases e : j = k
        · subst e; rw [hy] at hz; injection hz with hz; subst hz; exact hlt
        · exact lpos_behind lt x out k j y h1 (by omega) hy
      · omega
    · omega
theorem lpos_before {α} (lt : α → α → Bool) (x : α) (out : List α) : ∀ k p, k ≤ out.length → lpos lt x out k = p + 1 → ∃ y, out[p]? = some y ∧ lt x y = false
  | 0, p, _, h => by simp [lpos] at h
  | k + 1, p, hk, h => by
    unfold lpos at h
    split at h
    · rename_i z hz
      split at h
      · exact lpos_before lt x out k p (by omega) h
      · rename_i hlt
        injection h with h
        subst h
        exact ⟨z, hz, by simpa using hlt⟩
    · rename_i hz
      rw [List.getElem?_eq_none_iff] at hz
      omega

theorem lins_perm {α} (lt : α → α → Bool) (out : List α) (x : α) : (lins lt out x).Perm (x :: out) := by
  unfold lins
  refine List.perm_middle.trans ?_
  rw [List.take_append_drop]
theorem lins_sorted {α} (lt : α → α → Bool) (ht : ∀ a b c, lt a b = true → lt b c = true → lt a c = true) (hi : ∀ a, lt a a = false) (hn : ∀ a b c, lt a b = false → lt b c = false → lt a c = false)
    (out : List α) (x : α) (h : out.Pairwise (fun a b => lt b a = false)) : (lins lt out x).Pairwise (fun a b => lt b a = false) := by
  have hasym : ∀ a b, lt a b = true → lt b a = false := fun a b hab => by
    cases e : lt b a with
    | false => rfl
    | true => have := ht a b a hab e; rw [hi] at this; cases this
  unfold lins
  obtain ⟨p, hp⟩ : ∃ p, lpos lt x out out.length = p := ⟨_, rfl⟩
  rw [hp]
  have hle := lpos_le lt x out out.length
  rw [hp] at hle
  have hbehind : ∀ y ∈ out.drop p, lt x y = true := fun y hy => by
    obtain ⟨j, hj⟩ := List.mem_iff_getElem?.mp hy
    rw [List.getElem?_drop] at hj
    have hlt := (List.getElem?_eq_some_iff.mp hj).1
    exact lpos_behind lt x out out.length (p + j) y (by omega) hlt hj
  have hbefore : ∀ y ∈ out.take p, lt x y = false := fun y hy => by
    obtain ⟨j, hj⟩ := List.mem_iff_getElem?.mp hy
    rw [List.getElem?_take] at hj
    split at hj
    · rename_i hjp
      obtain ⟨q, rfl⟩ : ∃ q, p = q + 1 := ⟨p - 1, by omega⟩
      obtain ⟨z, hz, hxz⟩ := lpos_before lt x out out.length q (Nat.le_refl _) hp
      by_cases e : j = q
      · subst e; rw [hj] at hz; injection hz with hz; subst hz; exact hxz
      · have hq := (List.getElem?_eq_some_iff.mp hz)
        have hjj := (List.getElem?_eq_some_iff.mp hj)
        obtain ⟨hq1, hq2⟩ := hq
        obtain ⟨hj1, hj2⟩ := hjj
        have := List.pairwise_iff_getElem.mp h j q hj1 hq1 (by omega)
        rw [hq2, hj2] at this
        exact hn x z y hxz this
    · cases hj
  have hsplit := h
  rw [← List.take_append_drop p out, List.pairwise_append] at hsplit
  obtain ⟨h1, h2, h3⟩ := hsplit
  rw [List.pairwise_append]
  refine ⟨h1, List.pairwise_cons.mpr ⟨fun y hy => hasym _ _ (hbehind y hy), h2⟩, ?_⟩
  intro a ha b hb
  rcases List.mem_cons.mp hb with rfl | hb
  · exact hbefore a ha
  · exact h3 a ha b hb
theorem fold_sorted {α} (lt : α → α → Bool) (ht : ∀ a b c, lt a b = true → lt b c = true → lt a c = true) (hi : ∀ a, lt a a = false) (hn : ∀ a b c, lt a b = false → lt b c = false → lt a c = false) :
    ∀ (l out : List α), out.Pairwise (fun a b => lt b a = false) → (l.foldl (lins lt) out).Pairwise (fun a b => lt b a = false) ∧ (l.foldl (lins lt) out).Perm (l ++ out)
  | [], out, h => ⟨h, List.Perm.refl _⟩
  | x :: l, out, h => by
    have ⟨h1, h2⟩ := fold_sorted lt ht hi hn l (lins lt out x) (lins_sorted lt ht hi hn out x h)
    refine ⟨h1, h2.trans ?_⟩
    refine (List.Perm.append_left l (lins_perm lt out x)).trans ?_
    exact List.perm_middle
theorem lsort_sorted {α} (lt : α → α → Bool) (ht : ∀ a b c, lt a b = true → lt b c = true → lt a c = true) (hi : ∀ a, lt a a = false) (hn : ∀ a b c, lt a b = false → lt b c = false → lt a c = false) (l : List α) :
    (lsort lt l).Pairwise (fun a b => lt b a = false) ∧ (lsort lt l).Perm l := by
  have h := fold_sorted lt ht hi hn l [] List.Pairwise.nil
  rw [List.append_nil] at h
  exact h
theorem sorted_one {α} (lt : α → α → Bool) : ∀ (l l' : List α), l'.Perm l → l.Pairwise (fun a b => lt b a = false) → l'.Pairwise (fun a b => lt b a = false) →
    (∀ a ∈ l, ∀ b ∈ l, lt a b = false → lt b a = false → a = b) → l' = l
  | [], l', hp, _, _, _ => List.Perm.eq_nil hp
  | x :: l, [], hp, _, _, _ => by have := hp.length_eq; simp at this
  | x :: l, y :: l', hp, h, h', ha => by
    have ey : y = x := by
      have hy : y ∈ x :: l := hp.mem_iff.mp (List.mem_cons_self)
      have hx : x ∈ y :: l' := hp.mem_iff.mpr (List.mem_cons_self)
      rcases List.mem_cons.mp hy with e | hy'
      · exact e
      rcases List.mem_cons.mp hx with e | hx'
      · exact e.symm
      exact ha y hy x List.mem_cons_self ((List.pairwise_cons.mp h).1 y hy') ((List.pairwise_cons.mp h').1 x hx')
    subst ey
    have hp' := (List.perm_cons y).mp hp
    rw [sorted_one lt l l' hp' (List.pairwise_cons.mp h).2 (List.pairwise_cons.mp h').2 (fun a h1 b h2 => ha a (List.mem_cons_of_mem _ h1) b (List.mem_cons_of_mem _ h2))]
theorem lsort_snoc {α} (lt : α → α → Bool) (l : List α) (k : Nat) (x : α) (h : l[k]? = some x) : lsort lt (l.take (k + 1)) = lins lt (lsort lt (l.take k)) x := by
  obtain ⟨hk, rfl⟩ := List.getElem?_eq_some_iff.mp h
  unfold lsort
  rw [List.take_succ_eq_append_getElem hk, List.foldl_append]
  rfl
theorem lins_length {α} (lt : α → α → Bool) (out : List α) (x : α) : (lins lt out x).length = out.length + 1 := by
  rw [(lins_perm lt out x).length_eq]; rfl
theorem lsort_length {α} (lt : α → α → Bool) (l : List α) : (lsort lt l).length = l.length := by
  unfold lsort
  have : ∀ (l out : List α), (l.foldl (lins lt) out).length = l.length + out.length := by
    intro l
    induction l with
    | nil => intro out; simp
    | cons x l ih => intro out; rw [List.foldl_cons, ih, lins_length, List.length_cons]; omega
  rw [this]; simp
end Go.Proofs.YtbkookiigkckdaaGreatDoor
