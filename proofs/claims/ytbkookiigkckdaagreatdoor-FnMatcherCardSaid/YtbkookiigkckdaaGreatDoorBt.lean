/- A text put into quotation marks behind a buffer's bytes: AvailableBuffer, AppendQuote, Write. -/
import Derived.Test.YtbkookiigkckdaaGreatDoorBs
namespace Go.Proofs.YtbkookiigkckdaaGreatDoor
open Go.RowKit
set_option linter.unusedVariables false
set_option linter.unusedSimpArgs false

/-- v is the buffer's room behind its bytes. -/
def Avail (w0 : World) (b : Nat) (xs : List Int) (v : Value) (W : World) : Prop :=
  ∃ (g c : Nat) (t : TypeId) (lr : Int) (cur : Array Value) (off' : Nat), v = .slice (some ⟨g, off', none⟩) 0 (c - xs.length) ∧ (off' = xs.length ∨ c - xs.length = 0) ∧ Fr (fun _ => False) w0 W ∧ w0.heap.size ≤ b ∧ w0.heap.size ≤ g ∧ BufAt W b g c t lr cur xs
/-- How a text stands in quotation marks. -/
def QuoteOf (s : ByteArray) (zs : List Int) : Prop := 2 ≤ zs.length ∧ zs.length ≤ 10 * s.size + 2 ∧ (PlainS s → zs = 34 :: (nums s ++ [34]))
/-- v is the quoted text, outside of the buffer's own bytes. -/
def Quoted (w0 : World) (b : Nat) (xs : List Int) (s : ByteArray) (v : Value) (W : World) : Prop :=
  ∃ (zs : List Int) (a : Addr) (cp : Nat), v = .slice (some a) zs.length cp ∧ QuoteOf s zs ∧ BufIn w0 W b xs ∧ a.block ≠ b ∧ a.block < W.heap.size ∧ ∀ j v, (ic zs)[j]? = some v → W.cell? (a.add j) = some v

section
variable {w0 W W' : World} {b : Nat} {xs : List Int} {s : ByteArray} {v : Value}
theorem BufAt.fr {g c : Nat} {t : TypeId} {lr : Int} {cur : Array Value} (h : BufAt W b g c t lr cur xs) (hf : Fr (fun _ => False) W W') : BufAt W' b g c t lr cur xs :=
  ⟨h.hb.fr hf (fun e => e), h.hg.fr hf (fun e => e), h.cs, h.le, h.cm, h.ne, h.tk⟩
theorem BufIn.still (h : BufIn w0 W b xs) (hf : Fr (fun _ => False) W W') : BufIn w0 W' b xs := by
  obtain ⟨h1, h2, g, c, t, lr, cur, h3, h4⟩ := h
  exact ⟨h1.trans hf (fun _ _ e => e), h2, g, c, t, lr, cur, h3, h4.fr hf⟩
theorem Avail.still (h : Avail w0 b xs v W) (hf : Fr (fun _ => False) W W') : Avail w0 b xs v W' := by
  obtain ⟨g, c, t, lr, cur, off', h1, h2, h3, h4, h5, h6⟩ := h
  exact ⟨g, c, t, lr, cur, off', h1, h2, h3.trans hf (fun _ _ e => e), h4, h5, h6.fr hf⟩
theorem Quoted.still (h : Quoted w0 b xs s v W) (hf : Fr (fun _ => False) W W') : Quoted w0 b xs s v W' := by
  obtain ⟨zs, a, cp, h1, h2, h3, h4, h5, h6⟩ := h
  refine ⟨zs, a, cp, h1, h2, h3.still hf, h4, Nat.lt_of_lt_of_le h5 hf.size, fun j u hj => ?_⟩
  rw [hf.cell (by rw [add_block]; exact h5) (fun e => e)]
  exact h6 j u hj

theorem avail_step (h : BufIn w0 W b xs) : Calls Tryz.prog 144 #[.pointer (some ⟨b, 0, none⟩)] W fun e W1 => ∃ v, e = .returned v ∧ Avail w0 b xs v W1 ∧ Fr (fun _ => False) W W1 := by
  obtain ⟨h1, h2, g, c, t, lr, cur, h3, h4⟩ := h
  refine (availBuf_any h4).mono ?_
  rintro e W1 ⟨⟨off', rfl, ho⟩, hf⟩
  exact ⟨_, rfl, ⟨g, c, t, lr, cur, off', rfl, ho, h1.trans hf (fun _ _ e => e), h2, h3, h4.fr hf⟩, hf⟩

theorem quote_step {T : Lib.PrintTabs} (hT : TabsAt T w0) (h : Avail w0 b xs v W) (hs : s.size ≤ 1073741824) : Calls Tryz.prog 143 #[v, .string s] W fun e W1 => ∃ v', e = .returned v' ∧ Quoted w0 b xs s v' W1 ∧ Fr (fun _ => False) w0 W1 := by
  obtain ⟨g, c, t, lr, cur, off', rfl, ho, hf, hnb, hng, hb, hg, hcs, hle, hcm, hne, htk⟩ := h
  have hbl := hb.lt
  have hD : Dst W g xs.length (c - xs.length) c t (ic xs) W (.slice (some ⟨g, off', none⟩) 0 (c - xs.length)) [] :=
    ⟨Fr.refl _ W, hg.lt, by omega, cur, hg, hcs, htk, .inl ⟨off', rfl, ho, Nat.zero_le _, rfl⟩⟩
  refine (appendQuote_any T W w0 g xs.length (c - xs.length) c t (ic xs) hT hf hng off' s hs (by unfold maxLen at hcm; omega) hD).mono ?_
  rintro e W1 ⟨v', zs, rfl, ⟨hz2, hz3, hz4⟩, hD1⟩
  rw [List.nil_append] at hD1
  obtain ⟨hfr, _, _, cur1, hg1, hcs1, htk1, hat⟩ := hD1
  have hf1 : Fr (fun _ => False) w0 W1 := hf.trans hfr (fun k hk e => by omega)
  have hb1 := hb.fr hfr (fun e => hne e.symm)
  have hB1 : BufIn w0 W1 b xs := ⟨hf1, hnb, g, c, t, lr, cur1, hng, hb1, hg1, hcs1, hle, hcm, hne, htk1⟩
  refine ⟨v', rfl, ?_, hf1⟩
  rcases hat with ⟨off2, rfl, ho2, hzc, hcells⟩ | hown
  · obtain rfl : off2 = xs.length := by rcases ho2 with e | e; exact e; omega
    refine ⟨zs, _, _, rfl, ⟨hz2, hz3, hz4⟩, hB1, hne, hg1.lt, fun j u hj => ?_⟩
    have hj' : j < zs.length := by
      rcases Nat.lt_or_ge j zs.length with h | h
      · exact h
      · rw [List.getElem?_eq_none (by rw [ic_len]; exact h)] at hj; cases hj
    have e1 : (⟨g, xs.length, none⟩ : Addr).add j = ⟨g, xs.length + j, none⟩ := by unfold Addr.add; split <;> simp_all
    rw [e1, hg1.cell, ← Array.getElem?_toList]
    rw [← hcells, List.getElem?_take_of_lt hj', List.getElem?_drop] at hj
    exact hj
  · rcases hown.2 with ⟨_, h0⟩ | ⟨g', cap, cur2, rfl, hBg, hh, _, _, _, htk2⟩
    · omega
    · refine ⟨zs, _, _, rfl, ⟨hz2, hz3, hz4⟩, hB1, by show g' ≠ b; omega, (Array.getElem?_eq_some_iff.1 hh).1, ?_⟩
      rw [Nat.mul_one] at htk2
      rw [← htk2]
      exact Lib.cells_of_row hh zs.length

theorem write_step (h : Quoted w0 b xs s v W) (hx : xs.length ≤ 1099511627776) (hs : s.size ≤ 1073741824) : Calls Tryz.prog 142 #[.pointer (some ⟨b, 0, none⟩), v] W fun e W1 => (∃ r, e = .returned r) ∧ ∃ zs, QuoteOf s zs ∧ BufIn w0 W1 b (xs ++ zs) := by
  obtain ⟨zs, a, cp, rfl, hz, hB, h4, h5, h6⟩ := h
  have h1 := hz.1
  have h2 := hz.2.1
  exact (bufWrite_any w0 b xs zs a cp W hB h4 h5 h6 (by omega) (by omega)).mono fun e W1 ⟨hr, hB1⟩ => ⟨hr, zs, hz, hB1⟩
end
end Go.Proofs.YtbkookiigkckdaaGreatDoor
