/- append onto a slice that lies in a block of somebody else's, at whatever offset, and that may have moved to a row of its own: what AppendQuote writes into. Nothing of the program. -/
import Derived.Test.YtbkookiigkckdaaGreatDoorWa
namespace Go.Proofs.YtbkookiigkckdaaGreatDoor
open Go.RowKit
set_option linter.unusedVariables false
set_option linter.unusedSimpArgs false

/-- Numbers as cells of bytes. -/
def ic (l : List Int) : List Value := l.map fun z => .int .u8 z
theorem ic_len (l : List Int) : (ic l).length = l.length := by simp [ic]
theorem ic_append (a b : List Int) : ic (a ++ b) = ic a ++ ic b := by simp [ic]
theorem ic_one (l : List Int) : ∀ u ∈ ic l, u.oneCell' = true := by
  intro u hu
  obtain ⟨z, _, rfl⟩ := List.mem_map.mp hu
  rfl
theorem ic_bytes (l : List UInt8) : ic (l.map fun b => (b.toNat : Int)) = bc l := by
  simp [ic, bc, Lib.byteCells]

/-- The bytes xs are in v: in block g from off on (room for c0 of them), or in a row of the call's own; the block's cells below off stand. -/
structure Dst (w0 : World) (g off c0 N : Nat) (t : TypeId) (low : List Value) (W : World) (v : Value) (xs : List Int) : Prop where
  fr : Fr (fun k => k = g) w0 W
  lt : g < w0.heap.size
  fit : off + c0 = N
  at_ : ∃ cur : Array Value, Blk W g t cur ∧ cur.size = N ∧ cur.toList.take off = low ∧
    ((∃ off', v = .slice (some ⟨g, off', none⟩) xs.length c0 ∧ (off' = off ∨ c0 = 0) ∧ xs.length ≤ c0 ∧ (cur.toList.drop off).take xs.length = ic xs) ∨ W.ownsRow w0.heap.size 5 1 v xs.length (ic xs))

section
variable {w0 W W' : World} {g off c0 N : Nat} {t : TypeId} {low : List Value} {v : Value} {xs : List Int}
theorem Dst.slice (h : Dst w0 g off c0 N t low W v xs) : ∃ a c, v = .slice a xs.length c := by
  obtain ⟨cur, _, _, _, ⟨off', rfl, _⟩ | ho⟩ := h.at_
  · exact ⟨_, _, rfl⟩
  · rcases ho.2 with ⟨rfl, h0⟩ | ⟨g', c, cur', rfl, _⟩
    · exact ⟨none, 0, by rw [h0]⟩
    · exact ⟨_, _, rfl⟩
theorem Dst.still (h : Dst w0 g off c0 N t low W v xs) (hf : Fr (fun _ => False) W W') : Dst w0 g off c0 N t low W' v xs := by
  obtain ⟨cur, hb, hs, hl, ho⟩ := h.at_
  exact ⟨h.fr.trans hf (fun _ _ e => e.elim), h.lt, h.fit, cur, hb.fr hf (fun e => e), hs, hl, ho.imp id (fun ho => own_fr ho hf (fun _ _ e => e))⟩
theorem Dst.size (h : Dst w0 g off c0 N t low W v xs) : w0.heap.size ≤ W.heap.size := h.fr.size

set_option maxHeartbeats 1000000 in
theorem run_append_dst {i0 : TypeInfo} (hi : Tryz.prog.info? 5 = some i0) (hz0 : i0.zero = some (.int .u8 0)) (hz1 : i0.size = 1) (hz2 : i0.bytes = 1) (tx ty : TypeId) (h : Dst w0 g off c0 N t low W v xs) (x : Value) (ys : List Int) (hs : Src Tryz.prog 1 tx x ys.length (ic ys) W)
    (hb : xs.length + ys.length ≤ 1099511627776) :
    ∃ v' W', (Builtin.append_ #[44, tx] ty #[v, x]).run Tryz.prog W = .ok v' W' ∧ Dst w0 g off c0 N t low W' v' (xs ++ ys) := by
  obtain ⟨hfr, hlt, hfit, cur, hblk, hcs, hlow, hat⟩ := h
  have hl1 : (ic ys).length = ys.length := ic_len ys
  have hcl : cur.toList.length = N := by rw [Array.length_toList, hcs]
  have hl2 : (xs ++ ys).length = xs.length + ys.length := List.length_append
  rcases hat with ⟨off', rfl, hoff, hle, hcells⟩ | hown
  · have hsz1 : i0.size = 1 := hz1
    by_cases hroom : xs.length + ys.length ≤ c0
    · have hr := run_append_room_src (P := Tryz.prog) W 44 tx ty 5 i0 Tryz.underlying44 hi g off' xs.length c0 x ys.length (ic ys) (by rw [hz1]; exact hs) hroom
        (fun j hj => by rw [hblk.cell, Array.getElem?_eq_getElem (by rw [hl1] at hj; rw [hz1]; rcases hoff with e | e <;> omega)]; rfl) (fun j _ => hblk.frozen _)
      rw [hz1, Nat.mul_one] at hr
      rcases Nat.eq_zero_or_pos ys.length with h0 | h0
      · have e : ys = [] := List.eq_nil_of_length_eq_zero h0
        subst e
        refine ⟨_, _, hr, hfr, hlt, hfit, cur, hblk, hcs, hlow, .inl ⟨off', ?_, hoff, ?_, ?_⟩⟩
        · simp
        · simpa using hle
        · simpa using hcells
      · obtain rfl : off' = off := by rcases hoff with e | e; exact e; omega
        have hfits : off' + xs.length + (ic ys).length ≤ cur.size := by rw [hl1]; omega
        refine ⟨_, _, hr, hfr.setCells (b := g) (.inl rfl) _ _, hlt, hfit, setAll cur (off' + xs.length) (ic ys), setCells_blk (ic ys) _ W cur hblk, by rw [setAll_size, hcs], ?_, .inl ⟨off', by rw [hl2], .inl rfl, by rw [hl2]; exact hroom, ?_⟩⟩
        · rw [setAll_toList _ _ _ hfits, List.append_assoc, List.take_append_of_le_length (by rw [List.length_take, hcl]; omega), List.take_take, Nat.min_eq_left (Nat.le_add_right _ _)]
          exact hlow
        · have e1 : (cur.toList.take (off' + xs.length)).drop off' = ic xs := by rw [List.drop_take, Nat.add_sub_cancel_left]; exact hcells
          rw [setAll_toList _ _ _ hfits, List.append_assoc, List.drop_append_of_le_length (by rw [List.length_take, hcl]; omega), e1, hl2, ic_append, ← List.append_assoc]
          exact List.take_left' (by rw [List.length_append, ic_len, ic_len])
    · have hold : (Builtin.firstCells i0.size xs.length (.slice (some ⟨g, off', none⟩) xs.length c0)).run Tryz.prog W.drew = .ok (ic xs).toArray W.drew := by
        rw [hz1]
        refine run_firstCells_some W.drew 1 xs.length ⟨g, off', none⟩ xs.length c0 (ic xs) (by rw [ic_len]; omega) (fun j u hj => ?_)
        have hj' : j < xs.length := by
          rcases Nat.lt_or_ge j xs.length with h | h
          · exact h
          · rw [List.getElem?_eq_none (by rw [ic_len]; exact h)] at hj; cases hj
        obtain rfl : off' = off := by rcases hoff with e | e; exact e; omega
        have e1 : (⟨g, off', none⟩ : Addr).add j = ⟨g, off' + j, none⟩ := by unfold Addr.add; split <;> simp_all
        rw [e1]
        show W.cell? _ = _
        rw [hblk.cell, ← Array.getElem?_toList]
        rw [← hcells, List.getElem?_take_of_lt hj', List.getElem?_drop] at hj
        exact hj
      have hr := run_append_grow_src (P := Tryz.prog) W 44 tx ty 5 i0 (.int .u8 0) Tryz.underlying44 hi hz0 (some ⟨g, off', none⟩) xs.length c0 (ic xs) hold x ys.length (ic ys) (by rw [hz1]; exact hs) (by omega) (by omega) (growslice_fits (by omega) (by rw [hz2]; omega))
      have hcm : grownCap W (xs.length + ys.length) c0 5 ≤ maxLen := grownCap_le_maxLen W (xs.length + ys.length) c0 5 (by unfold maxLen; omega)
      have hge := grownCap_ge W (xs.length + ys.length) c0 5
      have hzc : (Builtin.zeroCells (Value.int .u8 0).cells (grownCap W (xs.length + ys.length) c0 5 - (xs.length + ys.length))).size = grownCap W (xs.length + ys.length) c0 5 - (xs.length + ys.length) := by rw [size_zeroCells]; exact Nat.mul_one _
      have hFa : Fr (fun k => k = g) w0 (W.drew.alloc (.cells ((ic xs ++ ic ys).toArray ++ Builtin.zeroCells (Value.int .u8 0).cells (grownCap W (xs.length + ys.length) c0 5 - (xs.length + ys.length))) 5)) := hfr.drew.alloc _
      refine ⟨_, _, hr, hFa, hlt, hfit, cur, hblk.drew.alloc _, hcs, hlow, .inr ⟨by rw [ic_len]; omega, .inr ⟨W.heap.size, _, _, by rw [hl2], hfr.size, heap_alloc_new W.drew _, by rw [hl2]; exact hge, hcm, ?_, ?_⟩⟩⟩
      · rw [Array.size_append, hzc, List.size_toArray, List.length_append, ic_len, ic_len]
        omega
      · rw [Array.toList_append, ic_append, List.take_append_of_le_length (by simp [ic_len])]
        refine List.take_of_length_le ?_
        simp [ic_len]
  · obtain ⟨v', W', hr, ho', hg', _⟩ := run_append_src (P := Tryz.prog) W w0.heap.size 44 tx ty 5 i0 (.int .u8 0) 1 1 Tryz.underlying44 hi hz0 hz1 hz2 rfl (by decide) v xs.length (ic xs) hown x ys.length (ic ys) hs (by unfold maxLen; omega) (by omega) hfr.size
    refine ⟨v', W', hr, hfr.grown hg' (fun k hk => .inr (hown.lt k hk).1), hlt, hfit, cur, hblk.grown hg' (fun e => ?_), hcs, hlow, .inr ?_⟩
    · have := (hown.lt g e.symm).1; omega
    · rw [hl2, ic_append]; exact ho'

theorem wpList_append_dst {i0 : TypeInfo} (hi : Tryz.prog.info? 5 = some i0) (hz0 : i0.zero = some (.int .u8 0)) (hz1 : i0.size = 1) (hz2 : i0.bytes = 1) {ops : Array Oper} {rest : List Oper} {o : Oper} {a : Act} {Q : Exit → Act → World → Prop} (hgd : o.guard = none) (s x : Operand) (tx : TypeId)
    (ho : o.op = .call { callee := .builtin .append, args := #[s, x], argTypes := #[44, tx] }) (hs : a.eval s = v) (h : Dst w0 g off c0 N t low W v xs) (y : Value) (ys : List Int) (hx : a.eval x = y) (hr : Src Tryz.prog 1 tx y ys.length (ic ys) W) (hb : xs.length + ys.length ≤ 1099511627776)
    (hK : ∀ v' W', Dst w0 g off c0 N t low W' v' (xs ++ ys) → wpList Tryz.prog ops Q rest (a.put o.dst v') W') : wpList Tryz.prog ops Q (o :: rest) a W :=
  wpList_plain hgd fun _ hKK => by
    obtain ⟨v', W', hrun, h2⟩ := run_append_dst hi hz0 hz1 hz2 tx o.type h y ys hr hb
    unfold Oper.wp execOp
    simp only [ho, resolve, invoke, builtin, Sem.run_bind, Sem.run_pure, Result.andThen_ok, List.map_toArray, List.map_cons, List.map_nil, hs, hx, hrun]
    exact hKK _ _ (hK v' W' h2)
end
end Go.Proofs.YtbkookiigkckdaaGreatDoor
