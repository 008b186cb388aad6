/- Texts of this seat, merged: Qa, Bw, Qb. -/
import Derived.Test.YtbkookiigkckdaaGreatDoorK03
import Derived.Test.YtbkookiigkckdaaGreatDoorK16
/- append onto a slice that lies in a block of somebody else's, at whatever offset, and that may have moved to a row of its own: what AppendQuote writes into. Nothing of the program. -/
namespace Go.Proofs.YtbkookiigkckdaaGreatDoor
open Go.RowKit
set_option linter.unusedVariables false
set_option linter.unusedSimpArgs false

/-- Numbers as cells of bytes. -/
def ic (l : List Int) : List Value := l.map fun z => .int .u8 z
theorem ic_len (l : List Int) : (ic l).length = l.length := by simp [ic]
theorem ic_append (a b : List Int) : ic (a ++ b) = ic a ++ ic b := by simp [ic]
theorem ic_one (l : List Int) : ∀ u ∈ ic l, u.oneCell' = true := by
  intro u hu
  obtain ⟨z, _, rfl⟩ := List.mem_map.mp hu
  rfl
theorem ic_bytes (l : List UInt8) : ic (l.map fun b => (b.toNat : Int)) = bc l := by
  simp [ic, bc, Lib.byteCells]

/-- The bytes xs are in v: in block g from off on (room for c0 of them), or in a row of the call's own; the block's cells below off stand. -/
structure Dst (w0 : World) (g off c0 N : Nat) (t : TypeId) (low : List Value) (W : World) (v : Value) (xs : List Int) : Prop where
  fr : Fr (fun k => k = g) w0 W
  lt : g < w0.heap.size
  fit : off + c0 = N
  at_ : ∃ cur : Array Value, Blk W g t cur ∧ cur.size = N ∧ cur.toList.take off = low ∧
    ((∃ off', v = .slice (some ⟨g, off', none⟩) xs.length c0 ∧ (off' = off ∨ c0 = 0) ∧ xs.length ≤ c0 ∧ (cur.toList.drop off).take xs.length = ic xs) ∨ W.ownsRow w0.heap.size 5 1 v xs.length (ic xs))

section
variable {w0 W W' : World} {g off c0 N : Nat} {t : TypeId} {low : List Value} {v : Value} {xs : List Int}
theorem Dst.slice (h : Dst w0 g off c0 N t low W v xs) : ∃ a c, v = .slice a xs.length c := by
  obtain ⟨cur, _, _, _, ⟨off', rfl, _⟩ | ho⟩ := h.at_
  · exact ⟨_, _, rfl⟩
  · rcases ho.2 with ⟨rfl, h0⟩ | ⟨g', c, cur', rfl, _⟩
    · exact ⟨none, 0, by rw [h0]⟩
    · exact ⟨_, _, rfl⟩
theorem Dst.still (h : Dst w0 g off c0 N t low W v xs) (hf : Fr (fun _ => False) W W') : Dst w0 g off c0 N t low W' v xs := by
  obtain ⟨cur, hb, hs, hl, ho⟩ := h.at_
  exact ⟨h.fr.trans hf (fun _ _ e => e.elim), h.lt, h.fit, cur, hb.fr hf (fun e => e), hs, hl, ho.imp id (fun ho => own_fr ho hf (fun _ _ e => e))⟩
theorem Dst.size (h : Dst w0 g off c0 N t low W v xs) : w0.heap.size ≤ W.heap.size := h.fr.size

set_option maxHeartbeats 1000000 in
theorem run_append_dst {i0 : TypeInfo} (hi : Tryz.prog.info? 5 = some i0) (hz0 : i0.zero = some (.int .u8 0)) (hz1 : i0.size = 1) (hz2 : i0.bytes = 1) (tx ty : TypeId) (h : Dst w0 g off c0 N t low W v xs) (x : Value) (ys : List Int) (hs : Src Tryz.prog 1 tx x ys.length (ic ys) W)
    (hb : xs.length + ys.length ≤ 1099511627776) :
    ∃ v' W', (Builtin.append_ #[44, tx] ty #[v, x]).run Tryz.prog W = .ok v' W' ∧ Dst w0 g off c0 N t low W' v' (xs ++ ys) := by
  obtain ⟨hfr, hlt, hfit, cur, hblk, hcs, hlow, hat⟩ := h
  have hl1 : (ic ys).length = ys.length := ic_len ys
  have hcl : cur.toList.length = N := by rw [Array.length_toList, hcs]
  have hl2 : (xs ++ ys).length = xs.length + ys.length := List.length_append
  rcases hat with ⟨off', rfl, hoff, hle, hcells⟩ | hown
  · have hsz1 : i0.size = 1 := hz1
    by_cases hroom : xs.length + ys.length ≤ c0
    · have hr := run_append_room_src (P := Tryz.prog) W 44 tx ty 5 i0 Tryz.underlying44 hi g off' xs.length c0 x ys.length (ic ys) (by rw [hz1]; exact hs) hroom
        (fun j hj => by rw [hblk.cell, Array.getElem?_eq_getElem (by rw [hl1] at hj; rw [hz1]; rcases hoff with e | e <;> omega)]; rfl) (fun j _ => hblk.frozen _)
      rw [hz1, Nat.mul_one] at hr
      rcases Nat.eq_zero_or_pos ys.length with h0 | h0
      · have e : ys = [] := List.eq_nil_of_length_eq_zero h0
        subst e
        refine ⟨_, _, hr, hfr, hlt, hfit, cur, hblk, hcs, hlow, .inl ⟨off', ?_, hoff, ?_, ?_⟩⟩
        · simp
        · simpa using hle
        · simpa using hcells
      · obtain rfl : off' = off := by rcases hoff with e | e; exact e; omega
        have hfits : off' + xs.length + (ic ys).length ≤ cur.size := by rw [hl1]; omega
        refine ⟨_, _, hr, hfr.setCells (b := g) (.inl rfl) _ _, hlt, hfit, setAll cur (off' + xs.length) (ic ys), setCells_blk (ic ys) _ W cur hblk, by rw [setAll_size, hcs], ?_, .inl ⟨off', by rw [hl2], .inl rfl, by rw [hl2]; exact hroom, ?_⟩⟩
        · rw [setAll_toList _ _ _ hfits, List.append_assoc, List.take_append_of_le_length (by rw [List.length_take, hcl]; omega), List.take_take, Nat.min_eq_left (Nat.le_add_right _ _)]
          exact hlow
        · have e1 : (cur.toList.take (off' + xs.length)).drop off' = ic xs := by rw [List.drop_take, Nat.add_sub_cancel_left]; exact hcells
          rw [setAll_toList _ _ _ hfits, List.append_assoc, List.drop_append_of_le_length (by rw [List.length_take, hcl]; omega), e1, hl2, ic_append, ← List.append_assoc]
          exact List.take_left' (by rw [List.length_append, ic_len, ic_len])
    · have hold : (Builtin.firstCells i0.size xs.length (.slice (some ⟨g, off', none⟩) xs.length c0)).run Tryz.prog W.drew = .ok (ic xs).toArray W.drew := by
        rw [hz1]
        refine run_firstCells_some W.drew 1 xs.length ⟨g, off', none⟩ xs.length c0 (ic xs) (by rw [ic_len]; omega) (fun j u hj => ?_)
        have hj' : j < xs.length := by
          rcases Nat.lt_or_ge j xs.length with h | h
          · exact h
          · rw [List.getElem?_eq_none (by rw [ic_len]; exact h)] at hj; cases hj
        obtain rfl : off' = off := by rcases hoff with e | e; exact e; omega
        have e1 : (⟨g, off', none⟩ : Addr).add j = ⟨g, off' + j, none⟩ := by unfold Addr.add; split <;> simp_all
        rw [e1]
        show W.cell? _ = _
        rw [hblk.cell, ← Array.getElem?_toList]
        rw [← hcells, List.getElem?_take_of_lt hj', List.getElem?_drop] at hj
        exact hj
      have hr := run_append_grow_src (P := Tryz.prog) W 44 tx ty 5 i0 (.int .u8 0) Tryz.underlying44 hi hz0 (some ⟨g, off', none⟩) xs.length c0 (ic xs) hold x ys.length (ic ys) (by rw [hz1]; exact hs) (by omega) (by omega) (growslice_fits (by omega) (by rw [hz2]; omega))
      have hcm : grownCap W (xs.length + ys.length) c0 5 ≤ maxLen := grownCap_le_maxLen W (xs.length + ys.length) c0 5 (by unfold maxLen; omega)
      have hge := grownCap_ge W (xs.length + ys.length) c0 5
      have hzc : (Builtin.zeroCells (Value.int .u8 0).cells (grownCap W (xs.length + ys.length) c0 5 - (xs.length + ys.length))).size = grownCap W (xs.length + ys.length) c0 5 - (xs.length + ys.length) := by rw [size_zeroCells]; exact Nat.mul_one _
      have hFa : Fr (fun k => k = g) w0 (W.drew.alloc (.cells ((ic xs ++ ic ys).toArray ++ Builtin.zeroCells (Value.int .u8 0).cells (grownCap W (xs.length + ys.length) c0 5 - (xs.length + ys.length))) 5)) := hfr.drew.alloc _
      refine ⟨_, _, hr, hFa, hlt, hfit, cur, hblk.drew.alloc _, hcs, hlow, .inr ⟨by rw [ic_len]; omega, .inr ⟨W.heap.size, _, _, by rw [hl2], hfr.size, heap_alloc_new W.drew _, by rw [hl2]; exact hge, hcm, ?_, ?_⟩⟩⟩
      · rw [Array.size_append, hzc, List.size_toArray, List.length_append, ic_len, ic_len]
        omega
      · rw [Array.toList_append, ic_append, List.take_append_of_le_length (by simp [ic_len])]
        refine List.take_of_length_le ?_
        simp [ic_len]
  · obtain ⟨v', W', hr, ho', hg', _⟩ := run_append_src (P := Tryz.prog) W w0.heap.size 44 tx ty 5 i0 (.int .u8 0) 1 1 Tryz.underlying44 hi hz0 hz1 hz2 rfl (by decide) v xs.length (ic xs) hown x ys.length (ic ys) hs (by unfold maxLen; omega) (by omega) hfr.size
    refine ⟨v', W', hr, hfr.grown hg' (fun k hk => .inr (hown.lt k hk).1), hlt, hfit, cur, hblk.grown hg' (fun e => ?_), hcs, hlow, .inr ?_⟩
    · have := (hown.lt g e.symm).1; omega
    · rw [hl2, ic_append]; exact ho'

theorem wpList_append_dst {i0 : TypeInfo} (hi : Tryz.prog.info? 5 = some i0) (hz0 : i0.zero = some (.int .u8 0)) (hz1 : i0.size = 1) (hz2 : i0.bytes = 1) {ops : Array Oper} {rest : List Oper} {o : Oper} {a : Act} {Q : Exit → Act → World → Prop} (hgd : o.guard = none) (s x : Operand) (tx : TypeId)
    (ho : o.op = .call { callee := .builtin .append, args := #[s, x], argTypes := #[44, tx] }) (hs : a.eval s = v) (h : Dst w0 g off c0 N t low W v xs) (y : Value) (ys : List Int) (hx : a.eval x = y) (hr : Src Tryz.prog 1 tx y ys.length (ic ys) W) (hb : xs.length + ys.length ≤ 1099511627776)
    (hK : ∀ v' W', Dst w0 g off c0 N t low W' v' (xs ++ ys) → wpList Tryz.prog ops Q rest (a.put o.dst v') W') : wpList Tryz.prog ops Q (o :: rest) a W :=
  wpList_plain hgd fun _ hKK => by
    obtain ⟨v', W', hrun, h2⟩ := run_append_dst hi hz0 hz1 hz2 tx o.type h y ys hr hb
    unfold Oper.wp execOp
    simp only [ho, resolve, invoke, builtin, Sem.run_bind, Sem.run_pure, Result.andThen_ok, List.map_toArray, List.map_cons, List.map_nil, hs, hx, hrun]
    exact hKK _ _ (hK v' W' h2)
end
end Go.Proofs.YtbkookiigkckdaaGreatDoor

/- bytes.Buffer over a block of whatever type: Write, WriteString. -/
namespace Go.Proofs.YtbkookiigkckdaaGreatDoor
open Go.RowKit
set_option linter.unusedVariables false
set_option linter.unusedSimpArgs false

theorem add_block (a : Addr) (j : Nat) : (a.add j).block = a.block := by unfold Addr.add; split <;> rfl

/-- The buffer at block b holds the bytes xs: in the head of block g. -/
structure BufAt (W : World) (b g c : Nat) (t : TypeId) (lr : Int) (cur : Array Value) (xs : List Int) : Prop where
  hb : Blk W b 340 #[.slice (some ⟨g, 0, none⟩) xs.length c, .int .i64 0, .int .i8 lr]
  hg : Blk W g t cur
  cs : cur.size = c
  le : xs.length ≤ c
  cm : c ≤ maxLen
  ne : g ≠ b
  tk : cur.toList.take xs.length = ic xs

/-- .. in blocks that were made since w0, of whose blocks none has turned. -/
structure BufIn (w0 W : World) (b : Nat) (xs : List Int) : Prop where
  fr : Fr (fun _ => False) w0 W
  nb : w0.heap.size ≤ b
  at_ : ∃ g c t lr cur, w0.heap.size ≤ g ∧ BufAt W b g c t lr cur xs

/-- What a copy into the row behind the buffer's bytes comes to. -/
theorem buf_written {w0 W : World} {b g c m : Nat} {t : TypeId} {lr : Int} {cur : Array Value} {xs ys : List Int} (hf : Fr (fun _ => False) w0 W) (hnb : w0.heap.size ≤ b) (hng : w0.heap.size ≤ g) (hb : Blk W b 340 #[.slice (some ⟨g, 0, none⟩) m c, .int .i64 0, .int .i8 lr])
    (hm : m = xs.length + ys.length) (hg : Blk W g t cur) (hcs : cur.size = c) (hle : xs.length + ys.length ≤ c) (hcm : c ≤ maxLen) (hne : g ≠ b) (htk : cur.toList.take xs.length = ic xs) :
    BufIn w0 (W.setRow g (cur.toList.take xs.length ++ ic ys ++ cur.toList.drop (xs.length + ys.length)).toArray) b (xs ++ ys) := by
  subst hm
  have hl : (xs ++ ys).length = xs.length + ys.length := List.length_append
  have hcl : cur.toList.length = c := by rw [Array.length_toList, hcs]
  refine ⟨⟨hf.os, hf.tape, hf.output, by simpa using hf.size, fun k hk _ => ?_⟩, hnb, g, c, t, lr, _, hng, ⟨?_, setRow_heap _ _ cur _ t (0, 0) hg, ?_, by rw [hl]; exact hle, hcm, hne, ?_⟩⟩
  · rw [setRow_other _ _ _ _ (by omega)]
    exact hf.block k hk (fun e => e)
  · show _ = _
    rw [setRow_other _ _ _ _ hne.symm, hl]
    exact hb
  · rw [List.size_toArray, List.length_append, List.length_append, List.length_take, List.length_drop, hcl, ic_len]
    omega
  · rw [htk, ← ic_append, hl]
    exact List.take_left' (by rw [ic_len, hl])

set_option maxHeartbeats 4000000 in
set_option maxRecDepth 100000 in
theorem bufWrite_any (w0 : World) (b : Nat) (xs ys : List Int) (a : Addr) (cp : Nat) (w : World) (hB : BufIn w0 w b xs) (hab : a.block ≠ b) (hal : a.block < w.heap.size) (hsrc : ∀ j v, (ic ys)[j]? = some v → w.cell? (a.add j) = some v) (hy : 1 ≤ ys.length)
    (hlim : xs.length + ys.length ≤ 140737488355328) :
    Calls Tryz.prog 142 #[.pointer (some ⟨b, 0, none⟩), .slice (some a) ys.length cp] w fun e w' => (∃ r, e = .returned r) ∧ BufIn w0 w' b (xs ++ ys) := by
  obtain ⟨i5, hi, hz0, hz1, hz2⟩ := info_parts Tryz.info5
  have hinfo : (Tryz.prog.info? 5).map (·.size) = some 1 := by rw [hi]; exact congrArg some hz1
  obtain ⟨hf, hnb, g, c, t, lr, cur, hng, hb, hg, hcs, hle, hcm, hne, htk⟩ := hB
  have c2 : w.cell? ⟨b, 2, none⟩ = some (.int .i8 lr) := hb.cell 2
  have f2 := hb.frozen 2
  have hb' : Blk (w.setCell ⟨b, 2, none⟩ (.int .i8 0)) b 340 #[.slice (some ⟨g, 0, none⟩) xs.length c, .int .i64 0, .int .i8 0] := hb.set_ 2 _
  have hg' : Blk (w.setCell ⟨b, 2, none⟩ (.int .i8 0)) g t cur := hg.far (p := ⟨b, 2, none⟩) hne _
  have hf' : Fr (fun _ => False) w0 (w.setCell ⟨b, 2, none⟩ (.int .i8 0)) := hf.setCell (p := ⟨b, 2, none⟩) (.inr hnb) _
  have hsrc' : ∀ j v, (ic ys)[j]? = some v → (w.setCell ⟨b, 2, none⟩ (.int .i8 0)).cell? (a.add j) = some v := fun j v hj => by
    rw [World.cell?_of_block (w := w) (Below.heap_setCell _ _ _ _ (by rw [add_block]; exact hab))]
    exact hsrc j v hj
  have hal' : a.block < (w.setCell ⟨b, 2, none⟩ (.int .i8 0)).heap.size := by simpa [World.setCell] using hal
  have h1 : ∀ v ∈ cur.toList.take xs.length, v.oneCell' = true := by rw [htk]; exact ic_one xs
  obtain ⟨W1, hW1⟩ : ∃ W1, w.setCell ⟨b, 2, none⟩ (.int .i8 0) = W1 := ⟨_, rfl⟩
  rw [hW1] at hb' hg' hf' hsrc' hal'
  have HW1 := Lib.hid hW1
  have HB := Lib.hid hb'
  have HG := Lib.hid hg'
  have HF := Lib.hid hf'
  have HS := Lib.hid hsrc'
  have hyl : (ic ys).length = ys.length := ic_len ys
  clear hb hg hf hb' hg' hf' hW1 hsrc hsrc'
  by_cases hroom : ys.length ≤ c - xs.length
  · have hne0 : ¬ c = xs.length := by omega
    have hcall := tryGrow_room b (some ⟨g, 0, none⟩) xs.length c 0 W1 HB.out hle hcm ys.length hroom
    obtain ⟨W2, hW2⟩ : ∃ W2, W1.setCell ⟨b, 0, none⟩ (.slice (some ⟨g, 0, none⟩) (xs.length + ys.length) c) = W2 := ⟨_, rfl⟩
    rw [hW2] at hcall
    have hb2 : Blk W2 b 340 #[.slice (some ⟨g, 0, none⟩) (xs.length + ys.length) c, .int .i64 0, .int .i8 0] := by rw [← hW2]; exact HB.out.set_ 0 _
    have hg2 : Blk W2 g t cur := by rw [← hW2]; exact HG.out.far (p := ⟨b, 0, none⟩) hne _
    have hf2 : Fr (fun _ => False) w0 W2 := by rw [← hW2]; exact HF.out.setCell (p := ⟨b, 0, none⟩) (.inr hnb) _
    have hs2 : ∀ j v, (ic ys)[j]? = some v → W2.cell? (a.add j) = some v := fun j v hj => by
      rw [← hW2, World.cell?_of_block (w := W1) (Below.heap_setCell _ _ _ _ (by rw [add_block]; exact hab))]
      exact HS.out j v hj
    have d0 : W2.cell? ⟨b, 0, none⟩ = some (.slice (some ⟨g, 0, none⟩) (xs.length + ys.length) c) := hb2.cell 0
    have hcp := run_copy_row (P := Tryz.prog) W2 44 44 3 5 g xs.length ys.length (c - xs.length) a ys.length cp cur t (ic ys) Tryz.underlying44 hinfo hg2 (by rw [hyl]; exact (Nat.min_self _).symm) hs2 (by rw [hyl]; omega) (ic_one ys)
    rw [hyl] at hcp
    have HE := Lib.hid (buf_written hf2 hnb hng hb2 rfl hg2 hcs (by omega) hcm hne htk)
    have hcm' := hcm
    unfold maxLen at hcm'
    generalize W2.setRow g (cur.toList.take xs.length ++ ic ys ++ cur.toList.drop (xs.length + ys.length)).toArray = W3 at hcp HE
    clear hb2 hg2 hf2 hW2 htk h1 HB HG HF HS hs2
    generalize xs.length = L at *
    generalize ys.length = M at *
    go_enter Tryz.func142, Tryz.ntmps142
    go_wp2_with (go_at_call 216; rw [HW1.out]; refine hcall.mono ?_; rintro e w' ⟨rfl, rfl⟩)
    go_ret2
    exact ⟨⟨_, rfl⟩, HE.out⟩
  · have hcall := tryGrow_none b (some ⟨g, 0, none⟩) xs.length c 0 W1 HB.out hle hcm ys.length (by omega)
    have hgrow := grow_any b g xs.length c ys.length t 0 cur W1 HB.out HG.out hcs hle hne h1 (by omega) hlim
    have HBl := Lib.hid HB.out.lt
    have HTK := Lib.hid htk
    have HX : Hid (∀ W2 cells cap2 g', w0.heap.size ≤ W1.heap.size → W1.heap.size ≤ g' → Blk W2 b 340 #[.slice (some ⟨g', 0, none⟩) (xs.length + ys.length) cap2, .int .i64 0, .int .i8 0] → Blk W2 g' 5 cells → cells.size = cap2 → cells.toList.take xs.length = cur.toList.take xs.length →
        xs.length + ys.length ≤ cap2 → cap2 ≤ maxLen → Fr (fun k => k = b) W1 W2 → ∃ W3, (Builtin.copy_ #[44, 44] 3 #[.slice (some ⟨g', xs.length, none⟩) ys.length (cap2 - xs.length), .slice (some a) ys.length cp]).run Tryz.prog W2 = .ok (goInt ys.length) W3 ∧ BufIn w0 W3 b (xs ++ ys)) := Lib.hid (fun W2 cells cap2 g' hsz hg'n hb2 hg2 hcs2 htk2 hle2 hcm2 hfr2 => by
      have hf2 : Fr (fun _ => False) w0 W2 := HF.out.trans hfr2 (fun k hk e => by omega)
      have hs2 : ∀ j v, (ic ys)[j]? = some v → W2.cell? (a.add j) = some v := fun j v hj => by
        rw [hfr2.cell (by rw [add_block]; exact hal') (by rw [add_block]; exact hab)]
        exact HS.out j v hj
      have hcp := run_copy_row (P := Tryz.prog) W2 44 44 3 5 g' xs.length ys.length (cap2 - xs.length) a ys.length cp cells 5 (ic ys) Tryz.underlying44 hinfo hg2 (by rw [hyl]; exact (Nat.min_self _).symm) hs2 (by rw [hyl]; omega) (ic_one ys)
      rw [hyl] at hcp
      exact ⟨_, hcp, buf_written hf2 hnb (by omega) hb2 rfl hg2 hcs2 hle2 hcm2 (by have := HBl.out; omega) (htk2.trans HTK.out)⟩)
    have hsz : Hid (w0.heap.size ≤ W1.heap.size) := Lib.hid HF.out.size
    have hcm' := hcm
    unfold maxLen at hcm'
    clear htk h1 HB HG HF HS
    generalize xs.length = L at *
    generalize ys.length = M at *
    go_enter Tryz.func142, Tryz.ntmps142
    go_wp2_with (first
      | (go_at_call 216; rw [HW1.out]; refine hcall.mono ?_; rintro e w' ⟨rfl, rfl⟩)
      | (go_at_call 217; refine hgrow.mono ?_; rintro e W2 ⟨rfl, g', cap2, cells, hg'n, hb2, hg2, hcs2, htk2, hle2, hcm2, hfr2⟩
         obtain ⟨W3, hcp, hE⟩ := HX.out W2 cells cap2 g' hsz.out hg'n hb2 hg2 hcs2 htk2 hle2 hcm2 hfr2
         have HE := Lib.hid hE
         have d0 : W2.cell? ⟨b, 0, none⟩ = some (.slice (some ⟨g', 0, none⟩) (L + M) cap2) := hb2.cell 0
         have hne0 : ¬ cap2 = L := by omega
         unfold maxLen at hcm2
         clear hE hb2 hg2 hcs2 htk2 hfr2 hg'n))
    go_ret2
    exact ⟨⟨_, rfl⟩, HE.out⟩

set_option maxHeartbeats 4000000 in
set_option maxRecDepth 100000 in
theorem bufWriteString_any (w0 : World) (b : Nat) (xs : List Int) (s : ByteArray) (w : World) (hB : BufIn w0 w b xs) (hy : 1 ≤ s.size) (hlim : xs.length + s.size ≤ 140737488355328) :
    Calls Tryz.prog 145 #[.pointer (some ⟨b, 0, none⟩), .string s] w fun e w' => (∃ r, e = .returned r) ∧ BufIn w0 w' b (xs ++ s.data.toList.map fun b => (b.toNat : Int)) := by
  obtain ⟨ys, hys⟩ : ∃ ys : List Int, (s.data.toList.map fun b => (b.toNat : Int)) = ys := ⟨_, rfl⟩
  have hbc : ic ys = Lib.byteCells s.data.toList := by rw [← hys]; exact ic_bytes _
  have hyn : ys.length = s.size := by rw [← hys, List.length_map, ← Lib.size_eq]
  rw [hys]
  rw [← hyn] at hy hlim
  obtain ⟨i5, hi, hz0, hz1, hz2⟩ := info_parts Tryz.info5
  have hinfo : (Tryz.prog.info? 5).map (·.size) = some 1 := by rw [hi]; exact congrArg some hz1
  obtain ⟨hf, hnb, g, c, t, lr, cur, hng, hb, hg, hcs, hle, hcm, hne, htk⟩ := hB
  have c2 : w.cell? ⟨b, 2, none⟩ = some (.int .i8 lr) := hb.cell 2
  have f2 := hb.frozen 2
  have hb' : Blk (w.setCell ⟨b, 2, none⟩ (.int .i8 0)) b 340 #[.slice (some ⟨g, 0, none⟩) xs.length c, .int .i64 0, .int .i8 0] := hb.set_ 2 _
  have hg' : Blk (w.setCell ⟨b, 2, none⟩ (.int .i8 0)) g t cur := hg.far (p := ⟨b, 2, none⟩) hne _
  have hf' : Fr (fun _ => False) w0 (w.setCell ⟨b, 2, none⟩ (.int .i8 0)) := hf.setCell (p := ⟨b, 2, none⟩) (.inr hnb) _
  have h1 : ∀ v ∈ cur.toList.take xs.length, v.oneCell' = true := by rw [htk]; exact ic_one xs
  obtain ⟨W1, hW1⟩ : ∃ W1, w.setCell ⟨b, 2, none⟩ (.int .i8 0) = W1 := ⟨_, rfl⟩
  rw [hW1] at hb' hg' hf'
  have HW1 := Lib.hid hW1
  have HB := Lib.hid hb'
  have HG := Lib.hid hg'
  have HF := Lib.hid hf'
  have hyl : (ic ys).length = ys.length := ic_len ys
  clear hb hg hf hb' hg' hf' hW1
  by_cases hroom : ys.length ≤ c - xs.length
  · have hne0 : ¬ c = xs.length := by omega
    have hcall := tryGrow_room b (some ⟨g, 0, none⟩) xs.length c 0 W1 HB.out hle hcm ys.length hroom
    obtain ⟨W2, hW2⟩ : ∃ W2, W1.setCell ⟨b, 0, none⟩ (.slice (some ⟨g, 0, none⟩) (xs.length + ys.length) c) = W2 := ⟨_, rfl⟩
    rw [hW2] at hcall
    have hb2 : Blk W2 b 340 #[.slice (some ⟨g, 0, none⟩) (xs.length + ys.length) c, .int .i64 0, .int .i8 0] := by rw [← hW2]; exact HB.out.set_ 0 _
    have hg2 : Blk W2 g t cur := by rw [← hW2]; exact HG.out.far (p := ⟨b, 0, none⟩) hne _
    have hf2 : Fr (fun _ => False) w0 W2 := by rw [← hW2]; exact HF.out.setCell (p := ⟨b, 0, none⟩) (.inr hnb) _
    have d0 : W2.cell? ⟨b, 0, none⟩ = some (.slice (some ⟨g, 0, none⟩) (xs.length + ys.length) c) := hb2.cell 0
    have hcp := Lib.run_copy_row_string (P := Tryz.prog) W2 44 9 3 5 g xs.length ys.length (c - xs.length) s cur t Tryz.underlying44 hinfo hg2 (by omega) (by omega)
    rw [← hbc, ← hyn] at hcp
    have HE := Lib.hid (buf_written hf2 hnb hng hb2 rfl hg2 hcs (by omega) hcm hne htk)
    have hcm' := hcm
    unfold maxLen at hcm'
    generalize W2.setRow g (cur.toList.take xs.length ++ ic ys ++ cur.toList.drop (xs.length + ys.length)).toArray = W3 at hcp HE
    clear hb2 hg2 hf2 hW2 htk h1 HB HG HF
    have HBC := Lib.hid hbc
    have HYS := Lib.hid hys
    clear hbc hys
    generalize xs.length = L at *
    generalize ys.length = M at *
    subst hyn
    go_enter Tryz.func145, Tryz.ntmps145
    go_wp2_with (go_at_call 216; rw [HW1.out]; refine hcall.mono ?_; rintro e w' ⟨rfl, rfl⟩)
    go_ret2
    exact ⟨⟨_, rfl⟩, HE.out⟩
  · have hcall := tryGrow_none b (some ⟨g, 0, none⟩) xs.length c 0 W1 HB.out hle hcm ys.length (by omega)
    have hgrow := grow_any b g xs.length c ys.length t 0 cur W1 HB.out HG.out hcs hle hne h1 (by omega) hlim
    have HBl := Lib.hid HB.out.lt
    have HTK := Lib.hid htk
    have HX : Hid (∀ W2 cells cap2 g', w0.heap.size ≤ W1.heap.size → W1.heap.size ≤ g' → Blk W2 b 340 #[.slice (some ⟨g', 0, none⟩) (xs.length + ys.length) cap2, .int .i64 0, .int .i8 0] → Blk W2 g' 5 cells → cells.size = cap2 → cells.toList.take xs.length = cur.toList.take xs.length →
        xs.length + ys.length ≤ cap2 → cap2 ≤ maxLen → Fr (fun k => k = b) W1 W2 → ∃ W3, (Builtin.copy_ #[44, 9] 3 #[.slice (some ⟨g', xs.length, none⟩) ys.length (cap2 - xs.length), .string s]).run Tryz.prog W2 = .ok (goInt ys.length) W3 ∧ BufIn w0 W3 b (xs ++ ys)) := Lib.hid (fun W2 cells cap2 g' hsz hg'n hb2 hg2 hcs2 htk2 hle2 hcm2 hfr2 => by
      have hf2 : Fr (fun _ => False) w0 W2 := HF.out.trans hfr2 (fun k hk e => by omega)
      have hcp := Lib.run_copy_row_string (P := Tryz.prog) W2 44 9 3 5 g' xs.length ys.length (cap2 - xs.length) s cells 5 Tryz.underlying44 hinfo hg2 (by omega) (by omega)
      rw [← hbc, ← hyn] at hcp
      exact ⟨_, hcp, buf_written hf2 hnb (by omega) hb2 rfl hg2 hcs2 hle2 hcm2 (by have := HBl.out; omega) (htk2.trans HTK.out)⟩)
    have hsz : Hid (w0.heap.size ≤ W1.heap.size) := Lib.hid HF.out.size
    have hcm' := hcm
    unfold maxLen at hcm'
    clear htk h1 HB HG HF
    have HBC := Lib.hid hbc
    have HYS := Lib.hid hys
    clear hbc hys
    generalize xs.length = L at *
    generalize ys.length = M at *
    subst hyn
    go_enter Tryz.func145, Tryz.ntmps145
    go_wp2_with (first
      | (go_at_call 216; rw [HW1.out]; refine hcall.mono ?_; rintro e w' ⟨rfl, rfl⟩)
      | (go_at_call 217; refine hgrow.mono ?_; rintro e W2 ⟨rfl, g', cap2, cells, hg'n, hb2, hg2, hcs2, htk2, hle2, hcm2, hfr2⟩
         obtain ⟨W3, hcp, hE⟩ := HX.out W2 cells cap2 g' hsz.out hg'n hb2 hg2 hcs2 htk2 hle2 hcm2 hfr2
         have HE := Lib.hid hE
         have d0 : W2.cell? ⟨b, 0, none⟩ = some (.slice (some ⟨g', 0, none⟩) (L + s.size) cap2) := hb2.cell 0
         have hne0 : ¬ cap2 = L := by omega
         unfold maxLen at hcm2
         clear hE hb2 hg2 hcs2 htk2 hfr2 hg'n))
    go_ret2
    exact ⟨⟨_, rfl⟩, HE.out⟩

end Go.Proofs.YtbkookiigkckdaaGreatDoor

/- utf8.AppendRune into another's block. -/
namespace Go.Proofs.YtbkookiigkckdaaGreatDoor
open Go.RowKit
set_option linter.unusedVariables false
set_option linter.unusedSimpArgs false

theorem src_ic (W : World) (g : Nat) (ys : List Int) (c : Nat) (hb : Blk W g 5 (ic ys).toArray) : Src Tryz.prog 1 44 (.slice (some ⟨g, 0, none⟩) ys.length c) ys.length (ic ys) W :=
  Src.ofSlice (e' := 5) _ Tryz.underlying44 _ _ c _ (by rw [ic_len]; omega) (fun j u hj => by
    have e1 : (⟨g, 0, none⟩ : Addr).add j = ⟨g, 0 + j, none⟩ := by unfold Addr.add; split <;> simp_all
    rw [e1, Nat.zero_add, hb.cell]
    simpa using hj) (ic_one ys)

theorem src_new (W : World) (cs : Array Value) (ys : List Int) (n c : Nat) (hn : ys.length = n) (h : cs.toList = ic ys) : Src Tryz.prog 1 44 (.slice (some ⟨W.heap.size, 0, none⟩) n c) ys.length (ic ys) (W.alloc (.cells cs 5)) := by
  subst hn
  have e : cs = (ic ys).toArray := by rw [← h]
  subst e
  exact src_ic _ _ ys c (Blk.new W 5 _)

/-- What an appending function hands back. -/
def AqEnds (w0 : World) (g off c0 N : Nat) (t : TypeId) (low : List Value) (xs : List Int) (Z : List Int → Prop) (r : Ending) (w' : World) : Prop :=
  ∃ v' zs, r = .returned v' ∧ Z zs ∧ Dst w0 g off c0 N t low w' v' (xs ++ zs)

section
variable {w0 : World} {g off c0 N : Nat} {t : TypeId} {low : List Value} {xs : List Int}

set_option maxRecDepth 100000 in
set_option maxHeartbeats 4000000 in
theorem appendNonASCII_any (v : Value) (r : Int) (h0 : 128 ≤ r) (h1 : r ≤ 1114111) (w : World) (hD : Dst w0 g off c0 N t low w v xs) (hb : xs.length ≤ 549755813888) :
    Calls Tryz.prog 298 #[v, .int .i32 r] w (AqEnds w0 g off c0 N t low xs (fun zs => zs.length ≤ 10)) := by
  obtain ⟨i5, hi, hz0, hz1, hz2⟩ := info_parts Tryz.info5
  have HD := Lib.hid hD
  clear hD
  by_cases hA : r ≤ 2047
  · go_enter Tryz.func298, Tryz.ntmps298
    go_wp2_with (at_builtin; refine Hid.out ?_)
    refine Lib.hid ?_
    refine wpList_append_dst hi hz0 hz1 hz2 rfl _ _ 44 rfl rfl (HD.out.still ((Fr.refl _ w).alloc _)) _ [_, _] rfl (src_new w _ [_, _] _ _ rfl rfl) (by simp; omega) ?_
    intro v' w' hD'
    go_wp2_with fail
    go_ret
    exact ⟨_, _, rfl, by simp, hD'⟩
  by_cases hB : r < 55296
  · go_enter Tryz.func298, Tryz.ntmps298
    go_wp2_with (at_builtin; refine Hid.out ?_)
    refine Lib.hid ?_
    refine wpList_append_dst hi hz0 hz1 hz2 rfl _ _ 44 rfl rfl (HD.out.still ((Fr.refl _ w).alloc _)) _ [_, _, _] rfl (src_new w _ [_, _, _] _ _ rfl rfl) (by simp; omega) ?_
    intro v' w' hD'
    go_wp2_with fail
    go_ret
    exact ⟨_, _, rfl, by simp, hD'⟩
  by_cases hC : r ≤ 57343
  · go_enter Tryz.func298, Tryz.ntmps298
    go_wp2_with (at_builtin; refine Hid.out ?_)
    refine Lib.hid ?_
    refine wpList_append_dst hi hz0 hz1 hz2 rfl _ _ 44 rfl rfl (HD.out.still ((Fr.refl _ w).alloc _)) _ [_, _, _] rfl (src_new w _ [_, _, _] _ _ rfl rfl) (by simp; omega) ?_
    intro v' w' hD'
    go_wp2_with fail
    go_ret
    exact ⟨_, _, rfl, by simp, hD'⟩
  by_cases hE : r ≤ 65535
  · go_enter Tryz.func298, Tryz.ntmps298
    go_wp2_with (at_builtin; refine Hid.out ?_)
    refine Lib.hid ?_
    refine wpList_append_dst hi hz0 hz1 hz2 rfl _ _ 44 rfl rfl (HD.out.still ((Fr.refl _ w).alloc _)) _ [_, _, _] rfl (src_new w _ [_, _, _] _ _ rfl rfl) (by simp; omega) ?_
    intro v' w' hD'
    go_wp2_with fail
    go_ret
    exact ⟨_, _, rfl, by simp, hD'⟩
  · go_enter Tryz.func298, Tryz.ntmps298
    go_wp2_with (at_builtin; refine Hid.out ?_)
    refine Lib.hid ?_
    refine wpList_append_dst hi hz0 hz1 hz2 rfl _ _ 44 rfl rfl (HD.out.still ((Fr.refl _ w).alloc _)) _ [_, _, _, _] rfl (src_new w _ [_, _, _, _] _ _ rfl rfl) (by simp; omega) ?_
    intro v' w' hD'
    go_wp2_with fail
    go_ret
    exact ⟨_, _, rfl, by simp, hD'⟩

set_option maxRecDepth 100000 in
set_option maxHeartbeats 1000000 in
theorem appendRune_any (v : Value) (r : Int) (h0 : 0 ≤ r) (h1 : r ≤ 1114111) (w : World) (hD : Dst w0 g off c0 N t low w v xs) (hb : xs.length ≤ 549755813888) :
    Calls Tryz.prog 286 #[v, .int .i32 r] w (AqEnds w0 g off c0 N t low xs (fun zs => zs.length ≤ 10 ∧ (r ≤ 127 → zs = [r]))) := by
  by_cases hA : r ≤ 127
  · obtain ⟨i5, hi, hz0, hz1, hz2⟩ := info_parts Tryz.info5
    have HD := Lib.hid hD
    clear hD
    go_enter Tryz.func286, Tryz.ntmps286
    go_wp2_with (at_builtin; refine Hid.out ?_)
    refine Lib.hid ?_
    refine wpList_append_dst hi hz0 hz1 hz2 rfl _ _ 44 rfl rfl (HD.out.still ((Fr.refl _ w).alloc _)) _ [_] rfl (src_new w _ [_] _ _ rfl rfl) (by simp; omega) ?_
    intro v' w' hD'
    go_wp2_with fail
    go_ret
    exact ⟨_, _, rfl, ⟨by simp, fun _ => by first | rfl | (congr 1; omega)⟩, hD'⟩
  · have hq := appendNonASCII_any v r (by omega) h1 w hD hb
    clear hD
    go_enter Tryz.func286, Tryz.ntmps286
    go_wp2_with (go_at_call 298; refine hq.mono ?_; rintro e w1 ⟨v1, zs, rfl, hz, hD1⟩)
    go_ret
    exact ⟨_, _, rfl, ⟨hz, fun h => absurd h (by omega)⟩, hD1⟩
end
end Go.Proofs.YtbkookiigkckdaaGreatDoor

