/- Texts of this seat, merged: Xw, Xt, Sq. -/
import Derived.Test.YtbkookiigkckdaaGreatDoorK19
import Derived.Laws.RangeAny
import Derived.Lib.TrimU
/- bytes.Buffer's writes, framed by a set of blocks: Write, WriteString, WriteByte. Printed by gen_xw.py. -/
namespace Go.Proofs.YtbkookiigkckdaaGreatDoor
open Go.RowKit
set_option linter.unusedVariables false
set_option linter.unusedSimpArgs false

/-- The buffer at b holds xs; since w0 only blocks of S have turned, and those that were made. -/
structure BufS (S : Nat → Prop) (w0 W : World) (b : Nat) (xs : List Int) : Prop where
  fr : Fr S w0 W
  nb : S b ∨ w0.heap.size ≤ b
  at_ : ∃ g c t lr cur, (S g ∨ w0.heap.size ≤ g) ∧ BufAt W b g c t lr cur xs

theorem buf_writtenS {S : Nat → Prop} {w0 W : World} {b g c m : Nat} {t : TypeId} {lr : Int} {cur : Array Value} {xs ys : List Int} (hf : Fr S w0 W) (hnb : S b ∨ w0.heap.size ≤ b) (hng : S g ∨ w0.heap.size ≤ g) (hb : Blk W b 340 #[.slice (some ⟨g, 0, none⟩) m c, .int .i64 0, .int .i8 lr])
    (hm : m = xs.length + ys.length) (hg : Blk W g t cur) (hcs : cur.size = c) (hle : xs.length + ys.length ≤ c) (hcm : c ≤ maxLen) (hne : g ≠ b) (htk : cur.toList.take xs.length = ic xs) :
    BufS S w0 (W.setRow g (cur.toList.take xs.length ++ ic ys ++ cur.toList.drop (xs.length + ys.length)).toArray) b (xs ++ ys) := by
  subst hm
  have hl : (xs ++ ys).length = xs.length + ys.length := List.length_append
  have hcl : cur.toList.length = c := by rw [Array.length_toList, hcs]
  refine ⟨⟨hf.os, hf.tape, hf.output, by simpa using hf.size, fun k hk hn => ?_⟩, hnb, g, c, t, lr, _, hng, ⟨?_, setRow_heap _ _ cur _ t (0, 0) hg, ?_, by rw [hl]; exact hle, hcm, hne, ?_⟩⟩
  · have hkg : k ≠ g := fun e => by subst e; rcases hng with h | h; exact hn h; omega
    rw [setRow_other _ _ _ _ hkg]
    exact hf.block k hk hn
  · show _ = _
    rw [setRow_other _ _ _ _ hne.symm, hl]
    exact hb
  · rw [List.size_toArray, List.length_append, List.length_append, List.length_take, List.length_drop, hcl, ic_len]
    omega
  · rw [htk, ← ic_append, hl]
    exact List.take_left' (by rw [ic_len, hl])

theorem buf_byteS {S : Nat → Prop} {w0 W : World} {b g c : Nat} {t : TypeId} {lr : Int} {cur : Array Value} {xs : List Int} (ch : Int) (hf : Fr S w0 W) (hnb : S b ∨ w0.heap.size ≤ b) (hng : S g ∨ w0.heap.size ≤ g) (hb : Blk W b 340 #[.slice (some ⟨g, 0, none⟩) (xs.length + 1) c, .int .i64 0, .int .i8 lr])
    (hg : Blk W g t cur) (hcs : cur.size = c) (hle : xs.length + 1 ≤ c) (hcm : c ≤ maxLen) (hne : g ≠ b) (htk : cur.toList.take xs.length = ic xs) :
    BufS S w0 (W.setCell ⟨g, xs.length, none⟩ (.int .u8 ch)) b (xs ++ [ch]) := by
  have hl : (xs ++ [ch]).length = xs.length + 1 := by simp
  have hcl : cur.toList.length = c := by rw [Array.length_toList, hcs]
  refine ⟨hf.setCell (p := ⟨g, xs.length, none⟩) hng _, hnb, g, c, t, lr, _, hng, ⟨?_, hg.set_ _ _, ?_, by rw [hl]; exact hle, hcm, hne, ?_⟩⟩
  · rw [hl]
    exact hb.far (p := ⟨g, xs.length, none⟩) hne.symm _
  · rw [Array.size_setIfInBounds]
    exact hcs
  · rw [hl, ic_append, Array.toList_setIfInBounds, List.set_eq_take_append_cons_drop, if_pos (by omega), htk]
    have e : (ic xs ++ Value.int .u8 ch :: cur.toList.drop (xs.length + 1)) = (ic xs ++ ic [ch]) ++ cur.toList.drop (xs.length + 1) := by
      rw [List.append_assoc]; rfl
    rw [e]
    exact List.take_left' (by rw [List.length_append, ic_len, ic_len]; rfl)

set_option maxHeartbeats 4000000 in
set_option maxRecDepth 100000 in
theorem bufWriteS_any (S : Nat → Prop) (w0 : World) (b : Nat) (xs ys : List Int) (a : Addr) (cp : Nat) (w : World) (hB : BufS S w0 w b xs) (hab : a.block ≠ b) (hal : a.block < w.heap.size) (hsrc : ∀ j v, (ic ys)[j]? = some v → w.cell? (a.add j) = some v) (hy : 1 ≤ ys.length)
    (hlim : xs.length + ys.length ≤ 140737488355328) :
    Calls Tryz.prog 142 #[.pointer (some ⟨b, 0, none⟩), .slice (some a) ys.length cp] w fun e w' => (∃ r, e = .returned r) ∧ BufS S w0 w' b (xs ++ ys) := by
  obtain ⟨i5, hi, hz0, hz1, hz2⟩ := info_parts Tryz.info5
  have hinfo : (Tryz.prog.info? 5).map (·.size) = some 1 := by rw [hi]; exact congrArg some hz1
  obtain ⟨hf, hnb, g, c, t, lr, cur, hng, hb, hg, hcs, hle, hcm, hne, htk⟩ := hB
  have c2 : w.cell? ⟨b, 2, none⟩ = some (.int .i8 lr) := hb.cell 2
  have f2 := hb.frozen 2
  have hb' : Blk (w.setCell ⟨b, 2, none⟩ (.int .i8 0)) b 340 #[.slice (some ⟨g, 0, none⟩) xs.length c, .int .i64 0, .int .i8 0] := hb.set_ 2 _
  have hg' : Blk (w.setCell ⟨b, 2, none⟩ (.int .i8 0)) g t cur := hg.far (p := ⟨b, 2, none⟩) hne _
  have hf' : Fr S w0 (w.setCell ⟨b, 2, none⟩ (.int .i8 0)) := hf.setCell (p := ⟨b, 2, none⟩) hnb _
  have hsrc' : ∀ j v, (ic ys)[j]? = some v → (w.setCell ⟨b, 2, none⟩ (.int .i8 0)).cell? (a.add j) = some v := fun j v hj => by
    rw [World.cell?_of_block (w := w) (Below.heap_setCell _ _ _ _ (by rw [add_block]; exact hab))]
    exact hsrc j v hj
  have hal' : a.block < (w.setCell ⟨b, 2, none⟩ (.int .i8 0)).heap.size := by simpa [World.setCell] using hal
  have h1 : ∀ v ∈ cur.toList.take xs.length, v.oneCell' = true := by rw [htk]; exact ic_one xs
  obtain ⟨W1, hW1⟩ : ∃ W1, w.setCell ⟨b, 2, none⟩ (.int .i8 0) = W1 := ⟨_, rfl⟩
  rw [hW1] at hb' hg' hf' hsrc' hal'
  have HW1 := Lib.hid hW1
  have HB := Lib.hid hb'
  have HG := Lib.hid hg'
  have HF := Lib.hid hf'
  have HS := Lib.hid hsrc'
  have hyl : (ic ys).length = ys.length := ic_len ys
  clear hb hg hf hb' hg' hf' hW1 hsrc hsrc'
  by_cases hroom : ys.length ≤ c - xs.length
  · have hne0 : ¬ c = xs.length := by omega
    have hcall := tryGrow_room b (some ⟨g, 0, none⟩) xs.length c 0 W1 HB.out hle hcm ys.length hroom
    obtain ⟨W2, hW2⟩ : ∃ W2, W1.setCell ⟨b, 0, none⟩ (.slice (some ⟨g, 0, none⟩) (xs.length + ys.length) c) = W2 := ⟨_, rfl⟩
    rw [hW2] at hcall
    have hb2 : Blk W2 b 340 #[.slice (some ⟨g, 0, none⟩) (xs.length + ys.length) c, .int .i64 0, .int .i8 0] := by rw [← hW2]; exact HB.out.set_ 0 _
    have hg2 : Blk W2 g t cur := by rw [← hW2]; exact HG.out.far (p := ⟨b, 0, none⟩) hne _
    have hf2 : Fr S w0 W2 := by rw [← hW2]; exact HF.out.setCell (p := ⟨b, 0, none⟩) hnb _
    have hs2 : ∀ j v, (ic ys)[j]? = some v → W2.cell? (a.add j) = some v := fun j v hj => by
      rw [← hW2, World.cell?_of_block (w := W1) (Below.heap_setCell _ _ _ _ (by rw [add_block]; exact hab))]
      exact HS.out j v hj
    have d0 : W2.cell? ⟨b, 0, none⟩ = some (.slice (some ⟨g, 0, none⟩) (xs.length + ys.length) c) := hb2.cell 0
    have hcp := run_copy_row (P := Tryz.prog) W2 44 44 3 5 g xs.length ys.length (c - xs.length) a ys.length cp cur t (ic ys) Tryz.underlying44 hinfo hg2 (by rw [hyl]; exact (Nat.min_self _).symm) hs2 (by rw [hyl]; omega) (ic_one ys)
    rw [hyl] at hcp
    have HE := Lib.hid (buf_writtenS hf2 hnb hng hb2 rfl hg2 hcs (by omega) hcm hne htk)
    have hcm' := hcm
    unfold maxLen at hcm'
    generalize W2.setRow g (cur.toList.take xs.length ++ ic ys ++ cur.toList.drop (xs.length + ys.length)).toArray = W3 at hcp HE
    clear hb2 hg2 hf2 hW2 htk h1 HB HG HF HS hs2
    generalize xs.length = L at *
    generalize ys.length = M at *
    go_enter Tryz.func142, Tryz.ntmps142
    go_wp2_with (go_at_call 216; rw [HW1.out]; refine hcall.mono ?_; rintro e w' ⟨rfl, rfl⟩)
    go_ret2
    exact ⟨⟨_, rfl⟩, HE.out⟩
  · have hcall := tryGrow_none b (some ⟨g, 0, none⟩) xs.length c 0 W1 HB.out hle hcm ys.length (by omega)
    have hgrow := grow_any b g xs.length c ys.length t 0 cur W1 HB.out HG.out hcs hle hne h1 (by omega) hlim
    have HBl := Lib.hid HB.out.lt
    have HTK := Lib.hid htk
    have HX : Hid (∀ W2 cells cap2 g', w0.heap.size ≤ W1.heap.size → W1.heap.size ≤ g' → Blk W2 b 340 #[.slice (some ⟨g', 0, none⟩) (xs.length + ys.length) cap2, .int .i64 0, .int .i8 0] → Blk W2 g' 5 cells → cells.size = cap2 → cells.toList.take xs.length = cur.toList.take xs.length →
        xs.length + ys.length ≤ cap2 → cap2 ≤ maxLen → Fr (fun k => k = b) W1 W2 → ∃ W3, (Builtin.copy_ #[44, 44] 3 #[.slice (some ⟨g', xs.length, none⟩) ys.length (cap2 - xs.length), .slice (some a) ys.length cp]).run Tryz.prog W2 = .ok (goInt ys.length) W3 ∧ BufS S w0 W3 b (xs ++ ys)) := Lib.hid (fun W2 cells cap2 g' hsz hg'n hb2 hg2 hcs2 htk2 hle2 hcm2 hfr2 => by
      have hf2 : Fr S w0 W2 := HF.out.trans hfr2 (fun k hk e => by subst e; rcases hnb with h | h; exact h; omega)
      have hs2 : ∀ j v, (ic ys)[j]? = some v → W2.cell? (a.add j) = some v := fun j v hj => by
        rw [hfr2.cell (by rw [add_block]; exact hal') (by rw [add_block]; exact hab)]
        exact HS.out j v hj
      have hcp := run_copy_row (P := Tryz.prog) W2 44 44 3 5 g' xs.length ys.length (cap2 - xs.length) a ys.length cp cells 5 (ic ys) Tryz.underlying44 hinfo hg2 (by rw [hyl]; exact (Nat.min_self _).symm) hs2 (by rw [hyl]; omega) (ic_one ys)
      rw [hyl] at hcp
      exact ⟨_, hcp, buf_writtenS hf2 hnb (.inr (by omega)) hb2 rfl hg2 hcs2 hle2 hcm2 (by have := HBl.out; omega) (htk2.trans HTK.out)⟩)
    have hsz : Hid (w0.heap.size ≤ W1.heap.size) := Lib.hid HF.out.size
    have hcm' := hcm
    unfold maxLen at hcm'
    clear htk h1 HB HG HF HS
    generalize xs.length = L at *
    generalize ys.length = M at *
    go_enter Tryz.func142, Tryz.ntmps142
    go_wp2_with (first
      | (go_at_call 216; rw [HW1.out]; refine hcall.mono ?_; rintro e w' ⟨rfl, rfl⟩)
      | (go_at_call 217; refine hgrow.mono ?_; rintro e W2 ⟨rfl, g', cap2, cells, hg'n, hb2, hg2, hcs2, htk2, hle2, hcm2, hfr2⟩
         obtain ⟨W3, hcp, hE⟩ := HX.out W2 cells cap2 g' hsz.out hg'n hb2 hg2 hcs2 htk2 hle2 hcm2 hfr2
         have HE := Lib.hid hE
         have d0 : W2.cell? ⟨b, 0, none⟩ = some (.slice (some ⟨g', 0, none⟩) (L + M) cap2) := hb2.cell 0
         have hne0 : ¬ cap2 = L := by omega
         unfold maxLen at hcm2
         clear hE hb2 hg2 hcs2 htk2 hfr2 hg'n))
    go_ret2
    exact ⟨⟨_, rfl⟩, HE.out⟩

set_option maxHeartbeats 4000000 in
set_option maxRecDepth 100000 in
theorem bufWriteStringS_any (S : Nat → Prop) (w0 : World) (b : Nat) (xs : List Int) (s : ByteArray) (w : World) (hB : BufS S w0 w b xs) (hy : 1 ≤ s.size) (hlim : xs.length + s.size ≤ 140737488355328) :
    Calls Tryz.prog 145 #[.pointer (some ⟨b, 0, none⟩), .string s] w fun e w' => (∃ r, e = .returned r) ∧ BufS S w0 w' b (xs ++ s.data.toList.map fun b => (b.toNat : Int)) := by
  obtain ⟨ys, hys⟩ : ∃ ys : List Int, (s.data.toList.map fun b => (b.toNat : Int)) = ys := ⟨_, rfl⟩
  have hbc : ic ys = Lib.byteCells s.data.toList := by rw [← hys]; exact ic_bytes _
  have hyn : ys.length = s.size := by rw [← hys, List.length_map, ← Lib.size_eq]
  rw [hys]
  rw [← hyn] at hy hlim
  obtain ⟨i5, hi, hz0, hz1, hz2⟩ := info_parts Tryz.info5
  have hinfo : (Tryz.prog.info? 5).map (·.size) = some 1 := by rw [hi]; exact congrArg some hz1
  obtain ⟨hf, hnb, g, c, t, lr, cur, hng, hb, hg, hcs, hle, hcm, hne, htk⟩ := hB
  have c2 : w.cell? ⟨b, 2, none⟩ = some (.int .i8 lr) := hb.cell 2
  have f2 := hb.frozen 2
  have hb' : Blk (w.setCell ⟨b, 2, none⟩ (.int .i8 0)) b 340 #[.slice (some ⟨g, 0, none⟩) xs.length c, .int .i64 0, .int .i8 0] := hb.set_ 2 _
  have hg' : Blk (w.setCell ⟨b, 2, none⟩ (.int .i8 0)) g t cur := hg.far (p := ⟨b, 2, none⟩) hne _
  have hf' : Fr S w0 (w.setCell ⟨b, 2, none⟩ (.int .i8 0)) := hf.setCell (p := ⟨b, 2, none⟩) hnb _
  have h1 : ∀ v ∈ cur.toList.take xs.length, v.oneCell' = true := by rw [htk]; exact ic_one xs
  obtain ⟨W1, hW1⟩ : ∃ W1, w.setCell ⟨b, 2, none⟩ (.int .i8 0) = W1 := ⟨_, rfl⟩
  rw [hW1] at hb' hg' hf'
  have HW1 := Lib.hid hW1
  have HB := Lib.hid hb'
  have HG := Lib.hid hg'
  have HF := Lib.hid hf'
  have hyl : (ic ys).length = ys.length := ic_len ys
  clear hb hg hf hb' hg' hf' hW1
  by_cases hroom : ys.length ≤ c - xs.length
  · have hne0 : ¬ c = xs.length := by omega
    have hcall := tryGrow_room b (some ⟨g, 0, none⟩) xs.length c 0 W1 HB.out hle hcm ys.length hroom
    obtain ⟨W2, hW2⟩ : ∃ W2, W1.setCell ⟨b, 0, none⟩ (.slice (some ⟨g, 0, none⟩) (xs.length + ys.length) c) = W2 := ⟨_, rfl⟩
    rw [hW2] at hcall
    have hb2 : Blk W2 b 340 #[.slice (some ⟨g, 0, none⟩) (xs.length + ys.length) c, .int .i64 0, .int .i8 0] := by rw [← hW2]; exact HB.out.set_ 0 _
    have hg2 : Blk W2 g t cur := by rw [← hW2]; exact HG.out.far (p := ⟨b, 0, none⟩) hne _
    have hf2 : Fr S w0 W2 := by rw [← hW2]; exact HF.out.setCell (p := ⟨b, 0, none⟩) hnb _
    have d0 : W2.cell? ⟨b, 0, none⟩ = some (.slice (some ⟨g, 0, none⟩) (xs.length + ys.length) c) := hb2.cell 0
    have hcp := Lib.run_copy_row_string (P := Tryz.prog) W2 44 9 3 5 g xs.length ys.length (c - xs.length) s cur t Tryz.underlying44 hinfo hg2 (by omega) (by omega)
    rw [← hbc, ← hyn] at hcp
    have HE := Lib.hid (buf_writtenS hf2 hnb hng hb2 rfl hg2 hcs (by omega) hcm hne htk)
    have hcm' := hcm
    unfold maxLen at hcm'
    generalize W2.setRow g (cur.toList.take xs.length ++ ic ys ++ cur.toList.drop (xs.length + ys.length)).toArray = W3 at hcp HE
    clear hb2 hg2 hf2 hW2 htk h1 HB HG HF
    have HBC := Lib.hid hbc
    have HYS := Lib.hid hys
    clear hbc hys
    generalize xs.length = L at *
    generalize ys.length = M at *
    subst hyn
    go_enter Tryz.func145, Tryz.ntmps145
    go_wp2_with (go_at_call 216; rw [HW1.out]; refine hcall.mono ?_; rintro e w' ⟨rfl, rfl⟩)
    go_ret2
    exact ⟨⟨_, rfl⟩, HE.out⟩
  · have hcall := tryGrow_none b (some ⟨g, 0, none⟩) xs.length c 0 W1 HB.out hle hcm ys.length (by omega)
    have hgrow := grow_any b g xs.length c ys.length t 0 cur W1 HB.out HG.out hcs hle hne h1 (by omega) hlim
    have HBl := Lib.hid HB.out.lt
    have HTK := Lib.hid htk
    have HX : Hid (∀ W2 cells cap2 g', w0.heap.size ≤ W1.heap.size → W1.heap.size ≤ g' → Blk W2 b 340 #[.slice (some ⟨g', 0, none⟩) (xs.length + ys.length) cap2, .int .i64 0, .int .i8 0] → Blk W2 g' 5 cells → cells.size = cap2 → cells.toList.take xs.length = cur.toList.take xs.length →
        xs.length + ys.length ≤ cap2 → cap2 ≤ maxLen → Fr (fun k => k = b) W1 W2 → ∃ W3, (Builtin.copy_ #[44, 9] 3 #[.slice (some ⟨g', xs.length, none⟩) ys.length (cap2 - xs.length), .string s]).run Tryz.prog W2 = .ok (goInt ys.length) W3 ∧ BufS S w0 W3 b (xs ++ ys)) := Lib.hid (fun W2 cells cap2 g' hsz hg'n hb2 hg2 hcs2 htk2 hle2 hcm2 hfr2 => by
      have hf2 : Fr S w0 W2 := HF.out.trans hfr2 (fun k hk e => by subst e; rcases hnb with h | h; exact h; omega)
      have hcp := Lib.run_copy_row_string (P := Tryz.prog) W2 44 9 3 5 g' xs.length ys.length (cap2 - xs.length) s cells 5 Tryz.underlying44 hinfo hg2 (by omega) (by omega)
      rw [← hbc, ← hyn] at hcp
      exact ⟨_, hcp, buf_writtenS hf2 hnb (.inr (by omega)) hb2 rfl hg2 hcs2 hle2 hcm2 (by have := HBl.out; omega) (htk2.trans HTK.out)⟩)
    have hsz : Hid (w0.heap.size ≤ W1.heap.size) := Lib.hid HF.out.size
    have hcm' := hcm
    unfold maxLen at hcm'
    clear htk h1 HB HG HF
    have HBC := Lib.hid hbc
    have HYS := Lib.hid hys
    clear hbc hys
    generalize xs.length = L at *
    generalize ys.length = M at *
    subst hyn
    go_enter Tryz.func145, Tryz.ntmps145
    go_wp2_with (first
      | (go_at_call 216; rw [HW1.out]; refine hcall.mono ?_; rintro e w' ⟨rfl, rfl⟩)
      | (go_at_call 217; refine hgrow.mono ?_; rintro e W2 ⟨rfl, g', cap2, cells, hg'n, hb2, hg2, hcs2, htk2, hle2, hcm2, hfr2⟩
         obtain ⟨W3, hcp, hE⟩ := HX.out W2 cells cap2 g' hsz.out hg'n hb2 hg2 hcs2 htk2 hle2 hcm2 hfr2
         have HE := Lib.hid hE
         have d0 : W2.cell? ⟨b, 0, none⟩ = some (.slice (some ⟨g', 0, none⟩) (L + s.size) cap2) := hb2.cell 0
         have hne0 : ¬ cap2 = L := by omega
         unfold maxLen at hcm2
         clear hE hb2 hg2 hcs2 htk2 hfr2 hg'n))
    go_ret2
    exact ⟨⟨_, rfl⟩, HE.out⟩

set_option maxHeartbeats 4000000 in
set_option maxRecDepth 100000 in
theorem bufWriteByteS_any (S : Nat → Prop) (w0 : World) (b : Nat) (xs : List Int) (ch : Int) (w : World) (hB : BufS S w0 w b xs) (hlim : xs.length + 1 ≤ 140737488355328) :
    Calls Tryz.prog 151 #[.pointer (some ⟨b, 0, none⟩), .int .u8 ch] w fun e w' => (∃ r, e = .returned r) ∧ BufS S w0 w' b (xs ++ [ch]) := by
  obtain ⟨hf, hnb, g, c, t, lr, cur, hng, hb, hg, hcs, hle, hcm, hne, htk⟩ := hB
  have c2 : w.cell? ⟨b, 2, none⟩ = some (.int .i8 lr) := hb.cell 2
  have f2 := hb.frozen 2
  have hb' : Blk (w.setCell ⟨b, 2, none⟩ (.int .i8 0)) b 340 #[.slice (some ⟨g, 0, none⟩) xs.length c, .int .i64 0, .int .i8 0] := hb.set_ 2 _
  have hg' : Blk (w.setCell ⟨b, 2, none⟩ (.int .i8 0)) g t cur := hg.far (p := ⟨b, 2, none⟩) hne _
  have hf' : Fr S w0 (w.setCell ⟨b, 2, none⟩ (.int .i8 0)) := hf.setCell (p := ⟨b, 2, none⟩) hnb _
  have h1 : ∀ v ∈ cur.toList.take xs.length, v.oneCell' = true := by rw [htk]; exact ic_one xs
  obtain ⟨W1, hW1⟩ : ∃ W1, w.setCell ⟨b, 2, none⟩ (.int .i8 0) = W1 := ⟨_, rfl⟩
  rw [hW1] at hb' hg' hf'
  have HW1 := Lib.hid hW1
  have HB := Lib.hid hb'
  have HG := Lib.hid hg'
  have HF := Lib.hid hf'
  clear hb hg hf hb' hg' hf' hW1
  by_cases hroom : 1 ≤ c - xs.length
  · have hcall := tryGrow_room b (some ⟨g, 0, none⟩) xs.length c 0 W1 HB.out hle hcm 1 hroom
    obtain ⟨W2, hW2⟩ : ∃ W2, W1.setCell ⟨b, 0, none⟩ (.slice (some ⟨g, 0, none⟩) (xs.length + 1) c) = W2 := ⟨_, rfl⟩
    have hW2' : W1.setCell ⟨b, 0, none⟩ (.slice (some ⟨g, 0, none⟩) (xs.length + (1 : Nat)) c) = W2 := hW2
    rw [hW2'] at hcall
    have hb2 : Blk W2 b 340 #[.slice (some ⟨g, 0, none⟩) (xs.length + 1) c, .int .i64 0, .int .i8 0] := by rw [← hW2]; exact HB.out.set_ 0 _
    have hg2 : Blk W2 g t cur := by rw [← hW2]; exact HG.out.far (p := ⟨b, 0, none⟩) hne _
    have hf2 : Fr S w0 W2 := by rw [← hW2]; exact HF.out.setCell (p := ⟨b, 0, none⟩) hnb _
    have d0 : W2.cell? ⟨b, 0, none⟩ = some (.slice (some ⟨g, 0, none⟩) (xs.length + 1) c) := hb2.cell 0
    obtain ⟨old, d1⟩ : ∃ old, W2.cell? ⟨g, xs.length, none⟩ = some old := ⟨_, by rw [hg2.cell, Array.getElem?_eq_getElem (by rw [hcs]; omega)]⟩
    have fg := hg2.frozen xs.length
    have HE := Lib.hid (buf_byteS ch hf2 hnb hng hb2 hg2 hcs (by omega) hcm hne htk)
    have hcm' := hcm
    unfold maxLen at hcm'
    have hcall' : Calls Tryz.prog 216 #[.pointer (some ⟨b, 0, none⟩), .int .i64 1] W1 fun e w' => e = .returned (.tuple #[.int .i64 xs.length, .bool true]) ∧ w' = W2 := hcall
    clear hb2 hg2 hf2 hW2 hW2' htk h1 HB HG HF hcall
    generalize xs.length = L at *
    go_enter Tryz.func151, Tryz.ntmps151
    go_wp2_with (go_at_call 216; rw [HW1.out]; refine hcall'.mono ?_; rintro e w' ⟨rfl, rfl⟩)
    go_ret
    exact ⟨⟨_, rfl⟩, HE.out⟩
  · have hcall := tryGrow_none b (some ⟨g, 0, none⟩) xs.length c 0 W1 HB.out hle hcm 1 (by omega)
    have hgrow := grow_any b g xs.length c 1 t 0 cur W1 HB.out HG.out hcs hle hne h1 (by omega) hlim
    have HBl := Lib.hid HB.out.lt
    have HTK := Lib.hid htk
    have HX : Hid (∀ W2 cells cap2 g', W1.heap.size ≤ g' → Blk W2 b 340 #[.slice (some ⟨g', 0, none⟩) (xs.length + 1) cap2, .int .i64 0, .int .i8 0] → Blk W2 g' 5 cells → cells.size = cap2 → cells.toList.take xs.length = cur.toList.take xs.length →
        xs.length + 1 ≤ cap2 → cap2 ≤ maxLen → Fr (fun k => k = b) W1 W2 → BufS S w0 (W2.setCell ⟨g', xs.length, none⟩ (.int .u8 ch)) b (xs ++ [ch])) := Lib.hid (fun W2 cells cap2 g' hg'n hb2 hg2 hcs2 htk2 hle2 hcm2 hfr2 => by
      have hsz := HF.out.size
      have hf2 : Fr S w0 W2 := HF.out.trans hfr2 (fun k hk e => by subst e; rcases hnb with h | h; exact h; omega)
      exact buf_byteS ch hf2 hnb (.inr (by omega)) hb2 hg2 hcs2 hle2 hcm2 (by have := HBl.out; omega) (htk2.trans HTK.out))
    have hcm' := hcm
    unfold maxLen at hcm'
    have hcall' : Calls Tryz.prog 216 #[.pointer (some ⟨b, 0, none⟩), .int .i64 1] W1 fun e w' => e = .returned (.tuple #[.int .i64 0, .bool false]) ∧ w' = W1 := hcall
    have hgrow' : Calls Tryz.prog 217 #[.pointer (some ⟨b, 0, none⟩), .int .i64 1] W1 (Grown b xs.length 1 0 cur W1) := hgrow
    clear htk h1 HB HG HF hcall hgrow
    generalize xs.length = L at *
    go_enter Tryz.func151, Tryz.ntmps151
    go_wp2_with (first
      | (go_at_call 216; rw [HW1.out]; refine hcall'.mono ?_; rintro e w' ⟨rfl, rfl⟩)
      | (go_at_call 217; refine hgrow'.mono ?_; rintro e W2 ⟨rfl, g', cap2, cells, hg'n, hb2, hg2, hcs2, htk2, hle2, hcm2, hfr2⟩
         have HE := Lib.hid (HX.out W2 cells cap2 g' hg'n hb2 hg2 hcs2 htk2 hle2 hcm2 hfr2)
         have d0 : W2.cell? ⟨b, 0, none⟩ = some (.slice (some ⟨g', 0, none⟩) (L + 1) cap2) := hb2.cell 0
         obtain ⟨old, d1⟩ : ∃ old, W2.cell? ⟨g', L, none⟩ = some old := ⟨_, by rw [hg2.cell, Array.getElem?_eq_getElem (by rw [hcs2]; omega)]⟩
         have fg := hg2.frozen L
         unfold maxLen at hcm2
         clear hb2 hg2 hcs2 htk2 hfr2 hg'n))
    go_ret
    exact ⟨⟨_, rfl⟩, HE.out⟩
end Go.Proofs.YtbkookiigkckdaaGreatDoor

/- A text put into quotation marks behind a buffer's bytes, framed by a set of blocks. -/
namespace Go.Proofs.YtbkookiigkckdaaGreatDoor
open Go.RowKit
set_option linter.unusedVariables false
set_option linter.unusedSimpArgs false

/-- v is the buffer's room behind its bytes. -/
def AvailS (S : Nat → Prop) (w0 : World) (b : Nat) (xs : List Int) (v : Value) (W : World) : Prop :=
  ∃ (g c : Nat) (t : TypeId) (lr : Int) (cur : Array Value) (off' : Nat), v = .slice (some ⟨g, off', none⟩) 0 (c - xs.length) ∧ (off' = xs.length ∨ c - xs.length = 0) ∧ Fr S w0 W ∧ (S b ∨ w0.heap.size ≤ b) ∧ (S g ∨ w0.heap.size ≤ g) ∧ BufAt W b g c t lr cur xs
/-- v is the quoted text, outside of the buffer's own bytes. -/
def QuotedS (S : Nat → Prop) (w0 : World) (b : Nat) (xs : List Int) (s : ByteArray) (v : Value) (W : World) : Prop :=
  ∃ (zs : List Int) (a : Addr) (cp : Nat), v = .slice (some a) zs.length cp ∧ QuoteOf s zs ∧ BufS S w0 W b xs ∧ a.block ≠ b ∧ a.block < W.heap.size ∧ ∀ j v, (ic zs)[j]? = some v → W.cell? (a.add j) = some v

section
variable {S : Nat → Prop} {w00 w0 W W' : World} {b : Nat} {xs : List Int} {s : ByteArray} {v : Value}
theorem BufS.still (h : BufS S w0 W b xs) (hf : Fr (fun _ => False) W W') : BufS S w0 W' b xs := by
  obtain ⟨h1, h2, g, c, t, lr, cur, h3, h4⟩ := h
  exact ⟨h1.trans hf (fun _ _ e => e.elim), h2, g, c, t, lr, cur, h3, h4.fr hf⟩
theorem AvailS.still (h : AvailS S w0 b xs v W) (hf : Fr (fun _ => False) W W') : AvailS S w0 b xs v W' := by
  obtain ⟨g, c, t, lr, cur, off', h1, h2, h3, h4, h5, h6⟩ := h
  exact ⟨g, c, t, lr, cur, off', h1, h2, h3.trans hf (fun _ _ e => e.elim), h4, h5, h6.fr hf⟩
theorem AvailS.fr (h : AvailS S w0 b xs v W) : Fr S w0 W := by
  obtain ⟨_, _, _, _, _, _, _, _, h3, _⟩ := h
  exact h3
theorem QuotedS.still (h : QuotedS S w0 b xs s v W) (hf : Fr (fun _ => False) W W') : QuotedS S w0 b xs s v W' := by
  obtain ⟨zs, a, cp, h1, h2, h3, h4, h5, h6⟩ := h
  refine ⟨zs, a, cp, h1, h2, h3.still hf, h4, Nat.lt_of_lt_of_le h5 hf.size, fun j u hj => ?_⟩
  rw [hf.cell (by rw [add_block]; exact h5) (fun e => e)]
  exact h6 j u hj
theorem QuotedS.buf (h : QuotedS S w0 b xs s v W) : BufS S w0 W b xs := by
  obtain ⟨_, _, _, _, _, h3, _⟩ := h
  exact h3

theorem availS_step (h : BufS S w0 W b xs) : Calls Tryz.prog 144 #[.pointer (some ⟨b, 0, none⟩)] W fun e W1 => ∃ v, e = .returned v ∧ AvailS S w0 b xs v W1 ∧ Fr (fun _ => False) W W1 := by
  obtain ⟨h1, h2, g, c, t, lr, cur, h3, h4⟩ := h
  refine (availBuf_any h4).mono ?_
  rintro e W1 ⟨⟨off', rfl, ho⟩, hf⟩
  exact ⟨_, rfl, ⟨g, c, t, lr, cur, off', rfl, ho, h1.trans hf (fun _ _ e => e.elim), h2, h3, h4.fr hf⟩, hf⟩

theorem quoteS_step {T : Lib.PrintTabs} (hT : TabsAt T w00) (h00 : Fr (fun _ => False) w00 w0) (hS : ∀ k, S k → w00.heap.size ≤ k) (h : AvailS S w0 b xs v W) (hs : s.size ≤ 1073741824) : Calls Tryz.prog 143 #[v, .string s] W fun e W1 => ∃ v', e = .returned v' ∧ QuotedS S w0 b xs s v' W1 ∧ Fr S w0 W1 := by
  obtain ⟨g, c, t, lr, cur, off', rfl, ho, hf, hnb, hng, hb, hg, hcs, hle, hcm, hne, htk⟩ := h
  have hbl := hb.lt
  have hfw : Fr (fun _ => False) w00 W := h00.trans hf (fun k hk e => by have := hS k e; omega)
  have hg0 : w00.heap.size ≤ g := by
    rcases hng with h | h
    · exact hS g h
    · exact Nat.le_trans h00.size h
  have hD : Dst W g xs.length (c - xs.length) c t (ic xs) W (.slice (some ⟨g, off', none⟩) 0 (c - xs.length)) [] :=
    ⟨Fr.refl _ W, hg.lt, by omega, cur, hg, hcs, htk, .inl ⟨off', rfl, ho, Nat.zero_le _, rfl⟩⟩
  refine (appendQuote_any T W w00 g xs.length (c - xs.length) c t (ic xs) hT hfw hg0 off' s hs (by unfold maxLen at hcm; omega) hD).mono ?_
  rintro e W1 ⟨v', zs, rfl, ⟨hz2, hz3, hz4⟩, hD1⟩
  rw [List.nil_append] at hD1
  obtain ⟨hfr, _, _, cur1, hg1, hcs1, htk1, hat⟩ := hD1
  have hf1 : Fr S w0 W1 := hf.trans hfr (fun k hk e => by subst e; rcases hng with h | h; exact h; omega)
  have hb1 := hb.fr hfr (fun e => hne e.symm)
  have hB1 : BufS S w0 W1 b xs := ⟨hf1, hnb, g, c, t, lr, cur1, hng, hb1, hg1, hcs1, hle, hcm, hne, htk1⟩
  refine ⟨v', rfl, ?_, hf1⟩
  rcases hat with ⟨off2, rfl, ho2, hzc, hcells⟩ | hown
  · obtain rfl : off2 = xs.length := by rcases ho2 with e | e; exact e; omega
    refine ⟨zs, _, _, rfl, ⟨hz2, hz3, hz4⟩, hB1, hne, hg1.lt, fun j u hj => ?_⟩
    have hj' : j < zs.length := by
      rcases Nat.lt_or_ge j zs.length with h | h
      · exact h
      · rw [List.getElem?_eq_none (by rw [ic_len]; exact h)] at hj; cases hj
    have e1 : (⟨g, xs.length, none⟩ : Addr).add j = ⟨g, xs.length + j, none⟩ := by unfold Addr.add; split <;> simp_all
    rw [e1, hg1.cell, ← Array.getElem?_toList]
    rw [← hcells, List.getElem?_take_of_lt hj', List.getElem?_drop] at hj
    exact hj
  · rcases hown.2 with ⟨_, h0⟩ | ⟨g', cap, cur2, rfl, hBg, hh, _, _, _, htk2⟩
    · omega
    · refine ⟨zs, _, _, rfl, ⟨hz2, hz3, hz4⟩, hB1, by show g' ≠ b; omega, (Array.getElem?_eq_some_iff.1 hh).1, ?_⟩
      rw [Nat.mul_one] at htk2
      rw [← htk2]
      exact Lib.cells_of_row hh zs.length

theorem writeS_step (h : QuotedS S w0 b xs s v W) (hx : xs.length ≤ 1099511627776) (hs : s.size ≤ 1073741824) : Calls Tryz.prog 142 #[.pointer (some ⟨b, 0, none⟩), v] W fun e W1 => (∃ r, e = .returned r) ∧ ∃ zs, QuoteOf s zs ∧ BufS S w0 W1 b (xs ++ zs) := by
  obtain ⟨zs, a, cp, rfl, hz, hB, h4, h5, h6⟩ := h
  have h1 := hz.1
  have h2 := hz.2.1
  exact (bufWriteS_any S w0 b xs zs a cp W hB h4 h5 h6 (by omega) (by omega)).mono fun e W1 ⟨hr, hB1⟩ => ⟨hr, zs, hz, hB1⟩

/-- Out of a buffer in blocks of the call's own: the two blocks, and those alone, may turn. -/
theorem BufIn.toS (h : BufIn w0 W b xs) : ∃ g, w0.heap.size ≤ g ∧ (∃ c t cur lr, Blk W g t cur ∧ Blk W b 340 #[.slice (some ⟨g, 0, none⟩) xs.length c, .int .i64 0, .int .i8 lr]) ∧ BufS (fun k => k = b ∨ k = g) W W b xs := by
  obtain ⟨h1, h2, g, c, t, lr, cur, h3, h4⟩ := h
  exact ⟨g, h3, ⟨c, t, cur, lr, h4.hg, h4.hb⟩, Fr.refl _ W, .inl (.inl rfl), g, c, t, lr, cur, .inl (.inr rfl), h4⟩
theorem BufS.toIn (h : BufS S W W' b xs) (hf : Fr (fun _ => False) w0 W) (hS : ∀ k, S k → w0.heap.size ≤ k) : BufIn w0 W' b xs := by
  obtain ⟨h1, h2, g, c, t, lr, cur, h3, h4⟩ := h
  refine ⟨hf.trans h1 (fun k hk e => by have := hS k e; omega), ?_, g, c, t, lr, cur, ?_, h4⟩
  · rcases h2 with h | h
    · exact hS _ h
    · exact Nat.le_trans hf.size h
  · rcases h3 with h | h
    · exact hS _ h
    · exact Nat.le_trans hf.size h
end
end Go.Proofs.YtbkookiigkckdaaGreatDoor

/- shouldQuoteName; the spec's LegacyName and Plain. -/
namespace Go.Proofs.YtbkookiigkckdaaGreatDoor
open Go.RowKit
set_option linter.unusedVariables false
set_option linter.unusedSimpArgs false

/-- Byte b at place i of a name that stands without quotation marks. -/
def NameB (i b : Nat) : Prop := b = 95 ∨ (97 ≤ b ∧ b ≤ 122) ∨ (65 ≤ b ∧ b ≤ 90) ∨ (0 < i ∧ 48 ≤ b ∧ b ≤ 57)
def LegacyS (s : ByteArray) : Prop := 0 < s.size ∧ ∀ i (h : i < s.size), NameB i (s[i]'h).toNat

theorem name_rune {s : ByteArray} (hs : LegacyS s) {pos : Nat} (h : pos < s.size) : ∃ b, (Utf8.decode s pos).1 = b ∧ NameB pos b := by
  have hb := hs.2 pos h
  have ha : (s[pos]'h).toNat < 128 := by unfold NameB at hb; omega
  exact ⟨_, by rw [decode_ascii s pos h ha], hb⟩


/-- A name that keeps the rule needs no quotation marks, and the empty one does. -/
def SqEnds (s : ByteArray) (e : Ending) : Prop := ∃ q : Bool, e = .returned (.bool q) ∧ (LegacyS s → q = false) ∧ (q = false → 0 < s.size)

set_option maxHeartbeats 16000000 in
set_option maxRecDepth 100000 in
theorem shouldQuote_any (mb : Nat) (s : ByteArray) (hs : s.size ≤ 1073741824) (w : World) (hm : mb < w.heap.size) (hc : w.cell? ⟨mb, 1, none⟩ = some (.string s)) :
    Calls Tryz.prog 141 #[.pointer (some ⟨mb, 0, none⟩)] w fun e w' => SqEnds s e ∧ Fr (fun _ => False) w w' := by
  have hcw : ∀ pos, (w.iter s pos).cell? ⟨mb, 1, none⟩ = some (.string s) := fun pos => by
    exact (((Fr.refl (fun _ => False) w).alloc (.stringIter s pos)).cell (p := ⟨mb, 1, none⟩) hm (fun e => e)).trans hc
  have hfw : ∀ pos, Fr (fun _ => False) w (w.iter s pos) := fun pos => (Fr.refl _ w).alloc _
  have HFW := Lib.hid hfw
  have hpos : Hid (LegacyS s → 0 < s.size) := Lib.hid fun h => h.1
  clear hfw
  go_enter Tryz.func141, Tryz.ntmps141
  go_wp2
  go_loopw [] (fun wr => ∃ pos, wr = w.iter s pos) (fun wr => s.size - wr.iterPos w.heap.size)
  case atStart => exact ⟨0, rfl⟩
  case round =>
    obtain ⟨pos, rfl⟩ := hrel
    by_cases hp : pos < s.size
    · have hwd := Lib.width_pos s pos
      have hle := decode_le s pos
      have HNR := Lib.hid (fun hl : LegacyS s => name_rune hl hp)
      have hnx := fun ty => run_next_any (P := Tryz.prog) w s pos ty hp
      obtain ⟨r, hr⟩ : ∃ r, (Utf8.decode s pos).1 = r := ⟨_, rfl⟩
      obtain ⟨K, hK⟩ : ∃ K, (Utf8.decode s pos).2 = K := ⟨_, rfl⟩
      rw [hr] at HNR hle
      simp only [hr, hK] at hnx
      rw [hK] at hwd
      obtain ⟨z, hz⟩ : ∃ z : Int, (r : Int) = z := ⟨_, rfl⟩
      simp only [hz] at hnx
      have HZ := Lib.hid hz
      have hz0 : 0 ≤ z := by omega
      have hle' : z ≤ 2147483647 := by omega
      have HP := Lib.hid hp
      clear hr hK hcw hz hle
      have hcase : (z = 95) ∨ (97 ≤ z ∧ z ≤ 122) ∨ (65 ≤ z ∧ z ≤ 90) ∨ (0 < pos ∧ 48 ≤ z ∧ z ≤ 57) ∨ (z < 48) ∨ (48 ≤ z ∧ z ≤ 57 ∧ pos = 0) ∨ (57 < z ∧ z < 65) ∨ (90 < z ∧ z < 95) ∨ (z = 96) ∨ (122 < z) := by omega
      rcases hcase with rfl | ⟨h1, h2⟩ | ⟨h1, h2⟩ | ⟨h0, h1, h2⟩ | h1 | ⟨h1, h2, rfl⟩ | ⟨h1, h2⟩ | ⟨h1, h2⟩ | rfl | h1
      · -- z = 95
        go_wp2
        all_goals first | (exfalso; omega) | skip
        go_roundw
        case rel => exact ⟨_, rfl⟩
        case measure => rw [World.iterPos_iter, World.iterPos_iter]; omega
      · -- 97 ≤ z ∧ z ≤ 122
        have hne : (z == 95) = false := by rw [beq_eq_false_iff_ne]; omega
        go_wp2
        all_goals first | (exfalso; omega) | skip
        go_roundw
        case rel => exact ⟨_, rfl⟩
        case measure => rw [World.iterPos_iter, World.iterPos_iter]; omega
      · -- 65 ≤ z ∧ z ≤ 90
        have hne : (z == 95) = false := by rw [beq_eq_false_iff_ne]; omega
        go_wp2
        all_goals first | (exfalso; omega) | skip
        go_roundw
        case rel => exact ⟨_, rfl⟩
        case measure => rw [World.iterPos_iter, World.iterPos_iter]; omega
      · -- 0 < pos ∧ 48 ≤ z ∧ z ≤ 57
        have hne : (z == 95) = false := by rw [beq_eq_false_iff_ne]; omega
        go_wp2
        all_goals first | (exfalso; omega) | skip
        go_roundw
        case rel => exact ⟨_, rfl⟩
        case measure => rw [World.iterPos_iter, World.iterPos_iter]; omega
      · -- z < 48
        have hne : (z == 95) = false := by rw [beq_eq_false_iff_ne]; omega
        go_wp2
        all_goals first
          | (exfalso; omega)
          | (go_ret
             exact ⟨⟨true, rfl, fun hl => (by have hz := HZ.out; obtain ⟨b, hb1, hb2⟩ := HNR.out hl; unfold NameB at hb2; omega), fun e => by cases e⟩, HFW.out _⟩)
      · -- 48 ≤ z ∧ z ≤ 57 ∧ pos = 0
        have hne : (z == 95) = false := by rw [beq_eq_false_iff_ne]; omega
        go_wp2
        all_goals first
          | (exfalso; omega)
          | (go_ret
             exact ⟨⟨true, rfl, fun hl => (by have hz := HZ.out; obtain ⟨b, hb1, hb2⟩ := HNR.out hl; unfold NameB at hb2; omega), fun e => by cases e⟩, HFW.out _⟩)
      · -- 57 < z ∧ z < 65
        have hne : (z == 95) = false := by rw [beq_eq_false_iff_ne]; omega
        go_wp2
        all_goals first
          | (exfalso; omega)
          | (go_ret
             exact ⟨⟨true, rfl, fun hl => (by have hz := HZ.out; obtain ⟨b, hb1, hb2⟩ := HNR.out hl; unfold NameB at hb2; omega), fun e => by cases e⟩, HFW.out _⟩)
      · -- 90 < z ∧ z < 95
        have hne : (z == 95) = false := by rw [beq_eq_false_iff_ne]; omega
        go_wp2
        all_goals first
          | (exfalso; omega)
          | (go_ret
             exact ⟨⟨true, rfl, fun hl => (by have hz := HZ.out; obtain ⟨b, hb1, hb2⟩ := HNR.out hl; unfold NameB at hb2; omega), fun e => by cases e⟩, HFW.out _⟩)
      · -- z = 96
        go_wp2
        all_goals first
          | (exfalso; omega)
          | (go_ret
             exact ⟨⟨true, rfl, fun hl => (by have hz := HZ.out; obtain ⟨b, hb1, hb2⟩ := HNR.out hl; unfold NameB at hb2; omega), fun e => by cases e⟩, HFW.out _⟩)
      · -- 122 < z
        have hne : (z == 95) = false := by rw [beq_eq_false_iff_ne]; omega
        go_wp2
        all_goals first
          | (exfalso; omega)
          | (go_ret
             exact ⟨⟨true, rfl, fun hl => (by have hz := HZ.out; obtain ⟨b, hb1, hb2⟩ := HNR.out hl; unfold NameB at hb2; omega), fun e => by cases e⟩, HFW.out _⟩)
    · have hnx := fun ty => run_next_end (P := Tryz.prog) w s pos ty hp
      have hc1 := hcw pos
      clear hcw
      by_cases h0 : s.size = 0
      · have h0' : ((s.size : Int) == 0) = true := by rw [beq_iff_eq]; omega
        go_wp2
        go_ret
        exact ⟨⟨true, by simp [h0], fun hl => (by have := hpos.out hl; omega), fun e => by cases e⟩, HFW.out _⟩
      · have h0' : ((s.size : Int) == 0) = false := by rw [beq_eq_false_iff_ne]; omega
        go_wp2
        go_ret
        exact ⟨⟨false, by simp [h0], fun hl => rfl, fun e => by omega⟩, HFW.out _⟩
end Go.Proofs.YtbkookiigkckdaaGreatDoor

