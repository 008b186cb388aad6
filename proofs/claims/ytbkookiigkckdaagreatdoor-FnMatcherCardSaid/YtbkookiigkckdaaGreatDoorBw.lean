/- bytes.Buffer over a block of whatever type: Write, WriteString. -/
import Derived.Test.YtbkookiigkckdaaGreatDoorBb
import Derived.Test.YtbkookiigkckdaaGreatDoorQa
namespace Go.Proofs.YtbkookiigkckdaaGreatDoor
open Go.RowKit
set_option linter.unusedVariables false
set_option linter.unusedSimpArgs false

theorem add_block (a : Addr) (j : Nat) : (a.add j).block = a.block := by unfold Addr.add; split <;> rfl

/-- The buffer at block b holds the bytes xs: in the head of block g. -/
structure BufAt (W : World) (b g c : Nat) (t : TypeId) (lr : Int) (cur : Array Value) (xs : List Int) : Prop where
  hb : Blk W b 340 #[.slice (some ⟨g, 0, none⟩) xs.length c, .int .i64 0, .int .i8 lr]
  hg : Blk W g t cur
  cs : cur.size = c
  le : xs.length ≤ c
  cm : c ≤ maxLen
  ne : g ≠ b
  tk : cur.toList.take xs.length = ic xs

/-- .. in blocks that were made since w0, of whose blocks none has turned. -/
structure BufIn (w0 W : World) (b : Nat) (xs : List Int) : Prop where
  fr : Fr (fun _ => False) w0 W
  nb : w0.heap.size ≤ b
  at_ : ∃ g c t lr cur, w0.heap.size ≤ g ∧ BufAt W b g c t lr cur xs

/-- What a copy into the row behind the buffer's bytes comes to. -/
theorem buf_written {w0 W : World} {b g c m : Nat} {t : TypeId} {lr : Int} {cur : Array Value} {xs ys : List Int} (hf : Fr (fun _ => False) w0 W) (hnb : w0.heap.size ≤ b) (hng : w0.heap.size ≤ g) (hb : Blk W b 340 #[.slice (some ⟨g, 0, none⟩) m c, .int .i64 0, .int .i8 lr])
    (hm : m = xs.length + ys.length) (hg : Blk W g t cur) (hcs : cur.size = c) (hle : xs.length + ys.length ≤ c) (hcm : c ≤ maxLen) (hne : g ≠ b) (htk : cur.toList.take xs.length = ic xs) :
    BufIn w0 (W.setRow g (cur.toList.take xs.length ++ ic ys ++ cur.toList.drop (xs.length + ys.length)).toArray) b (xs ++ ys) := by
  subst hm
  have hl : (xs ++ ys).length = xs.length + ys.length := List.length_append
  have hcl : cur.toList.length = c := by rw [Array.length_toList, hcs]
  refine ⟨⟨hf.os, hf.tape, hf.output, by simpa using hf.size, fun k hk _ => ?_⟩, hnb, g, c, t, lr, _, hng, ⟨?_, setRow_heap _ _ cur _ t (0, 0) hg, ?_, by rw [hl]; exact hle, hcm, hne, ?_⟩⟩
  · rw [setRow_other _ _ _ _ (by omega)]
    exact hf.block k hk (fun e => e)
  · show _ = _
    rw [setRow_other _ _ _ _ hne.symm, hl]
    exact hb
  · rw [List.size_toArray, List.length_append, List.length_append, List.length_take, List.length_drop, hcl, ic_len]
    omega
  · rw [htk, ← ic_append, hl]
    exact List.take_left' (by rw [ic_len, hl])

set_option maxHeartbeats 4000000 in
set_option maxRecDepth 100000 in
theorem bufWrite_any (w0 : World) (b : Nat) (xs ys : List Int) (a : Addr) (cp : Nat) (w : World) (hB : BufIn w0 w b xs) (hab : a.block ≠ b) (hal : a.block < w.heap.size) (hsrc : ∀ j v, (ic ys)[j]? = some v → w.cell? (a.add j) = some v) (hy : 1 ≤ ys.length)
    (hlim : xs.length + ys.length ≤ 140737488355328) :
    Calls Tryz.prog 142 #[.pointer (some ⟨b, 0, none⟩), .slice (some a) ys.length cp] w fun e w' => (∃ r, e = .returned r) ∧ BufIn w0 w' b (xs ++ ys) := by
  obtain ⟨i5, hi, hz0, hz1, hz2⟩ := info_parts Tryz.info5
  have hinfo : (Tryz.prog.info? 5).map (·.size) = some 1 := by rw [hi]; exact congrArg some hz1
  obtain ⟨hf, hnb, g, c, t, lr, cur, hng, hb, hg, hcs, hle, hcm, hne, htk⟩ := hB
  have c2 : w.cell? ⟨b, 2, none⟩ = some (.int .i8 lr) := hb.cell 2
  have f2 := hb.frozen 2
  have hb' : Blk (w.setCell ⟨b, 2, none⟩ (.int .i8 0)) b 340 #[.slice (some ⟨g, 0, none⟩) xs.length c, .int .i64 0, .int .i8 0] := hb.set_ 2 _
  have hg' : Blk (w.setCell ⟨b, 2, none⟩ (.int .i8 0)) g t cur := hg.far (p := ⟨b, 2, none⟩) hne _
  have hf' : Fr (fun _ => False) w0 (w.setCell ⟨b, 2, none⟩ (.int .i8 0)) := hf.setCell (p := ⟨b, 2, none⟩) (.inr hnb) _
  have hsrc' : ∀ j v, (ic ys)[j]? = some v → (w.setCell ⟨b, 2, none⟩ (.int .i8 0)).cell? (a.add j) = some v := fun j v hj => by
    rw [World.cell?_of_block (w := w) (Below.heap_setCell _ _ _ _ (by rw [add_block]; exact hab))]
    exact hsrc j v hj
  have hal' : a.block < (w.setCell ⟨b, 2, none⟩ (.int .i8 0)).heap.size := by simpa [World.setCell] using hal
  have h1 : ∀ v ∈ cur.toList.take xs.length, v.oneCell' = true := by rw [htk]; exact ic_one xs
  obtain ⟨W1, hW1⟩ : ∃ W1, w.setCell ⟨b, 2, none⟩ (.int .i8 0) = W1 := ⟨_, rfl⟩
  rw [hW1] at hb' hg' hf' hsrc' hal'
  have HW1 := Lib.hid hW1
  have HB := Lib.hid hb'
  have HG := Lib.hid hg'
  have HF := Lib.hid hf'
  have HS := Lib.hid hsrc'
  have hyl : (ic ys).length = ys.length := ic_len ys
  clear hb hg hf hb' hg' hf' hW1 hsrc hsrc'
  by_cases hroom : ys.length ≤ c - xs.length
  · have hne0 : ¬ c = xs.length := by omega
    have hcall := tryGrow_room b (some ⟨g, 0, none⟩) xs.length c 0 W1 HB.out hle hcm ys.length hroom
    obtain ⟨W2, hW2⟩ : ∃ W2, W1.setCell ⟨b, 0, none⟩ (.slice (some ⟨g, 0, none⟩) (xs.length + ys.length) c) = W2 := ⟨_, rfl⟩
    rw [hW2] at hcall
    have hb2 : Blk W2 b 340 #[.slice (some ⟨g, 0, none⟩) (xs.length + ys.length) c, .int .i64 0, .int .i8 0] := by rw [← hW2]; exact HB.out.set_ 0 _
    have hg2 : Blk W2 g t cur := by rw [← hW2]; exact HG.out.far (p := ⟨b, 0, none⟩) hne _
    have hf2 : Fr (fun _ => False) w0 W2 := by rw [← hW2]; exact HF.out.setCell (p := ⟨b, 0, none⟩) (.inr hnb) _
    have hs2 : ∀ j v, (ic ys)[j]? = some v → W2.cell? (a.add j) = some v := fun j v hj => by
      rw [← hW2, World.cell?_of_block (w := W1) (Below.heap_setCell _ _ _ _ (by rw [add_block]; exact hab))]
      exact HS.out j v hj
    have d0 : W2.cell? ⟨b, 0, none⟩ = some (.slice (some ⟨g, 0, none⟩) (xs.length + ys.length) c) := hb2.cell 0
    have hcp := run_copy_row (P := Tryz.prog) W2 44 44 3 5 g xs.length ys.length (c - xs.length) a ys.length cp cur t (ic ys) Tryz.underlying44 hinfo hg2 (by rw [hyl]; exact (Nat.min_self _).symm) hs2 (by rw [hyl]; omega) (ic_one ys)
    rw [hyl] at hcp
    have HE := Lib.hid (buf_written hf2 hnb hng hb2 rfl hg2 hcs (by omega) hcm hne htk)
    have hcm' := hcm
    unfold maxLen at hcm'
    generalize W2.setRow g (cur.toList.take xs.length ++ ic ys ++ cur.toList.drop (xs.length + ys.length)).toArray = W3 at hcp HE
    clear hb2 hg2 hf2 hW2 htk h1 HB HG HF HS hs2
    generalize xs.length = L at *
    generalize ys.length = M at *
    go_enter Tryz.func142, Tryz.ntmps142
    go_wp2_with (go_at_call 216; rw [HW1.out]; refine hcall.mono ?_; rintro e w' ⟨rfl, rfl⟩)
    go_ret2
    exact ⟨⟨_, rfl⟩, HE.out⟩
  · have hcall := tryGrow_none b (some ⟨g, 0, none⟩) xs.length c 0 W1 HB.out hle hcm ys.length (by omega)
    have hgrow := grow_any b g xs.length c ys.length t 0 cur W1 HB.out HG.out hcs hle hne h1 (by omega) hlim
    have HBl := Lib.hid HB.out.lt
    have HTK := Lib.hid htk
    have HX : Hid (∀ W2 cells cap2 g', w0.heap.size ≤ W1.heap.size → W1.heap.size ≤ g' → Blk W2 b 340 #[.slice (some ⟨g', 0, none⟩) (xs.length + ys.length) cap2, .int .i64 0, .int .i8 0] → Blk W2 g' 5 cells → cells.size = cap2 → cells.toList.take xs.length = cur.toList.take xs.length →
        xs.length + ys.length ≤ cap2 → cap2 ≤ maxLen → Fr (fun k => k = b) W1 W2 → ∃ W3, (Builtin.copy_ #[44, 44] 3 #[.slice (some ⟨g', xs.length, none⟩) ys.length (cap2 - xs.length), .slice (some a) ys.length cp]).run Tryz.prog W2 = .ok (goInt ys.length) W3 ∧ BufIn w0 W3 b (xs ++ ys)) := Lib.hid (fun W2 cells cap2 g' hsz hg'n hb2 hg2 hcs2 htk2 hle2 hcm2 hfr2 => by
      have hf2 : Fr (fun _ => False) w0 W2 := HF.out.trans hfr2 (fun k hk e => by omega)
      have hs2 : ∀ j v, (ic ys)[j]? = some v → W2.cell? (a.add j) = some v := fun j v hj => by
        rw [hfr2.cell (by rw [add_block]; exact hal') (by rw [add_block]; exact hab)]
        exact HS.out j v hj
      have hcp := run_copy_row (P := Tryz.prog) W2 44 44 3 5 g' xs.length ys.length (cap2 - xs.length) a ys.length cp cells 5 (ic ys) Tryz.underlying44 hinfo hg2 (by rw [hyl]; exact (Nat.min_self _).symm) hs2 (by rw [hyl]; omega) (ic_one ys)
      rw [hyl] at hcp
      exact ⟨_, hcp, buf_written hf2 hnb (by omega) hb2 rfl hg2 hcs2 hle2 hcm2 (by have := HBl.out; omega) (htk2.trans HTK.out)⟩)
    have hsz : Hid (w0.heap.size ≤ W1.heap.size) := Lib.hid HF.out.size
    have hcm' := hcm
    unfold maxLen at hcm'
    clear htk h1 HB HG HF HS
    generalize xs.length = L at *
    generalize ys.length = M at *
    go_enter Tryz.func142, Tryz.ntmps142
    go_wp2_with (first
      | (go_at_call 216; rw [HW1.out]; refine hcall.mono ?_; rintro e w' ⟨rfl, rfl⟩)
      | (go_at_call 217; refine hgrow.mono ?_; rintro e W2 ⟨rfl, g', cap2, cells, hg'n, hb2, hg2, hcs2, htk2, hle2, hcm2, hfr2⟩
         obtain ⟨W3, hcp, hE⟩ := HX.out W2 cells cap2 g' hsz.out hg'n hb2 hg2 hcs2 htk2 hle2 hcm2 hfr2
         have HE := Lib.hid hE
         have d0 : W2.cell? ⟨b, 0, none⟩ = some (.slice (some ⟨g', 0, none⟩) (L + M) cap2) := hb2.cell 0
         have hne0 : ¬ cap2 = L := by omega
         unfold maxLen at hcm2
         clear hE hb2 hg2 hcs2 htk2 hfr2 hg'n))
    go_ret2
    exact ⟨⟨_, rfl⟩, HE.out⟩

set_option maxHeartbeats 4000000 in
set_option maxRecDepth 100000 in
theorem bufWriteString_any (w0 : World) (b : Nat) (xs : List Int) (s : ByteArray) (w : World) (hB : BufIn w0 w b xs) (hy : 1 ≤ s.size) (hlim : xs.length + s.size ≤ 140737488355328) :
    Calls Tryz.prog 145 #[.pointer (some ⟨b, 0, none⟩), .string s] w fun e w' => (∃ r, e = .returned r) ∧ BufIn w0 w' b (xs ++ s.data.toList.map fun b => (b.toNat : Int)) := by
  obtain ⟨ys, hys⟩ : ∃ ys : List Int, (s.data.toList.map fun b => (b.toNat : Int)) = ys := ⟨_, rfl⟩
  have hbc : ic ys = Lib.byteCells s.data.toList := by rw [← hys]; exact ic_bytes _
  have hyn : ys.length = s.size := by rw [← hys, List.length_map, ← Lib.size_eq]
  rw [hys]
  rw [← hyn] at hy hlim
  obtain ⟨i5, hi, hz0, hz1, hz2⟩ := info_parts Tryz.info5
  have hinfo : (Tryz.prog.info? 5).map (·.size) = some 1 := by rw [hi]; exact congrArg some hz1
  obtain ⟨hf, hnb, g, c, t, lr, cur, hng, hb, hg, hcs, hle, hcm, hne, htk⟩ := hB
  have c2 : w.cell? ⟨b, 2, none⟩ = some (.int .i8 lr) := hb.cell 2
  have f2 := hb.frozen 2
  have hb' : Blk (w.setCell ⟨b, 2, none⟩ (.int .i8 0)) b 340 #[.slice (some ⟨g, 0, none⟩) xs.length c, .int .i64 0, .int .i8 0] := hb.set_ 2 _
  have hg' : Blk (w.setCell ⟨b, 2, none⟩ (.int .i8 0)) g t cur := hg.far (p := ⟨b, 2, none⟩) hne _
  have hf' : Fr (fun _ => False) w0 (w.setCell ⟨b, 2, none⟩ (.int .i8 0)) := hf.setCell (p := ⟨b, 2, none⟩) (.inr hnb) _
  have h1 : ∀ v ∈ cur.toList.take xs.length, v.oneCell' = true := by rw [htk]; exact ic_one xs
  obtain ⟨W1, hW1⟩ : ∃ W1, w.setCell ⟨b, 2, none⟩ (.int .i8 0) = W1 := ⟨_, rfl⟩
  rw [hW1] at hb' hg' hf'
  have HW1 := Lib.hid hW1
  have HB := Lib.hid hb'
  have HG := Lib.hid hg'
  have HF := Lib.hid hf'
  have hyl : (ic ys).length = ys.length := ic_len ys
  clear hb hg hf hb' hg' hf' hW1
  by_cases hroom : ys.length ≤ c - xs.length
  · have hne0 : ¬ c = xs.length := by omega
    have hcall := tryGrow_room b (some ⟨g, 0, none⟩) xs.length c 0 W1 HB.out hle hcm ys.length hroom
    obtain ⟨W2, hW2⟩ : ∃ W2, W1.setCell ⟨b, 0, none⟩ (.slice (some ⟨g, 0, none⟩) (xs.length + ys.length) c) = W2 := ⟨_, rfl⟩
    rw [hW2] at hcall
    have hb2 : Blk W2 b 340 #[.slice (some ⟨g, 0, none⟩) (xs.length + ys.length) c, .int .i64 0, .int .i8 0] := by rw [← hW2]; exact HB.out.set_ 0 _
    have hg2 : Blk W2 g t cur := by rw [← hW2]; exact HG.out.far (p := ⟨b, 0, none⟩) hne _
    have hf2 : Fr (fun _ => False) w0 W2 := by rw [← hW2]; exact HF.out.setCell (p := ⟨b, 0, none⟩) (.inr hnb) _
    have d0 : W2.cell? ⟨b, 0, none⟩ = some (.slice (some ⟨g, 0, none⟩) (xs.length + ys.length) c) := hb2.cell 0
    have hcp := Lib.run_copy_row_string (P := Tryz.prog) W2 44 9 3 5 g xs.length ys.length (c - xs.length) s cur t Tryz.underlying44 hinfo hg2 (by omega) (by omega)
    rw [← hbc, ← hyn] at hcp
    have HE := Lib.hid (buf_written hf2 hnb hng hb2 rfl hg2 hcs (by omega) hcm hne htk)
    have hcm' := hcm
    unfold maxLen at hcm'
    generalize W2.setRow g (cur.toList.take xs.length ++ ic ys ++ cur.toList.drop (xs.length + ys.length)).toArray = W3 at hcp HE
    clear hb2 hg2 hf2 hW2 htk h1 HB HG HF
    have HBC := Lib.hid hbc
    have HYS := Lib.hid hys
    clear hbc hys
    generalize xs.length = L at *
    generalize ys.length = M at *
    subst hyn
    go_enter Tryz.func145, Tryz.ntmps145
    go_wp2_with (go_at_call 216; rw [HW1.out]; refine hcall.mono ?_; rintro e w' ⟨rfl, rfl⟩)
    go_ret2
    exact ⟨⟨_, rfl⟩, HE.out⟩
  · have hcall := tryGrow_none b (some ⟨g, 0, none⟩) xs.length c 0 W1 HB.out hle hcm ys.length (by omega)
    have hgrow := grow_any b g xs.length c ys.length t 0 cur W1 HB.out HG.out hcs hle hne h1 (by omega) hlim
    have HBl := Lib.hid HB.out.lt
    have HTK := Lib.hid htk
    have HX : Hid (∀ W2 cells cap2 g', w0.heap.size ≤ W1.heap.size → W1.heap.size ≤ g' → Blk W2 b 340 #[.slice (some ⟨g', 0, none⟩) (xs.length + ys.length) cap2, .int .i64 0, .int .i8 0] → Blk W2 g' 5 cells → cells.size = cap2 → cells.toList.take xs.length = cur.toList.take xs.length →
        xs.length + ys.length ≤ cap2 → cap2 ≤ maxLen → Fr (fun k => k = b) W1 W2 → ∃ W3, (Builtin.copy_ #[44, 9] 3 #[.slice (some ⟨g', xs.length, none⟩) ys.length (cap2 - xs.length), .string s]).run Tryz.prog W2 = .ok (goInt ys.length) W3 ∧ BufIn w0 W3 b (xs ++ ys)) := Lib.hid (fun W2 cells cap2 g' hsz hg'n hb2 hg2 hcs2 htk2 hle2 hcm2 hfr2 => by
      have hf2 : Fr (fun _ => False) w0 W2 := HF.out.trans hfr2 (fun k hk e => by omega)
      have hcp := Lib.run_copy_row_string (P := Tryz.prog) W2 44 9 3 5 g' xs.length ys.length (cap2 - xs.length) s cells 5 Tryz.underlying44 hinfo hg2 (by omega) (by omega)
      rw [← hbc, ← hyn] at hcp
      exact ⟨_, hcp, buf_written hf2 hnb (by omega) hb2 rfl hg2 hcs2 hle2 hcm2 (by have := HBl.out; omega) (htk2.trans HTK.out)⟩)
    have hsz : Hid (w0.heap.size ≤ W1.heap.size) := Lib.hid HF.out.size
    have hcm' := hcm
    unfold maxLen at hcm'
    clear htk h1 HB HG HF
    have HBC := Lib.hid hbc
    have HYS := Lib.hid hys
    clear hbc hys
    generalize xs.length = L at *
    generalize ys.length = M at *
    subst hyn
    go_enter Tryz.func145, Tryz.ntmps145
    go_wp2_with (first
      | (go_at_call 216; rw [HW1.out]; refine hcall.mono ?_; rintro e w' ⟨rfl, rfl⟩)
      | (go_at_call 217; refine hgrow.mono ?_; rintro e W2 ⟨rfl, g', cap2, cells, hg'n, hb2, hg2, hcs2, htk2, hle2, hcm2, hfr2⟩
         obtain ⟨W3, hcp, hE⟩ := HX.out W2 cells cap2 g' hsz.out hg'n hb2 hg2 hcs2 htk2 hle2 hcm2 hfr2
         have HE := Lib.hid hE
         have d0 : W2.cell? ⟨b, 0, none⟩ = some (.slice (some ⟨g', 0, none⟩) (L + s.size) cap2) := hb2.cell 0
         have hne0 : ¬ cap2 = L := by omega
         unfold maxLen at hcm2
         clear hE hb2 hg2 hcs2 htk2 hfr2 hg'n))
    go_ret2
    exact ⟨⟨_, rfl⟩, HE.out⟩

end Go.Proofs.YtbkookiigkckdaaGreatDoor
