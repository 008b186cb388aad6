/- impl.RecordLabels' closure. -/
import Derived.Test.YtbkookiigkckdaaGreatDoorLw
import Derived.Test.YtbkookiigkckdaaGreatDoorLg
import Derived.Test.YtbkookiigkckdaaGreatDoorLu
import Derived.Test.YtbkookiigkckdaaGreatDoorLo
import Derived.Test.YtbkookiigkckdaaGreatDoorTy
import Derived.Test.YtbkookiigkckdaaGreatDoorWb
namespace Go.Proofs.YtbkookiigkckdaaGreatDoor
open Go.RowKit
set_option linter.unusedVariables false
set_option linter.unusedSimpArgs false

set_option maxRecDepth 100000 in
theorem scratch_own (w : World) : Calls Tryz.prog 129 #[.int .i64 0] w (NewEnds (fun v w' => ∃ g, v = .agg #[.slice (some ⟨g, 0, none⟩) 0 0, .string ⟨#[]⟩, .slice none 0 0] ∧ w'.ownsRow w.heap.size 108 2 (.slice (some ⟨g, 0, none⟩) 0 0) 0 []) w) := by
  obtain ⟨i0, hi0, hz0, hz1, hz2⟩ := info_parts Tryz.info108
  have hms : ∀ W : World, (Instr.makeSlice 115 (.int .i64 0) (.int .i64 0)).run Tryz.prog W = .ok (.slice (some ⟨W.heap.size, 0, none⟩) 0 0) (W.alloc (.cells #[] 108)) := fun W => by
    have h := run_make (P := Tryz.prog) W 115 108 i0 _ Tryz.underlying115 hi0 hz0 .i64 .i64 0 0 (by omega) (by omega) (by omega) (by omega)
    simp [madeCells, hz1, Array.range_zero'] at h
    exact h
  go_enter Tryz.func129, Tryz.ntmps129
  go_wp2_with fail
  simp [Exit.then, bodyPost, results, Tryz.results129, go_sem]
  refine ⟨_, rfl, ⟨w.heap.size + 1, rfl, ?_⟩, (((Fr.refl _ w).alloc _).alloc _)⟩
  have h := World.ownsRow_made (base := w.heap.size) (e := 108) (size := 2) (w.alloc (.cells #[.slice (some ⟨w.heap.size + 1, 0, none⟩) 0 0, .string ⟨#[]⟩, .slice none 0 0] 117)) #[] 0 (by simp) (Nat.zero_le _) rfl
  simpa using h

/-- NewDecoder, its builder's row known. -/
theorem newDec_own (v : Value) (w : World) : Calls Tryz.prog 67 #[v] w (NewEnds (fun v w' => ∃ g, v = .agg #[.slice (some ⟨g, 0, none⟩) 0 0, .string ⟨#[]⟩, .slice none 0 0] ∧ w'.ownsRow w.heap.size 108 2 (.slice (some ⟨g, 0, none⟩) 0 0) 0 []) w) := by
  have hS := scratch_own (w.alloc (.cells #[.slice none 0 0, .string ⟨#[]⟩, .slice none 0 0] 119))
  go_enter Tryz.func67, Tryz.ntmps67
  go_wp2_with (refine hS.mono ?_; rintro r w1 ⟨v1, rfl, ⟨a, rfl, ho1⟩, hf1⟩; refine Hid.out ?_)
  have hB := (Blk.new w 119 #[.slice none 0 0, .string ⟨#[]⟩, .slice none 0 0]).fr hf1 (fun e => e)
  have k0 := hB.cell 0
  have k1 := hB.cell 1
  have k2 := hB.cell 2
  have z0 := hB.frozen 0
  have z1 := hB.frozen 1
  have z2 := hB.frozen 2
  simp at k0 k1 k2
  have m1 := hB.set_ 0 (.slice (some ⟨a, 0, none⟩) 0 0)
  have m2 := m1.set_ 1 (.string ⟨#[]⟩)
  have m3 := m2.set_ 2 (.slice none 0 0)
  have e0 := m1.cell 0
  have e1 := m2.cell 1
  have e2 := m3.cell 2
  simp only [List.size_toArray, List.length_cons, List.setIfInBounds_toArray, List.set_cons_zero, List.set_cons_succ, List.getElem?_toArray, List.getElem?_cons_zero, List.getElem?_cons_succ] at e0 e1 e2
  have HF := Lib.hid ((((Fr.refl (fun _ => False) w).alloc _).same hf1))
  have HB := Lib.hid hB
  clear hS hf1 hB m1 m2 m3
  refine Lib.hid ?_
  go_wp2_with fail
  simp [Exit.then, bodyPost, results, Tryz.results67, go_sem, e0, e1, e2]
  refine ⟨_, rfl, ⟨a, rfl, ?_⟩, ((HF.out.setCell (p := ⟨w.heap.size, 0, none⟩) (.inr (Nat.le_refl _)) _).setCell (p := ⟨w.heap.size, 1, none⟩) (.inr (Nat.le_refl _)) _).setCell (p := ⟨w.heap.size, 2, none⟩) (.inr (Nat.le_refl _)) _⟩
  have hO := own_mono ho1 (show w.heap.size ≤ _ by simp)
  exact own_fr (S := fun k => k = w.heap.size) hO (((Fr.at_ w1 w.heap.size 0 _).setCell (p := ⟨w.heap.size, 1, none⟩) (.inl rfl) _).setCell (p := ⟨w.heap.size, 2, none⟩) (.inl rfl) _) (fun g hg e => own_ne ho1 HB.out (by decide) (by rw [hg]; exact congrArg some e))



theorem own_empty5 (W : World) (base : Nat) (h : base ≤ W.heap.size) : (W.alloc (.cells #[] 5)).ownsRow base 5 1 (.slice (some ⟨W.heap.size, 0, none⟩) 0 0) 0 [] :=
  World.ownsRow_made (base := base) (e := 5) (size := 1) W #[] 0 h (Nat.zero_le _) rfl

/-- A fresh Decbuf over a row of bytes. -/
theorem dec_new {te : TypeId} {pe : Value} {W : World} {d base n : Nat} {v : Value} {zs : List UInt8} (hb : Blk W d 229 #[v, .nilIface]) (ho : W.ownsRow base 5 1 v n (bc zs)) (hn : zs.length = n) (h0 : 0 < n) (h40 : n ≤ 1099511627776) (hE : W.cell? ⟨2, 0, none⟩ = some (.iface te pe)) :
    ∃ g cur, Dec te pe W d g cur (some zs) := by
  rcases ho.2 with ⟨_, h⟩ | ⟨g, cap, cur, rfl, hg, hh, h4, h5, _, h6⟩
  · omega
  · refine ⟨g, cur, 0, cap, by rw [hn]; exact hb, hh, by omega, ⟨by simp [maxLen] at h5; omega, by omega⟩, fun j u hu => ?_, hE⟩
    rw [Nat.zero_add, ← Array.getElem?_toList]
    have hj : j < zs.length := by
      rcases Nat.lt_or_ge j zs.length with h | h
      · exact h
      · rw [List.getElem?_eq_none (by rw [bc_len]; exact h)] at hu; cases hu
    rw [← h6, List.getElem?_take_of_lt (by omega)] at hu
    exact hu

theorem gLabs_len {st : St} : ∀ k, (gLabs st k).1.length = k
  | 0 => rfl
  | k + 1 => by rw [gLabs, List.length_append, gLabs_len k]; rfl

/-- What RecordLabels' closure leaves in its variables. -/
def RecLab (w0 : World) (l : List Lab) (ys : List UInt8) (bb bk br bo : Nat) (w' : World) : Prop :=
  ∃ bv kv, (∃ a m c, bv = .slice a m c) ∧ Blk w' bb 44 #[bv] ∧ Blk w' bk 31 #[kv] ∧ Blk w' br 3 #[.int .i64 ys.length] ∧ Blk w' bo 4 #[.bool true] ∧ w'.ownsRow w0.heap.size 40 2 kv l.length ((sortL l).flatMap labc)

theorem made_enc (w : World) : Enc (w.alloc (.cells #[.slice none 0 0, .int .u8 0, .int .u8 0, .int .u8 0, .int .u8 0, .int .u8 0, .int .u8 0, .int .u8 0, .int .u8 0, .int .u8 0, .int .u8 0] 224)) w.heap.size none [] :=
  ⟨.slice none 0 0, _, Blk.new w 224 _, rfl, rfl, World.ownsRow_nil _ _ _ _, rfl⟩

set_option maxRecDepth 100000 in
set_option maxHeartbeats 4000000 in
theorem recordLabels1_any (te : TypeId) (pe : Value) (P Q : Nat → Prop) (w0 : World) (bl bb ba bk br bo : Nat) (lv av z0 z1 z2 z3 : Value) (l : List Lab) (ys : List UInt8) (w : World)
    (hl : Blk w bl 31 #[lv]) (hb : Blk w bb 44 #[z0]) (ha : Blk w ba 44 #[av]) (hk : Blk w bk 31 #[z1]) (hr : Blk w br 3 #[z2]) (ho : Blk w bo 4 #[z3]) (hba : bb ≠ ba) (hlk : bl ≠ bk)
    (hS : Sl P w lv 2 l.length (l.flatMap labc)) (hA : Sl Q w av 1 ys.length (bc ys)) (hll : l.length ≤ 12) (hsz : ∀ p ∈ l, p.1.size ≤ 1048576 ∧ p.2.size ≤ 1048576) (hun : l.Pairwise (fun a b => a.1 ≠ b.1)) (hyl : ys.length ≤ 1073741824)
    (hP : ∀ g, P g → g < w0.heap.size) (hQ : ∀ g, Q g → g < w0.heap.size) (hw0 : w0.heap.size ≤ w.heap.size) (hb0 : w0.heap.size ≤ bb) (hk0 : w0.heap.size ≤ bk) (hr0 : w0.heap.size ≤ br) (ho0 : w0.heap.size ≤ bo) (hE : w.cell? ⟨2, 0, none⟩ = some (.iface te pe)) (h20 : 2 < w0.heap.size) :
    Calls Tryz.prog 114 #[.pointer (some ⟨bl, 0, none⟩), .pointer (some ⟨bb, 0, none⟩), .pointer (some ⟨ba, 0, none⟩), .pointer (some ⟨bk, 0, none⟩), .pointer (some ⟨br, 0, none⟩), .pointer (some ⟨bo, 0, none⟩)] w
      fun r w' => r = .returned (.tuple #[]) ∧ RecLab w0 l ys bb bk br bo w' ∧ Fr (fun k => k = bb ∨ k = bk ∨ k = br ∨ k = bo) w w' := by
  obtain ⟨i5, hi5, hz0, hz1, hz2⟩ := info_parts Tryz.info5
  obtain ⟨W1, hW1⟩ : ∃ W1, w.alloc (.cells #[.slice none 0 0, .int .u8 0, .int .u8 0, .int .u8 0, .int .u8 0, .int .u8 0, .int .u8 0, .int .u8 0, .int .u8 0, .int .u8 0, .int .u8 0] 224) = W1 := ⟨_, rfl⟩
  have F1 : Fr (fun _ => False) w W1 := by rw [← hW1]; exact (Fr.refl _ w).alloc _
  have hE1 : Enc W1 w.heap.size none [] := by rw [← hW1]; exact made_enc w
  have c1 : W1.cell? ⟨bl, 0, none⟩ = some lv := (hl.fr F1 (fun e => e)).cell 0
  have hMade := made_any P lv l W1 (hS.fr F1 (fun _ _ e => e)) hll hsz
  obtain ⟨A, c, rfl⟩ : ∃ A c, lv = .slice A l.length c := let ⟨A, c, h, _⟩ := hS; ⟨A, c, h⟩
  have XL := Lib.hid hl
  have XB := Lib.hid hb
  have XA := Lib.hid ha
  have XK := Lib.hid hk
  have XR := Lib.hid hr
  have XO := Lib.hid ho
  have XBA := Lib.hid hba
  have XSA := Lib.hid hA
  have XSZ := Lib.hid hsz
  have XUN := Lib.hid hun
  have XQ := Lib.hid hQ
  have XN := Lib.hid (And.intro hw0 (And.intro hb0 (And.intro hk0 (And.intro hr0 (And.intro ho0 h20)))))
  have XE := Lib.hid hE
  have HF1 := Lib.hid F1
  have HE1 := Lib.hid hE1
  have XLL := Lib.hid hll
  have XYL := Lib.hid hyl
  clear hl hb ha hk hr ho hba hlk hS hA hll hsz hun hyl hP hQ hw0 hb0 hk0 hr0 ho0 hE h20 F1 hE1
  obtain ⟨n, hn⟩ : ∃ n, l.length = n := ⟨_, rfl⟩
  rw [hn] at c1 hMade
  have HN := Lib.hid hn
  clear hn
  go_enter Tryz.func114, Tryz.ntmps114
  go_wp2_with (first
    | (go_at_call 54
       refine hMade.mono ?_
       rintro r w2 ⟨l', hperm, hsort, rfl, hf2⟩
       have hEnc := encodeLabels_any w.heap.size none [] l' w2 (enc_fr HE1.out hf2 (fun e => e) (fun _ _ e => e)) (by simp) (by have h1 := hperm.length_eq; have := XLL.out; omega) (perm_small hperm XSZ.out)
       have hl' := Lib.hid (sorted_same l l' hperm hsort XUN.out)
       have HF2 := Lib.hid hf2
       clear hperm hsort hf2)
    | (go_at_call 115; refine hEnc.mono ?_; rintro r w3 ⟨rfl, hp3⟩; refine Hid.out ?_))
  obtain ⟨o3, hE3, hf3, ho3⟩ := hp3
  have hw1 : w.heap.size ≤ W1.heap.size := HF1.out.size
  have F3 : Fr (fun _ => False) w w3 := (HF1.out.same HF2.out).trans hf3 (fun k hk e => by rcases e with e | e; (· omega); (· cases e))
  have G4 := fun W => encGet w.heap.size o3 ([] ++ encLabs l') W
  have HE3 := Lib.hid hE3
  have HF3 := Lib.hid F3
  have hlen : (encLabs l').length ≤ 1073741824 := by
    have h1 := encLabs_len l' (by rw [hl'.out]; exact fun p hp => XSZ.out p ((lsort_sorted ltL ltL_trans ltL_irrefl ltL_ntrans l).2.mem_iff.mp hp))
    have h2 : l'.length ≤ 12 := by rw [hl'.out, lsort_length]; exact XLL.out
    have h3 : l'.length * 2097172 ≤ 12 * 2097172 := Nat.mul_le_mul_right _ h2
    have h4 := Lib.uvarint_length64 (x := l'.length) (by omega)
    rw [encLabs, List.length_append]; omega
  rw [List.nil_append] at G4
  obtain ⟨xs, hxs⟩ : ∃ xs, encLabs l' = xs := ⟨_, rfl⟩
  rw [hxs] at G4 hlen
  have HXS := Lib.hid hxs
  have hE3x : Hid (Enc w3 w.heap.size o3 xs) := Lib.hid (by rw [← hxs]; simpa using hE3)
  have HLEN := Lib.hid hlen
  clear hE3 hf3 ho3 F3 HE3 hEnc hxs c1 hMade hlen
  refine Lib.hid ?_
  go_wp2_with (first
    | (go_at_call 116
       refine (G4 _ (enc_fr hE3x.out ((Fr.refl (fun _ => False) w3).alloc _) (fun e => e) (fun _ _ e => e))).mono ?_
       rintro r w4 ⟨v4, rfl, rfl, hown4, hob4⟩
       have hsrc4 := Lib.hid (src_sl (tx := 44) Tryz.underlying44 (Sl.ofOwn hown4) (bc_one xs))
       obtain ⟨a4, n4, k4, rfl⟩ := own_slice hown4
       clear hown4)
    | (at_builtin; refine Hid.out ?_))
  have hw3 := HF3.out.size
  obtain ⟨n1, n2, n3, n4', n5, n6⟩ := XN.out
  refine Lib.hid ?_
  refine wpList_append_src _ rfl _ _ 44 44 rfl w0.heap.size 5 i5 (.int .u8 0) 1 1 Tryz.underlying44 hi5 hz0 hz1 hz2 rfl (by decide) (.slice (some ⟨w3.heap.size, 0, none⟩) 0 0) 0 [] rfl (own_empty5 w3 _ (by omega)) _ xs.length (bc xs) rfl hsrc4.out (by unfold maxLen; have := HLEN.out; omega) (by have := HLEN.out; omega) (by simp; omega) ?_
  intro v5 w5 hown5 hgrow5 hat5
  rw [Nat.zero_add, List.nil_append] at hown5
  obtain ⟨a5, k5, rfl⟩ := own_slice' hown5
  have F5 : Fr (fun _ => False) w w5 := (HF3.out.alloc _).grown hgrow5 (fun k hk => .inr (by have hk : w3.heap.size = k := Option.some.inj hk; omega))
  have B5 := XB.out.fr F5 (fun e => e)
  have y0 := B5.cell 0
  have y1 := B5.frozen 0
  simp at y0
  have F6 : Fr (fun k => k = bb) w (w5.setCell ⟨bb, 0, none⟩ (.slice a5 xs.length k5)) := (F5.mono (S' := fun k => k = bb) (fun _ _ e => e.elim)).setCell (p := ⟨bb, 0, none⟩) (.inl rfl) _
  have O6 : (w5.setCell ⟨bb, 0, none⟩ (.slice a5 xs.length k5)).ownsRow w0.heap.size 5 1 (.slice a5 xs.length k5) xs.length (bc xs) := own_fr (S := fun k => k = bb) hown5 (Fr.at_ w5 bb 0 _) (fun k hk e => own_ne hown5 B5 (by decide) (by rw [hk]; exact congrArg some e))
  have B6 : Blk (w5.setCell ⟨bb, 0, none⟩ (.slice a5 xs.length k5)) bb 44 #[.slice a5 xs.length k5] := by simpa using B5.set_ 0 (.slice a5 xs.length k5)
  have HF6 := Lib.hid F6
  have HO6 := Lib.hid O6
  have HB6 := Lib.hid B6
  clear F5 B5 F6 O6 B6 hown5 hgrow5 hat5 hsrc4 hob4
  go_wp2_with (go_at_call 67; refine Hid.out ?_)
  generalize w5.setCell ⟨bb, 0, none⟩ (.slice a5 xs.length k5) = W6 at HF6 HO6 HB6 ⊢
  refine Lib.hid ?_
  refine (newDec_own _ W6).mono ?_
  rintro r w7 ⟨v7, rfl, ⟨g7, rfl, hown7⟩, hf7⟩
  have F8 : Fr (fun _ => False) W6 (w7.alloc (.cells #[.slice (some ⟨g7, 0, none⟩) 0 0, .string ⟨#[]⟩, .slice none 0 0] 119)) := hf7.alloc _
  have D8 : Bld (w7.alloc (.cells #[.slice (some ⟨g7, 0, none⟩) 0 0, .string ⟨#[]⟩, .slice none 0 0] 119)) W6.heap.size w7.heap.size [] ⟨#[]⟩ := ⟨_, _, Blk.new w7 119 _, hown7.alloc _⟩
  have hd8 : W6.heap.size ≤ w7.heap.size := hf7.size
  have HF8 := Lib.hid F8
  have HD8 := Lib.hid D8
  clear F8 D8 hown7 hf7 y0 y1
  go_wp2_with fail
  generalize w7.alloc (.cells #[.slice (some ⟨g7, 0, none⟩) 0 0, .string ⟨#[]⟩, .slice none 0 0] 119) = W8 at HF8 HD8 ⊢
  have B8 := HB6.out.fr HF8.out (fun e => e)
  have F68 : Fr (fun k => k = bb) w W8 := HF6.out.trans HF8.out (fun _ _ e => e.elim)
  have A8 := XA.out.fr F68 (fun e => XBA.out e.symm)
  have SA8 := XSA.out.fr F68 (fun q hq e => by have := XQ.out q hq; omega)
  have E8 : W8.cell? ⟨2, 0, none⟩ = some (.iface te pe) := by rw [F68.cell (p := ⟨2, 0, none⟩) (World.block_lt_of_cell? w _ XE.out) (by show ¬ 2 = bb; omega)]; exact XE.out
  obtain ⟨A9, c9, rfl⟩ : ∃ A9 c9, av = .slice A9 ys.length c9 := let ⟨A, c, h, _⟩ := SA8; ⟨A, c, h⟩
  have HLD1 : Hid (∀ W, Fr (fun _ => False) W8 W → W.cell? ⟨bb, 0, none⟩ = some (.slice a5 xs.length k5)) := Lib.hid (fun W h => by have := (B8.fr h (fun e => e)).cell 0; simpa using this)
  have HLD3 : Hid (∀ W, Fr (fun _ => False) W8 W → W.cell? ⟨ba, 0, none⟩ = some (.slice A9 ys.length c9)) := Lib.hid (fun W h => by have := (A8.fr h (fun e => e)).cell 0; simpa using this)
  have HSR2 : Hid (∀ W, Fr (fun _ => False) W8 W → Src Tryz.prog 1 44 (.slice a5 xs.length k5) xs.length (bc xs) W) := Lib.hid (fun W h => src_sl (tx := 44) Tryz.underlying44 (((Sl.ofOwn HO6.out).fr HF8.out (fun _ _ e => e)).fr h (fun _ _ e => e)) (bc_one xs))
  have HSR4 : Hid (∀ W, Fr (fun _ => False) W8 W → Src Tryz.prog 1 44 (.slice A9 ys.length c9) ys.length (bc ys) W) := Lib.hid (fun W h => src_sl (tx := 44) Tryz.underlying44 (SA8.fr h (fun _ _ e => e)) (bc_one ys))
  have hyl := XYL.out
  have hxl := HLEN.out
  have HE8 := Lib.hid E8
  have hx0 : 0 < xs.length := by
    rw [← HXS.out, encLabs, List.length_append]
    have := Lib.uvarint_pos l'.length
    omega
  clear B8 A8 SA8 E8 F68
  refine wp_region_but (fun w' => Fr (fun _ => False) W8 w') 7 (by kernel_rfl) ((Fr.refl _ W8).drew) ?_
  intro hS
  have F0 : Fr (fun _ => False) W8 W8.drew := (Fr.refl _ W8).drew
  generalize W8.drew = W0 at F0 hS ⊢
  refine wpBut_load 1 [2, 4, 5, 7] (.slice a5 xs.length k5) rfl (by kernel_rfl) (by kernel_rfl) (by kernel_rfl) (by kernel_rfl) (by kernel_rfl) (by kernel_rfl) (by kernel_rfl) (fun _ _ _ h => h) (by rfl) (by rintro w h1; have h2 := HLD1.out _ h1; go_simp) hS ?_
  try simp only [Act.put, List.setIfInBounds_toArray, List.set_cons_zero, List.set_cons_succ]
  refine wpBut_load 3 [4, 5, 7] (.slice A9 ys.length c9) rfl (by kernel_rfl) (by kernel_rfl) (by kernel_rfl) (by kernel_rfl) (by kernel_rfl) (by kernel_rfl) (by kernel_rfl) (fun _ _ _ h => h) (by rfl) (by rintro w h1; have h2 := HLD3.out _ h1; go_simp) hS ?_
  try simp only [Act.put, List.setIfInBounds_toArray, List.set_cons_zero, List.set_cons_succ]
  refine wpBut_two 0 6 (by kernel_rfl) rfl rfl (by rfl) (by rfl) (fun K hK => ?_) (fun K hK => ?_)
  · go_simp
    have o0 := own_empty5 W0 W8.heap.size F0.size
    have F1' := F0.alloc (.cells #[] 5)
    have he0 := F0.size
    refine hK.out _ _ F1' ?_
    clear hK K hS
    try simp only [Act.put, List.setIfInBounds_toArray, List.set_cons_zero, List.set_cons_succ]
    generalize World.alloc W0 (Obj.cells #[] 5) = W1' at o0 F1' ⊢
    generalize W0.heap.size = e0 at o0 he0 ⊢
    have hS := F1'
    refine wpBut_two 2 6 (by kernel_rfl) rfl rfl (by rfl) (by rfl) (fun K hK => ?_) (fun K hK => ?_)
    · refine wp_append_src W1' _ _ 44 44 (by rfl) W8.heap.size 5 i5 (.int .u8 0) 1 1 Tryz.underlying44 hi5 hz0 hz1 hz2 rfl (by decide) (.slice (some ⟨e0, 0, none⟩) 0 0) 0 [] (by rfl) o0 (.slice a5 xs.length k5) xs.length (bc xs) (by rfl) (HSR2.out _ F1') (by unfold maxLen; omega) (by omega) F1'.size ?_
      intro v1 W2' hown1 hgrow1 hat1
      rw [Nat.zero_add, List.nil_append] at hown1
      have F2' := F1'.grown hgrow1 (fun q hq => .inr ((World.ownsRow.lt o0 q hq).1))
      obtain ⟨a1, n1, k1, rfl⟩ := own_slice hown1
      refine hK.out _ _ F2' ?_
      clear hK K hS hgrow1 hat1
      try simp only [Act.put, List.setIfInBounds_toArray, List.set_cons_zero, List.set_cons_succ]
      have hS := F2'
      refine wpBut_two 4 6 (by kernel_rfl) rfl rfl (by rfl) (by rfl) (fun K hK => ?_) (fun K hK => ?_)
      · refine wp_append_src W2' _ _ 44 44 (by rfl) W8.heap.size 5 i5 (.int .u8 0) 1 1 Tryz.underlying44 hi5 hz0 hz1 hz2 rfl (by decide) (.slice a1 n1 k1) xs.length (bc xs) (by rfl) hown1 (.slice A9 ys.length c9) ys.length (bc ys) (by rfl) (HSR4.out _ F2') (by unfold maxLen; omega) (by omega) F2'.size ?_
        intro v2 W3' hown2 hgrow2 hat2
        have F3' := F2'.grown hgrow2 (fun q hq => .inr ((World.ownsRow.lt hown1 q hq).1))
        obtain ⟨a2, n2, k2, rfl⟩ := own_slice hown2
        refine hK.out _ _ F3' ?_
        clear hK K hS hgrow2 hat2
        try simp only [Act.put, List.setIfInBounds_toArray, List.set_cons_zero, List.set_cons_succ]
        have hS := F3'
        refine wpBut_take 5 (.agg #[.slice a2 n2 k2, .nilIface]) rfl (by kernel_rfl) (by kernel_rfl) (by kernel_rfl) (by kernel_rfl) (fun _ _ _ h => h) (by rfl) (by intro w; go_simp) hS ?_
        try simp only [Act.put, List.setIfInBounds_toArray, List.set_cons_zero, List.set_cons_succ]
        refine wpBut_one 6 (by kernel_rfl) rfl (by rfl) (fun K hK => ?_)
        go_simp
        have BD : Blk (W3'.alloc (.cells #[.slice none 0 0, .nilIface] 229)) W3'.heap.size 229 #[.slice none 0 0, .nilIface] := Blk.new W3' 229 _
        have F4' := F3'.alloc (.cells #[.slice none 0 0, .nilIface] 229)
        have hd2 := F3'.size
        have hown2b := World.ownsRow.alloc hown2 (.cells #[.slice none 0 0, .nilIface] 229)
        refine hK.out _ _ F4' ?_
        clear hK K hS
        try simp only [Act.put, List.setIfInBounds_toArray, List.set_cons_zero, List.set_cons_succ]
        generalize World.alloc W3' (Obj.cells #[.slice none 0 0, .nilIface] 229) = W4' at BD F4' hown2b ⊢
        generalize W3'.heap.size = d2 at BD hd2 ⊢
        have hS := F4'
        have r0 := BD.cell 0
        have r1 := BD.cell 1
        have q0 := BD.frozen 0
        have q1 := BD.frozen 1
        simp at r0 r1
        refine wpBut_last 7 (by kernel_rfl) rfl (by kernel_rfl) (by rfl) (fun K hK => ?_)
        go_simp
        refine hK.out _ _ ?_
        clear hK K
        refine wpBut_done (by kernel_rfl) ?_ _
        have BD9 : Blk ((W4'.setCell ⟨d2, 0, none⟩ (.slice a2 n2 k2)).setCell ⟨d2, 1, none⟩ .nilIface) d2 229 #[.slice a2 n2 k2, .nilIface] := by simpa using (BD.set_ 0 (.slice a2 n2 k2)).set_ 1 .nilIface
        have F9 : Fr (fun _ => False) W8 ((W4'.setCell ⟨d2, 0, none⟩ (.slice a2 n2 k2)).setCell ⟨d2, 1, none⟩ .nilIface) := (F4'.setCell (p := ⟨d2, 0, none⟩) (.inr hd2) _).setCell (p := ⟨d2, 1, none⟩) (.inr hd2) _
        have O9 := own_fr (S := fun k => k = d2) hown2b ((Fr.at_ W4' d2 0 (.slice a2 n2 k2)).setCell (p := ⟨d2, 1, none⟩) (.inl rfl) .nilIface) (fun q hq e => own_ne hown2b BD (by decide) (by rw [hq]; exact congrArg some e))
        generalize (W4'.setCell ⟨d2, 0, none⟩ (.slice a2 n2 k2)).setCell ⟨d2, 1, none⟩ .nilIface = W9 at BD9 F9 O9 ⊢
        have E9 : W9.cell? ⟨2, 0, none⟩ = some (.iface te pe) := by rw [F9.cell (p := ⟨2, 0, none⟩) (World.block_lt_of_cell? _ _ HE8.out) (fun e => e)]; exact HE8.out
        rw [← bc_append] at O9
        obtain ⟨g9, cur9, D9⟩ := dec_new BD9 O9 (by simp) (by omega) (by omega) E9
        have BL9 : Bld W9 W6.heap.size w7.heap.size [] ⟨#[]⟩ := HD8.out.fr F9 (fun e => e) (fun _ _ _ e => e)
        clear O9 E9 BD9 r0 r1 q0 q1
        have FW9 : Fr (fun k => k = bb) w W9 := (HF6.out.trans HF8.out (fun _ _ e => e.elim)).trans F9 (fun _ _ e => e.elim)
        have hperm2 : l'.Perm l := by rw [hl'.out]; exact (lsort_sorted ltL ltL_trans ltL_irrefl ltL_ntrans l).2
        have hsz2 := perm_small hperm2 XSZ.out
        have hl12 : l'.length ≤ 12 := by rw [hperm2.length_eq]; exact XLL.out
        have hszz : ∀ p ∈ l', p.1.size < 18446744073709551616 ∧ p.2.size < 18446744073709551616 := fun p hp => by have := hsz2 p hp; omega
        have hGL := gLabs_enc l' ys hszz
        have hgu : gUv (some (xs ++ ys)) = (l'.length, some (l'.flatMap encLab ++ ys)) := by rw [← HXS.out, encLabs, List.append_assoc, gUv_uv _ (by omega)]
        have hGn := hGL l'.length (Nat.le_refl _)
        rw [List.take_length, List.drop_length] at hGn
        have hb6 : w.heap.size ≤ W6.heap.size := HF6.out.size
        have hDL := decodeLabels_any te pe W6.heap.size w7.heap.size d2 g9 cur9 [] ⟨#[]⟩ (some (xs ++ ys)) W9 BL9 D9 (Nat.le_trans HF8.out.size F9.size) (by omega) hd8 l'.length (some (l'.flatMap encLab ++ ys)) hgu (by omega)
          (fun k hk => by
            rw [hGL k (by omega)]
            have hx : l'[k]? = some l'[k] := List.getElem?_eq_getElem hk
            have h1 := hsz2 _ (List.mem_of_getElem? hx)
            have e1 : (l'.drop k).flatMap encLab ++ ys = Lib.uvarint l'[k].1.size ++ (l'[k].1.data.toList ++ (encStr l'[k].2 ++ ((l'.drop (k + 1)).flatMap encLab ++ ys))) := by
              rw [List.drop_eq_getElem_cons hk, List.flatMap_cons]; simp [encLab, encStr]
            refine ⟨?_, ?_⟩
            · show (gUv (some _)).1 < _
              rw [e1, gUv_uv _ (by omega)]; simp only []; omega
            · have e2 : (l'.drop k).flatMap encLab ++ ys = encStr l'[k].1 ++ (encStr l'[k].2 ++ ((l'.drop (k + 1)).flatMap encLab ++ ys)) := by rw [e1]; simp [encStr]
              show (gUv (gStr (some _)).2).1 < _
              rw [e2, gStr_enc _ _ (by omega)]
              simp only [encStr, List.append_assoc]
              rw [gUv_uv _ (by omega)]; simp only []; omega)
          (by rw [hGn]; exact hsz2) gLabs_len
        rw [hGn] at hDL
        dsimp only at hDL
        have hUM := fun W => unmade_any l' W (by omega) (fun p hp => by have := hsz2 p hp; omega) (labsSize_le4 l' (by omega) hsz2)
        have HFW9 := Lib.hid FW9
        rw [List.flatMap_nil, List.nil_append] at hDL
        have HPL := Lib.hid hperm2.length_eq
        clear hperm2 hsz2 hl12 hszz hGL hgu hGn BL9 FW9
        have hd9 : W6.heap.size ≤ d2 := Nat.le_trans HF8.out.size hd2
        have HF9 := Lib.hid F9
        have HD9b := Lib.hid D9
        clear F9 D9
        go_wp2_with (first
          | (go_at_call 117; refine hDL.mono ?_; rintro r w10 ⟨rfl, hD10, hf10⟩)
          | (go_at_call 70
             refine (hUM _).mono ?_
             rintro r w11 ⟨v11, rfl, hown11, hf11⟩
             refine Hid.out ?_))
        have NDS : ∀ k, k < W6.heap.size → ¬ DS W9 W6.heap.size w7.heap.size d2 k := fun k hk e => by
          rcases e with e | e | ⟨e, _⟩ <;> omega
        have F10 : Fr (fun k => k = bb) w w10 := HFW9.out.trans hf10 (fun k hk e => absurd e (NDS k (by omega)))
        have F11 : Fr (fun k => k = bb) w w11 := F10.trans hf11 (fun _ _ e => e.elim)
        have F6b : Fr (fun k => W6.heap.size ≤ k) W6 w11 := (((HF8.out.same HF9.out).mono (S' := fun k => W6.heap.size ≤ k) (fun _ _ e => e.elim)).trans hf10 (fun k hk e => Classical.byContradiction fun h => NDS k (by omega) e)).trans hf11 (fun _ _ e => e.elim)
        have K11 : Blk w11 bk 31 #[z1] := XK.out.fr F11 (fun e => Blk.ne_ XK.out XB.out (by decide) e)
        have R11 : Blk w11 br 3 #[z2] := XR.out.fr F11 (fun e => Blk.ne_ XR.out XB.out (by decide) e)
        have O11 : Blk w11 bo 4 #[z3] := XO.out.fr F11 (fun e => Blk.ne_ XO.out XB.out (by decide) e)
        have B11 : Blk w11 bb 44 #[.slice a5 xs.length k5] := HB6.out.fr F6b (by have := XB.out.lt; omega)
        have D11 := dec_fr hD10 hf11 (fun e => e) (fun e => e) (fun e => e)
        have y0 := K11.cell 0
        have y1 := K11.frozen 0
        simp at y0
        obtain ⟨a11, n11, k11, rfl⟩ := own_slice hown11
        have K12 : Blk (w11.setCell ⟨bk, 0, none⟩ (.slice a11 n11 k11)) bk 31 #[.slice a11 n11 k11] := by simpa using K11.set_ 0 (.slice a11 n11 k11)
        have R12 := R11.far (p := ⟨bk, 0, none⟩) (Blk.ne_ R11 K11 (by decide)) (.slice a11 n11 k11)
        have O12 := O11.far (p := ⟨bk, 0, none⟩) (Blk.ne_ O11 K11 (by decide)) (.slice a11 n11 k11)
        have B12 := B11.far (p := ⟨bk, 0, none⟩) (Blk.ne_ B11 K11 (by decide)) (.slice a11 n11 k11)
        have hbkl := XK.out.lt
        have D12 := dec_fr D11 (Fr.at_ w11 bk 0 (.slice a11 n11 k11)) (show ¬ d2 = bk by omega) (fun e => by obtain ⟨_, _, hg, _⟩ := dec_blk D11; exact Blk.ne_ hg K11 (by decide) e) (by omega)
        have W12 := own_fr (S := fun k => k = bk) hown11 (Fr.at_ w11 bk 0 (.slice a11 n11 k11)) (fun q hq e => own_ne hown11 K11 (by decide) (by rw [hq]; exact congrArg some e))
        have F12 : Fr (fun k => k = bb ∨ k = bk) w (w11.setCell ⟨bk, 0, none⟩ (.slice a11 n11 k11)) := (F11.mono (S' := fun k => k = bb ∨ k = bk) (fun _ _ e => .inl e)).setCell (p := ⟨bk, 0, none⟩) (.inl (.inr rfl)) _
        have hsz10 := F10.size
        have T12 := Lib.hid (And.intro K12 (And.intro R12 (And.intro O12 (And.intro B12 (And.intro W12 F12)))))
        have TD := Lib.hid D12
        clear NDS F10 F11 F6b K11 R11 O11 B11 D11 K12 R12 O12 B12 D12 W12 F12 hf10 hf11 hown11 hD10 hDL hUM
        refine Lib.hid ?_
        go_wp2_with fail
        generalize w11.setCell ⟨bk, 0, none⟩ (.slice a11 n11 k11) = W13 at T12 TD ⊢
        have hLen := decLen te pe d2 g9 cur9 (some ys) W13.drew TD.out
        have hErr : Calls Tryz.prog 119 #[.pointer (some ⟨d2, 0, none⟩)] W13.drew fun r w' => r = .returned .nilIface ∧ W13.drew = w' := decErr te pe d2 g9 cur9 (some ys) W13.drew TD.out
        have r0 := T12.out.2.1.drew.cell 0
        have r1 := T12.out.2.1.drew.frozen 0
        have hrb : br ≠ bo := Blk.ne_ T12.out.2.1 T12.out.2.2.1 (by decide)
        have o0x := (T12.out.2.2.1.drew.far (p := ⟨br, 0, none⟩) hrb.symm (.int .i64 ys.length)).cell 0
        have o1x := (T12.out.2.2.1.drew.far (p := ⟨br, 0, none⟩) hrb.symm (.int .i64 ys.length)).frozen 0
        have o0y := T12.out.2.2.1.drew.cell 0
        have o1y := T12.out.2.2.1.frozen 0
        have r1y := T12.out.2.1.frozen 0
        have hrb2 : bo ≠ br := hrb.symm
        simp at r0 o0x o0y
        refine wp_region_but (fun _ => True) 4 (by kernel_rfl) trivial ?_
        intro hS
        refine wpBut_one 0 (by kernel_rfl) rfl (by rfl) (fun K hK => ?_)
        go_simp
        go_at_call 118
        refine hLen.mono ?_
        rintro r w14 ⟨n14, rfl, hn14, _, rfl⟩
        obtain rfl := hn14 ys rfl
        refine hK.out _ _ hS ?_
        clear hK K hn14
        try simp only [Act.put, List.setIfInBounds_toArray, List.set_cons_zero, List.set_cons_succ]
        refine wpBut_one 1 (by kernel_rfl) rfl (by rfl) (fun K hK => ?_)
        go_simp
        go_at_call 119
        refine hErr.mono ?_
        rintro r w15 ⟨rfl, rfl⟩
        refine hK.out _ _ hS ?_
        clear hK K
        try simp only [Act.put, List.setIfInBounds_toArray, List.set_cons_zero, List.set_cons_succ]
        refine wpBut_take 2 (.bool true) rfl (by kernel_rfl) (by kernel_rfl) (by kernel_rfl) (by kernel_rfl) (fun _ _ _ h => h) (by rfl) (by intro w; go_simp) hS ?_
        try simp only [Act.put, List.setIfInBounds_toArray, List.set_cons_zero, List.set_cons_succ]
        refine wpBut_one 3 (by kernel_rfl) rfl (by rfl) (fun K hK => ?_)
        go_simp
        refine hK.out _ _ hS ?_
        clear hK K
        refine wpBut_last 4 (by kernel_rfl) rfl (by kernel_rfl) (by rfl) (fun K hK => ?_)
        go_simp
        refine hK.out _ _ ?_
        clear hK K
        refine wpBut_done (by kernel_rfl) ?_ _
        all_goals go_end0
        all_goals
          obtain ⟨K12, R12, O12, B12, W12, F12⟩ := T12.out
          have b1 : bb ≠ br := Blk.ne_ B12 R12 (by decide)
          have b2 : bb ≠ bo := Blk.ne_ B12 O12 (by decide)
          have k1 : bk ≠ br := Blk.ne_ K12 R12 (by decide)
          have k2 : bk ≠ bo := Blk.ne_ K12 O12 (by decide)
          have FX : Fr (fun k => k = br ∨ k = bo) W13 ((W13.setCell ⟨br, 0, none⟩ (.int .i64 ys.length)).setCell ⟨bo, 0, none⟩ (.bool true)).drew := (((Fr.refl (fun k => k = br ∨ k = bo) W13)).setCell (p := ⟨br, 0, none⟩) (.inl (.inl rfl)) _).setCell (p := ⟨bo, 0, none⟩) (.inl (.inr rfl)) _ |>.drew
          have R13 : Blk (W13.setCell ⟨br, 0, none⟩ (.int .i64 ys.length)) br 3 #[.int .i64 ys.length] := by simpa using R12.set_ 0 (.int .i64 ys.length)
          have O13 : Blk ((W13.setCell ⟨br, 0, none⟩ (.int .i64 ys.length)).setCell ⟨bo, 0, none⟩ (.bool true)) bo 4 #[.bool true] := by simpa using (O12.far (p := ⟨br, 0, none⟩) hrb.symm (.int .i64 ys.length)).set_ 0 (.bool true)
          refine ⟨rfl, ⟨.slice a5 xs.length k5, .slice a11 n11 k11, ⟨_, _, _, rfl⟩, ((B12.far (p := ⟨br, 0, none⟩) b1 _).far (p := ⟨bo, 0, none⟩) b2 _).drew, ((K12.far (p := ⟨br, 0, none⟩) k1 _).far (p := ⟨bo, 0, none⟩) k2 _).drew, (R13.far (p := ⟨bo, 0, none⟩) hrb _).drew, O13.drew, ?_⟩, ?_⟩
          · have hO := own_fr W12 FX (fun q hq e => by
              rcases e with e | e
              · exact own_ne W12 R12 (by decide) (by rw [hq]; exact congrArg some e)
              · exact own_ne W12 O12 (by decide) (by rw [hq]; exact congrArg some e))
            rw [HPL.out, hl'.out] at hO
            exact own_mono hO (by omega)
          · exact (F12.mono (S' := fun k => k = bb ∨ k = bk ∨ k = br ∨ k = bo) (fun _ _ e => e.elim (fun e => .inl e) (fun e => .inr (.inl e)))).trans FX (fun _ _ e => e.elim (fun e => .inr (.inr (.inl e))) (fun e => .inr (.inr (.inr e))))
      · go_simp
        have BD : Blk (W2'.alloc (.cells #[.slice none 0 0, .nilIface] 229)) W2'.heap.size 229 #[.slice none 0 0, .nilIface] := Blk.new W2' 229 _
        have F3' := F2'.alloc (.cells #[.slice none 0 0, .nilIface] 229)
        have hd2 := F2'.size
        have hown1b := World.ownsRow.alloc hown1 (.cells #[.slice none 0 0, .nilIface] 229)
        refine hK.out _ _ F3' ?_
        clear hK K hS
        try simp only [Act.put, List.setIfInBounds_toArray, List.set_cons_zero, List.set_cons_succ]
        generalize World.alloc W2' (Obj.cells #[.slice none 0 0, .nilIface] 229) = W3' at BD F3' hown1b ⊢
        generalize W2'.heap.size = d2 at BD hd2 ⊢
        have hS := F3'
        refine wpBut_one 4 (by kernel_rfl) rfl (by rfl) (fun K hK => ?_)
        refine wp_append_src W3' _ _ 44 44 (by rfl) W8.heap.size 5 i5 (.int .u8 0) 1 1 Tryz.underlying44 hi5 hz0 hz1 hz2 rfl (by decide) (.slice a1 n1 k1) xs.length (bc xs) (by rfl) hown1b (.slice A9 ys.length c9) ys.length (bc ys) (by rfl) (HSR4.out _ F3') (by unfold maxLen; omega) (by omega) F3'.size ?_
        intro v2 W4' hown2 hgrow2 hat2
        have F4' := F3'.grown hgrow2 (fun q hq => .inr ((World.ownsRow.lt hown1b q hq).1))
        have BD4 := BD.grown hgrow2 (fun e => own_ne hown1b BD (by decide) e.symm)
        obtain ⟨a2, n2, k2, rfl⟩ := own_slice hown2
        refine hK.out _ _ F4' ?_
        clear hK K hS hgrow2 hat2
        try simp only [Act.put, List.setIfInBounds_toArray, List.set_cons_zero, List.set_cons_succ]
        have hS := F4'
        refine wpBut_take 5 (.agg #[.slice a2 n2 k2, .nilIface]) rfl (by kernel_rfl) (by kernel_rfl) (by kernel_rfl) (by kernel_rfl) (fun _ _ _ h => h) (by rfl) (by intro w; go_simp) hS ?_
        try simp only [Act.put, List.setIfInBounds_toArray, List.set_cons_zero, List.set_cons_succ]
        have r0 := BD4.cell 0
        have r1 := BD4.cell 1
        have q0 := BD4.frozen 0
        have q1 := BD4.frozen 1
        simp at r0 r1
        refine wpBut_last 7 (by kernel_rfl) rfl (by kernel_rfl) (by rfl) (fun K hK => ?_)
        go_simp
        refine hK.out _ _ ?_
        clear hK K
        refine wpBut_done (by kernel_rfl) ?_ _
        have BD9 : Blk ((W4'.setCell ⟨d2, 0, none⟩ (.slice a2 n2 k2)).setCell ⟨d2, 1, none⟩ .nilIface) d2 229 #[.slice a2 n2 k2, .nilIface] := by simpa using (BD4.set_ 0 (.slice a2 n2 k2)).set_ 1 .nilIface
        have F9 : Fr (fun _ => False) W8 ((W4'.setCell ⟨d2, 0, none⟩ (.slice a2 n2 k2)).setCell ⟨d2, 1, none⟩ .nilIface) := (F4'.setCell (p := ⟨d2, 0, none⟩) (.inr hd2) _).setCell (p := ⟨d2, 1, none⟩) (.inr hd2) _
        have O9 := own_fr (S := fun k => k = d2) hown2 ((Fr.at_ W4' d2 0 (.slice a2 n2 k2)).setCell (p := ⟨d2, 1, none⟩) (.inl rfl) .nilIface) (fun q hq e => own_ne hown2 BD4 (by decide) (by rw [hq]; exact congrArg some e))
        generalize (W4'.setCell ⟨d2, 0, none⟩ (.slice a2 n2 k2)).setCell ⟨d2, 1, none⟩ .nilIface = W9 at BD9 F9 O9 ⊢
        have E9 : W9.cell? ⟨2, 0, none⟩ = some (.iface te pe) := by rw [F9.cell (p := ⟨2, 0, none⟩) (World.block_lt_of_cell? _ _ HE8.out) (fun e => e)]; exact HE8.out
        rw [← bc_append] at O9
        obtain ⟨g9, cur9, D9⟩ := dec_new BD9 O9 (by simp) (by omega) (by omega) E9
        have BL9 : Bld W9 W6.heap.size w7.heap.size [] ⟨#[]⟩ := HD8.out.fr F9 (fun e => e) (fun _ _ _ e => e)
        clear O9 E9 BD9 r0 r1 q0 q1
        have FW9 : Fr (fun k => k = bb) w W9 := (HF6.out.trans HF8.out (fun _ _ e => e.elim)).trans F9 (fun _ _ e => e.elim)
        have hperm2 : l'.Perm l := by rw [hl'.out]; exact (lsort_sorted ltL ltL_trans ltL_irrefl ltL_ntrans l).2
        have hsz2 := perm_small hperm2 XSZ.out
        have hl12 : l'.length ≤ 12 := by rw [hperm2.length_eq]; exact XLL.out
        have hszz : ∀ p ∈ l', p.1.size < 18446744073709551616 ∧ p.2.size < 18446744073709551616 := fun p hp => by have := hsz2 p hp; omega
        have hGL := gLabs_enc l' ys hszz
        have hgu : gUv (some (xs ++ ys)) = (l'.length, some (l'.flatMap encLab ++ ys)) := by rw [← HXS.out, encLabs, List.append_assoc, gUv_uv _ (by omega)]
        have hGn := hGL l'.length (Nat.le_refl _)
        rw [List.take_length, List.drop_length] at hGn
        have hb6 : w.heap.size ≤ W6.heap.size := HF6.out.size
        have hDL := decodeLabels_any te pe W6.heap.size w7.heap.size d2 g9 cur9 [] ⟨#[]⟩ (some (xs ++ ys)) W9 BL9 D9 (Nat.le_trans HF8.out.size F9.size) (by omega) hd8 l'.length (some (l'.flatMap encLab ++ ys)) hgu (by omega)
          (fun k hk => by
            rw [hGL k (by omega)]
            have hx : l'[k]? = some l'[k] := List.getElem?_eq_getElem hk
            have h1 := hsz2 _ (List.mem_of_getElem? hx)
            have e1 : (l'.drop k).flatMap encLab ++ ys = Lib.uvarint l'[k].1.size ++ (l'[k].1.data.toList ++ (encStr l'[k].2 ++ ((l'.drop (k + 1)).flatMap encLab ++ ys))) := by
              rw [List.drop_eq_getElem_cons hk, List.flatMap_cons]; simp [encLab, encStr]
            refine ⟨?_, ?_⟩
            · show (gUv (some _)).1 < _
              rw [e1, gUv_uv _ (by omega)]; simp only []; omega
            · have e2 : (l'.drop k).flatMap encLab ++ ys = encStr l'[k].1 ++ (encStr l'[k].2 ++ ((l'.drop (k + 1)).flatMap encLab ++ ys)) := by rw [e1]; simp [encStr]
              show (gUv (gStr (some _)).2).1 < _
              rw [e2, gStr_enc _ _ (by omega)]
              simp only [encStr, List.append_assoc]
              rw [gUv_uv _ (by omega)]; simp only []; omega)
          (by rw [hGn]; exact hsz2) gLabs_len
        rw [hGn] at hDL
        dsimp only at hDL
        have hUM := fun W => unmade_any l' W (by omega) (fun p hp => by have := hsz2 p hp; omega) (labsSize_le4 l' (by omega) hsz2)
        have HFW9 := Lib.hid FW9
        rw [List.flatMap_nil, List.nil_append] at hDL
        have HPL := Lib.hid hperm2.length_eq
        clear hperm2 hsz2 hl12 hszz hGL hgu hGn BL9 FW9
        have hd9 : W6.heap.size ≤ d2 := Nat.le_trans HF8.out.size hd2
        have HF9 := Lib.hid F9
        have HD9b := Lib.hid D9
        clear F9 D9
        go_wp2_with (first
          | (go_at_call 117; refine hDL.mono ?_; rintro r w10 ⟨rfl, hD10, hf10⟩)
          | (go_at_call 70
             refine (hUM _).mono ?_
             rintro r w11 ⟨v11, rfl, hown11, hf11⟩
             refine Hid.out ?_))
        have NDS : ∀ k, k < W6.heap.size → ¬ DS W9 W6.heap.size w7.heap.size d2 k := fun k hk e => by
          rcases e with e | e | ⟨e, _⟩ <;> omega
        have F10 : Fr (fun k => k = bb) w w10 := HFW9.out.trans hf10 (fun k hk e => absurd e (NDS k (by omega)))
        have F11 : Fr (fun k => k = bb) w w11 := F10.trans hf11 (fun _ _ e => e.elim)
        have F6b : Fr (fun k => W6.heap.size ≤ k) W6 w11 := (((HF8.out.same HF9.out).mono (S' := fun k => W6.heap.size ≤ k) (fun _ _ e => e.elim)).trans hf10 (fun k hk e => Classical.byContradiction fun h => NDS k (by omega) e)).trans hf11 (fun _ _ e => e.elim)
        have K11 : Blk w11 bk 31 #[z1] := XK.out.fr F11 (fun e => Blk.ne_ XK.out XB.out (by decide) e)
        have R11 : Blk w11 br 3 #[z2] := XR.out.fr F11 (fun e => Blk.ne_ XR.out XB.out (by decide) e)
        have O11 : Blk w11 bo 4 #[z3] := XO.out.fr F11 (fun e => Blk.ne_ XO.out XB.out (by decide) e)
        have B11 : Blk w11 bb 44 #[.slice a5 xs.length k5] := HB6.out.fr F6b (by have := XB.out.lt; omega)
        have D11 := dec_fr hD10 hf11 (fun e => e) (fun e => e) (fun e => e)
        have y0 := K11.cell 0
        have y1 := K11.frozen 0
        simp at y0
        obtain ⟨a11, n11, k11, rfl⟩ := own_slice hown11
        have K12 : Blk (w11.setCell ⟨bk, 0, none⟩ (.slice a11 n11 k11)) bk 31 #[.slice a11 n11 k11] := by simpa using K11.set_ 0 (.slice a11 n11 k11)
        have R12 := R11.far (p := ⟨bk, 0, none⟩) (Blk.ne_ R11 K11 (by decide)) (.slice a11 n11 k11)
        have O12 := O11.far (p := ⟨bk, 0, none⟩) (Blk.ne_ O11 K11 (by decide)) (.slice a11 n11 k11)
        have B12 := B11.far (p := ⟨bk, 0, none⟩) (Blk.ne_ B11 K11 (by decide)) (.slice a11 n11 k11)
        have hbkl := XK.out.lt
        have D12 := dec_fr D11 (Fr.at_ w11 bk 0 (.slice a11 n11 k11)) (show ¬ d2 = bk by omega) (fun e => by obtain ⟨_, _, hg, _⟩ := dec_blk D11; exact Blk.ne_ hg K11 (by decide) e) (by omega)
        have W12 := own_fr (S := fun k => k = bk) hown11 (Fr.at_ w11 bk 0 (.slice a11 n11 k11)) (fun q hq e => own_ne hown11 K11 (by decide) (by rw [hq]; exact congrArg some e))
        have F12 : Fr (fun k => k = bb ∨ k = bk) w (w11.setCell ⟨bk, 0, none⟩ (.slice a11 n11 k11)) := (F11.mono (S' := fun k => k = bb ∨ k = bk) (fun _ _ e => .inl e)).setCell (p := ⟨bk, 0, none⟩) (.inl (.inr rfl)) _
        have hsz10 := F10.size
        have T12 := Lib.hid (And.intro K12 (And.intro R12 (And.intro O12 (And.intro B12 (And.intro W12 F12)))))
        have TD := Lib.hid D12
        clear NDS F10 F11 F6b K11 R11 O11 B11 D11 K12 R12 O12 B12 D12 W12 F12 hf10 hf11 hown11 hD10 hDL hUM
        refine Lib.hid ?_
        go_wp2_with fail
        generalize w11.setCell ⟨bk, 0, none⟩ (.slice a11 n11 k11) = W13 at T12 TD ⊢
        have hLen := decLen te pe d2 g9 cur9 (some ys) W13.drew TD.out
        have hErr : Calls Tryz.prog 119 #[.pointer (some ⟨d2, 0, none⟩)] W13.drew fun r w' => r = .returned .nilIface ∧ W13.drew = w' := decErr te pe d2 g9 cur9 (some ys) W13.drew TD.out
        have r0 := T12.out.2.1.drew.cell 0
        have r1 := T12.out.2.1.drew.frozen 0
        have hrb : br ≠ bo := Blk.ne_ T12.out.2.1 T12.out.2.2.1 (by decide)
        have o0x := (T12.out.2.2.1.drew.far (p := ⟨br, 0, none⟩) hrb.symm (.int .i64 ys.length)).cell 0
        have o1x := (T12.out.2.2.1.drew.far (p := ⟨br, 0, none⟩) hrb.symm (.int .i64 ys.length)).frozen 0
        have o0y := T12.out.2.2.1.drew.cell 0
        have o1y := T12.out.2.2.1.frozen 0
        have r1y := T12.out.2.1.frozen 0
        have hrb2 : bo ≠ br := hrb.symm
        simp at r0 o0x o0y
        refine wp_region_but (fun _ => True) 4 (by kernel_rfl) trivial ?_
        intro hS
        refine wpBut_one 0 (by kernel_rfl) rfl (by rfl) (fun K hK => ?_)
        go_simp
        go_at_call 118
        refine hLen.mono ?_
        rintro r w14 ⟨n14, rfl, hn14, _, rfl⟩
        obtain rfl := hn14 ys rfl
        refine hK.out _ _ hS ?_
        clear hK K hn14
        try simp only [Act.put, List.setIfInBounds_toArray, List.set_cons_zero, List.set_cons_succ]
        refine wpBut_one 1 (by kernel_rfl) rfl (by rfl) (fun K hK => ?_)
        go_simp
        go_at_call 119
        refine hErr.mono ?_
        rintro r w15 ⟨rfl, rfl⟩
        refine hK.out _ _ hS ?_
        clear hK K
        try simp only [Act.put, List.setIfInBounds_toArray, List.set_cons_zero, List.set_cons_succ]
        refine wpBut_take 2 (.bool true) rfl (by kernel_rfl) (by kernel_rfl) (by kernel_rfl) (by kernel_rfl) (fun _ _ _ h => h) (by rfl) (by intro w; go_simp) hS ?_
        try simp only [Act.put, List.setIfInBounds_toArray, List.set_cons_zero, List.set_cons_succ]
        refine wpBut_one 3 (by kernel_rfl) rfl (by rfl) (fun K hK => ?_)
        go_simp
        refine hK.out _ _ hS ?_
        clear hK K
        refine wpBut_last 4 (by kernel_rfl) rfl (by kernel_rfl) (by rfl) (fun K hK => ?_)
        go_simp
        refine hK.out _ _ ?_
        clear hK K
        refine wpBut_done (by kernel_rfl) ?_ _
        all_goals go_end0
        all_goals
          obtain ⟨K12, R12, O12, B12, W12, F12⟩ := T12.out
          have b1 : bb ≠ br := Blk.ne_ B12 R12 (by decide)
          have b2 : bb ≠ bo := Blk.ne_ B12 O12 (by decide)
          have k1 : bk ≠ br := Blk.ne_ K12 R12 (by decide)
          have k2 : bk ≠ bo := Blk.ne_ K12 O12 (by decide)
          have FX : Fr (fun k => k = br ∨ k = bo) W13 ((W13.setCell ⟨br, 0, none⟩ (.int .i64 ys.length)).setCell ⟨bo, 0, none⟩ (.bool true)).drew := (((Fr.refl (fun k => k = br ∨ k = bo) W13)).setCell (p := ⟨br, 0, none⟩) (.inl (.inl rfl)) _).setCell (p := ⟨bo, 0, none⟩) (.inl (.inr rfl)) _ |>.drew
          have R13 : Blk (W13.setCell ⟨br, 0, none⟩ (.int .i64 ys.length)) br 3 #[.int .i64 ys.length] := by simpa using R12.set_ 0 (.int .i64 ys.length)
          have O13 : Blk ((W13.setCell ⟨br, 0, none⟩ (.int .i64 ys.length)).setCell ⟨bo, 0, none⟩ (.bool true)) bo 4 #[.bool true] := by simpa using (O12.far (p := ⟨br, 0, none⟩) hrb.symm (.int .i64 ys.length)).set_ 0 (.bool true)
          refine ⟨rfl, ⟨.slice a5 xs.length k5, .slice a11 n11 k11, ⟨_, _, _, rfl⟩, ((B12.far (p := ⟨br, 0, none⟩) b1 _).far (p := ⟨bo, 0, none⟩) b2 _).drew, ((K12.far (p := ⟨br, 0, none⟩) k1 _).far (p := ⟨bo, 0, none⟩) k2 _).drew, (R13.far (p := ⟨bo, 0, none⟩) hrb _).drew, O13.drew, ?_⟩, ?_⟩
          · have hO := own_fr W12 FX (fun q hq e => by
              rcases e with e | e
              · exact own_ne W12 R12 (by decide) (by rw [hq]; exact congrArg some e)
              · exact own_ne W12 O12 (by decide) (by rw [hq]; exact congrArg some e))
            rw [HPL.out, hl'.out] at hO
            exact own_mono hO (by omega)
          · exact (F12.mono (S' := fun k => k = bb ∨ k = bk ∨ k = br ∨ k = bo) (fun _ _ e => e.elim (fun e => .inl e) (fun e => .inr (.inl e)))).trans FX (fun _ _ e => e.elim (fun e => .inr (.inr (.inl e))) (fun e => .inr (.inr (.inr e))))
    · go_simp
      have BD : Blk (W1'.alloc (.cells #[.slice none 0 0, .nilIface] 229)) W1'.heap.size 229 #[.slice none 0 0, .nilIface] := Blk.new W1' 229 _
      have F2' := F1'.alloc (.cells #[.slice none 0 0, .nilIface] 229)
      have hd2 := F1'.size
      have o0b := World.ownsRow.alloc o0 (.cells #[.slice none 0 0, .nilIface] 229)
      refine hK.out _ _ F2' ?_
      clear hK K hS
      try simp only [Act.put, List.setIfInBounds_toArray, List.set_cons_zero, List.set_cons_succ]
      generalize World.alloc W1' (Obj.cells #[.slice none 0 0, .nilIface] 229) = W2' at BD F2' o0b ⊢
      generalize W1'.heap.size = d2 at BD hd2 ⊢
      have hS := F2'
      refine wpBut_one 2 (by kernel_rfl) rfl (by rfl) (fun K hK => ?_)
      refine wp_append_src W2' _ _ 44 44 (by rfl) W8.heap.size 5 i5 (.int .u8 0) 1 1 Tryz.underlying44 hi5 hz0 hz1 hz2 rfl (by decide) (.slice (some ⟨e0, 0, none⟩) 0 0) 0 [] (by rfl) o0b (.slice a5 xs.length k5) xs.length (bc xs) (by rfl) (HSR2.out _ F2') (by unfold maxLen; omega) (by omega) F2'.size ?_
      intro v1 W3' hown1 hgrow1 hat1
      rw [Nat.zero_add, List.nil_append] at hown1
      have F3' := F2'.grown hgrow1 (fun q hq => .inr ((World.ownsRow.lt o0b q hq).1))
      have BD3 := BD.grown hgrow1 (fun e => own_ne o0b BD (by decide) e.symm)
      obtain ⟨a1, n1, k1, rfl⟩ := own_slice hown1
      refine hK.out _ _ F3' ?_
      clear hK K hS hgrow1 hat1
      try simp only [Act.put, List.setIfInBounds_toArray, List.set_cons_zero, List.set_cons_succ]
      have hS := F3'
      refine wpBut_one 4 (by kernel_rfl) rfl (by rfl) (fun K hK => ?_)
      refine wp_append_src W3' _ _ 44 44 (by rfl) W8.heap.size 5 i5 (.int .u8 0) 1 1 Tryz.underlying44 hi5 hz0 hz1 hz2 rfl (by decide) (.slice a1 n1 k1) xs.length (bc xs) (by rfl) hown1 (.slice A9 ys.length c9) ys.length (bc ys) (by rfl) (HSR4.out _ F3') (by unfold maxLen; omega) (by omega) F3'.size ?_
      intro v2 W4' hown2 hgrow2 hat2
      have F4' := F3'.grown hgrow2 (fun q hq => .inr ((World.ownsRow.lt hown1 q hq).1))
      have BD4 := BD3.grown hgrow2 (fun e => own_ne hown1 BD3 (by decide) e.symm)
      obtain ⟨a2, n2, k2, rfl⟩ := own_slice hown2
      refine hK.out _ _ F4' ?_
      clear hK K hS hgrow2 hat2
      try simp only [Act.put, List.setIfInBounds_toArray, List.set_cons_zero, List.set_cons_succ]
      have hS := F4'
      refine wpBut_take 5 (.agg #[.slice a2 n2 k2, .nilIface]) rfl (by kernel_rfl) (by kernel_rfl) (by kernel_rfl) (by kernel_rfl) (fun _ _ _ h => h) (by rfl) (by intro w; go_simp) hS ?_
      try simp only [Act.put, List.setIfInBounds_toArray, List.set_cons_zero, List.set_cons_succ]
      have r0 := BD4.cell 0
      have r1 := BD4.cell 1
      have q0 := BD4.frozen 0
      have q1 := BD4.frozen 1
      simp at r0 r1
      refine wpBut_last 7 (by kernel_rfl) rfl (by kernel_rfl) (by rfl) (fun K hK => ?_)
      go_simp
      refine hK.out _ _ ?_
      clear hK K
      refine wpBut_done (by kernel_rfl) ?_ _
      have BD9 : Blk ((W4'.setCell ⟨d2, 0, none⟩ (.slice a2 n2 k2)).setCell ⟨d2, 1, none⟩ .nilIface) d2 229 #[.slice a2 n2 k2, .nilIface] := by simpa using (BD4.set_ 0 (.slice a2 n2 k2)).set_ 1 .nilIface
      have F9 : Fr (fun _ => False) W8 ((W4'.setCell ⟨d2, 0, none⟩ (.slice a2 n2 k2)).setCell ⟨d2, 1, none⟩ .nilIface) := (F4'.setCell (p := ⟨d2, 0, none⟩) (.inr hd2) _).setCell (p := ⟨d2, 1, none⟩) (.inr hd2) _
      have O9 := own_fr (S := fun k => k = d2) hown2 ((Fr.at_ W4' d2 0 (.slice a2 n2 k2)).setCell (p := ⟨d2, 1, none⟩) (.inl rfl) .nilIface) (fun q hq e => own_ne hown2 BD4 (by decide) (by rw [hq]; exact congrArg some e))
      generalize (W4'.setCell ⟨d2, 0, none⟩ (.slice a2 n2 k2)).setCell ⟨d2, 1, none⟩ .nilIface = W9 at BD9 F9 O9 ⊢
      have E9 : W9.cell? ⟨2, 0, none⟩ = some (.iface te pe) := by rw [F9.cell (p := ⟨2, 0, none⟩) (World.block_lt_of_cell? _ _ HE8.out) (fun e => e)]; exact HE8.out
      rw [← bc_append] at O9
      obtain ⟨g9, cur9, D9⟩ := dec_new BD9 O9 (by simp) (by omega) (by omega) E9
      have BL9 : Bld W9 W6.heap.size w7.heap.size [] ⟨#[]⟩ := HD8.out.fr F9 (fun e => e) (fun _ _ _ e => e)
      clear O9 E9 BD9 r0 r1 q0 q1
      have FW9 : Fr (fun k => k = bb) w W9 := (HF6.out.trans HF8.out (fun _ _ e => e.elim)).trans F9 (fun _ _ e => e.elim)
      have hperm2 : l'.Perm l := by rw [hl'.out]; exact (lsort_sorted ltL ltL_trans ltL_irrefl ltL_ntrans l).2
      have hsz2 := perm_small hperm2 XSZ.out
      have hl12 : l'.length ≤ 12 := by rw [hperm2.length_eq]; exact XLL.out
      have hszz : ∀ p ∈ l', p.1.size < 18446744073709551616 ∧ p.2.size < 18446744073709551616 := fun p hp => by have := hsz2 p hp; omega
      have hGL := gLabs_enc l' ys hszz
      have hgu : gUv (some (xs ++ ys)) = (l'.length, some (l'.flatMap encLab ++ ys)) := by rw [← HXS.out, encLabs, List.append_assoc, gUv_uv _ (by omega)]
      have hGn := hGL l'.length (Nat.le_refl _)
      rw [List.take_length, List.drop_length] at hGn
      have hb6 : w.heap.size ≤ W6.heap.size := HF6.out.size
      have hDL := decodeLabels_any te pe W6.heap.size w7.heap.size d2 g9 cur9 [] ⟨#[]⟩ (some (xs ++ ys)) W9 BL9 D9 (Nat.le_trans HF8.out.size F9.size) (by omega) hd8 l'.length (some (l'.flatMap encLab ++ ys)) hgu (by omega)
        (fun k hk => by
          rw [hGL k (by omega)]
          have hx : l'[k]? = some l'[k] := List.getElem?_eq_getElem hk
          have h1 := hsz2 _ (List.mem_of_getElem? hx)
          have e1 : (l'.drop k).flatMap encLab ++ ys = Lib.uvarint l'[k].1.size ++ (l'[k].1.data.toList ++ (encStr l'[k].2 ++ ((l'.drop (k + 1)).flatMap encLab ++ ys))) := by
            rw [List.drop_eq_getElem_cons hk, List.flatMap_cons]; simp [encLab, encStr]
          refine ⟨?_, ?_⟩
          · show (gUv (some _)).1 < _
            rw [e1, gUv_uv _ (by omega)]; simp only []; omega
          · have e2 : (l'.drop k).flatMap encLab ++ ys = encStr l'[k].1 ++ (encStr l'[k].2 ++ ((l'.drop (k + 1)).flatMap encLab ++ ys)) := by rw [e1]; simp [encStr]
            show (gUv (gStr (some _)).2).1 < _
            rw [e2, gStr_enc _ _ (by omega)]
            simp only [encStr, List.append_assoc]
            rw [gUv_uv _ (by omega)]; simp only []; omega)
        (by rw [hGn]; exact hsz2) gLabs_len
      rw [hGn] at hDL
      dsimp only at hDL
      have hUM := fun W => unmade_any l' W (by omega) (fun p hp => by have := hsz2 p hp; omega) (labsSize_le4 l' (by omega) hsz2)
      have HFW9 := Lib.hid FW9
      rw [List.flatMap_nil, List.nil_append] at hDL
      have HPL := Lib.hid hperm2.length_eq
      clear hperm2 hsz2 hl12 hszz hGL hgu hGn BL9 FW9
      have hd9 : W6.heap.size ≤ d2 := Nat.le_trans HF8.out.size hd2
      have HF9 := Lib.hid F9
      have HD9b := Lib.hid D9
      clear F9 D9
      go_wp2_with (first
        | (go_at_call 117; refine hDL.mono ?_; rintro r w10 ⟨rfl, hD10, hf10⟩)
        | (go_at_call 70
           refine (hUM _).mono ?_
           rintro r w11 ⟨v11, rfl, hown11, hf11⟩
           refine Hid.out ?_))
      have NDS : ∀ k, k < W6.heap.size → ¬ DS W9 W6.heap.size w7.heap.size d2 k := fun k hk e => by
        rcases e with e | e | ⟨e, _⟩ <;> omega
      have F10 : Fr (fun k => k = bb) w w10 := HFW9.out.trans hf10 (fun k hk e => absurd e (NDS k (by omega)))
      have F11 : Fr (fun k => k = bb) w w11 := F10.trans hf11 (fun _ _ e => e.elim)
      have F6b : Fr (fun k => W6.heap.size ≤ k) W6 w11 := (((HF8.out.same HF9.out).mono (S' := fun k => W6.heap.size ≤ k) (fun _ _ e => e.elim)).trans hf10 (fun k hk e => Classical.byContradiction fun h => NDS k (by omega) e)).trans hf11 (fun _ _ e => e.elim)
      have K11 : Blk w11 bk 31 #[z1] := XK.out.fr F11 (fun e => Blk.ne_ XK.out XB.out (by decide) e)
      have R11 : Blk w11 br 3 #[z2] := XR.out.fr F11 (fun e => Blk.ne_ XR.out XB.out (by decide) e)
      have O11 : Blk w11 bo 4 #[z3] := XO.out.fr F11 (fun e => Blk.ne_ XO.out XB.out (by decide) e)
      have B11 : Blk w11 bb 44 #[.slice a5 xs.length k5] := HB6.out.fr F6b (by have := XB.out.lt; omega)
      have D11 := dec_fr hD10 hf11 (fun e => e) (fun e => e) (fun e => e)
      have y0 := K11.cell 0
      have y1 := K11.frozen 0
      simp at y0
      obtain ⟨a11, n11, k11, rfl⟩ := own_slice hown11
      have K12 : Blk (w11.setCell ⟨bk, 0, none⟩ (.slice a11 n11 k11)) bk 31 #[.slice a11 n11 k11] := by simpa using K11.set_ 0 (.slice a11 n11 k11)
      have R12 := R11.far (p := ⟨bk, 0, none⟩) (Blk.ne_ R11 K11 (by decide)) (.slice a11 n11 k11)
      have O12 := O11.far (p := ⟨bk, 0, none⟩) (Blk.ne_ O11 K11 (by decide)) (.slice a11 n11 k11)
      have B12 := B11.far (p := ⟨bk, 0, none⟩) (Blk.ne_ B11 K11 (by decide)) (.slice a11 n11 k11)
      have hbkl := XK.out.lt
      have D12 := dec_fr D11 (Fr.at_ w11 bk 0 (.slice a11 n11 k11)) (show ¬ d2 = bk by omega) (fun e => by obtain ⟨_, _, hg, _⟩ := dec_blk D11; exact Blk.ne_ hg K11 (by decide) e) (by omega)
      have W12 := own_fr (S := fun k => k = bk) hown11 (Fr.at_ w11 bk 0 (.slice a11 n11 k11)) (fun q hq e => own_ne hown11 K11 (by decide) (by rw [hq]; exact congrArg some e))
      have F12 : Fr (fun k => k = bb ∨ k = bk) w (w11.setCell ⟨bk, 0, none⟩ (.slice a11 n11 k11)) := (F11.mono (S' := fun k => k = bb ∨ k = bk) (fun _ _ e => .inl e)).setCell (p := ⟨bk, 0, none⟩) (.inl (.inr rfl)) _
      have hsz10 := F10.size
      have T12 := Lib.hid (And.intro K12 (And.intro R12 (And.intro O12 (And.intro B12 (And.intro W12 F12)))))
      have TD := Lib.hid D12
      clear NDS F10 F11 F6b K11 R11 O11 B11 D11 K12 R12 O12 B12 D12 W12 F12 hf10 hf11 hown11 hD10 hDL hUM
      refine Lib.hid ?_
      go_wp2_with fail
      generalize w11.setCell ⟨bk, 0, none⟩ (.slice a11 n11 k11) = W13 at T12 TD ⊢
      have hLen := decLen te pe d2 g9 cur9 (some ys) W13.drew TD.out
      have hErr : Calls Tryz.prog 119 #[.pointer (some ⟨d2, 0, none⟩)] W13.drew fun r w' => r = .returned .nilIface ∧ W13.drew = w' := decErr te pe d2 g9 cur9 (some ys) W13.drew TD.out
      have r0 := T12.out.2.1.drew.cell 0
      have r1 := T12.out.2.1.drew.frozen 0
      have hrb : br ≠ bo := Blk.ne_ T12.out.2.1 T12.out.2.2.1 (by decide)
      have o0x := (T12.out.2.2.1.drew.far (p := ⟨br, 0, none⟩) hrb.symm (.int .i64 ys.length)).cell 0
      have o1x := (T12.out.2.2.1.drew.far (p := ⟨br, 0, none⟩) hrb.symm (.int .i64 ys.length)).frozen 0
      have o0y := T12.out.2.2.1.drew.cell 0
      have o1y := T12.out.2.2.1.frozen 0
      have r1y := T12.out.2.1.frozen 0
      have hrb2 : bo ≠ br := hrb.symm
      simp at r0 o0x o0y
      refine wp_region_but (fun _ => True) 4 (by kernel_rfl) trivial ?_
      intro hS
      refine wpBut_one 0 (by kernel_rfl) rfl (by rfl) (fun K hK => ?_)
      go_simp
      go_at_call 118
      refine hLen.mono ?_
      rintro r w14 ⟨n14, rfl, hn14, _, rfl⟩
      obtain rfl := hn14 ys rfl
      refine hK.out _ _ hS ?_
      clear hK K hn14
      try simp only [Act.put, List.setIfInBounds_toArray, List.set_cons_zero, List.set_cons_succ]
      refine wpBut_one 1 (by kernel_rfl) rfl (by rfl) (fun K hK => ?_)
      go_simp
      go_at_call 119
      refine hErr.mono ?_
      rintro r w15 ⟨rfl, rfl⟩
      refine hK.out _ _ hS ?_
      clear hK K
      try simp only [Act.put, List.setIfInBounds_toArray, List.set_cons_zero, List.set_cons_succ]
      refine wpBut_take 2 (.bool true) rfl (by kernel_rfl) (by kernel_rfl) (by kernel_rfl) (by kernel_rfl) (fun _ _ _ h => h) (by rfl) (by intro w; go_simp) hS ?_
      try simp only [Act.put, List.setIfInBounds_toArray, List.set_cons_zero, List.set_cons_succ]
      refine wpBut_one 3 (by kernel_rfl) rfl (by rfl) (fun K hK => ?_)
      go_simp
      refine hK.out _ _ hS ?_
      clear hK K
      refine wpBut_last 4 (by kernel_rfl) rfl (by kernel_rfl) (by rfl) (fun K hK => ?_)
      go_simp
      refine hK.out _ _ ?_
      clear hK K
      refine wpBut_done (by kernel_rfl) ?_ _
      all_goals go_end0
      all_goals
        obtain ⟨K12, R12, O12, B12, W12, F12⟩ := T12.out
        have b1 : bb ≠ br := Blk.ne_ B12 R12 (by decide)
        have b2 : bb ≠ bo := Blk.ne_ B12 O12 (by decide)
        have k1 : bk ≠ br := Blk.ne_ K12 R12 (by decide)
        have k2 : bk ≠ bo := Blk.ne_ K12 O12 (by decide)
        have FX : Fr (fun k => k = br ∨ k = bo) W13 ((W13.setCell ⟨br, 0, none⟩ (.int .i64 ys.length)).setCell ⟨bo, 0, none⟩ (.bool true)).drew := (((Fr.refl (fun k => k = br ∨ k = bo) W13)).setCell (p := ⟨br, 0, none⟩) (.inl (.inl rfl)) _).setCell (p := ⟨bo, 0, none⟩) (.inl (.inr rfl)) _ |>.drew
        have R13 : Blk (W13.setCell ⟨br, 0, none⟩ (.int .i64 ys.length)) br 3 #[.int .i64 ys.length] := by simpa using R12.set_ 0 (.int .i64 ys.length)
        have O13 : Blk ((W13.setCell ⟨br, 0, none⟩ (.int .i64 ys.length)).setCell ⟨bo, 0, none⟩ (.bool true)) bo 4 #[.bool true] := by simpa using (O12.far (p := ⟨br, 0, none⟩) hrb.symm (.int .i64 ys.length)).set_ 0 (.bool true)
        refine ⟨rfl, ⟨.slice a5 xs.length k5, .slice a11 n11 k11, ⟨_, _, _, rfl⟩, ((B12.far (p := ⟨br, 0, none⟩) b1 _).far (p := ⟨bo, 0, none⟩) b2 _).drew, ((K12.far (p := ⟨br, 0, none⟩) k1 _).far (p := ⟨bo, 0, none⟩) k2 _).drew, (R13.far (p := ⟨bo, 0, none⟩) hrb _).drew, O13.drew, ?_⟩, ?_⟩
        · have hO := own_fr W12 FX (fun q hq e => by
            rcases e with e | e
            · exact own_ne W12 R12 (by decide) (by rw [hq]; exact congrArg some e)
            · exact own_ne W12 O12 (by decide) (by rw [hq]; exact congrArg some e))
          rw [HPL.out, hl'.out] at hO
          exact own_mono hO (by omega)
        · exact (F12.mono (S' := fun k => k = bb ∨ k = bk ∨ k = br ∨ k = bo) (fun _ _ e => e.elim (fun e => .inl e) (fun e => .inr (.inl e)))).trans FX (fun _ _ e => e.elim (fun e => .inr (.inr (.inl e))) (fun e => .inr (.inr (.inr e))))
  · go_simp
    have BD : Blk (W0.alloc (.cells #[.slice none 0 0, .nilIface] 229)) W0.heap.size 229 #[.slice none 0 0, .nilIface] := Blk.new W0 229 _
    have F1' := F0.alloc (.cells #[.slice none 0 0, .nilIface] 229)
    have hd2 := F0.size
    refine hK.out _ _ F1' ?_
    clear hK K hS
    try simp only [Act.put, List.setIfInBounds_toArray, List.set_cons_zero, List.set_cons_succ]
    generalize World.alloc W0 (Obj.cells #[.slice none 0 0, .nilIface] 229) = W1' at BD F1' ⊢
    generalize W0.heap.size = d2 at BD hd2 ⊢
    have hS := F1'
    refine wpBut_one 0 (by kernel_rfl) rfl (by rfl) (fun K hK => ?_)
    go_simp
    have o0 := own_empty5 W1' W8.heap.size F1'.size
    have F2' := F1'.alloc (.cells #[] 5)
    have he0 := F1'.size
    have BD2 := BD.alloc (.cells #[] 5)
    refine hK.out _ _ F2' ?_
    clear hK K hS
    try simp only [Act.put, List.setIfInBounds_toArray, List.set_cons_zero, List.set_cons_succ]
    generalize World.alloc W1' (Obj.cells #[] 5) = W2' at o0 F2' BD2 ⊢
    generalize W1'.heap.size = e0 at o0 he0 ⊢
    have hS := F2'
    refine wpBut_one 2 (by kernel_rfl) rfl (by rfl) (fun K hK => ?_)
    refine wp_append_src W2' _ _ 44 44 (by rfl) W8.heap.size 5 i5 (.int .u8 0) 1 1 Tryz.underlying44 hi5 hz0 hz1 hz2 rfl (by decide) (.slice (some ⟨e0, 0, none⟩) 0 0) 0 [] (by rfl) o0 (.slice a5 xs.length k5) xs.length (bc xs) (by rfl) (HSR2.out _ F2') (by unfold maxLen; omega) (by omega) F2'.size ?_
    intro v1 W3' hown1 hgrow1 hat1
    rw [Nat.zero_add, List.nil_append] at hown1
    have F3' := F2'.grown hgrow1 (fun q hq => .inr ((World.ownsRow.lt o0 q hq).1))
    have BD3 := BD2.grown hgrow1 (fun e => own_ne o0 BD2 (by decide) e.symm)
    obtain ⟨a1, n1, k1, rfl⟩ := own_slice hown1
    refine hK.out _ _ F3' ?_
    clear hK K hS hgrow1 hat1
    try simp only [Act.put, List.setIfInBounds_toArray, List.set_cons_zero, List.set_cons_succ]
    have hS := F3'
    refine wpBut_one 4 (by kernel_rfl) rfl (by rfl) (fun K hK => ?_)
    refine wp_append_src W3' _ _ 44 44 (by rfl) W8.heap.size 5 i5 (.int .u8 0) 1 1 Tryz.underlying44 hi5 hz0 hz1 hz2 rfl (by decide) (.slice a1 n1 k1) xs.length (bc xs) (by rfl) hown1 (.slice A9 ys.length c9) ys.length (bc ys) (by rfl) (HSR4.out _ F3') (by unfold maxLen; omega) (by omega) F3'.size ?_
    intro v2 W4' hown2 hgrow2 hat2
    have F4' := F3'.grown hgrow2 (fun q hq => .inr ((World.ownsRow.lt hown1 q hq).1))
    have BD4 := BD3.grown hgrow2 (fun e => own_ne hown1 BD3 (by decide) e.symm)
    obtain ⟨a2, n2, k2, rfl⟩ := own_slice hown2
    refine hK.out _ _ F4' ?_
    clear hK K hS hgrow2 hat2
    try simp only [Act.put, List.setIfInBounds_toArray, List.set_cons_zero, List.set_cons_succ]
    have hS := F4'
    refine wpBut_take 5 (.agg #[.slice a2 n2 k2, .nilIface]) rfl (by kernel_rfl) (by kernel_rfl) (by kernel_rfl) (by kernel_rfl) (fun _ _ _ h => h) (by rfl) (by intro w; go_simp) hS ?_
    try simp only [Act.put, List.setIfInBounds_toArray, List.set_cons_zero, List.set_cons_succ]
    have r0 := BD4.cell 0
    have r1 := BD4.cell 1
    have q0 := BD4.frozen 0
    have q1 := BD4.frozen 1
    simp at r0 r1
    refine wpBut_last 7 (by kernel_rfl) rfl (by kernel_rfl) (by rfl) (fun K hK => ?_)
    go_simp
    refine hK.out _ _ ?_
    clear hK K
    refine wpBut_done (by kernel_rfl) ?_ _
    have BD9 : Blk ((W4'.setCell ⟨d2, 0, none⟩ (.slice a2 n2 k2)).setCell ⟨d2, 1, none⟩ .nilIface) d2 229 #[.slice a2 n2 k2, .nilIface] := by simpa using (BD4.set_ 0 (.slice a2 n2 k2)).set_ 1 .nilIface
    have F9 : Fr (fun _ => False) W8 ((W4'.setCell ⟨d2, 0, none⟩ (.slice a2 n2 k2)).setCell ⟨d2, 1, none⟩ .nilIface) := (F4'.setCell (p := ⟨d2, 0, none⟩) (.inr hd2) _).setCell (p := ⟨d2, 1, none⟩) (.inr hd2) _
    have O9 := own_fr (S := fun k => k = d2) hown2 ((Fr.at_ W4' d2 0 (.slice a2 n2 k2)).setCell (p := ⟨d2, 1, none⟩) (.inl rfl) .nilIface) (fun q hq e => own_ne hown2 BD4 (by decide) (by rw [hq]; exact congrArg some e))
    generalize (W4'.setCell ⟨d2, 0, none⟩ (.slice a2 n2 k2)).setCell ⟨d2, 1, none⟩ .nilIface = W9 at BD9 F9 O9 ⊢
    have E9 : W9.cell? ⟨2, 0, none⟩ = some (.iface te pe) := by rw [F9.cell (p := ⟨2, 0, none⟩) (World.block_lt_of_cell? _ _ HE8.out) (fun e => e)]; exact HE8.out
    rw [← bc_append] at O9
    obtain ⟨g9, cur9, D9⟩ := dec_new BD9 O9 (by simp) (by omega) (by omega) E9
    have BL9 : Bld W9 W6.heap.size w7.heap.size [] ⟨#[]⟩ := HD8.out.fr F9 (fun e => e) (fun _ _ _ e => e)
    clear O9 E9 BD9 r0 r1 q0 q1
    have FW9 : Fr (fun k => k = bb) w W9 := (HF6.out.trans HF8.out (fun _ _ e => e.elim)).trans F9 (fun _ _ e => e.elim)
    have hperm2 : l'.Perm l := by rw [hl'.out]; exact (lsort_sorted ltL ltL_trans ltL_irrefl ltL_ntrans l).2
    have hsz2 := perm_small hperm2 XSZ.out
    have hl12 : l'.length ≤ 12 := by rw [hperm2.length_eq]; exact XLL.out
    have hszz : ∀ p ∈ l', p.1.size < 18446744073709551616 ∧ p.2.size < 18446744073709551616 := fun p hp => by have := hsz2 p hp; omega
    have hGL := gLabs_enc l' ys hszz
    have hgu : gUv (some (xs ++ ys)) = (l'.length, some (l'.flatMap encLab ++ ys)) := by rw [← HXS.out, encLabs, List.append_assoc, gUv_uv _ (by omega)]
    have hGn := hGL l'.length (Nat.le_refl _)
    rw [List.take_length, List.drop_length] at hGn
    have hb6 : w.heap.size ≤ W6.heap.size := HF6.out.size
    have hDL := decodeLabels_any te pe W6.heap.size w7.heap.size d2 g9 cur9 [] ⟨#[]⟩ (some (xs ++ ys)) W9 BL9 D9 (Nat.le_trans HF8.out.size F9.size) (by omega) hd8 l'.length (some (l'.flatMap encLab ++ ys)) hgu (by omega)
      (fun k hk => by
        rw [hGL k (by omega)]
        have hx : l'[k]? = some l'[k] := List.getElem?_eq_getElem hk
        have h1 := hsz2 _ (List.mem_of_getElem? hx)
        have e1 : (l'.drop k).flatMap encLab ++ ys = Lib.uvarint l'[k].1.size ++ (l'[k].1.data.toList ++ (encStr l'[k].2 ++ ((l'.drop (k + 1)).flatMap encLab ++ ys))) := by
          rw [List.drop_eq_getElem_cons hk, List.flatMap_cons]; simp [encLab, encStr]
        refine ⟨?_, ?_⟩
        · show (gUv (some _)).1 < _
          rw [e1, gUv_uv _ (by omega)]; simp only []; omega
        · have e2 : (l'.drop k).flatMap encLab ++ ys = encStr l'[k].1 ++ (encStr l'[k].2 ++ ((l'.drop (k + 1)).flatMap encLab ++ ys)) := by rw [e1]; simp [encStr]
          show (gUv (gStr (some _)).2).1 < _
          rw [e2, gStr_enc _ _ (by omega)]
          simp only [encStr, List.append_assoc]
          rw [gUv_uv _ (by omega)]; simp only []; omega)
      (by rw [hGn]; exact hsz2) gLabs_len
    rw [hGn] at hDL
    dsimp only at hDL
    have hUM := fun W => unmade_any l' W (by omega) (fun p hp => by have := hsz2 p hp; omega) (labsSize_le4 l' (by omega) hsz2)
    have HFW9 := Lib.hid FW9
    rw [List.flatMap_nil, List.nil_append] at hDL
    have HPL := Lib.hid hperm2.length_eq
    clear hperm2 hsz2 hl12 hszz hGL hgu hGn BL9 FW9
    have hd9 : W6.heap.size ≤ d2 := Nat.le_trans HF8.out.size hd2
    have HF9 := Lib.hid F9
    have HD9b := Lib.hid D9
    clear F9 D9
    go_wp2_with (first
      | (go_at_call 117; refine hDL.mono ?_; rintro r w10 ⟨rfl, hD10, hf10⟩)
      | (go_at_call 70
         refine (hUM _).mono ?_
         rintro r w11 ⟨v11, rfl, hown11, hf11⟩
         refine Hid.out ?_))
    have NDS : ∀ k, k < W6.heap.size → ¬ DS W9 W6.heap.size w7.heap.size d2 k := fun k hk e => by
      rcases e with e | e | ⟨e, _⟩ <;> omega
    have F10 : Fr (fun k => k = bb) w w10 := HFW9.out.trans hf10 (fun k hk e => absurd e (NDS k (by omega)))
    have F11 : Fr (fun k => k = bb) w w11 := F10.trans hf11 (fun _ _ e => e.elim)
    have F6b : Fr (fun k => W6.heap.size ≤ k) W6 w11 := (((HF8.out.same HF9.out).mono (S' := fun k => W6.heap.size ≤ k) (fun _ _ e => e.elim)).trans hf10 (fun k hk e => Classical.byContradiction fun h => NDS k (by omega) e)).trans hf11 (fun _ _ e => e.elim)
    have K11 : Blk w11 bk 31 #[z1] := XK.out.fr F11 (fun e => Blk.ne_ XK.out XB.out (by decide) e)
    have R11 : Blk w11 br 3 #[z2] := XR.out.fr F11 (fun e => Blk.ne_ XR.out XB.out (by decide) e)
    have O11 : Blk w11 bo 4 #[z3] := XO.out.fr F11 (fun e => Blk.ne_ XO.out XB.out (by decide) e)
    have B11 : Blk w11 bb 44 #[.slice a5 xs.length k5] := HB6.out.fr F6b (by have := XB.out.lt; omega)
    have D11 := dec_fr hD10 hf11 (fun e => e) (fun e => e) (fun e => e)
    have y0 := K11.cell 0
    have y1 := K11.frozen 0
    simp at y0
    obtain ⟨a11, n11, k11, rfl⟩ := own_slice hown11
    have K12 : Blk (w11.setCell ⟨bk, 0, none⟩ (.slice a11 n11 k11)) bk 31 #[.slice a11 n11 k11] := by simpa using K11.set_ 0 (.slice a11 n11 k11)
    have R12 := R11.far (p := ⟨bk, 0, none⟩) (Blk.ne_ R11 K11 (by decide)) (.slice a11 n11 k11)
    have O12 := O11.far (p := ⟨bk, 0, none⟩) (Blk.ne_ O11 K11 (by decide)) (.slice a11 n11 k11)
    have B12 := B11.far (p := ⟨bk, 0, none⟩) (Blk.ne_ B11 K11 (by decide)) (.slice a11 n11 k11)
    have hbkl := XK.out.lt
    have D12 := dec_fr D11 (Fr.at_ w11 bk 0 (.slice a11 n11 k11)) (show ¬ d2 = bk by omega) (fun e => by obtain ⟨_, _, hg, _⟩ := dec_blk D11; exact Blk.ne_ hg K11 (by decide) e) (by omega)
    have W12 := own_fr (S := fun k => k = bk) hown11 (Fr.at_ w11 bk 0 (.slice a11 n11 k11)) (fun q hq e => own_ne hown11 K11 (by decide) (by rw [hq]; exact congrArg some e))
    have F12 : Fr (fun k => k = bb ∨ k = bk) w (w11.setCell ⟨bk, 0, none⟩ (.slice a11 n11 k11)) := (F11.mono (S' := fun k => k = bb ∨ k = bk) (fun _ _ e => .inl e)).setCell (p := ⟨bk, 0, none⟩) (.inl (.inr rfl)) _
    have hsz10 := F10.size
    have T12 := Lib.hid (And.intro K12 (And.intro R12 (And.intro O12 (And.intro B12 (And.intro W12 F12)))))
    have TD := Lib.hid D12
    clear NDS F10 F11 F6b K11 R11 O11 B11 D11 K12 R12 O12 B12 D12 W12 F12 hf10 hf11 hown11 hD10 hDL hUM
    refine Lib.hid ?_
    go_wp2_with fail
    generalize w11.setCell ⟨bk, 0, none⟩ (.slice a11 n11 k11) = W13 at T12 TD ⊢
    have hLen := decLen te pe d2 g9 cur9 (some ys) W13.drew TD.out
    have hErr : Calls Tryz.prog 119 #[.pointer (some ⟨d2, 0, none⟩)] W13.drew fun r w' => r = .returned .nilIface ∧ W13.drew = w' := decErr te pe d2 g9 cur9 (some ys) W13.drew TD.out
    have r0 := T12.out.2.1.drew.cell 0
    have r1 := T12.out.2.1.drew.frozen 0
    have hrb : br ≠ bo := Blk.ne_ T12.out.2.1 T12.out.2.2.1 (by decide)
    have o0x := (T12.out.2.2.1.drew.far (p := ⟨br, 0, none⟩) hrb.symm (.int .i64 ys.length)).cell 0
    have o1x := (T12.out.2.2.1.drew.far (p := ⟨br, 0, none⟩) hrb.symm (.int .i64 ys.length)).frozen 0
    have o0y := T12.out.2.2.1.drew.cell 0
    have o1y := T12.out.2.2.1.frozen 0
    have r1y := T12.out.2.1.frozen 0
    have hrb2 : bo ≠ br := hrb.symm
    simp at r0 o0x o0y
    refine wp_region_but (fun _ => True) 4 (by kernel_rfl) trivial ?_
    intro hS
    refine wpBut_one 0 (by kernel_rfl) rfl (by rfl) (fun K hK => ?_)
    go_simp
    go_at_call 118
    refine hLen.mono ?_
    rintro r w14 ⟨n14, rfl, hn14, _, rfl⟩
    obtain rfl := hn14 ys rfl
    refine hK.out _ _ hS ?_
    clear hK K hn14
    try simp only [Act.put, List.setIfInBounds_toArray, List.set_cons_zero, List.set_cons_succ]
    refine wpBut_one 1 (by kernel_rfl) rfl (by rfl) (fun K hK => ?_)
    go_simp
    go_at_call 119
    refine hErr.mono ?_
    rintro r w15 ⟨rfl, rfl⟩
    refine hK.out _ _ hS ?_
    clear hK K
    try simp only [Act.put, List.setIfInBounds_toArray, List.set_cons_zero, List.set_cons_succ]
    refine wpBut_take 2 (.bool true) rfl (by kernel_rfl) (by kernel_rfl) (by kernel_rfl) (by kernel_rfl) (fun _ _ _ h => h) (by rfl) (by intro w; go_simp) hS ?_
    try simp only [Act.put, List.setIfInBounds_toArray, List.set_cons_zero, List.set_cons_succ]
    refine wpBut_one 3 (by kernel_rfl) rfl (by rfl) (fun K hK => ?_)
    go_simp
    refine hK.out _ _ hS ?_
    clear hK K
    refine wpBut_last 4 (by kernel_rfl) rfl (by kernel_rfl) (by rfl) (fun K hK => ?_)
    go_simp
    refine hK.out _ _ ?_
    clear hK K
    refine wpBut_done (by kernel_rfl) ?_ _
    all_goals go_end0
    all_goals
      obtain ⟨K12, R12, O12, B12, W12, F12⟩ := T12.out
      have b1 : bb ≠ br := Blk.ne_ B12 R12 (by decide)
      have b2 : bb ≠ bo := Blk.ne_ B12 O12 (by decide)
      have k1 : bk ≠ br := Blk.ne_ K12 R12 (by decide)
      have k2 : bk ≠ bo := Blk.ne_ K12 O12 (by decide)
      have FX : Fr (fun k => k = br ∨ k = bo) W13 ((W13.setCell ⟨br, 0, none⟩ (.int .i64 ys.length)).setCell ⟨bo, 0, none⟩ (.bool true)).drew := (((Fr.refl (fun k => k = br ∨ k = bo) W13)).setCell (p := ⟨br, 0, none⟩) (.inl (.inl rfl)) _).setCell (p := ⟨bo, 0, none⟩) (.inl (.inr rfl)) _ |>.drew
      have R13 : Blk (W13.setCell ⟨br, 0, none⟩ (.int .i64 ys.length)) br 3 #[.int .i64 ys.length] := by simpa using R12.set_ 0 (.int .i64 ys.length)
      have O13 : Blk ((W13.setCell ⟨br, 0, none⟩ (.int .i64 ys.length)).setCell ⟨bo, 0, none⟩ (.bool true)) bo 4 #[.bool true] := by simpa using (O12.far (p := ⟨br, 0, none⟩) hrb.symm (.int .i64 ys.length)).set_ 0 (.bool true)
      refine ⟨rfl, ⟨.slice a5 xs.length k5, .slice a11 n11 k11, ⟨_, _, _, rfl⟩, ((B12.far (p := ⟨br, 0, none⟩) b1 _).far (p := ⟨bo, 0, none⟩) b2 _).drew, ((K12.far (p := ⟨br, 0, none⟩) k1 _).far (p := ⟨bo, 0, none⟩) k2 _).drew, (R13.far (p := ⟨bo, 0, none⟩) hrb _).drew, O13.drew, ?_⟩, ?_⟩
      · have hO := own_fr W12 FX (fun q hq e => by
          rcases e with e | e
          · exact own_ne W12 R12 (by decide) (by rw [hq]; exact congrArg some e)
          · exact own_ne W12 O12 (by decide) (by rw [hq]; exact congrArg some e))
        rw [HPL.out, hl'.out] at hO
        exact own_mono hO (by omega)
      · exact (F12.mono (S' := fun k => k = bb ∨ k = bk ∨ k = br ∨ k = bo) (fun _ _ e => e.elim (fun e => .inl e) (fun e => .inr (.inl e)))).trans FX (fun _ _ e => e.elim (fun e => .inr (.inr (.inl e))) (fun e => .inr (.inr (.inr e))))
end Go.Proofs.YtbkookiigkckdaaGreatDoor
