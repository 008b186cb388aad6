/- Texts of this seat, merged: Gb. -/
import Derived.Test.YtbkookiigkckdaaGreatDoorK26
import Derived.Test.YtbkookiigkckdaaGreatDoorK12
import Derived.Test.YtbkookiigkckdaaGreatDoorK14
/- labelsAlive. Printed by gen_gb.py. -/
namespace Go.Proofs.YtbkookiigkckdaaGreatDoor
open Go.RowKit
set_option linter.unusedVariables false
set_option linter.unusedSimpArgs false

def lBA : List Lab := [(⟨#[98]⟩, ⟨#[50]⟩), (⟨#[97]⟩, ⟨#[49]⟩)]
def lB : List Lab := [(⟨#[98]⟩, ⟨#[50]⟩)]
theorem made_ab (P : Nat → Prop) (v : Value) (W : World) (h : Sl P W v 2 2 (lBA.flatMap labc)) : Calls Tryz.prog 54 #[v] W fun r w' => r = .returned (.agg #[.string ⟨#[1, 97, 1, 49, 1, 98, 1, 50]⟩]) ∧ Fr (fun _ => False) W w' := by
  refine (made_any P v lBA W h (by decide) (by decide)).mono ?_
  rintro r w' ⟨l', hp, hs, rfl, hf⟩
  have e := sorted_same lBA l' hp hs (by decide)
  refine ⟨?_, hf⟩
  rw [e]
  have : labStr (sortL lBA) = ⟨#[1, 97, 1, 49, 1, 98, 1, 50]⟩ := by kernel_rfl
  rw [this]
theorem made_b (P : Nat → Prop) (v : Value) (W : World) (h : Sl P W v 2 1 (lB.flatMap labc)) : Calls Tryz.prog 54 #[v] W fun r w' => r = .returned (.agg #[.string ⟨#[1, 98, 1, 50]⟩]) ∧ Fr (fun _ => False) W w' := by
  refine (made_any P v lB W h (by decide) (by decide)).mono ?_
  rintro r w' ⟨l', hp, hs, rfl, hf⟩
  have e := sorted_same lB l' hp hs (by decide)
  refine ⟨?_, hf⟩
  rw [e]
  have : labStr (sortL lB) = ⟨#[1, 98, 1, 50]⟩ := by kernel_rfl
  rw [this]

set_option maxRecDepth 100000 in
set_option maxHeartbeats 2000000 in
theorem ask1_any (P : Nat → Prop) (bl bn bv bh : Nat) (lv z2 z3 : Value) (w : World) (hl : Blk w bl 31 #[lv]) (hn : Blk w bn 9 #[.string ⟨#[98]⟩]) (hv : Blk w bv 9 #[z2]) (hh : Blk w bh 4 #[z3]) (hne : bn ≠ bv) (hS : Sl P w lv 2 2 (lBA.flatMap labc)) :
    Calls Tryz.prog 122 #[.pointer (some ⟨bl, 0, none⟩), .pointer (some ⟨bn, 0, none⟩), .pointer (some ⟨bv, 0, none⟩), .pointer (some ⟨bh, 0, none⟩)] w fun r w' => r = .returned (.tuple #[]) ∧ Blk w' bv 9 #[.string ⟨#[50]⟩] ∧ Blk w' bh 4 #[.bool true] ∧ Fr (fun k => k = bv ∨ k = bh) w w' := by
  have hM := made_ab P lv w hS
  obtain ⟨A, c, rfl⟩ : ∃ A c, lv = .slice A 2 c := let ⟨A, c, h, _⟩ := hS; ⟨A, c, h⟩
  have c0 := hl.cell 0
  simp at c0
  have XN := Lib.hid hn
  have XV := Lib.hid hv
  have XH := Lib.hid hh
  clear hl hn hv hh hS
  go_enter Tryz.func122, Tryz.ntmps122
  go_wp2_with (go_at_call 54; refine hM.mono ?_; rintro r w1 ⟨rfl, hf1⟩)
  have B2 : Blk (w1.alloc (.cells #[.string ⟨#[1, 97, 1, 49, 1, 98, 1, 50]⟩] 99)) w1.heap.size 99 #[.string ⟨#[1, 97, 1, 49, 1, 98, 1, 50]⟩] := Blk.new w1 99 _
  have F2 : Fr (fun _ => False) w (w1.alloc (.cells #[.string ⟨#[1, 97, 1, 49, 1, 98, 1, 50]⟩] 99)) := hf1.alloc _
  generalize w1.alloc (.cells #[.string ⟨#[1, 97, 1, 49, 1, 98, 1, 50]⟩] 99) = W2 at B2 F2 ⊢
  generalize w1.heap.size = x at B2 ⊢
  have N2 := XN.out.fr F2 (fun e => e)
  have HC : Hid (∀ W, Fr (fun _ => False) W2 W → W.cell? ⟨x, 0, none⟩ = some (.string ⟨#[1, 97, 1, 49, 1, 98, 1, 50]⟩) ∧ W.cell? ⟨bn, 0, none⟩ = some (.string ⟨#[98]⟩)) := Lib.hid (fun W hF => ⟨(B2.fr hF (fun e => e)).cell 0, (N2.fr hF (fun e => e)).cell 0⟩)
  have HF2 := Lib.hid F2
  clear B2 F2 N2 hM c0 hf1
  refine wp_region_but (fun W => W.cell? ⟨x, 0, none⟩ = some (.string ⟨#[1, 97, 1, 49, 1, 98, 1, 50]⟩) ∧ W.cell? ⟨bn, 0, none⟩ = some (.string ⟨#[98]⟩)) 6 (by kernel_rfl) (HC.out _ (Fr.refl _ W2).drew) ?_
  intro hS
  have F3 : Fr (fun _ => False) W2 W2.drew := (Fr.refl _ W2).drew
  generalize W2.drew = W3 at F3 hS ⊢
  refine wpBut_load 0 [2, 5, 6] (.agg #[.string ⟨#[1, 97, 1, 49, 1, 98, 1, 50]⟩]) rfl (by kernel_rfl) (by kernel_rfl) (by kernel_rfl) (by kernel_rfl) (by kernel_rfl) (by kernel_rfl) (by kernel_rfl) (fun _ _ _ h => h) (by rfl) (by rintro w ⟨h1, h2⟩; go_simp) hS ?_
  try simp only [Act.put, List.setIfInBounds_toArray, List.set_cons_zero, List.set_cons_succ]
  refine wpBut_load 1 [2, 5, 6] (.string ⟨#[98]⟩) rfl (by kernel_rfl) (by kernel_rfl) (by kernel_rfl) (by kernel_rfl) (by kernel_rfl) (by kernel_rfl) (by kernel_rfl) (fun _ _ _ h => h) (by rfl) (by rintro w ⟨h1, h2⟩; go_simp) hS ?_
  try simp only [Act.put, List.setIfInBounds_toArray, List.set_cons_zero, List.set_cons_succ]
  refine wpBut_load 3 [5, 6] (.agg #[.string ⟨#[1, 97, 1, 49, 1, 98, 1, 50]⟩]) rfl (by kernel_rfl) (by kernel_rfl) (by kernel_rfl) (by kernel_rfl) (by kernel_rfl) (by kernel_rfl) (by kernel_rfl) (fun _ _ _ h => h) (by rfl) (by rintro w ⟨h1, h2⟩; go_simp) hS ?_
  try simp only [Act.put, List.setIfInBounds_toArray, List.set_cons_zero, List.set_cons_succ]
  refine wpBut_load 4 [5, 6] (.string ⟨#[98]⟩) rfl (by kernel_rfl) (by kernel_rfl) (by kernel_rfl) (by kernel_rfl) (by kernel_rfl) (by kernel_rfl) (by kernel_rfl) (fun _ _ _ h => h) (by rfl) (by rintro w ⟨h1, h2⟩; go_simp) hS ?_
  try simp only [Act.put, List.setIfInBounds_toArray, List.set_cons_zero, List.set_cons_succ]
  refine wpBut_one 2 (by kernel_rfl) rfl (by rfl) (fun K hK => ?_)
  go_simp
  go_at_call 123
  refine (get_b W3).mono ?_
  rintro r W4 ⟨rfl, hf4⟩
  have F4 := F3.same hf4
  have hS4 := HC.out _ F4
  refine hK.out _ _ hS4 ?_
  clear hK K hS
  try simp only [Act.put, List.setIfInBounds_toArray, List.set_cons_zero, List.set_cons_succ]
  refine wpBut_one 5 (by kernel_rfl) rfl (by rfl) (fun K hK => ?_)
  go_simp
  go_at_call 124
  refine (has_b W4).mono ?_
  rintro r W5 ⟨rfl, hf5⟩
  have F5 := HF2.out.same (F4.same hf5)
  have hS5 := HC.out _ (F4.same hf5)
  refine hK.out _ _ hS5 ?_
  clear hK K hS4
  try simp only [Act.put, List.setIfInBounds_toArray, List.set_cons_zero, List.set_cons_succ]
  have V5 := XV.out.fr F5 (fun e => e)
  have H5 := XH.out.fr F5 (fun e => e)
  have c0 := V5.cell 0
  have z0 := V5.frozen 0
  have hvh : bv ≠ bh := Blk.ne_ V5 H5 (by decide)
  have H6 := H5.far (p := ⟨bv, 0, none⟩) hvh.symm (.string ⟨#[50]⟩)
  have V6 : Blk (W5.setCell ⟨bv, 0, none⟩ (.string ⟨#[50]⟩)) bv 9 #[.string ⟨#[50]⟩] := by simpa using V5.set_ 0 (.string ⟨#[50]⟩)
  simp at c0
  refine wpBut_last 6 (by kernel_rfl) rfl (by kernel_rfl) (by rfl) (fun K hK => ?_)
  go_simp
  refine hK.out _ _ ?_
  clear hK K
  have F6 : Fr (fun k => k = bv ∨ k = bh) w (W5.setCell ⟨bv, 0, none⟩ (.string ⟨#[50]⟩)) := (F5.mono (S' := fun k => k = bv ∨ k = bh) (fun _ _ e => e.elim)).setCell (p := ⟨bv, 0, none⟩) (.inl (.inl rfl)) _
  generalize W5.setCell ⟨bv, 0, none⟩ (.string ⟨#[50]⟩) = W6 at H6 V6 F6 ⊢
  have c6 := H6.cell 0
  have z6 := H6.frozen 0
  simp at c6
  refine wpBut_last 7 (by kernel_rfl) rfl (by kernel_rfl) (by rfl) (fun K hK => ?_)
  go_simp
  refine hK.out _ _ ?_
  clear hK K
  refine wpBut_done (by kernel_rfl) ?_ _
  go_end0
  exact ⟨rfl, V6.far (p := ⟨bh, 0, none⟩) hvh _, by simpa using H6.set_ 0 (.bool true), F6.setCell (p := ⟨bh, 0, none⟩) (.inl (.inr rfl)) _⟩

set_option maxRecDepth 100000 in
set_option maxHeartbeats 2000000 in
theorem ask_any (P : Nat → Prop) (lv : Value) (w : World) (hS : Sl P w lv 2 2 (lBA.flatMap labc)) :
    Calls Tryz.prog 45 #[lv, .string ⟨#[98]⟩] w fun r w' => r = .returned (.tuple #[.string ⟨#[50]⟩, .bool true]) ∧ Fr (fun _ => False) w w' := by
  obtain ⟨A, c, rfl⟩ : ∃ A c, lv = .slice A 2 c := let ⟨A, c, h, _⟩ := hS; ⟨A, c, h⟩
  have e : ∀ (w : World) (o : Obj), (w.alloc o).heap.size = w.heap.size + 1 := fun w o => by simp
  obtain ⟨W, hW⟩ : ∃ W, (((w.alloc (.cells #[.slice A 2 c] 31)).alloc (.cells #[.string ⟨#[98]⟩] 9)).alloc (.cells #[.string ⟨#[]⟩] 9)).alloc (.cells #[.bool false] 4) = W := ⟨_, rfl⟩
  have B0 : Blk W w.heap.size 31 #[.slice A 2 c] := by rw [← hW]; exact (((Blk.new w 31 _).alloc _).alloc _).alloc _
  have B1 : Blk W (w.heap.size + 1) 9 #[.string ⟨#[98]⟩] := by
    have := ((Blk.new (w.alloc (.cells #[.slice A 2 c] 31)) 9 #[.string ⟨#[98]⟩]).alloc (.cells #[.string ⟨#[]⟩] 9)).alloc (.cells #[.bool false] 4)
    rw [e] at this; rw [← hW]; exact this
  have B2 : Blk W (w.heap.size + 2) 9 #[.string ⟨#[]⟩] := by
    have := (Blk.new ((w.alloc (.cells #[.slice A 2 c] 31)).alloc (.cells #[.string ⟨#[98]⟩] 9)) 9 #[.string ⟨#[]⟩]).alloc (.cells #[.bool false] 4)
    rw [e, e] at this; rw [← hW]; exact this
  have B3 : Blk W (w.heap.size + 3) 4 #[.bool false] := by
    have := Blk.new (((w.alloc (.cells #[.slice A 2 c] 31)).alloc (.cells #[.string ⟨#[98]⟩] 9)).alloc (.cells #[.string ⟨#[]⟩] 9)) 4 #[.bool false]
    rw [e, e, e] at this; rw [← hW]; exact this
  have hF : Fr (fun _ => False) w W := by rw [← hW]; exact ((((Fr.refl _ w).alloc _).alloc _).alloc _).alloc _
  have hZ : W.heap.size = w.heap.size + 4 := by rw [← hW]; simp
  have hCL : Calls Tryz.prog 65 #[.func (.func 122) #[] #[.pointer (some ⟨w.heap.size, 0, none⟩), .pointer (some ⟨w.heap.size + 1, 0, none⟩), .pointer (some ⟨w.heap.size + 2, 0, none⟩), .pointer (some ⟨w.heap.size + 3, 0, none⟩)]] W
      fun r w' => r = .returned (.bool true) ∧ Blk w' (w.heap.size + 2) 9 #[.string ⟨#[50]⟩] ∧ Blk w' (w.heap.size + 3) 4 #[.bool true] ∧ Fr (fun _ => False) w w' := by
    have hcall := ask1_any P w.heap.size (w.heap.size + 1) (w.heap.size + 2) (w.heap.size + 3) _ _ _ (W.alloc (.cells #[.bool false] 4)) (B0.alloc _) (B1.alloc _) (B2.alloc _) (B3.alloc _) (by omega) ((hS.fr hF (fun _ _ e => e)).fr ((Fr.refl (fun _ => False) W).alloc _) (fun _ _ e => e))
    have hsafe := safe_ok 122 _ W _ (enters_of Tryz.func122 (by kernel_rfl) rfl) (hcall.mono (fun r w' hr => ⟨hr.1, hr.2, (Blk.new W 4 #[.bool false]).fr hr.2.2.2 (by
      rintro (h | h) <;> omega)⟩))
    refine hsafe.mono ?_
    rintro r w4 ⟨rfl, w5, ⟨q2, q3, qF⟩, hb5, rfl⟩
    have FX : Fr (fun k => k = W.heap.size) w5 ((w5.setCell ⟨W.heap.size, 0, none⟩ (.bool true)).setCell ⟨W.heap.size, 0, none⟩ (.bool true)) := ((Fr.refl (fun k => k = W.heap.size) w5).setCell (p := ⟨W.heap.size, 0, none⟩) (.inl rfl) _).setCell (p := ⟨W.heap.size, 0, none⟩) (.inl rfl) _
    have f1 : Fr (fun _ => False) w w5 := (hF.alloc (.cells #[.bool false] 4)).trans qF (by rintro k hk (h | h) <;> omega)
    exact ⟨rfl, q2.fr FX (by omega), q3.fr FX (by omega), f1.trans FX (fun k hk e => by omega)⟩
  rw [← hW] at hCL
  clear hS B0 B1 B2 B3 hF hZ hW
  have hmf : ∀ (fn : Fn) (first cap : Array Value) (w : World), (Instr.makeFunc fn first cap).run Tryz.prog w = .ok (.func fn first cap) w := fun _ _ _ _ => rfl
  go_enter Tryz.func45, Tryz.ntmps45
  go_wp2_with (go_at_call 65; refine hCL.mono ?_; rintro r w4 ⟨rfl, V4, H4, F4⟩; refine Hid.out ?_)
  have S0 : ∀ W, Blk W (w.heap.size + 2) 9 #[.string ⟨#[50]⟩] → Blk W (w.heap.size + 3) 4 #[.bool true] → W.cell? ⟨w.heap.size + 2, 0, none⟩ = some (.string ⟨#[50]⟩) ∧ W.cell? ⟨w.heap.size + 3, 0, none⟩ = some (.bool true) := fun W h1 h2 => ⟨by simpa using h1.cell 0, by simpa using h2.cell 0⟩
  refine Lib.hid ?_
  go_wp2_with fail
  have FW : Fr (fun _ => False) w w4.drew := F4.drew
  have W2 : Blk w4.drew (w.heap.size + 2) 9 #[.string ⟨#[50]⟩] := V4
  have W3 : Blk w4.drew (w.heap.size + 3) 4 #[.bool true] := H4
  clear V4 H4 F4 hCL
  refine wp_region_but (fun W => W.cell? ⟨w.heap.size + 2, 0, none⟩ = some (.string ⟨#[50]⟩) ∧ W.cell? ⟨w.heap.size + 3, 0, none⟩ = some (.bool true)) 3 (by kernel_rfl) (S0 _ W2 W3) ?_
  intro hS
  generalize w4.drew = X at FW W2 W3 hS ⊢
  refine wpBut_load 0 [2, 3] (.string ⟨#[50]⟩) rfl (by kernel_rfl) (by kernel_rfl) (by kernel_rfl) (by kernel_rfl) (by kernel_rfl) (by kernel_rfl) (by kernel_rfl) (fun _ _ _ h => h) (by rfl) (by rintro w ⟨h1, h2⟩; go_simp) hS ?_
  try simp only [Act.put, List.setIfInBounds_toArray, List.set_cons_zero, List.set_cons_succ]
  refine wpBut_load 1 [3] (.bool true) rfl (by kernel_rfl) (by kernel_rfl) (by kernel_rfl) (by kernel_rfl) (by kernel_rfl) (by kernel_rfl) (by kernel_rfl) (fun _ _ _ h => h) (by rfl) (by rintro w ⟨h1, h2⟩; go_simp) hS ?_
  try simp only [Act.put, List.setIfInBounds_toArray, List.set_cons_zero, List.set_cons_succ]
  have c0 := W2.cell 0
  have z0 := W2.frozen 0
  simp at c0
  refine wpBut_one 2 (by kernel_rfl) rfl (by rfl) (fun K hK => ?_)
  go_simp
  have V2 : Blk (X.setCell ⟨w.heap.size + 2, 0, none⟩ (.string ⟨#[50]⟩)) (w.heap.size + 2) 9 #[.string ⟨#[50]⟩] := by simpa using W2.set_ 0 (.string ⟨#[50]⟩)
  have V3 := W3.far (p := ⟨w.heap.size + 2, 0, none⟩) (by show w.heap.size + 3 ≠ w.heap.size + 2; omega) (.string ⟨#[50]⟩)
  have VF : Fr (fun _ => False) w (X.setCell ⟨w.heap.size + 2, 0, none⟩ (.string ⟨#[50]⟩)) := FW.setCell (p := ⟨w.heap.size + 2, 0, none⟩) (.inr (by show w.heap.size ≤ w.heap.size + 2; omega)) _
  refine hK.out _ _ (S0 _ V2 V3) ?_
  clear hK K c0 z0 W2 W3 FW hS
  generalize X.setCell ⟨w.heap.size + 2, 0, none⟩ (.string ⟨#[50]⟩) = Y at V2 V3 VF ⊢
  have hS := S0 _ V2 V3
  revert V2 V3 VF hS
  clear X
  revert Y
  intro X W2 W3 FW hS
  have c0 := W3.cell 0
  have z0 := W3.frozen 0
  simp at c0
  refine wpBut_last 3 (by kernel_rfl) rfl (by kernel_rfl) (by rfl) (fun K hK => ?_)
  go_simp
  have V2 := W2.far (p := ⟨w.heap.size + 3, 0, none⟩) (by show w.heap.size + 2 ≠ w.heap.size + 3; omega) (.bool true)
  have V3 : Blk (X.setCell ⟨w.heap.size + 3, 0, none⟩ (.bool true)) (w.heap.size + 3) 4 #[.bool true] := by simpa using W3.set_ 0 (.bool true)
  have VF : Fr (fun _ => False) w (X.setCell ⟨w.heap.size + 3, 0, none⟩ (.bool true)) := FW.setCell (p := ⟨w.heap.size + 3, 0, none⟩) (.inr (by show w.heap.size ≤ w.heap.size + 3; omega)) _
  refine hK.out _ _ ?_
  clear hK K c0 z0 W2 W3 FW hS
  generalize X.setCell ⟨w.heap.size + 3, 0, none⟩ (.bool true) = Y at V2 V3 VF ⊢
  have hS := S0 _ V2 V3
  revert V2 V3 VF hS
  clear X
  revert Y
  intro X W2 W3 FW hS
  refine wpBut_done (by kernel_rfl) ?_ _
  obtain ⟨t2, t3⟩ := hS
  go_wp2_with fail
  simp [Exit.then, bodyPost, results, Tryz.results45, go_sem, t2, t3]
  exact FW

set_option maxRecDepth 100000 in
set_option maxHeartbeats 2000000 in
theorem cmp_any (P Q : Nat → Prop) (u v : Value) (w : World) (hS : Sl P w u 2 2 (lBA.flatMap labc)) (hT : Sl Q w v 2 1 (lB.flatMap labc)) :
    Calls Tryz.prog 46 #[u, v] w fun r w' => r = .returned (.tuple #[.int .i64 (-1), .bool false]) ∧ Fr (fun _ => False) w w' := by
  have q1 := made_ab P u w hS
  have q2 : Hid (∀ W, Fr (fun _ => False) w W → Calls Tryz.prog 54 #[v] W fun r w' => r = .returned (.agg #[.string ⟨#[1, 98, 1, 50]⟩]) ∧ Fr (fun _ => False) W w') := Lib.hid (fun W hF => made_b Q v W (hT.fr hF (fun _ _ e => e)))
  obtain ⟨A, c, rfl⟩ : ∃ A c, u = .slice A 2 c := let ⟨A, c, h, _⟩ := hS; ⟨A, c, h⟩
  obtain ⟨B, d, rfl⟩ : ∃ A c, v = .slice A 1 c := let ⟨A, c, h, _⟩ := hT; ⟨A, c, h⟩
  clear hS hT
  go_enter Tryz.func46, Tryz.ntmps46
  go_wp2_with (first
    | (go_at_call_of 54 (Value.slice A 2 c); refine q1.mono ?_; rintro r w1 ⟨rfl, hf1⟩)
    | (go_at_call_of 54 (Value.slice B 1 d); refine (q2.out _ hf1).mono ?_; rintro r w2 ⟨rfl, hf2⟩; refine Hid.out ?_))
  refine Lib.hid ?_
  have B1 : Blk ((w2.alloc (.cells #[.string ⟨#[1, 97, 1, 49, 1, 98, 1, 50]⟩] 99)).alloc (.cells #[.string ⟨#[1, 98, 1, 50]⟩] 99)) w2.heap.size 99 #[.string ⟨#[1, 97, 1, 49, 1, 98, 1, 50]⟩] := (Blk.new w2 99 _).alloc _
  have B2 : Blk ((w2.alloc (.cells #[.string ⟨#[1, 97, 1, 49, 1, 98, 1, 50]⟩] 99)).alloc (.cells #[.string ⟨#[1, 98, 1, 50]⟩] 99)) (w2.heap.size + 1) 99 #[.string ⟨#[1, 98, 1, 50]⟩] := blk_new2 w2 _ 99 _
  have F2 : Fr (fun _ => False) w ((w2.alloc (.cells #[.string ⟨#[1, 97, 1, 49, 1, 98, 1, 50]⟩] 99)).alloc (.cells #[.string ⟨#[1, 98, 1, 50]⟩] 99)) := ((hf1.same hf2).alloc _).alloc _
  have HB1 := Lib.hid B1
  have HB2 := Lib.hid B2
  have HF2 := Lib.hid F2
  clear B1 B2 F2 hf1 hf2 q1
  go_wp2_with (first
    | (go_at_call 125; refine (compare_ab _).mono ?_; rintro r w3 ⟨rfl, hf3⟩; have hb1 := HB1.out.fr hf3 (fun e => e); have hb2 := HB2.out.fr hf3 (fun e => e); have k1 := hb1.cell 0; have k2 := hb2.cell 0; simp at k1 k2)
    | (go_at_call 126; refine (equal_ab _).mono ?_; rintro r w4 ⟨rfl, hf4⟩))
  refine bodyPost_ret (results_tmp2 rfl _ _ _) rfl ?_
  exact ⟨rfl, (HF2.out.same hf3).same hf4⟩

set_option maxRecDepth 100000 in
set_option maxHeartbeats 2000000 in
theorem madeNew_any (P : Nat → Prop) (u : Value) (w : World) (hS : Sl P w u 2 2 (lBA.flatMap labc)) : Calls Tryz.prog 47 #[.int .i64 0, u] w (LabEnds 40 w (sortL lBA)) := by
  have q1 := made_ab P u w hS
  have e1 : labStr (sortL lBA) = ⟨#[1, 97, 1, 49, 1, 98, 1, 50]⟩ := by kernel_rfl
  have q2 : Hid (∀ W, Fr (fun _ => False) w W → Calls Tryz.prog 70 #[.agg #[.string ⟨#[1, 97, 1, 49, 1, 98, 1, 50]⟩]] W (LabEnds 40 W (sortL lBA))) := Lib.hid (fun W hF => by
    have := unmade_any (sortL lBA) W (by rw [lsort_length]; decide) (by decide) (by decide)
    rw [e1] at this
    exact this)
  obtain ⟨A, c, rfl⟩ : ∃ A c, u = .slice A 2 c := let ⟨A, c, h, _⟩ := hS; ⟨A, c, h⟩
  clear hS
  go_enter Tryz.func47, Tryz.ntmps47
  go_wp2_with (first
    | (go_at_call 54; refine q1.mono ?_; rintro r w1 ⟨rfl, hf1⟩)
    | (go_at_call 70; refine (q2.out _ hf1).mono ?_; rintro r w2 ⟨v2, rfl, hown2, hf2⟩))
  go_ret
  exact ⟨_, rfl, own_mono hown2 hf1.size, hf1.same hf2⟩

theorem sl_ba (W : World) (g : Nat) (h : Blk W g 40 #[.string ⟨#[98]⟩, .string ⟨#[50]⟩, .string ⟨#[97]⟩, .string ⟨#[49]⟩]) : Sl (fun k => k = g) W (.slice (some ⟨g, 0, none⟩) 2 2) 2 2 (lBA.flatMap labc) ∧ Sl (fun k => k = g) W (.slice (some ⟨g, 0, none⟩) 1 2) 2 1 (lB.flatMap labc) := by
  refine ⟨⟨_, _, rfl, rfl, Nat.le_refl _, fun _ => ⟨g, 0, rfl, rfl, fun j u hu => ?_⟩⟩, ⟨_, _, rfl, rfl, by omega, fun _ => ⟨g, 0, rfl, rfl, fun j u hu => ?_⟩⟩⟩
  · rw [Nat.zero_add, h.cell]
    match j, hu with
    | 0, hu => exact hu
    | 1, hu => exact hu
    | 2, hu => exact hu
    | 3, hu => exact hu
    | j + 4, hu => simp [lBA, labc] at hu
  · rw [Nat.zero_add, h.cell]
    match j, hu with
    | 0, hu => exact hu
    | 1, hu => exact hu
    | j + 2, hu => simp [lB, labc] at hu

set_option maxRecDepth 100000 in
set_option maxHeartbeats 2000000 in
theorem labelsAlive_any (w : World) : Calls Tryz.prog 16 #[] w (TrueEnds w) := by
  have B1 : Blk (w.alloc (.cells #[.string ⟨#[98]⟩, .string ⟨#[50]⟩, .string ⟨#[97]⟩, .string ⟨#[49]⟩] 40)) w.heap.size 40 #[.string ⟨#[98]⟩, .string ⟨#[50]⟩, .string ⟨#[97]⟩, .string ⟨#[49]⟩] := Blk.new w 40 _
  have F1 : Fr (fun _ => False) w (w.alloc (.cells #[.string ⟨#[98]⟩, .string ⟨#[50]⟩, .string ⟨#[97]⟩, .string ⟨#[49]⟩] 40)) := (Fr.refl _ w).alloc _
  have HSL : Hid (∀ W, Fr (fun _ => False) (w.alloc (.cells #[.string ⟨#[98]⟩, .string ⟨#[50]⟩, .string ⟨#[97]⟩, .string ⟨#[49]⟩] 40)) W → Sl (fun k => k = w.heap.size) W (.slice (some ⟨w.heap.size, 0, none⟩) 2 2) 2 2 (lBA.flatMap labc) ∧ Sl (fun k => k = w.heap.size) W (.slice (some ⟨w.heap.size, 0, none⟩) 1 2) 2 1 (lB.flatMap labc)) := Lib.hid (fun W hF => sl_ba W _ (B1.fr hF (fun e => e)))
  have HF1 := Lib.hid F1
  have hto := fun W => cutTo Tryz.elem31' Tryz.underlying31 Tryz.size40 (some ⟨w.heap.size, 0, none⟩) 2 2 1 .i64 1 rfl (by omega) W
  clear B1 F1
  go_enter Tryz.func16, Tryz.ntmps16
  go_wp2_with (first
    | (go_at_call 45; refine (ask_any _ _ _ (HSL.out _ (Fr.refl _ _)).1).mono ?_; rintro r w1 ⟨rfl, hf1⟩)
    | (go_at_call 46; refine (cmp_any _ _ _ _ _ (HSL.out _ hf1).1 (HSL.out _ hf1).2).mono ?_; rintro r w2 ⟨rfl, hf2⟩)
    | (go_at_call 47; refine (madeNew_any _ _ _ (HSL.out _ (hf1.same hf2)).1).mono ?_; rintro r w3 ⟨v3, rfl, hown3, hf3⟩; have HO3 := Lib.hid hown3; clear hown3)
    | (go_at_call 24; refine (sorted_any _ _ lBA _ (HSL.out _ ((hf1.same hf2).same hf3)).1 (by decide)).mono ?_; rintro r w4 ⟨v4, rfl, hown4, hf4⟩; have HO4 := Lib.hid hown4; clear hown4)
    | (go_at_call 25; refine (sameLabels_any _ _ _ _ (sortL lBA) _ (Sl.ofOwn (own_fr HO3.out hf4 (fun _ _ e => e))) (Sl.ofOwn HO4.out) (by rw [lsort_length]; decide)).mono ?_; rintro r w5 ⟨rfl, hf5⟩))
  go_ret
  exact ⟨rfl, HF1.out.same ((((hf1.same hf2).same hf3).same hf4).same hf5)⟩
end Go.Proofs.YtbkookiigkckdaaGreatDoor

