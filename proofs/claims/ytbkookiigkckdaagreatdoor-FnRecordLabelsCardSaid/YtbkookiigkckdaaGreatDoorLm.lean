/- impl.RecordLabels. -/
import Derived.Test.YtbkookiigkckdaaGreatDoorLl
namespace Go.Proofs.YtbkookiigkckdaaGreatDoor
open Go.RowKit
set_option linter.unusedVariables false
set_option linter.unusedSimpArgs false

theorem laid6 (w : World) (lv av : Value) :
    let W := (((((w.alloc (.cells #[lv] 31)).alloc (.cells #[av] 44)).alloc (.cells #[.slice none 0 0] 44)).alloc (.cells #[.slice none 0 0] 31)).alloc (.cells #[.int .i64 0] 3)).alloc (.cells #[.bool false] 4)
    Blk W w.heap.size 31 #[lv] ∧ Blk W (w.heap.size + 1) 44 #[av] ∧ Blk W (w.heap.size + 2) 44 #[.slice none 0 0] ∧ Blk W (w.heap.size + 3) 31 #[.slice none 0 0] ∧ Blk W (w.heap.size + 4) 3 #[.int .i64 0] ∧ Blk W (w.heap.size + 5) 4 #[.bool false] ∧ Fr (fun _ => False) w W ∧ W.heap.size = w.heap.size + 6 := by
  intro W
  have e : ∀ (w : World) (o : Obj), (w.alloc o).heap.size = w.heap.size + 1 := fun w o => by simp
  refine ⟨?_, ?_, ?_, ?_, ?_, ?_, ?_, ?_⟩
  · exact (((((Blk.new w 31 _).alloc _).alloc _).alloc _).alloc _).alloc _
  · have := ((((Blk.new (w.alloc (.cells #[lv] 31)) 44 #[av]).alloc (.cells #[.slice none 0 0] 44)).alloc (.cells #[.slice none 0 0] 31)).alloc (.cells #[.int .i64 0] 3)).alloc (.cells #[.bool false] 4)
    rwa [e] at this
  · have := (((Blk.new ((w.alloc (.cells #[lv] 31)).alloc (.cells #[av] 44)) 44 #[.slice none 0 0]).alloc (.cells #[.slice none 0 0] 31)).alloc (.cells #[.int .i64 0] 3)).alloc (.cells #[.bool false] 4)
    rwa [e, e] at this
  · have := ((Blk.new (((w.alloc (.cells #[lv] 31)).alloc (.cells #[av] 44)).alloc (.cells #[.slice none 0 0] 44)) 31 #[.slice none 0 0]).alloc (.cells #[.int .i64 0] 3)).alloc (.cells #[.bool false] 4)
    rwa [e, e, e] at this
  · have := (Blk.new ((((w.alloc (.cells #[lv] 31)).alloc (.cells #[av] 44)).alloc (.cells #[.slice none 0 0] 44)).alloc (.cells #[.slice none 0 0] 31)) 3 #[.int .i64 0]).alloc (.cells #[.bool false] 4)
    rwa [e, e, e, e] at this
  · have := Blk.new (((((w.alloc (.cells #[lv] 31)).alloc (.cells #[av] 44)).alloc (.cells #[.slice none 0 0] 44)).alloc (.cells #[.slice none 0 0] 31)).alloc (.cells #[.int .i64 0] 3)) 4 #[.bool false]
    rwa [e, e, e, e, e] at this
  · exact ((((((Fr.refl _ w).alloc _).alloc _).alloc _).alloc _).alloc _).alloc _
  · simp [W]

def RecLabEnds (l : List Lab) (ys : List UInt8) (w : World) (r : Ending) (w' : World) : Prop :=
  ∃ bv kv, r = .returned (.tuple #[bv, kv, .int .i64 ys.length, .bool true]) ∧ w'.ownsRow w.heap.size 40 2 kv l.length ((sortL l).flatMap labc) ∧ Fr (fun _ => False) w w'

set_option maxRecDepth 100000 in
set_option maxHeartbeats 4000000 in
theorem recordLabels_any (te : TypeId) (pe : Value) (P Q : Nat → Prop) (lv av : Value) (l : List Lab) (ys : List UInt8) (w : World)
    (hS : Sl P w lv 2 l.length (l.flatMap labc)) (hA : Sl Q w av 1 ys.length (bc ys)) (hll : l.length ≤ 12) (hsz : ∀ p ∈ l, p.1.size ≤ 1048576 ∧ p.2.size ≤ 1048576) (hun : l.Pairwise (fun a b => a.1 ≠ b.1)) (hyl : ys.length ≤ 1073741824)
    (hP : ∀ g, P g → g < w.heap.size) (hQ : ∀ g, Q g → g < w.heap.size) (hE : w.cell? ⟨2, 0, none⟩ = some (.iface te pe)) :
    Calls Tryz.prog 43 #[lv, av] w (RecLabEnds l ys w) := by
  have h2 := World.block_lt_of_cell? w _ hE
  obtain ⟨A, c, rfl⟩ : ∃ A c, lv = .slice A l.length c := let ⟨A, c, h, _⟩ := hS; ⟨A, c, h⟩
  obtain ⟨A9, c9, rfl⟩ : ∃ A c, av = .slice A ys.length c := let ⟨A, c, h, _⟩ := hA; ⟨A, c, h⟩
  have hM := laid6 w (.slice A l.length c) (.slice A9 ys.length c9)
  dsimp only at hM
  have hCL : ∀ W, W = (((((w.alloc (.cells #[.slice A l.length c] 31)).alloc (.cells #[.slice A9 ys.length c9] 44)).alloc (.cells #[.slice none 0 0] 44)).alloc (.cells #[.slice none 0 0] 31)).alloc (.cells #[.int .i64 0] 3)).alloc (.cells #[.bool false] 4) →
      Calls Tryz.prog 65 #[.func (.func 114) #[] #[.pointer (some ⟨w.heap.size, 0, none⟩), .pointer (some ⟨w.heap.size + 2, 0, none⟩), .pointer (some ⟨w.heap.size + 1, 0, none⟩), .pointer (some ⟨w.heap.size + 3, 0, none⟩), .pointer (some ⟨w.heap.size + 4, 0, none⟩), .pointer (some ⟨w.heap.size + 5, 0, none⟩)]] W
        fun e w' => e = .returned (.bool true) ∧ RecLab w l ys (w.heap.size + 2) (w.heap.size + 3) (w.heap.size + 4) (w.heap.size + 5) w' ∧ Fr (fun _ => False) w w' := by
    rintro W hW
    rw [← hW] at hM
    obtain ⟨B0, B1, B2, B3, B4, B5, hF, hZ⟩ := hM
    have hcall := recordLabels1_any te pe P Q w w.heap.size (w.heap.size + 2) (w.heap.size + 1) (w.heap.size + 3) (w.heap.size + 4) (w.heap.size + 5) _ _ _ _ _ _ l ys (W.alloc (.cells #[.bool false] 4))
      (B0.alloc _) (B2.alloc _) (B1.alloc _) (B3.alloc _) (B4.alloc _) (B5.alloc _) (by omega) (by omega) ((hS.fr hF (fun _ _ e => e)).fr ((Fr.refl (fun _ => False) W).alloc _) (fun _ _ e => e)) ((hA.fr hF (fun _ _ e => e)).fr ((Fr.refl (fun _ => False) W).alloc _) (fun _ _ e => e)) hll hsz hun hyl hP hQ (by simp; omega) (by omega) (by omega) (by omega) (by omega)
      (by rw [(hF.alloc _).cell (p := ⟨2, 0, none⟩) h2 (fun e => e)]; exact hE) h2
    have hsafe := safe_ok 114 _ W _ (enters_of Tryz.func114 (by kernel_rfl) rfl) (hcall.mono (fun r w' hr => ⟨hr.1, hr.2, (Blk.new W 4 #[.bool false]).fr hr.2.2 (by
      rintro (h | h | h | h) <;> omega)⟩))
    refine hsafe.mono ?_
    rintro r w4 ⟨rfl, w5, ⟨⟨bv, kv, hbv, q2, q3, q4, q5, qo⟩, qF⟩, hb5, rfl⟩
    have n2 : w.heap.size + 2 ≠ W.heap.size := by omega
    have n3 : w.heap.size + 3 ≠ W.heap.size := by omega
    have n4 : w.heap.size + 4 ≠ W.heap.size := by omega
    have n5 : w.heap.size + 5 ≠ W.heap.size := by omega
    have FX : Fr (fun k => k = W.heap.size) w5 ((w5.setCell ⟨W.heap.size, 0, none⟩ (.bool true)).setCell ⟨W.heap.size, 0, none⟩ (.bool true)) := ((Fr.refl (fun k => k = W.heap.size) w5).setCell (p := ⟨W.heap.size, 0, none⟩) (.inl rfl) _).setCell (p := ⟨W.heap.size, 0, none⟩) (.inl rfl) _
    refine ⟨rfl, ⟨bv, kv, hbv, q2.fr FX n2, q3.fr FX n3, q4.fr FX n4, q5.fr FX n5, own_fr qo FX (fun g hg e => own_ne qo hb5 (by decide) (by rw [hg]; exact congrArg some e))⟩, ?_⟩
    have f1 : Fr (fun _ => False) w w5 := (hF.alloc (.cells #[.bool false] 4)).trans qF (by rintro k hk (h | h | h | h) <;> omega)
    exact f1.trans FX (fun k hk e => by omega)
  have HC := Lib.hid hCL
  clear hS hA hll hsz hun hyl hP hQ hE hM hCL
  obtain ⟨n, hn⟩ : ∃ n, l.length = n := ⟨_, rfl⟩
  obtain ⟨m, hm⟩ : ∃ m, ys.length = m := ⟨_, rfl⟩
  rw [hn, hm] at HC ⊢
  have HN := Lib.hid (And.intro hn hm)
  clear hn hm
  have hmf : ∀ (fn : Fn) (first cap : Array Value) (w : World), (Instr.makeFunc fn first cap).run Tryz.prog w = .ok (.func fn first cap) w := fun _ _ _ _ => rfl
  go_enter Tryz.func43, Tryz.ntmps43
  go_wp2_with (go_at_call 65; refine (HC.out _ rfl).mono ?_; rintro r w4 ⟨rfl, hR, hF⟩; refine Hid.out ?_)
  obtain ⟨bv, kv, ⟨a1, n1, k1, rfl⟩, q2, q3, q4, q5, qo⟩ := hR
  obtain ⟨a2, n2, k2, rfl⟩ := own_slice qo
  rw [HN.out.2] at q4
  have c2 := q2.cell 0
  have c3 := q3.cell 0
  have c4 := q4.cell 0
  have c5 := q5.cell 0
  have z2 := q2.frozen 0
  have z3 := q3.frozen 0
  have z4 := q4.frozen 0
  have z5 := q5.frozen 0
  simp at c2 c3 c4 c5
  have HQ := Lib.hid (And.intro q2 (And.intro q3 (And.intro q4 (And.intro q5 (And.intro qo hF)))))
  clear q2 q3 q4 q5 qo hF
  refine Lib.hid ?_
  go_wp2_with fail
  have s2 := HQ.out.1.set_ 0 (.slice a1 n1 k1)
  have S0 : ∀ W, Blk W (w.heap.size + 2) 44 #[.slice a1 n1 k1] → Blk W (w.heap.size + 3) 31 #[.slice a2 n2 k2] → Blk W (w.heap.size + 4) 3 #[.int .i64 m] → Blk W (w.heap.size + 5) 4 #[.bool true] → W.cell? ⟨w.heap.size + 2, 0, none⟩ = some (.slice a1 n1 k1) ∧ W.cell? ⟨w.heap.size + 3, 0, none⟩ = some (.slice a2 n2 k2) ∧ W.cell? ⟨w.heap.size + 4, 0, none⟩ = some (.int .i64 m) ∧ W.cell? ⟨w.heap.size + 5, 0, none⟩ = some (.bool true) := fun W h1 h2 h3 h4 => ⟨by simpa using h1.cell 0, by simpa using h2.cell 0, by simpa using h3.cell 0, by simpa using h4.cell 0⟩
  have FW : Fr (fun _ => False) w w4.drew := HQ.out.2.2.2.2.2.drew
  have OW : w4.drew.ownsRow w.heap.size 40 2 (.slice a2 n2 k2) l.length ((sortL l).flatMap labc) := HQ.out.2.2.2.2.1
  have W2 : Blk w4.drew (w.heap.size + 2) 44 #[.slice a1 n1 k1] := HQ.out.1
  have W3 : Blk w4.drew (w.heap.size + 3) 31 #[.slice a2 n2 k2] := HQ.out.2.1
  have W4 : Blk w4.drew (w.heap.size + 4) 3 #[.int .i64 m] := HQ.out.2.2.1
  have W5 : Blk w4.drew (w.heap.size + 5) 4 #[.bool true] := HQ.out.2.2.2.1
  clear HQ s2 c2 c3 c4 c5 z2 z3 z4 z5
  refine wp_region_but (fun W => W.cell? ⟨w.heap.size + 2, 0, none⟩ = some (.slice a1 n1 k1) ∧ W.cell? ⟨w.heap.size + 3, 0, none⟩ = some (.slice a2 n2 k2) ∧ W.cell? ⟨w.heap.size + 4, 0, none⟩ = some (.int .i64 m) ∧ W.cell? ⟨w.heap.size + 5, 0, none⟩ = some (.bool true)) 7 (by kernel_rfl) (S0 _ W2 W3 W4 W5) ?_
  intro hS
  generalize w4.drew = X at FW OW W2 W3 W4 W5 hS ⊢
  refine wpBut_load 0 [4, 5, 6, 7] (.slice a1 n1 k1) rfl (by kernel_rfl) (by kernel_rfl) (by kernel_rfl) (by kernel_rfl) (by kernel_rfl) (by kernel_rfl) (by kernel_rfl) (fun _ _ _ h => h) (by rfl) (by rintro w ⟨h1, h2, h3, h4⟩; go_simp) hS ?_
  try simp only [Act.put, List.setIfInBounds_toArray, List.set_cons_zero, List.set_cons_succ]
  refine wpBut_load 1 [5, 6, 7] (.slice a2 n2 k2) rfl (by kernel_rfl) (by kernel_rfl) (by kernel_rfl) (by kernel_rfl) (by kernel_rfl) (by kernel_rfl) (by kernel_rfl) (fun _ _ _ h => h) (by rfl) (by rintro w ⟨h1, h2, h3, h4⟩; go_simp) hS ?_
  try simp only [Act.put, List.setIfInBounds_toArray, List.set_cons_zero, List.set_cons_succ]
  refine wpBut_load 2 [6, 7] (.int .i64 m) rfl (by kernel_rfl) (by kernel_rfl) (by kernel_rfl) (by kernel_rfl) (by kernel_rfl) (by kernel_rfl) (by kernel_rfl) (fun _ _ _ h => h) (by rfl) (by rintro w ⟨h1, h2, h3, h4⟩; go_simp) hS ?_
  try simp only [Act.put, List.setIfInBounds_toArray, List.set_cons_zero, List.set_cons_succ]
  refine wpBut_load 3 [7] (.bool true) rfl (by kernel_rfl) (by kernel_rfl) (by kernel_rfl) (by kernel_rfl) (by kernel_rfl) (by kernel_rfl) (by kernel_rfl) (fun _ _ _ h => h) (by rfl) (by rintro w ⟨h1, h2, h3, h4⟩; go_simp) hS ?_
  try simp only [Act.put, List.setIfInBounds_toArray, List.set_cons_zero, List.set_cons_succ]
  have c0 := W2.cell 0
  have z0 := W2.frozen 0
  simp at c0
  refine wpBut_one 4 (by kernel_rfl) rfl (by rfl) (fun K hK => ?_)
  go_simp
  have V2 : Blk (X.setCell ⟨w.heap.size + 2, 0, none⟩ (.slice a1 n1 k1)) (w.heap.size + 2) 44 #[.slice a1 n1 k1] := by simpa using W2.set_ 0 (.slice a1 n1 k1)
  have V3 := W3.far (p := ⟨w.heap.size + 2, 0, none⟩) (by show w.heap.size + 3 ≠ w.heap.size + 2; omega) (.slice a1 n1 k1)
  have V4 := W4.far (p := ⟨w.heap.size + 2, 0, none⟩) (by show w.heap.size + 4 ≠ w.heap.size + 2; omega) (.slice a1 n1 k1)
  have V5 := W5.far (p := ⟨w.heap.size + 2, 0, none⟩) (by show w.heap.size + 5 ≠ w.heap.size + 2; omega) (.slice a1 n1 k1)
  have VF : Fr (fun _ => False) w (X.setCell ⟨w.heap.size + 2, 0, none⟩ (.slice a1 n1 k1)) := FW.setCell (p := ⟨w.heap.size + 2, 0, none⟩) (.inr (by show w.heap.size ≤ w.heap.size + 2; omega)) _
  have VO := own_fr (S := fun k => k = w.heap.size + 2) OW (Fr.at_ X (w.heap.size + 2) 0 (.slice a1 n1 k1)) (fun g hg e => own_ne OW W2 (by decide) (by rw [hg]; exact congrArg some e))
  refine hK.out _ _ (S0 _ V2 V3 V4 V5) ?_
  clear hK K c0 z0 W2 W3 W4 W5 FW OW hS
  generalize X.setCell ⟨w.heap.size + 2, 0, none⟩ (.slice a1 n1 k1) = Y at V2 V3 V4 V5 VF VO ⊢
  have hS := S0 _ V2 V3 V4 V5
  revert V2 V3 V4 V5 VF VO hS
  clear X
  revert Y
  intro X W2 W3 W4 W5 FW OW hS
  have c0 := W3.cell 0
  have z0 := W3.frozen 0
  simp at c0
  refine wpBut_one 5 (by kernel_rfl) rfl (by rfl) (fun K hK => ?_)
  go_simp
  have V2 := W2.far (p := ⟨w.heap.size + 3, 0, none⟩) (by show w.heap.size + 2 ≠ w.heap.size + 3; omega) (.slice a2 n2 k2)
  have V3 : Blk (X.setCell ⟨w.heap.size + 3, 0, none⟩ (.slice a2 n2 k2)) (w.heap.size + 3) 31 #[.slice a2 n2 k2] := by simpa using W3.set_ 0 (.slice a2 n2 k2)
  have V4 := W4.far (p := ⟨w.heap.size + 3, 0, none⟩) (by show w.heap.size + 4 ≠ w.heap.size + 3; omega) (.slice a2 n2 k2)
  have V5 := W5.far (p := ⟨w.heap.size + 3, 0, none⟩) (by show w.heap.size + 5 ≠ w.heap.size + 3; omega) (.slice a2 n2 k2)
  have VF : Fr (fun _ => False) w (X.setCell ⟨w.heap.size + 3, 0, none⟩ (.slice a2 n2 k2)) := FW.setCell (p := ⟨w.heap.size + 3, 0, none⟩) (.inr (by show w.heap.size ≤ w.heap.size + 3; omega)) _
  have VO := own_fr (S := fun k => k = w.heap.size + 3) OW (Fr.at_ X (w.heap.size + 3) 0 (.slice a2 n2 k2)) (fun g hg e => own_ne OW W3 (by decide) (by rw [hg]; exact congrArg some e))
  refine hK.out _ _ (S0 _ V2 V3 V4 V5) ?_
  clear hK K c0 z0 W2 W3 W4 W5 FW OW hS
  generalize X.setCell ⟨w.heap.size + 3, 0, none⟩ (.slice a2 n2 k2) = Y at V2 V3 V4 V5 VF VO ⊢
  have hS := S0 _ V2 V3 V4 V5
  revert V2 V3 V4 V5 VF VO hS
  clear X
  revert Y
  intro X W2 W3 W4 W5 FW OW hS
  have c0 := W4.cell 0
  have z0 := W4.frozen 0
  simp at c0
  refine wpBut_one 6 (by kernel_rfl) rfl (by rfl) (fun K hK => ?_)
  go_simp
  have V2 := W2.far (p := ⟨w.heap.size + 4, 0, none⟩) (by show w.heap.size + 2 ≠ w.heap.size + 4; omega) (.int .i64 m)
  have V3 := W3.far (p := ⟨w.heap.size + 4, 0, none⟩) (by show w.heap.size + 3 ≠ w.heap.size + 4; omega) (.int .i64 m)
  have V4 : Blk (X.setCell ⟨w.heap.size + 4, 0, none⟩ (.int .i64 m)) (w.heap.size + 4) 3 #[.int .i64 m] := by simpa using W4.set_ 0 (.int .i64 m)
  have V5 := W5.far (p := ⟨w.heap.size + 4, 0, none⟩) (by show w.heap.size + 5 ≠ w.heap.size + 4; omega) (.int .i64 m)
  have VF : Fr (fun _ => False) w (X.setCell ⟨w.heap.size + 4, 0, none⟩ (.int .i64 m)) := FW.setCell (p := ⟨w.heap.size + 4, 0, none⟩) (.inr (by show w.heap.size ≤ w.heap.size + 4; omega)) _
  have VO := own_fr (S := fun k => k = w.heap.size + 4) OW (Fr.at_ X (w.heap.size + 4) 0 (.int .i64 m)) (fun g hg e => own_ne OW W4 (by decide) (by rw [hg]; exact congrArg some e))
  refine hK.out _ _ (S0 _ V2 V3 V4 V5) ?_
  clear hK K c0 z0 W2 W3 W4 W5 FW OW hS
  generalize X.setCell ⟨w.heap.size + 4, 0, none⟩ (.int .i64 m) = Y at V2 V3 V4 V5 VF VO ⊢
  have hS := S0 _ V2 V3 V4 V5
  revert V2 V3 V4 V5 VF VO hS
  clear X
  revert Y
  intro X W2 W3 W4 W5 FW OW hS
  have c0 := W5.cell 0
  have z0 := W5.frozen 0
  simp at c0
  refine wpBut_last 7 (by kernel_rfl) rfl (by kernel_rfl) (by rfl) (fun K hK => ?_)
  go_simp
  have V2 := W2.far (p := ⟨w.heap.size + 5, 0, none⟩) (by show w.heap.size + 2 ≠ w.heap.size + 5; omega) (.bool true)
  have V3 := W3.far (p := ⟨w.heap.size + 5, 0, none⟩) (by show w.heap.size + 3 ≠ w.heap.size + 5; omega) (.bool true)
  have V4 := W4.far (p := ⟨w.heap.size + 5, 0, none⟩) (by show w.heap.size + 4 ≠ w.heap.size + 5; omega) (.bool true)
  have V5 : Blk (X.setCell ⟨w.heap.size + 5, 0, none⟩ (.bool true)) (w.heap.size + 5) 4 #[.bool true] := by simpa using W5.set_ 0 (.bool true)
  have VF : Fr (fun _ => False) w (X.setCell ⟨w.heap.size + 5, 0, none⟩ (.bool true)) := FW.setCell (p := ⟨w.heap.size + 5, 0, none⟩) (.inr (by show w.heap.size ≤ w.heap.size + 5; omega)) _
  have VO := own_fr (S := fun k => k = w.heap.size + 5) OW (Fr.at_ X (w.heap.size + 5) 0 (.bool true)) (fun g hg e => own_ne OW W5 (by decide) (by rw [hg]; exact congrArg some e))
  refine hK.out _ _ ?_
  clear hK K c0 z0 W2 W3 W4 W5 FW OW hS
  generalize X.setCell ⟨w.heap.size + 5, 0, none⟩ (.bool true) = Y at V2 V3 V4 V5 VF VO ⊢
  have hS := S0 _ V2 V3 V4 V5
  revert V2 V3 V4 V5 VF VO hS
  clear X
  revert Y
  intro X W2 W3 W4 W5 FW OW hS
  refine wpBut_done (by kernel_rfl) ?_ _
  obtain ⟨t2, t3, t4, t5⟩ := hS
  go_wp2_with fail
  simp [Exit.then, bodyPost, results, Tryz.results43, go_sem, t2, t3, t4, t5]
  exact ⟨_, _, by rw [HN.out.2], OW, FW⟩
end Go.Proofs.YtbkookiigkckdaaGreatDoor
