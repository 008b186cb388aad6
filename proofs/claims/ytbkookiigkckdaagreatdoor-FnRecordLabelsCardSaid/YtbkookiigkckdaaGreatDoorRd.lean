/- RecordRead over its closure, and at samples. -/
import Derived.Test.YtbkookiigkckdaaGreatDoorWb
namespace Go.Proofs.YtbkookiigkckdaaGreatDoor
open Go.RowKit
set_option linter.unusedVariables false
set_option linter.unusedSimpArgs false

def Seven (ps : Array Value) : Prop := ∃ A0 m0 c0 A1 m1 c1 A2 m2 c2 A3 m3 c3 A4 m4 c4 A5 m5 c5 A6 m6 c6, ps = #[.slice A0 m0 c0, .slice A1 m1 c1, .slice A2 m2 c2, .slice A3 m3 c3, .slice A4 m4 c4, .slice A5 m5 c5, .slice A6 m6 c6]
def nils : Array Value := #[.slice none 0 0, .slice none 0 0, .slice none 0 0, .slice none 0 0, .slice none 0 0, .slice none 0 0, .slice none 0 0]

/-- What RecordRead's closure does, whatever the kind. -/
def R1Ends (L : Array Value → World → Prop) (okb : Bool) (w : World) (bb bp bo : Nat) (r : Ending) (w' : World) : Prop :=
  r = .returned (.tuple #[]) ∧ Fr (fun k => k = bb ∨ k = bp ∨ k = bo) w w' ∧ Blk w' bo 4 #[.bool okb] ∧ ∃ ps, Seven ps ∧ Blk w' bp 54 ps ∧ L ps w'

def ReadDone (L : Array Value → World → Prop) (okb : Bool) (w : World) (r : Ending) (w' : World) : Prop :=
  ∃ ps, r = .returned (.tuple #[.agg ps, .bool okb]) ∧ Seven ps ∧ (okb = true → L ps w') ∧ (okb = false → ps = nils) ∧ Fr (fun _ => False) w w'

/-- A world in which only variables of the call's own have changed. -/
def VarsR (W W' : World) : Prop := Fr (fun k => ∃ cs, Blk W k 4 cs ∨ Blk W k 54 cs) W W'

theorem laidR_mk (w : World) (kind bv : Value) (q : Array Value) :
    let W := ((((w.alloc (.cells #[kind] 3)).alloc (.cells #[bv] 44)).alloc (.cells q 54)).alloc (.cells nils 54)).alloc (.cells #[.bool false] 4)
    Blk W w.heap.size 3 #[kind] ∧ Blk W (w.heap.size + 1) 44 #[bv] ∧ Blk W (w.heap.size + 2) 54 q ∧ Blk W (w.heap.size + 3) 54 nils ∧ Blk W (w.heap.size + 4) 4 #[.bool false] ∧ Fr (fun _ => False) w W ∧ W.heap.size = w.heap.size + 5 := by
  intro W
  have e : ∀ (w : World) (o : Obj), (w.alloc o).heap.size = w.heap.size + 1 := fun w o => by simp
  refine ⟨?_, ?_, ?_, ?_, ?_, ?_, ?_⟩
  · exact ((((Blk.new w 3 _).alloc _).alloc _).alloc _).alloc _
  · have := (((Blk.new (w.alloc (.cells #[kind] 3)) 44 #[bv]).alloc (.cells q 54)).alloc (.cells nils 54)).alloc (.cells #[.bool false] 4)
    rwa [e] at this
  · have := ((Blk.new ((w.alloc (.cells #[kind] 3)).alloc (.cells #[bv] 44)) 54 q).alloc (.cells nils 54)).alloc (.cells #[.bool false] 4)
    rwa [e, e] at this
  · have := (Blk.new (((w.alloc (.cells #[kind] 3)).alloc (.cells #[bv] 44)).alloc (.cells q 54)) 54 nils).alloc (.cells #[.bool false] 4)
    rwa [e, e, e] at this
  · have := Blk.new ((((w.alloc (.cells #[kind] 3)).alloc (.cells #[bv] 44)).alloc (.cells q 54)).alloc (.cells nils 54)) 4 #[.bool false]
    rwa [e, e, e, e] at this
  · exact (((((Fr.refl _ w).alloc _).alloc _).alloc _).alloc _).alloc _
  · simp [W]

theorem blk_set7 {w : World} {b : Nat} {t : TypeId} {a0 a1 a2 a3 a4 a5 a6 : Value} (u0 u1 u2 u3 u4 u5 u6 : Value) (h : Blk w b t #[a0, a1, a2, a3, a4, a5, a6]) :
    Blk (((((((w.setCell ⟨b, 0, none⟩ u0).setCell ⟨b, 1, none⟩ u1).setCell ⟨b, 2, none⟩ u2).setCell ⟨b, 3, none⟩ u3).setCell ⟨b, 4, none⟩ u4).setCell ⟨b, 5, none⟩ u5).setCell ⟨b, 6, none⟩ u6) b t #[u0, u1, u2, u3, u4, u5, u6] := by
  have := ((((((h.set_ 0 u0).set_ 1 u1).set_ 2 u2).set_ 3 u3).set_ 4 u4).set_ 5 u5).set_ 6 u6
  simpa using this
theorem fr_set7 {S : Nat → Prop} {w0 w : World} {b : Nat} (u0 u1 u2 u3 u4 u5 u6 : Value) (h : Fr S w0 w) (hb : S b ∨ w0.heap.size ≤ b) :
    Fr S w0 (((((((w.setCell ⟨b, 0, none⟩ u0).setCell ⟨b, 1, none⟩ u1).setCell ⟨b, 2, none⟩ u2).setCell ⟨b, 3, none⟩ u3).setCell ⟨b, 4, none⟩ u4).setCell ⟨b, 5, none⟩ u5).setCell ⟨b, 6, none⟩ u6) :=
  ((((((h.setCell (p := ⟨b, 0, none⟩) hb u0).setCell (p := ⟨b, 1, none⟩) hb u1).setCell (p := ⟨b, 2, none⟩) hb u2).setCell (p := ⟨b, 3, none⟩) hb u3).setCell (p := ⟨b, 4, none⟩) hb u4).setCell (p := ⟨b, 5, none⟩) hb u5).setCell (p := ⟨b, 6, none⟩) hb u6

set_option maxRecDepth 100000 in
set_option maxHeartbeats 2000000 in
theorem recordRead_of (kind : Int) (q0 q1 q2 q3 q4 q5 q6 bv : Value) (xs : List UInt8) (P : Nat → Prop) (L : Array Value → World → Prop) (okb : Bool) (w : World) (hb : Sl P w bv 1 xs.length (bc xs))
    (hsl : ∀ s ∈ [q0, q1, q2, q3, q4, q5, q6], ∃ A m c, s = .slice A m c)
    (hL : ∀ ps W W', L ps W → VarsR W W' → L ps W')
    (hc : ∀ (bb bk bq bp bo : Nat) (W : World), Blk W bk 3 #[.int .i64 kind] → Blk W bb 44 #[bv] → Blk W bq 54 #[q0, q1, q2, q3, q4, q5, q6] → Blk W bp 54 nils → Blk W bo 4 #[.bool false] → w.heap.size ≤ bb → w.heap.size ≤ bp → w.heap.size ≤ bo → bp ≠ bq → Fr (fun _ => False) w W →
      Calls Tryz.prog 66 #[.pointer (some ⟨bb, 0, none⟩), .pointer (some ⟨bk, 0, none⟩), .pointer (some ⟨bq, 0, none⟩), .pointer (some ⟨bp, 0, none⟩), .pointer (some ⟨bo, 0, none⟩)] W (R1Ends L okb W bb bp bo)) :
    Calls Tryz.prog 29 #[.int .i64 kind, bv, .agg #[q0, q1, q2, q3, q4, q5, q6]] w (ReadDone L okb w) := by
  have HB := Lib.hid hb
  have HC := Lib.hid hc
  have HL := Lib.hid hL
  have hbv : ∃ A m c, bv = .slice A m c := let ⟨A, c, h, _⟩ := hb; ⟨A, _, c, h⟩
  obtain ⟨A, m, c, rfl⟩ := hbv
  obtain ⟨A0, m0, c0, rfl⟩ := hsl q0 (by simp)
  obtain ⟨A1, m1, c1, rfl⟩ := hsl q1 (by simp)
  obtain ⟨A2, m2, c2, rfl⟩ := hsl q2 (by simp)
  obtain ⟨A3, m3, c3, rfl⟩ := hsl q3 (by simp)
  obtain ⟨A4, m4, c4, rfl⟩ := hsl q4 (by simp)
  obtain ⟨A5, m5, c5, rfl⟩ := hsl q5 (by simp)
  obtain ⟨A6, m6, c6, rfl⟩ := hsl q6 (by simp)
  clear hb hc hL hsl
  have hmf : ∀ (fn : Fn) (first cap : Array Value) (w : World), (Instr.makeFunc fn first cap).run Tryz.prog w = .ok (.func fn first cap) w := fun _ _ _ _ => rfl
  go_enter Tryz.func29, Tryz.ntmps29
  go_wp2_with (go_at_call 65; refine Hid.out ?_)
  have hM := laidR_mk w (.int .i64 kind) (.slice A m c) #[.slice A0 m0 c0, .slice A1 m1 c1, .slice A2 m2 c2, .slice A3 m3 c3, .slice A4 m4 c4, .slice A5 m5 c5, .slice A6 m6 c6]
  dsimp only at hM
  unfold nils at hM
  generalize hW : World.alloc _ (Obj.cells #[.bool false] 4) = W at hM ⊢
  obtain ⟨B0, B1, B2, B3, B4, hF, hS⟩ := hM
  clear hW
  have hcall := HC.out (w.heap.size + 1) w.heap.size (w.heap.size + 1 + 1) (w.heap.size + 1 + 1 + 1) (w.heap.size + 1 + 1 + 1 + 1) _ (B0.alloc (.cells #[.bool false] 4)) (B1.alloc _) (B2.alloc _) (B3.alloc _) (B4.alloc _) (by omega) (by omega) (by omega) (by omega) (hF.alloc _)
  have hsafe := safe_ok 66 _ W _ (enters_of Tryz.func66 (by kernel_rfl) rfl) (hcall.mono (fun r w' hr => ⟨hr.1, hr.2, (Blk.new W 4 #[.bool false]).fr hr.2.1 (by
    rintro (h | h | h) <;> omega)⟩))
  have HF := Lib.hid hF
  have HS := Lib.hid hS
  clear hcall B0 B1 B2 B3 B4 hF hS HC HB
  refine Lib.hid ?_
  refine hsafe.mono ?_
  rintro r w4 ⟨rfl, w5, hq, hb5, rfl⟩
  obtain ⟨qF, qO, ps, qS, qP, qL⟩ := hq
  obtain ⟨D0, n0, e0, D1, n1, e1, D2, n2, e2, D3, n3, e3, D4, n4, e4, D5, n5, e5, D6, n6, e6, rfl⟩ := qS
  have hS := HS.out
  have r7 := (qO.far (p := ⟨W.heap.size, 0, none⟩) (by show w.heap.size + 1 + 1 + 1 + 1 ≠ W.heap.size; omega) (.bool true)).far (p := ⟨W.heap.size, 0, none⟩) (by show w.heap.size + 1 + 1 + 1 + 1 ≠ W.heap.size; omega) (.bool true)
  have r6 := (qP.far (p := ⟨W.heap.size, 0, none⟩) (by show w.heap.size + 1 + 1 + 1 ≠ W.heap.size; omega) (.bool true)).far (p := ⟨W.heap.size, 0, none⟩) (by show w.heap.size + 1 + 1 + 1 ≠ W.heap.size; omega) (.bool true)
  have v5 : VarsR w5 ((w5.setCell ⟨W.heap.size, 0, none⟩ (.bool true)).setCell ⟨W.heap.size, 0, none⟩ (.bool true)) :=
    ((Fr.refl _ w5).setCell (p := ⟨W.heap.size, 0, none⟩) (.inl ⟨_, .inl hb5⟩) _).setCell (p := ⟨W.heap.size, 0, none⟩) (.inl ⟨_, .inl hb5⟩) _
  have f5 : Fr (fun _ => False) w ((w5.setCell ⟨W.heap.size, 0, none⟩ (.bool true)).setCell ⟨W.heap.size, 0, none⟩ (.bool true)) := by
    have hle := HF.out.size
    refine Fr.setCell (Fr.setCell ?_ (p := ⟨W.heap.size, 0, none⟩) (.inr hle) _) (p := ⟨W.heap.size, 0, none⟩) (.inr hle) _
    refine (HF.out.alloc (.cells #[.bool false] 4)).trans qF ?_
    rintro k hk (h | h | h) <;> omega
  have hL6 := HL.out _ _ _ qL v5
  refine Hid.out ?_
  clear qF qO qP qL hb5 hsafe hS
  generalize World.setCell _ _ _ = w6 at r6 r7 v5 f5 hL6 ⊢
  have l7 := r7.cell 0
  have l60 := r6.cell 0
  have l61 := r6.cell 1
  have l62 := r6.cell 2
  have l63 := r6.cell 3
  have l64 := r6.cell 4
  have l65 := r6.cell 5
  have l66 := r6.cell 6
  have z60 := r6.frozen 0
  have z61 := r6.frozen 1
  have z62 := r6.frozen 2
  have z63 := r6.frozen 3
  have z64 := r6.frozen 4
  have z65 := r6.frozen 5
  have z66 := r6.frozen 6
  have z7 := r7.frozen 0
  simp at l7
  simp only [List.getElem?_toArray, List.getElem?_cons_zero, List.getElem?_cons_succ] at l60 l61 l62 l63 l64 l65 l66
  have R6 := Lib.hid r6
  have R7 := Lib.hid r7
  have F6 := Lib.hid f5
  have HL6 := Lib.hid hL6
  clear v5 f5 hL6
  cases okb with
  | false =>
    refine Lib.hid ?_
    go_wp2_with fail
    have g7 := (blk_set7 (.slice none 0 0) (.slice none 0 0) (.slice none 0 0) (.slice none 0 0) (.slice none 0 0) (.slice none 0 0) (.slice none 0 0) R6.out).far (p := ⟨w.heap.size + 1 + 1 + 1 + 1, 0, none⟩) (by show w.heap.size + 1 + 1 + 1 ≠ w.heap.size + 1 + 1 + 1 + 1; omega) (.bool false)
    have F7 := (fr_set7 (.slice none 0 0) (.slice none 0 0) (.slice none 0 0) (.slice none 0 0) (.slice none 0 0) (.slice none 0 0) (.slice none 0 0) F6.out (b := w.heap.size + 1 + 1 + 1) (.inr (by omega))).setCell (p := ⟨w.heap.size + 1 + 1 + 1 + 1, 0, none⟩) (.inr (by show w.heap.size ≤ w.heap.size + 1 + 1 + 1 + 1; omega)) (.bool false)
    have V7 : VarsR w6 _ := (fr_set7 (.slice none 0 0) (.slice none 0 0) (.slice none 0 0) (.slice none 0 0) (.slice none 0 0) (.slice none 0 0) (.slice none 0 0) (Fr.refl (fun k => ∃ cs, Blk w6 k 4 cs ∨ Blk w6 k 54 cs) w6) (b := w.heap.size + 1 + 1 + 1) (.inl ⟨_, .inr R6.out⟩)).setCell (p := ⟨w.heap.size + 1 + 1 + 1 + 1, 0, none⟩) (.inl ⟨_, .inl R7.out⟩) (.bool false)
    have o7 : (World.setCell (((((((w6.setCell ⟨w.heap.size + 1 + 1 + 1, 0, none⟩ (.slice none 0 0)).setCell ⟨w.heap.size + 1 + 1 + 1, 1, none⟩ (.slice none 0 0)).setCell ⟨w.heap.size + 1 + 1 + 1, 2, none⟩ (.slice none 0 0)).setCell ⟨w.heap.size + 1 + 1 + 1, 3, none⟩ (.slice none 0 0)).setCell ⟨w.heap.size + 1 + 1 + 1, 4, none⟩ (.slice none 0 0)).setCell ⟨w.heap.size + 1 + 1 + 1, 5, none⟩ (.slice none 0 0)).setCell ⟨w.heap.size + 1 + 1 + 1, 6, none⟩ (.slice none 0 0)) ⟨w.heap.size + 1 + 1 + 1 + 1, 0, none⟩ (.bool false)).cell? ⟨w.heap.size + 1 + 1 + 1 + 1, 0, none⟩ = some (.bool false) := by
      have h := R7.out
      have e : ∀ i, w.heap.size + 1 + 1 + 1 + 1 ≠ (Addr.mk (w.heap.size + 1 + 1 + 1) i none).block := fun i => by show w.heap.size + 1 + 1 + 1 + 1 ≠ w.heap.size + 1 + 1 + 1; omega
      have h2 := ((((((((h.far (e 0) (.slice none 0 0)).far (e 1) (.slice none 0 0)).far (e 2) (.slice none 0 0)).far (e 3) (.slice none 0 0)).far (e 4) (.slice none 0 0)).far (e 5) (.slice none 0 0)).far (e 6) (.slice none 0 0)).set_ 0 (.bool false)).cell 0
      simpa using h2
    generalize (World.setCell (World.setCell _ _ _) ⟨w.heap.size + 1 + 1 + 1 + 1, 0, none⟩ (.bool false)) = w7 at g7 F7 V7 o7 ⊢
    have t0 := g7.cell 0
    have t1 := g7.cell 1
    have t2 := g7.cell 2
    have t3 := g7.cell 3
    have t4 := g7.cell 4
    have t5 := g7.cell 5
    have t6 := g7.cell 6
    simp only [List.getElem?_toArray, List.getElem?_cons_zero, List.getElem?_cons_succ] at t0 t1 t2 t3 t4 t5 t6
    have HF7 := Lib.hid F7
    have HV7 := Lib.hid V7
    clear F7 V7 g7
    simp [Exit.then, bodyPost, results, Tryz.results29, go_sem, t0, t1, t2, t3, t4, t5, t6, o7]
    exact ⟨nils, rfl, ⟨_, _, _, _, _, _, _, _, _, _, _, _, _, _, _, _, _, _, _, _, _, rfl⟩, (fun h => by cases h), (fun _ => rfl), HF7.out⟩
  | true =>
    refine Lib.hid ?_
    go_wp2_with fail
    have g7 := (blk_set7 (.slice D0 n0 e0) (.slice D1 n1 e1) (.slice D2 n2 e2) (.slice D3 n3 e3) (.slice D4 n4 e4) (.slice D5 n5 e5) (.slice D6 n6 e6) R6.out).far (p := ⟨w.heap.size + 1 + 1 + 1 + 1, 0, none⟩) (by show w.heap.size + 1 + 1 + 1 ≠ w.heap.size + 1 + 1 + 1 + 1; omega) (.bool true)
    have F7 := (fr_set7 (.slice D0 n0 e0) (.slice D1 n1 e1) (.slice D2 n2 e2) (.slice D3 n3 e3) (.slice D4 n4 e4) (.slice D5 n5 e5) (.slice D6 n6 e6) F6.out (b := w.heap.size + 1 + 1 + 1) (.inr (by omega))).setCell (p := ⟨w.heap.size + 1 + 1 + 1 + 1, 0, none⟩) (.inr (by show w.heap.size ≤ w.heap.size + 1 + 1 + 1 + 1; omega)) (.bool true)
    have V7 : VarsR w6 _ := (fr_set7 (.slice D0 n0 e0) (.slice D1 n1 e1) (.slice D2 n2 e2) (.slice D3 n3 e3) (.slice D4 n4 e4) (.slice D5 n5 e5) (.slice D6 n6 e6) (Fr.refl (fun k => ∃ cs, Blk w6 k 4 cs ∨ Blk w6 k 54 cs) w6) (b := w.heap.size + 1 + 1 + 1) (.inl ⟨_, .inr R6.out⟩)).setCell (p := ⟨w.heap.size + 1 + 1 + 1 + 1, 0, none⟩) (.inl ⟨_, .inl R7.out⟩) (.bool true)
    have o7 : (World.setCell (((((((w6.setCell ⟨w.heap.size + 1 + 1 + 1, 0, none⟩ (.slice D0 n0 e0)).setCell ⟨w.heap.size + 1 + 1 + 1, 1, none⟩ (.slice D1 n1 e1)).setCell ⟨w.heap.size + 1 + 1 + 1, 2, none⟩ (.slice D2 n2 e2)).setCell ⟨w.heap.size + 1 + 1 + 1, 3, none⟩ (.slice D3 n3 e3)).setCell ⟨w.heap.size + 1 + 1 + 1, 4, none⟩ (.slice D4 n4 e4)).setCell ⟨w.heap.size + 1 + 1 + 1, 5, none⟩ (.slice D5 n5 e5)).setCell ⟨w.heap.size + 1 + 1 + 1, 6, none⟩ (.slice D6 n6 e6)) ⟨w.heap.size + 1 + 1 + 1 + 1, 0, none⟩ (.bool true)).cell? ⟨w.heap.size + 1 + 1 + 1 + 1, 0, none⟩ = some (.bool true) := by
      have h := R7.out
      have e : ∀ i, w.heap.size + 1 + 1 + 1 + 1 ≠ (Addr.mk (w.heap.size + 1 + 1 + 1) i none).block := fun i => by show w.heap.size + 1 + 1 + 1 + 1 ≠ w.heap.size + 1 + 1 + 1; omega
      have h2 := ((((((((h.far (e 0) (.slice D0 n0 e0)).far (e 1) (.slice D1 n1 e1)).far (e 2) (.slice D2 n2 e2)).far (e 3) (.slice D3 n3 e3)).far (e 4) (.slice D4 n4 e4)).far (e 5) (.slice D5 n5 e5)).far (e 6) (.slice D6 n6 e6)).set_ 0 (.bool true)).cell 0
      simpa using h2
    generalize (World.setCell (World.setCell _ _ _) ⟨w.heap.size + 1 + 1 + 1 + 1, 0, none⟩ (.bool true)) = w7 at g7 F7 V7 o7 ⊢
    have t0 := g7.cell 0
    have t1 := g7.cell 1
    have t2 := g7.cell 2
    have t3 := g7.cell 3
    have t4 := g7.cell 4
    have t5 := g7.cell 5
    have t6 := g7.cell 6
    simp only [List.getElem?_toArray, List.getElem?_cons_zero, List.getElem?_cons_succ] at t0 t1 t2 t3 t4 t5 t6
    have HF7 := Lib.hid F7
    have HV7 := Lib.hid V7
    clear F7 V7 g7
    simp [Exit.then, bodyPost, results, Tryz.results29, go_sem, t0, t1, t2, t3, t4, t5, t6, o7]
    exact ⟨_, rfl, ⟨_, _, _, _, _, _, _, _, _, _, _, _, _, _, _, _, _, _, _, _, _, rfl⟩, (fun _ => HL.out _ _ _ HL6.out HV7.out), (fun h => by cases h), HF7.out⟩

end Go.Proofs.YtbkookiigkckdaaGreatDoor
