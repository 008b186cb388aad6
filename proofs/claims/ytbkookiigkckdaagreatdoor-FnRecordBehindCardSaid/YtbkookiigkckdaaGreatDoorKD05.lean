/- Merged. -/
import Derived.Test.YtbkookiigkckdaaGreatDoorKD01
set_option linter.unusedVariables false
set_option linter.unusedSimpArgs false
set_option maxRecDepth 100000
set_option maxHeartbeats 8000000
namespace Go.Proofs.YtbkookiigkckdaaGreatDoor
open Go.RowKit Go.Proofs.Tryz
theorem zbp {P : Nat -> Prop} {w : World} {v : Value} {size m tx e : Nat} {cs : List Value} (hk : prog.underlying tx = some (.slice e)) (h : Sl P w v size m cs) (h1 : ∀ u ∈ cs, u.oneCell' = true) : Src prog size tx v m cs w := by
 obtain ⟨A, c, rfl, hl, hc, hr⟩ := h; rcases zmE m with rfl | hm
 ·have : cs = [] := zmJ (by simpa using hl)
  subst this; rcases A with _ | a
  ·exact Src.ofNil (e' := e) _ hk c
  ·exact Src.ofSlice (e' := e) _ hk a 0 c [] (by simp) (fun j u hj => by simp at hj) h1
 ·obtain ⟨g, off, rfl, _, aa⟩ := hr hm
  exact Src.ofSlice (e' := e) _ hk ⟨g, off, none⟩ m c cs hl (fun j u hj => by
   have e1 : (⟨g, off, none⟩ : Addr).add j = ⟨g, off + j, none⟩ := by unfold Addr.add; split <;> simp_all
   rw [e1]; exact aa j u hj) h1
def zk4 (L : Value -> World -> Prop) (w : World) (br bl : Nat) (o : Option Nat) (ys : List UInt8) (r : Ending) (w' : World) : Prop :=
 r = .returned (.tuple #[]) /\ ∃ v' lv, Blk w' br 44 #[v'] /\ Blk w' bl 52 #[lv] /\ L lv w' /\ w'.ownsRow 0 5 1 v' ys.length (bc ys) /\ Fr (fun k => some k = o ∨ k = br ∨ k = bl) w w' /\ (v'.ownBlock = o ∨ ∃ k, v'.ownBlock = some k /\ w.heap.size <= k)
def za5 (L : Value -> World -> Prop) (w : World) (ys : List UInt8) (r : Ending) (w' : World) : Prop :=
 ∃ v' lv, r = .returned (.tuple #[v', lv]) /\ L lv w' /\ w'.ownsRow w.heap.size 5 1 v' ys.length (bc ys) /\ z_F w w'
theorem own_up {w : World} {base b : Nat} {e : TypeId} {size n : Nat} {v : Value} {xs : List Value} (h : w.ownsRow b e size v n xs) (hb : ∀ g, v.ownBlock = some g -> base <= g) : w.ownsRow base e size v n xs :=
 ⟨h.1, h.2.imp id fun ⟨g, aK, cur, h1, h2, h3⟩ => ⟨g, aK, cur, h1, hb g (by rw [h1]; rfl), h3⟩⟩
theorem laid_mk (w : World) (kind bv : Value) (p : Array Value) :
 let W := ((((((w.alloc (.cells #[kind] 3)).alloc (.cells p 54)).alloc (.cells #[bv] 44)).alloc (.cells #[.slice none 0 0] 44)).alloc (.cells #[.slice none 0 0] 52)).alloc (.cells #[] 196)).alloc (.cells #[] 5)
 Blk W w.heap.size 3 #[kind] /\ Blk W (w.heap.size + 1) 54 p /\ Blk W (w.heap.size + 2) 44 #[bv] /\ Blk W (w.heap.size + 3) 44 #[.slice none 0 0] /\ Blk W (w.heap.size + 4) 52 #[.slice none 0 0] /\ z_F w W /\ W.heap.size = w.heap.size + 7 /\ W.ownsRow w.heap.size 5 1 (.slice (some ⟨w.heap.size + 6, 0, none⟩) 0 0) 0 [] := by
 intro W; have e : ∀ (w : World) (o : Obj), (w.alloc o).heap.size = w.heap.size + 1 := fun w o => by simp
 refine ⟨?_, ?_, ?_, ?_, ?_, ?_, ?_, ?_⟩
 ·exact ((((((znm w 3 _).alloc _).alloc _).alloc _).alloc _).alloc _).alloc _
 ·have := (((((znm (w.alloc (.cells #[kind] 3)) 54 p).alloc (.cells #[bv] 44)).alloc (.cells #[.slice none 0 0] 44)).alloc (.cells #[.slice none 0 0] 52)).alloc (.cells #[] 196)).alloc (.cells #[] 5)
  rwa [e] at this
 ·have := ((((znm ((w.alloc (.cells #[kind] 3)).alloc (.cells p 54)) 44 #[bv]).alloc (.cells #[.slice none 0 0] 44)).alloc (.cells #[.slice none 0 0] 52)).alloc (.cells #[] 196)).alloc (.cells #[] 5)
  rwa [e, e] at this
 ·have := (((znm (((w.alloc (.cells #[kind] 3)).alloc (.cells p 54)).alloc (.cells #[bv] 44)) 44 #[.slice none 0 0]).alloc (.cells #[.slice none 0 0] 52)).alloc (.cells #[] 196)).alloc (.cells #[] 5)
  rwa [e, e, e] at this
 ·have := ((znm ((((w.alloc (.cells #[kind] 3)).alloc (.cells p 54)).alloc (.cells #[bv] 44)).alloc (.cells #[.slice none 0 0] 44)) 52 #[.slice none 0 0]).alloc (.cells #[] 196)).alloc (.cells #[] 5)
  rwa [e, e, e, e] at this
 ·exact (((((((znl _ w).alloc _).alloc _).alloc _).alloc _).alloc _).alloc _).alloc _
 ·simp [W]
 ·have := znk (base := w.heap.size) (e := 5) (size := 1) ((((((w.alloc (.cells #[kind] 3)).alloc (.cells p 54)).alloc (.cells #[bv] 44)).alloc (.cells #[.slice none 0 0] 44)).alloc (.cells #[.slice none 0 0] 52)).alloc (.cells #[] 196)) #[] 0 (by simp; omega) (zms _) rfl
  simp only [e] at this; exact this
theorem ziN {g k n c : Nat} (h : g ≠ k) : some g ≠ (Value.slice (some ⟨k, 0, none⟩) n c).ownBlock := fun e => h (zm6 e)
def Vars (W W' : World) : Prop := Fr (fun k => ∃ cs, Blk W k 4 cs ∨ Blk W k 44 cs ∨ Blk W k 52 cs) W W'
theorem zaP (kind : Int) (s0 s1 s2 s3 s4 s5 s6 bv : Value) (xs ys : List UInt8) (P : Nat -> Prop) (L : Value -> World -> Prop) (w : World) (hb : Sl P w bv 1 xs.length (bc xs)) (bm : xs.length <= 1073741824)
 (au : ∀ s ∈ [s0, s1, s2, s3, s4, s5, s6], ∃ A m c, s = .slice A m c) (hLs : ∀ lv W, L lv W -> ∃ A m c, lv = .slice A m c)
 (hL : ∀ lv W W', L lv W -> Vars W W' -> L lv W')
 (hc : ∀ (bk be bp bb br bl : Nat) (v : Value) (W : World), Blk W bk 3 #[.int .i64 kind] -> Blk W bp 54 #[s0, s1, s2, s3, s4, s5, s6] -> Blk W bb 44 #[v] -> Blk W br 44 #[.slice none 0 0] -> Blk W bl 52 #[.slice none 0 0] -> W.ownsRow w.heap.size 5 1 v xs.length (bc xs) ->
   bb ≠ br -> z_F w W -> Calls prog 90 #[.pointer (some ⟨bk, 0, none⟩), .pointer (some ⟨be, 0, none⟩), .pointer (some ⟨bp, 0, none⟩), .pointer (some ⟨bb, 0, none⟩), .pointer (some ⟨br, 0, none⟩), .pointer (some ⟨bl, 0, none⟩)] W (zk4 L W br bl v.ownBlock ys)) :
 Calls prog 31 #[.int .i64 kind, .agg #[s0, s1, s2, s3, s4, s5, s6], bv] w (za5 L w ys) := by
 obtain ⟨i0, aC, az, ay, aB⟩ := info_parts zff; have HB := zmh hb; have HC := zmh hc; have HL := zmh hL; have HLS := zmh hLs; have hbv : ∃ A m c, bv = .slice A m c := let ⟨A, c, h, _⟩ := hb; ⟨A, _, c, h⟩
 obtain ⟨A, m, c, rfl⟩ := hbv; obtain ⟨A0, m0, c0, rfl⟩ := au s0 (by simp); obtain ⟨A1, m1, c1, rfl⟩ := au s1 (by simp); obtain ⟨A2, m2, c2, rfl⟩ := au s2 (by simp); obtain ⟨A3, m3, c3, rfl⟩ := au s3 (by simp); obtain ⟨A4, m4, c4, rfl⟩ := au s4 (by simp); obtain ⟨A5, m5, c5, rfl⟩ := au s5 (by simp); obtain ⟨A6, m6, c6, rfl⟩ := au s6 (by simp); clear hb hc hL au hLs
 have hmf : ∀ (fn : Fn) (first aK : Array Value) (w : World), (Instr.makeFunc fn first aK).run prog w = .ok (.func fn first aK) w := fun _ _ _ _ => rfl; go_enter func31, ntmps31; go_wp2_with (at_builtin; refine Hid.out ?_)
 have hM := laid_mk w (.int .i64 kind) (.slice A m c) #[.slice A0 m0 c0, .slice A1 m1 c1, .slice A2 m2 c2, .slice A3 m3 c3, .slice A4 m4 c4, .slice A5 m5 c5, .slice A6 m6 c6]; dsimp only at hM; generalize hW : World.alloc _ (Obj.cells #[] 5) = W at hM ⊢; clear hW; obtain ⟨B3, B4, B5, B6, B7, hF, hS, hO⟩ := hM; have HS := zmh hS
 have cd := zbp underlying44 (HB.out.fr hF z_i) (zfC xs); refine zaf _ rfl _ _ 44 44 rfl w.heap.size 5 i0 (.int .u8 0) 1 1 underlying44 aC az ay aB rfl (by decide) _ 0 [] rfl hO _ xs.length (bc xs) rfl cd (by unfold maxLen; omega) (by omega) (by omega) ?_; intro v' w2 ac ad av
 rw [zmM, zmT] at ac; obtain ⟨a2, n2, k2, rfl⟩ := zab ac; have eJ : ∀ g, (Value.slice a2 n2 k2).ownBlock = some g -> w.heap.size + 6 <= g := fun g hg => by
  rcases av with h | h <;> rw [h] at hg
  ·injection hg with hg; exact Nat.le_of_eq hg
  ·injection hg with hg; omega
 have g3 := B3.grown ad (ziN (by omega)); have g4 := B4.grown ad (ziN (by omega)); have g5 := B5.grown ad (ziN (by omega)); have g6 := B6.grown ad (ziN (by omega)); have g7 := B7.grown ad (ziN (by omega)); have gF := hF.grown ad (fun k hk => .inr (by have hk : w.heap.size + 6 = k := zm6 hk; omega))
 have q2 : w2.cell? ⟨w.heap.size + 1 + 1, 0, none⟩ = some (.slice A m c) := by simpa using g5.cell 0
 have z2 : w2.frozen? ⟨w.heap.size + 1 + 1, 0, none⟩ = false := g5.frozen 0; obtain ⟨W3, eQ⟩ : ∃ W3, w2.setCell ⟨w.heap.size + 1 + 1, 0, none⟩ (.slice a2 n2 k2) = W3 := ⟨_, rfl⟩; have h3 : Blk W3 w.heap.size 3 #[.int .i64 kind] := eQ ▸ g3.far (p := ⟨w.heap.size + 1 + 1, 0, none⟩) (by show w.heap.size ≠ w.heap.size + 1 + 1; omega) _
 have h4 : Blk W3 (w.heap.size + 1) 54 #[.slice A0 m0 c0, .slice A1 m1 c1, .slice A2 m2 c2, .slice A3 m3 c3, .slice A4 m4 c4, .slice A5 m5 c5, .slice A6 m6 c6] := eQ ▸ g4.far (p := ⟨w.heap.size + 1 + 1, 0, none⟩) (by show w.heap.size + 1 ≠ w.heap.size + 1 + 1; omega) _; have h5 : Blk W3 (w.heap.size + 2) 44 #[.slice a2 n2 k2] := eQ ▸ (by simpa using g5.set_ 0 (.slice a2 n2 k2))
 have h6 : Blk W3 (w.heap.size + 3) 44 #[.slice none 0 0] := eQ ▸ g6.far (p := ⟨w.heap.size + 1 + 1, 0, none⟩) (by show w.heap.size + 3 ≠ w.heap.size + 1 + 1; omega) _; have h7 : Blk W3 (w.heap.size + 4) 52 #[.slice none 0 0] := eQ ▸ g7.far (p := ⟨w.heap.size + 1 + 1, 0, none⟩) (by show w.heap.size + 4 ≠ w.heap.size + 1 + 1; omega) _
 have h8 : z_F w W3 := eQ ▸ gF.setCell (p := ⟨w.heap.size + 1 + 1, 0, none⟩) (.inr (by show w.heap.size <= w.heap.size + 1 + 1; omega)) _; have h9 : W3.ownsRow w.heap.size 5 1 (.slice a2 n2 k2) xs.length (bc xs) := eQ ▸ zai ac (Fr.put_ w2 (w.heap.size + 1 + 1) 0 _) (fun g hg e => by have := eJ g hg; omega); have pW := h7.lt
 have fZ := HC.out w.heap.size (w.heap.size + 1 + 1 + 1 + 1 + 1) (w.heap.size + 1) (w.heap.size + 1 + 1) (w.heap.size + 1 + 1 + 1) (w.heap.size + 1 + 1 + 1 + 1) (.slice a2 n2 k2) _ (h3.alloc (.cells #[.bool false] 4)) (h4.alloc _) (h5.alloc _) (h6.alloc _) (h7.alloc _) (h9.alloc _) (by omega) (h8.alloc _)
 have fM := safe_ok 90 _ W3 _ (enters_of func90 (by kernel_rfl) rfl) (fZ.mono (fun r w' hr => ⟨hr.1, hr.2, by
  obtain ⟨_, v', lv, _, _, _, _, hf, _⟩ := hr; refine (znm W3 4 #[.bool false]).fr hf ?_; rintro (h | h | h)
  ·have := zaq h9 h.symm; omega
  ·omega
  ·omega⟩))
 have HW3 := zmh eQ; clear eQ; refine zmh ?_; have HH9 := zmh h9; have HH8 := zmh h8; have HH7 := zmh pW; have ou := zmh eJ; clear fZ h3 h4 h5 h6 h7 h8 h9 g3 g4 g5 g6 g7 gF B3 B4 B5 B6 B7 hF hO cd ad av ac HB HC pW eJ hS; refine Hid.out ?_; refine .inl ?_
 go_wp2_with (rw [HW3.out]; go_at_call 65; refine fM.mono ?_; rintro r w4 ⟨rfl, w5, hq, cg, rfl⟩; refine Hid.out ?_)
 obtain ⟨v3, lv, q6, q7, qL, qO, qF, qA⟩ := hq; obtain ⟨a3, n3, k3, rfl⟩ := zab qO; obtain ⟨a4, n4, k4, rfl⟩ := HLS.out lv _ qL; have s6 := q6.lt; have s7 := q7.lt; have hn3 := HH7.out
 have r6 : Blk ((w5.setCell ⟨W3.heap.size, 0, none⟩ (.bool true)).setCell ⟨W3.heap.size, 0, none⟩ (.bool true)) _ _ _ := (q6.far (p := ⟨W3.heap.size, 0, none⟩) (by show w.heap.size + 1 + 1 + 1 ≠ W3.heap.size; omega) _).far (p := ⟨W3.heap.size, 0, none⟩) (by show w.heap.size + 1 + 1 + 1 ≠ W3.heap.size; omega) _
 have r7 : Blk ((w5.setCell ⟨W3.heap.size, 0, none⟩ (.bool true)).setCell ⟨W3.heap.size, 0, none⟩ (.bool true)) _ _ _ := (q7.far (p := ⟨W3.heap.size, 0, none⟩) (by show w.heap.size + 1 + 1 + 1 + 1 ≠ W3.heap.size; omega) _).far (p := ⟨W3.heap.size, 0, none⟩) (by show w.heap.size + 1 + 1 + 1 + 1 ≠ W3.heap.size; omega) _
 have v5 : Vars w5 ((w5.setCell ⟨W3.heap.size, 0, none⟩ (.bool true)).setCell ⟨W3.heap.size, 0, none⟩ (.bool true)) :=
  ((znl _ w5).setCell (p := ⟨W3.heap.size, 0, none⟩) (.inl ⟨_, .inl cg⟩) _).setCell (p := ⟨W3.heap.size, 0, none⟩) (.inl ⟨_, .inl cg⟩) _
 have f5 : z_F w ((w5.setCell ⟨W3.heap.size, 0, none⟩ (.bool true)).setCell ⟨W3.heap.size, 0, none⟩ (.bool true)) := by
  have bQ := HH8.out.size; refine Fr.setCell (Fr.setCell ?_ (p := ⟨W3.heap.size, 0, none⟩) (.inr bQ) _) (p := ⟨W3.heap.size, 0, none⟩) (.inr bQ) _; refine (HH8.out.alloc (.cells #[.bool false] 4)).trans qF ?_; rintro k hk (h | h | h)
  ·have := ou.out k h.symm; omega
  ·omega
  ·omega
 have aJ : ((w5.setCell ⟨W3.heap.size, 0, none⟩ (.bool true)).setCell ⟨W3.heap.size, 0, none⟩ (.bool true)).ownsRow w.heap.size 5 1 (.slice a3 n3 k3) ys.length (bc ys) := by
  refine own_up (zai qO (((znl (fun k => k = W3.heap.size) w5).setCell (p := ⟨W3.heap.size, 0, none⟩) (.inl rfl) _).setCell (p := ⟨W3.heap.size, 0, none⟩) (.inl rfl) _) (fun g hg e => zak qO cg (by decide) (by rw [hg, e]))) ?_; intro g hg; rcases qA with h | ⟨k, h, hk⟩
  ·have := ou.out g (h ▸ hg); omega
  ·rw [h] at hg; injection hg with hg; simp at hk; omega
 have kr := HL.out _ _ _ qL v5; refine zmh ?_; generalize World.setCell _ _ _ = w6 at r6 r7 v5 f5 aJ kr ⊢; have l6 := r6.cell 0; have l7 := r7.cell 0; have z6 := r6.frozen 0; have z7 := r7.frozen 0; simp at l6 l7; have m6 : Blk (w6.setCell ⟨w.heap.size + 1 + 1 + 1, 0, none⟩ (.slice a3 n3 k3)) (w.heap.size + 1 + 1 + 1) 44 #[.slice a3 n3 k3] := by simpa using r6.set_ 0 (.slice a3 n3 k3)
 have m7 : Blk (w6.setCell ⟨w.heap.size + 1 + 1 + 1, 0, none⟩ (.slice a3 n3 k3)) (w.heap.size + 1 + 1 + 1 + 1) 52 #[.slice a4 n4 k4] := r7.far (p := ⟨w.heap.size + 1 + 1 + 1, 0, none⟩) (by show w.heap.size + 1 + 1 + 1 + 1 ≠ w.heap.size + 1 + 1 + 1; omega) _; have j6 := m6.cell 0; have j7 := m7.cell 0
 have m8 : Blk ((w6.setCell ⟨w.heap.size + 1 + 1 + 1, 0, none⟩ (.slice a3 n3 k3)).setCell ⟨w.heap.size + 1 + 1 + 1 + 1, 0, none⟩ (.slice a4 n4 k4)) (w.heap.size + 1 + 1 + 1) 44 #[.slice a3 n3 k3] := m6.far (p := ⟨w.heap.size + 1 + 1 + 1 + 1, 0, none⟩) (by show w.heap.size + 1 + 1 + 1 ≠ w.heap.size + 1 + 1 + 1 + 1; omega) _
 have m9 : Blk ((w6.setCell ⟨w.heap.size + 1 + 1 + 1, 0, none⟩ (.slice a3 n3 k3)).setCell ⟨w.heap.size + 1 + 1 + 1 + 1, 0, none⟩ (.slice a4 n4 k4)) (w.heap.size + 1 + 1 + 1 + 1) 52 #[.slice a4 n4 k4] := by simpa using m7.set_ 0 (.slice a4 n4 k4)
 have j8 := m8.cell 0; have j9 := m9.cell 0; simp at j6 j7 j8 j9; have M8 := zmh m8; have M9 := zmh m9; clear m6 m7 m8 m9; have R6 := zmh r6; have R7 := zmh r7; have F6 := zmh f5; have fz := zmh aJ; have pb := zmh kr; clear aJ kr r6 r7 v5 f5 qL qO qF qA q6 q7 cg fM q2 z2 HW3 s6 s7 hn3; go_wp2_with fail
 go_region_held3 (fun w' => w'.cell? ⟨w.heap.size + 1 + 1 + 1, 0, none⟩ = some (.slice a3 n3 k3) /\ w'.cell? ⟨w.heap.size + 1 + 1 + 1 + 1, 0, none⟩ = some (.slice a4 n4 k4))
  ((first | (go_split_ands; refine ⟨?_, ?_⟩ <;> first | exact j6 | exact j7) | (go_split_ands; refine ⟨?_, ?_⟩ <;> first | exact j8 | exact j9) | go_keep)) (fail)
 have HE : z_F w ((w6.setCell ⟨w.heap.size + 1 + 1 + 1, 0, none⟩ (.slice a3 n3 k3)).setCell ⟨w.heap.size + 1 + 1 + 1 + 1, 0, none⟩ (.slice a4 n4 k4)) :=
  (F6.out.setCell (p := ⟨w.heap.size + 1 + 1 + 1, 0, none⟩) (.inr (by show w.heap.size <= w.heap.size + 1 + 1 + 1; omega)) _).setCell (p := ⟨w.heap.size + 1 + 1 + 1 + 1, 0, none⟩) (.inr (by show w.heap.size <= w.heap.size + 1 + 1 + 1 + 1; omega)) _
 have HV : Vars w6 ((w6.setCell ⟨w.heap.size + 1 + 1 + 1, 0, none⟩ (.slice a3 n3 k3)).setCell ⟨w.heap.size + 1 + 1 + 1 + 1, 0, none⟩ (.slice a4 n4 k4)) :=
  ((znl _ w6).setCell (p := ⟨w.heap.size + 1 + 1 + 1, 0, none⟩) (.inl ⟨_, .inr (.inl R6.out)⟩) _).setCell (p := ⟨w.heap.size + 1 + 1 + 1 + 1, 0, none⟩) (.inl ⟨_, .inr (.inr R7.out)⟩) _
 have ml := zai fz.out (((znl (fun k => k = w.heap.size + 1 + 1 + 1 ∨ k = w.heap.size + 1 + 1 + 1 + 1) w6).setCell (p := ⟨w.heap.size + 1 + 1 + 1, 0, none⟩) (.inl (.inl rfl)) (.slice a3 n3 k3)).setCell (p := ⟨w.heap.size + 1 + 1 + 1 + 1, 0, none⟩) (.inl (.inr rfl)) (.slice a4 n4 k4)) (by
  rintro g hg (e | e)
  ·exact zak fz.out R6.out (by decide) (by rw [hg, e])
  ·exact zak fz.out R7.out (by decide) (by rw [hg, e]))
 have HF := zmh HE.drew; have om := zmh (HL.out _ _ _ pb.out HV.drew); have oX := zmh (World.ownsRow.drew ml); clear HE HV ml; go_wp2; simp [Exit.then, bodyPost, results, results31, go_sem, j8, j9]; exact ⟨_, _, rfl, om.out, oX.out, HF.out⟩
theorem zdd {w : World} {br bl : Nat} {v : Value} {n : Nat} {xs : List Value} {ys : List UInt8} {z : Value} (ab : w.ownsRow 0 5 1 v n xs) (hr : Blk w br 44 #[z]) (hl : Blk w bl 52 #[.slice none 0 0]) {r : Ending} {w' : World} (h : zcs w br v.ownBlock ys r w') : zk4 (fun lv _ => lv = .slice none 0 0) w br bl v.ownBlock ys r w' := by
 obtain ⟨rfl, v', hb, ho, hf, ha⟩ := h; refine ⟨rfl, v', _, hb, hl.fr hf ?_, rfl, ho, hf.mono ?_, ha⟩
 ·rintro (e | e)
  ·exact zak ab hl (by decide) e.symm
  ·exact znn hl hr (by decide) e
 ·rintro k _ (e | e)
  ·exact .inl e
  ·exact .inr (.inl e)
theorem zc0 (s0 s1 s2 s3 s4 s5 s6 bv : Value) (xs : List UInt8) (l : List Smp) (P : Nat -> Prop) (w : World) (hb : Sl P w bv 1 xs.length (bc xs)) (bm : xs.length <= 1073741824)
 (au : ∀ s ∈ [s0, s1, s2, s3, s4, s5, s6], ∃ A m c, s = .slice A m c) (hs : Sl P w s1 3 l.length (l.flatMap Smp.a)) (dh : l.length <= 1073741824) (aD : ∀ s ∈ l, s.wf) :
 Calls prog 31 #[.int .i64 2, .agg #[s0, s1, s2, s3, s4, s5, s6], bv] w (za5 (fun lv _ => lv = .slice none 0 0) w (xs ++ zaE l)) := by
 refine zaP 2 s0 s1 s2 s3 s4 s5 s6 bv xs _ P _ w hb bm au (by rintro lv W rfl; exact ⟨_, _, _, rfl⟩) (fun _ _ _ h _ => h) ?_; intro bk be bp bb br bl v W hk hp bJ hr hl ab bM hF
 exact (zgX bk bp bb br _ _ P s0 s1 s2 s3 s4 s5 s6 v _ xs l W hk hp bJ hr (zah ab (zms _)) (hs.fr hF z_i) bm dh aD bM).mono fun r w' h => zdd (zah ab (zms _)) hr hl h
def zl9 (ps : Array Value) : Prop := ∃ A0 m0 c0 A1 m1 c1 A2 m2 c2 A3 m3 c3 A4 m4 c4 A5 m5 c5 A6 m6 c6, ps = #[.slice A0 m0 c0, .slice A1 m1 c1, .slice A2 m2 c2, .slice A3 m3 c3, .slice A4 m4 c4, .slice A5 m5 c5, .slice A6 m6 c6]
def zit : Array Value := #[.slice none 0 0, .slice none 0 0, .slice none 0 0, .slice none 0 0, .slice none 0 0, .slice none 0 0, .slice none 0 0]
def R1Ends (L : Array Value -> World -> Prop) (okb : Bool) (w : World) (bb bp bo : Nat) (r : Ending) (w' : World) : Prop :=
 r = .returned (.tuple #[]) /\ Fr (fun k => k = bb ∨ k = bp ∨ k = bo) w w' /\ Blk w' bo 4 #[.bool okb] /\ ∃ ps, zl9 ps /\ Blk w' bp 54 ps /\ L ps w'
def ReadDone (L : Array Value -> World -> Prop) (okb : Bool) (w : World) (r : Ending) (w' : World) : Prop :=
 ∃ ps, r = .returned (.tuple #[.agg ps, .bool okb]) /\ zl9 ps /\ (okb = true -> L ps w') /\ (okb = false -> ps = zit) /\ z_F w w'
def zjq (W W' : World) : Prop := Fr (fun k => ∃ cs, Blk W k 4 cs ∨ Blk W k 54 cs) W W'
theorem laidR_mk (w : World) (kind bv : Value) (q : Array Value) :
 let W := ((((w.alloc (.cells #[kind] 3)).alloc (.cells #[bv] 44)).alloc (.cells q 54)).alloc (.cells zit 54)).alloc (.cells #[.bool false] 4)
 Blk W w.heap.size 3 #[kind] /\ Blk W (w.heap.size + 1) 44 #[bv] /\ Blk W (w.heap.size + 2) 54 q /\ Blk W (w.heap.size + 3) 54 zit /\ Blk W (w.heap.size + 4) 4 #[.bool false] /\ z_F w W /\ W.heap.size = w.heap.size + 5 := by
 intro W; have e : ∀ (w : World) (o : Obj), (w.alloc o).heap.size = w.heap.size + 1 := fun w o => by simp
 refine ⟨?_, ?_, ?_, ?_, ?_, ?_, ?_⟩
 ·exact ((((znm w 3 _).alloc _).alloc _).alloc _).alloc _
 ·have := (((znm (w.alloc (.cells #[kind] 3)) 44 #[bv]).alloc (.cells q 54)).alloc (.cells zit 54)).alloc (.cells #[.bool false] 4)
  rwa [e] at this
 ·have := ((znm ((w.alloc (.cells #[kind] 3)).alloc (.cells #[bv] 44)) 54 q).alloc (.cells zit 54)).alloc (.cells #[.bool false] 4)
  rwa [e, e] at this
 ·have := (znm (((w.alloc (.cells #[kind] 3)).alloc (.cells #[bv] 44)).alloc (.cells q 54)) 54 zit).alloc (.cells #[.bool false] 4)
  rwa [e, e, e] at this
 ·have := znm ((((w.alloc (.cells #[kind] 3)).alloc (.cells #[bv] 44)).alloc (.cells q 54)).alloc (.cells zit 54)) 4 #[.bool false]
  rwa [e, e, e, e] at this
 ·exact (((((znl _ w).alloc _).alloc _).alloc _).alloc _).alloc _
 ·simp [W]
theorem ze6 {w : World} {b : Nat} {t : TypeId} {a0 a1 a2 a3 a4 a5 a6 : Value} (u0 u1 u2 u3 u4 u5 u6 : Value) (h : Blk w b t #[a0, a1, a2, a3, a4, a5, a6]) :
 Blk (((((((w.setCell ⟨b, 0, none⟩ u0).setCell ⟨b, 1, none⟩ u1).setCell ⟨b, 2, none⟩ u2).setCell ⟨b, 3, none⟩ u3).setCell ⟨b, 4, none⟩ u4).setCell ⟨b, 5, none⟩ u5).setCell ⟨b, 6, none⟩ u6) b t #[u0, u1, u2, u3, u4, u5, u6] := by
 have := ((((((h.set_ 0 u0).set_ 1 u1).set_ 2 u2).set_ 3 u3).set_ 4 u4).set_ 5 u5).set_ 6 u6; simpa using this
theorem zdq {S : Nat -> Prop} {w0 w : World} {b : Nat} (u0 u1 u2 u3 u4 u5 u6 : Value) (h : Fr S w0 w) (hb : S b ∨ w0.heap.size <= b) :
 Fr S w0 (((((((w.setCell ⟨b, 0, none⟩ u0).setCell ⟨b, 1, none⟩ u1).setCell ⟨b, 2, none⟩ u2).setCell ⟨b, 3, none⟩ u3).setCell ⟨b, 4, none⟩ u4).setCell ⟨b, 5, none⟩ u5).setCell ⟨b, 6, none⟩ u6) :=
 ((((((h.setCell (p := ⟨b, 0, none⟩) hb u0).setCell (p := ⟨b, 1, none⟩) hb u1).setCell (p := ⟨b, 2, none⟩) hb u2).setCell (p := ⟨b, 3, none⟩) hb u3).setCell (p := ⟨b, 4, none⟩) hb u4).setCell (p := ⟨b, 5, none⟩) hb u5).setCell (p := ⟨b, 6, none⟩) hb u6
theorem zbl (kind : Int) (q0 q1 q2 q3 q4 q5 q6 bv : Value) (xs : List UInt8) (P : Nat -> Prop) (L : Array Value -> World -> Prop) (okb : Bool) (w : World) (hb : Sl P w bv 1 xs.length (bc xs))
 (au : ∀ s ∈ [q0, q1, q2, q3, q4, q5, q6], ∃ A m c, s = .slice A m c)
 (hL : ∀ ps W W', L ps W -> zjq W W' -> L ps W')
 (hc : ∀ (bb bk bq bp bo : Nat) (W : World), Blk W bk 3 #[.int .i64 kind] -> Blk W bb 44 #[bv] -> Blk W bq 54 #[q0, q1, q2, q3, q4, q5, q6] -> Blk W bp 54 zit -> Blk W bo 4 #[.bool false] -> w.heap.size <= bb -> w.heap.size <= bp -> w.heap.size <= bo -> bp ≠ bq -> z_F w W ->
   Calls prog 66 #[.pointer (some ⟨bb, 0, none⟩), .pointer (some ⟨bk, 0, none⟩), .pointer (some ⟨bq, 0, none⟩), .pointer (some ⟨bp, 0, none⟩), .pointer (some ⟨bo, 0, none⟩)] W (R1Ends L okb W bb bp bo)) :
 Calls prog 29 #[.int .i64 kind, bv, .agg #[q0, q1, q2, q3, q4, q5, q6]] w (ReadDone L okb w) := by
 have HB := zmh hb; have HC := zmh hc; have HL := zmh hL; have hbv : ∃ A m c, bv = .slice A m c := let ⟨A, c, h, _⟩ := hb; ⟨A, _, c, h⟩
 obtain ⟨A, m, c, rfl⟩ := hbv; obtain ⟨A0, m0, c0, rfl⟩ := au q0 (by simp); obtain ⟨A1, m1, c1, rfl⟩ := au q1 (by simp); obtain ⟨A2, m2, c2, rfl⟩ := au q2 (by simp); obtain ⟨A3, m3, c3, rfl⟩ := au q3 (by simp); obtain ⟨A4, m4, c4, rfl⟩ := au q4 (by simp); obtain ⟨A5, m5, c5, rfl⟩ := au q5 (by simp); obtain ⟨A6, m6, c6, rfl⟩ := au q6 (by simp); clear hb hc hL au
 have hmf : ∀ (fn : Fn) (first aK : Array Value) (w : World), (Instr.makeFunc fn first aK).run prog w = .ok (.func fn first aK) w := fun _ _ _ _ => rfl; go_enter func29, ntmps29; go_wp2_with (go_at_call 65; refine Hid.out ?_)
 have hM := laidR_mk w (.int .i64 kind) (.slice A m c) #[.slice A0 m0 c0, .slice A1 m1 c1, .slice A2 m2 c2, .slice A3 m3 c3, .slice A4 m4 c4, .slice A5 m5 c5, .slice A6 m6 c6]; dsimp only at hM; unfold zit at hM; generalize hW : World.alloc _ (Obj.cells #[.bool false] 4) = W at hM ⊢; obtain ⟨B0, B1, B2, B3, B4, hF, hS⟩ := hM; clear hW
 have fZ := HC.out (w.heap.size + 1) w.heap.size (w.heap.size + 1 + 1) (w.heap.size + 1 + 1 + 1) (w.heap.size + 1 + 1 + 1 + 1) _ (B0.alloc (.cells #[.bool false] 4)) (B1.alloc _) (B2.alloc _) (B3.alloc _) (B4.alloc _) (by omega) (by omega) (by omega) (by omega) (hF.alloc _)
 have fM := safe_ok 66 _ W _ (enters_of func66 (by kernel_rfl) rfl) (fZ.mono (fun r w' hr => ⟨hr.1, hr.2, (znm W 4 #[.bool false]).fr hr.2.1 (by
  rintro (h | h | h) <;> omega)⟩))
 have HF := zmh hF; have HS := zmh hS; clear fZ B0 B1 B2 B3 B4 hF hS HC HB; refine zmh ?_; refine fM.mono ?_; rintro r w4 ⟨rfl, w5, hq, cg, rfl⟩; obtain ⟨qF, qO, ps, qS, qP, qL⟩ := hq; obtain ⟨D0, n0, e0, D1, n1, e1, D2, n2, e2, D3, n3, e3, D4, n4, e4, D5, n5, e5, D6, n6, e6, rfl⟩ := qS; have hS := HS.out
 have r7 := (qO.far (p := ⟨W.heap.size, 0, none⟩) (by show w.heap.size + 1 + 1 + 1 + 1 ≠ W.heap.size; omega) (.bool true)).far (p := ⟨W.heap.size, 0, none⟩) (by show w.heap.size + 1 + 1 + 1 + 1 ≠ W.heap.size; omega) (.bool true)
 have r6 := (qP.far (p := ⟨W.heap.size, 0, none⟩) (by show w.heap.size + 1 + 1 + 1 ≠ W.heap.size; omega) (.bool true)).far (p := ⟨W.heap.size, 0, none⟩) (by show w.heap.size + 1 + 1 + 1 ≠ W.heap.size; omega) (.bool true); have v5 : zjq w5 ((w5.setCell ⟨W.heap.size, 0, none⟩ (.bool true)).setCell ⟨W.heap.size, 0, none⟩ (.bool true)) :=
  ((znl _ w5).setCell (p := ⟨W.heap.size, 0, none⟩) (.inl ⟨_, .inl cg⟩) _).setCell (p := ⟨W.heap.size, 0, none⟩) (.inl ⟨_, .inl cg⟩) _
 have f5 : z_F w ((w5.setCell ⟨W.heap.size, 0, none⟩ (.bool true)).setCell ⟨W.heap.size, 0, none⟩ (.bool true)) := by
  have bQ := HF.out.size; refine Fr.setCell (Fr.setCell ?_ (p := ⟨W.heap.size, 0, none⟩) (.inr bQ) _) (p := ⟨W.heap.size, 0, none⟩) (.inr bQ) _; refine (HF.out.alloc (.cells #[.bool false] 4)).trans qF ?_; rintro k hk (h | h | h) <;> omega
 have kr := HL.out _ _ _ qL v5; refine Hid.out ?_; clear qF qO qP qL cg fM hS; generalize World.setCell _ _ _ = w6 at r6 r7 v5 f5 kr ⊢; have l7 := r7.cell 0; have l60 := r6.cell 0; have l61 := r6.cell 1; have l62 := r6.cell 2; have l63 := r6.cell 3; have l64 := r6.cell 4; have l65 := r6.cell 5; have l66 := r6.cell 6; have z60 := r6.frozen 0; have z61 := r6.frozen 1; have z62 := r6.frozen 2
 have z63 := r6.frozen 3; have z64 := r6.frozen 4; have z65 := r6.frozen 5; have z66 := r6.frozen 6; have z7 := r7.frozen 0; simp at l7; simp only [zmC, zmA, zmB] at l60 l61 l62 l63 l64 l65 l66; have R6 := zmh r6; have R7 := zmh r7; have F6 := zmh f5; have pb := zmh kr; clear v5 f5 kr; cases okb with
 | false =>
   refine zmh ?_; go_wp2_with fail
   have g7 := (ze6 (.slice none 0 0) (.slice none 0 0) (.slice none 0 0) (.slice none 0 0) (.slice none 0 0) (.slice none 0 0) (.slice none 0 0) R6.out).far (p := ⟨w.heap.size + 1 + 1 + 1 + 1, 0, none⟩) (by show w.heap.size + 1 + 1 + 1 ≠ w.heap.size + 1 + 1 + 1 + 1; omega) (.bool false)
   have F7 := (zdq (.slice none 0 0) (.slice none 0 0) (.slice none 0 0) (.slice none 0 0) (.slice none 0 0) (.slice none 0 0) (.slice none 0 0) F6.out (b := w.heap.size + 1 + 1 + 1) (.inr (by omega))).setCell (p := ⟨w.heap.size + 1 + 1 + 1 + 1, 0, none⟩) (.inr (by show w.heap.size <= w.heap.size + 1 + 1 + 1 + 1; omega)) (.bool false)
   have V7 : zjq w6 _ := (zdq (.slice none 0 0) (.slice none 0 0) (.slice none 0 0) (.slice none 0 0) (.slice none 0 0) (.slice none 0 0) (.slice none 0 0) (znl (fun k => ∃ cs, Blk w6 k 4 cs ∨ Blk w6 k 54 cs) w6) (b := w.heap.size + 1 + 1 + 1) (.inl ⟨_, .inr R6.out⟩)).setCell (p := ⟨w.heap.size + 1 + 1 + 1 + 1, 0, none⟩) (.inl ⟨_, .inl R7.out⟩) (.bool false)
   have o7 : (World.setCell (((((((w6.setCell ⟨w.heap.size + 1 + 1 + 1, 0, none⟩ (.slice none 0 0)).setCell ⟨w.heap.size + 1 + 1 + 1, 1, none⟩ (.slice none 0 0)).setCell ⟨w.heap.size + 1 + 1 + 1, 2, none⟩ (.slice none 0 0)).setCell ⟨w.heap.size + 1 + 1 + 1, 3, none⟩ (.slice none 0 0)).setCell ⟨w.heap.size + 1 + 1 + 1, 4, none⟩ (.slice none 0 0)).setCell ⟨w.heap.size + 1 + 1 + 1, 5, none⟩ (.slice none 0 0)).setCell ⟨w.heap.size + 1 + 1 + 1, 6, none⟩ (.slice none 0 0)) ⟨w.heap.size + 1 + 1 + 1 + 1, 0, none⟩ (.bool false)).cell? ⟨w.heap.size + 1 + 1 + 1 + 1, 0, none⟩ = some (.bool false) := by
    have h := R7.out; have e : ∀ i, w.heap.size + 1 + 1 + 1 + 1 ≠ (Addr.mk (w.heap.size + 1 + 1 + 1) i none).block := fun i => by show w.heap.size + 1 + 1 + 1 + 1 ≠ w.heap.size + 1 + 1 + 1; omega
    have h2 := ((((((((h.far (e 0) (.slice none 0 0)).far (e 1) (.slice none 0 0)).far (e 2) (.slice none 0 0)).far (e 3) (.slice none 0 0)).far (e 4) (.slice none 0 0)).far (e 5) (.slice none 0 0)).far (e 6) (.slice none 0 0)).set_ 0 (.bool false)).cell 0; simpa using h2
   generalize (World.setCell (World.setCell _ _ _) ⟨w.heap.size + 1 + 1 + 1 + 1, 0, none⟩ (.bool false)) = w7 at g7 F7 V7 o7 ⊢; have t0 := g7.cell 0; have t1 := g7.cell 1; have t2 := g7.cell 2; have t3 := g7.cell 3; have t4 := g7.cell 4; have t5 := g7.cell 5; have t6 := g7.cell 6; simp only [zmC, zmA, zmB] at t0 t1 t2 t3 t4 t5 t6
   have jb := zmh F7; have HV7 := zmh V7; clear F7 V7 g7; simp [Exit.then, bodyPost, results, results29, go_sem, t0, t1, t2, t3, t4, t5, t6, o7]; exact ⟨zit, rfl, ⟨_, _, _, _, _, _, _, _, _, _, _, _, _, _, _, _, _, _, _, _, _, rfl⟩, (fun h => by cases h), (fun _ => rfl), jb.out⟩
 | true =>
   refine zmh ?_; go_wp2_with fail
   have g7 := (ze6 (.slice D0 n0 e0) (.slice D1 n1 e1) (.slice D2 n2 e2) (.slice D3 n3 e3) (.slice D4 n4 e4) (.slice D5 n5 e5) (.slice D6 n6 e6) R6.out).far (p := ⟨w.heap.size + 1 + 1 + 1 + 1, 0, none⟩) (by show w.heap.size + 1 + 1 + 1 ≠ w.heap.size + 1 + 1 + 1 + 1; omega) (.bool true)
   have F7 := (zdq (.slice D0 n0 e0) (.slice D1 n1 e1) (.slice D2 n2 e2) (.slice D3 n3 e3) (.slice D4 n4 e4) (.slice D5 n5 e5) (.slice D6 n6 e6) F6.out (b := w.heap.size + 1 + 1 + 1) (.inr (by omega))).setCell (p := ⟨w.heap.size + 1 + 1 + 1 + 1, 0, none⟩) (.inr (by show w.heap.size <= w.heap.size + 1 + 1 + 1 + 1; omega)) (.bool true)
   have V7 : zjq w6 _ := (zdq (.slice D0 n0 e0) (.slice D1 n1 e1) (.slice D2 n2 e2) (.slice D3 n3 e3) (.slice D4 n4 e4) (.slice D5 n5 e5) (.slice D6 n6 e6) (znl (fun k => ∃ cs, Blk w6 k 4 cs ∨ Blk w6 k 54 cs) w6) (b := w.heap.size + 1 + 1 + 1) (.inl ⟨_, .inr R6.out⟩)).setCell (p := ⟨w.heap.size + 1 + 1 + 1 + 1, 0, none⟩) (.inl ⟨_, .inl R7.out⟩) (.bool true)
   have o7 : (World.setCell (((((((w6.setCell ⟨w.heap.size + 1 + 1 + 1, 0, none⟩ (.slice D0 n0 e0)).setCell ⟨w.heap.size + 1 + 1 + 1, 1, none⟩ (.slice D1 n1 e1)).setCell ⟨w.heap.size + 1 + 1 + 1, 2, none⟩ (.slice D2 n2 e2)).setCell ⟨w.heap.size + 1 + 1 + 1, 3, none⟩ (.slice D3 n3 e3)).setCell ⟨w.heap.size + 1 + 1 + 1, 4, none⟩ (.slice D4 n4 e4)).setCell ⟨w.heap.size + 1 + 1 + 1, 5, none⟩ (.slice D5 n5 e5)).setCell ⟨w.heap.size + 1 + 1 + 1, 6, none⟩ (.slice D6 n6 e6)) ⟨w.heap.size + 1 + 1 + 1 + 1, 0, none⟩ (.bool true)).cell? ⟨w.heap.size + 1 + 1 + 1 + 1, 0, none⟩ = some (.bool true) := by
    have h := R7.out; have e : ∀ i, w.heap.size + 1 + 1 + 1 + 1 ≠ (Addr.mk (w.heap.size + 1 + 1 + 1) i none).block := fun i => by show w.heap.size + 1 + 1 + 1 + 1 ≠ w.heap.size + 1 + 1 + 1; omega
    have h2 := ((((((((h.far (e 0) (.slice D0 n0 e0)).far (e 1) (.slice D1 n1 e1)).far (e 2) (.slice D2 n2 e2)).far (e 3) (.slice D3 n3 e3)).far (e 4) (.slice D4 n4 e4)).far (e 5) (.slice D5 n5 e5)).far (e 6) (.slice D6 n6 e6)).set_ 0 (.bool true)).cell 0; simpa using h2
   generalize (World.setCell (World.setCell _ _ _) ⟨w.heap.size + 1 + 1 + 1 + 1, 0, none⟩ (.bool true)) = w7 at g7 F7 V7 o7 ⊢; have t0 := g7.cell 0; have t1 := g7.cell 1; have t2 := g7.cell 2; have t3 := g7.cell 3; have t4 := g7.cell 4; have t5 := g7.cell 5; have t6 := g7.cell 6; simp only [zmC, zmA, zmB] at t0 t1 t2 t3 t4 t5 t6
   have jb := zmh F7; have HV7 := zmh V7; clear F7 V7 g7; simp [Exit.then, bodyPost, results, results29, go_sem, t0, t1, t2, t3, t4, t5, t6, o7]; exact ⟨_, rfl, ⟨_, _, _, _, _, _, _, _, _, _, _, _, _, _, _, _, _, _, _, _, _, rfl⟩, (fun _ => HL.out _ _ _ pb.out HV7.out), (fun h => by cases h), jb.out⟩
end Go.Proofs.YtbkookiigkckdaaGreatDoor
