/- Merged. -/
import Derived.Test.YtbkookiigkckdaaGreatDoorKD22
import Derived.Test.YtbkookiigkckdaaGreatDoorKD23
import Derived.Test.YtbkookiigkckdaaGreatDoorKD31
set_option linter.unusedVariables false
set_option linter.unusedSimpArgs false
set_option maxRecDepth 100000
set_option maxHeartbeats 8000000
namespace Go.Proofs.YtbkookiigkckdaaGreatDoor
open Go.RowKit Go.Proofs.Tryz
structure Dat where
 ser : List Ser
 smp : List Smp
 sto : List Ston
 exm : List Exm
 mta : List Mta
 mrk : List Mrk
 his : List Rhs
def Prt.dat (q : Prt) : Dat := ⟨q.ser.map Prod.fst, q.smp, q.sto.map Prod.fst, q.exm.map Prod.fst, q.mta, q.mrk, q.his.map Prod.fst⟩
def Yes (_ : Nat) : Prop := True
def RP (D : Dat) (ps : Array Value) (w : World) : Prop := ∃ (q : Prt) (s0 s1 s2 s3 s4 s5 s6 : Value), ps = #[s0, s1, s2, s3, s4, s5, s6] /\ q.dat = D /\ q.At Yes w s0 s1 s2 s3 s4 s5 s6
theorem Sl.yes {P : Nat -> Prop} {w : World} {v : Value} {z n : Nat} {xs : List Value} (h : Sl P w v z n xs) : Sl Yes w v z n xs := h.mono (fun _ _ => trivial)
theorem SlR.yes {P : Nat -> Prop} {w : World} {v : Value} {l : List (Ser × Value)} (h : SlR P w v l) : SlR Yes w v l := ⟨h.1.yes, fun p hp => (h.2 p hp).yes⟩
theorem SlS.yes {P : Nat -> Prop} {w : World} {v : Value} {l : List (Ston × Value)} (h : SlS P w v l) : SlS Yes w v l := ⟨h.1.yes, fun p hp => (h.2 p hp).yes⟩
theorem SlX.yes {P : Nat -> Prop} {w : World} {v : Value} {l : List (Exm × Value)} (h : SlX P w v l) : SlX Yes w v l := ⟨h.1.yes, fun p hp => (h.2 p hp).yes⟩
theorem SlHs.yes {P : Nat -> Prop} {w : World} {h : Hst} {s : Hsl} (k : SlHs P w h s) : SlHs Yes w h s :=
 ⟨k.1.yes, k.2.1.yes, k.2.2.1.yes, k.2.2.2.1.yes, k.2.2.2.2.1.yes, k.2.2.2.2.2.1.yes, k.2.2.2.2.2.2.yes⟩
theorem SlH.yes {P : Nat -> Prop} {w : World} {v : Value} {l : List (Rhs × Hsl)} (h : SlH P w v l) : SlH Yes w v l := ⟨h.1.yes, fun p hp => (h.2 p hp).yes⟩
theorem Prt.At.yes {P : Nat -> Prop} {w : World} {q : Prt} {s0 s1 s2 s3 s4 s5 s6 : Value} (h : q.At P w s0 s1 s2 s3 s4 s5 s6) : q.At Yes w s0 s1 s2 s3 s4 s5 s6 :=
 ⟨h.ser.yes, h.smp.yes, h.sto.yes, h.exm.yes, h.mta.yes, h.mrk.yes, h.his.yes⟩
theorem RP.fr {D : Dat} {ps : Array Value} {w w' : World} (h : RP D ps w) (hf : z_F w w') : RP D ps w' := by
 obtain ⟨q, s0, s1, s2, s3, s4, s5, s6, e, hd, hq⟩ := h; exact ⟨q, s0, s1, s2, s3, s4, s5, s6, e, hd, hq.fr hf z_i⟩
theorem RP.slices {D : Dat} {ps : Array Value} {w : World} (h : RP D ps w) : ∃ A0 A1 A2 A3 A4 A5 A6 n0 n1 n2 n3 n4 n5 n6 c0 c1 c2 c3 c4 c5 c6, ps = #[.slice A0 n0 c0, .slice A1 n1 c1, .slice A2 n2 c2, .slice A3 n3 c3, .slice A4 n4 c4, .slice A5 n5 c5, .slice A6 n6 c6] := by
 obtain ⟨q, s0, s1, s2, s3, s4, s5, s6, rfl, _, hq⟩ := h; obtain ⟨A0, c0, rfl⟩ := hq.ser.1.shape; obtain ⟨A1, c1, rfl⟩ := hq.smp.shape; obtain ⟨A2, c2, rfl⟩ := hq.sto.1.shape; obtain ⟨A3, c3, rfl⟩ := hq.exm.1.shape; obtain ⟨A4, c4, rfl⟩ := hq.mta.shape; obtain ⟨A5, c5, rfl⟩ := hq.mrk.shape; obtain ⟨A6, c6, rfl⟩ := hq.his.1.shape
 exact ⟨_, _, _, _, _, _, _, _, _, _, _, _, _, _, _, _, _, _, _, _, _, rfl⟩
def Dat.none : Dat := ⟨[], [], [], [], [], [], []⟩
theorem SerParts.rp {base : Nat} {l : List Ser} {ps : Array Value} {w : World} (h : SerParts base l ps w) : RP { Dat.none with ser := l } ps w := by
 obtain ⟨v, lo, rfl, rfl, ho⟩ := h; exact ⟨⟨lo, [], [], [], [], [], []⟩, _, _, _, _, _, _, _, rfl, rfl, ho.sl.yes, zbi _ _ _, noS _ _, noX _ _, zbi _ _ _, zbi _ _ _, noH _ _⟩
theorem SmpParts.rp {base : Nat} {l : List Smp} {ps : Array Value} {w : World} (h : SmpParts base l ps w) : RP { Dat.none with smp := l } ps w := by
 obtain ⟨v, rfl, ho⟩ := h; exact ⟨⟨[], l, [], [], [], [], []⟩, _, _, _, _, _, _, _, rfl, rfl, noR _ _, (zno ho).yes, noS _ _, noX _ _, zbi _ _ _, zbi _ _ _, noH _ _⟩
theorem StnParts.rp {base : Nat} {l : List Ston} {ps : Array Value} {w : World} (h : StnParts base l ps w) : RP { Dat.none with sto := l } ps w := by
 obtain ⟨v, lo, rfl, rfl, ho⟩ := h; exact ⟨⟨[], [], lo, [], [], [], []⟩, _, _, _, _, _, _, _, rfl, rfl, noR _ _, zbi _ _ _, ho.sl.yes, noX _ _, zbi _ _ _, zbi _ _ _, noH _ _⟩
theorem ExmParts.rp {base : Nat} {l : List Exm} {ps : Array Value} {w : World} (h : ExmParts base l ps w) : RP { Dat.none with exm := l } ps w := by
 obtain ⟨v, lo, rfl, rfl, ho⟩ := h; exact ⟨⟨[], [], [], lo, [], [], []⟩, _, _, _, _, _, _, _, rfl, rfl, noR _ _, zbi _ _ _, noS _ _, ho.sl.yes, zbi _ _ _, zbi _ _ _, noH _ _⟩
theorem MtaParts.rp {base : Nat} {l : List Mta} {ps : Array Value} {w : World} (h : MtaParts base l ps w) : RP { Dat.none with mta := l } ps w := by
 obtain ⟨v, rfl, ho⟩ := h; exact ⟨⟨[], [], [], [], l, [], []⟩, _, _, _, _, _, _, _, rfl, rfl, noR _ _, zbi _ _ _, noS _ _, noX _ _, (zno ho).yes, zbi _ _ _, noH _ _⟩
theorem MrkParts.rp {base : Nat} {l : List Mrk} {ps : Array Value} {w : World} (h : MrkParts base l ps w) : RP { Dat.none with mrk := l } ps w := by
 obtain ⟨v, rfl, ho⟩ := h; exact ⟨⟨[], [], [], [], [], l, []⟩, _, _, _, _, _, _, _, rfl, rfl, noR _ _, zbi _ _ _, noS _ _, noX _ _, zbi _ _ _, (zno ho).yes, noH _ _⟩
theorem HstParts.rp {base : Nat} {l : List Rhs} {ps : Array Value} {w : World} (h : HstParts base l ps w) : RP { Dat.none with his := l } ps w := by
 obtain ⟨v, lo, rfl, rfl, ho⟩ := h; exact ⟨⟨[], [], [], [], [], [], lo⟩, _, _, _, _, _, _, _, rfl, rfl, noR _ _, zbi _ _ _, noS _ _, noX _ _, zbi _ _ _, zbi _ _ _, ho.sl.yes⟩
theorem ReadDone.toRP {L : Array Value -> World -> Prop} {D : Dat} {w w' : World} {r : Ending} (k : ∀ ps W, L ps W -> RP D ps W) (h : ReadDone L true w r w') : ∃ ps, r = .returned (.tuple #[.agg ps, .bool true]) /\ RP D ps w' /\ z_F w w' := by
 obtain ⟨ps, h1, _, h3, _, h5⟩ := h; exact ⟨ps, h1, k _ _ (h3 rfl), h5⟩
theorem zcQ : (∀ (_ : True) (kind : Int) (hk : kind = 2 ∨ kind = 3 ∨ kind = 5) (p0 p1 p2 p3 p4 p5 p6 : Value) (L : Value -> World -> Prop) (w : World)
 (au : ∀ s ∈ [p0, p1, p2, p3, p4, p5, p6], ∃ A m c, s = .slice A m c)
 (hL : ∀ v W W', L v W -> Fr (fun k => ∃ cs, Blk W k 54 cs) W W' -> L v W')
 (hc : ∀ W, z_F w W -> Calls prog 105 #[p2] W (fun r w' => ∃ v, r = .returned v /\ (∃ A m c, v = .slice A m c) /\ L v w' /\ z_F W w')),
 Calls prog 33 #[.int .i64 kind, .agg #[p0, p1, p2, p3, p4, p5, p6]] w (zeJ L p0 p1 p3 p4 p5 p6 w)) /\ (∀ (_ : True) (kind : Int) (hk : kind = 1 ∨ kind = 4 ∨ kind = 6 ∨ kind = 9 ∨ kind = 10) (p0 p1 p2 p3 p4 p5 p6 : Value) (L : Value -> World -> Prop) (w : World)
 (au : ∀ s ∈ [p0, p1, p2, p3, p4, p5, p6], ∃ A m c, s = .slice A m c)
 (hL : ∀ v W W', L v W -> Fr (fun k => ∃ cs, Blk W k 54 cs) W W' -> L v W')
 (hc : ∀ W, z_F w W -> Calls prog 105 #[p2] W (fun r w' => ∃ v, r = .returned v /\ (∃ A m c, v = .slice A m c) /\ L v w' /\ z_F W w')),
 Calls prog 33 #[.int .i64 kind, .agg #[p0, p1, p2, p3, p4, p5, p6]] w (zeJ L p0 p1 p3 p4 p5 p6 w)) := by
 refine ⟨fun ag kind hk p0 p1 p2 p3 p4 p5 p6 L w au hL hc => ?_, fun bU kind hk p0 p1 p2 p3 p4 p5 p6 L w au hL hc => ?_⟩; all_goals
  obtain ⟨A0, m0, c0, rfl⟩ := au p0 (by simp); obtain ⟨A1, m1, c1, rfl⟩ := au p1 (by simp); obtain ⟨A2, m2, c2, rfl⟩ := au p2 (by simp); obtain ⟨A3, m3, c3, rfl⟩ := au p3 (by simp); obtain ⟨A4, m4, c4, rfl⟩ := au p4 (by simp); obtain ⟨A5, m5, c5, rfl⟩ := au p5 (by simp); obtain ⟨A6, m6, c6, rfl⟩ := au p6 (by simp); have HC := zmh hc; have HL := zmh hL; clear au hc hL
  first | (guard_hyp ag; rcases hk with rfl | rfl | rfl) | (rcases hk with rfl | rfl | rfl | rfl | rfl)
  all_goals
   go_enter func33, ntmps33; go_wp2_with (go_at_call 105; refine Hid.out ?_)
   have lH := (znm w 54 #[.slice A0 m0 c0, .slice A1 m1 c1, .slice A2 m2 c2, .slice A3 m3 c3, .slice A4 m4 c4, .slice A5 m5 c5, .slice A6 m6 c6]).alloc (.cells zit 54); have ax := zaH w (.cells #[.slice A0 m0 c0, .slice A1 m1 c1, .slice A2 m2 c2, .slice A3 m3 c3, .slice A4 m4 c4, .slice A5 m5 c5, .slice A6 m6 c6] 54) 54 zit
   have gv : z_F w ((w.alloc (.cells #[.slice A0 m0 c0, .slice A1 m1 c1, .slice A2 m2 c2, .slice A3 m3 c3, .slice A4 m4 c4, .slice A5 m5 c5, .slice A6 m6 c6] 54)).alloc (.cells zit 54)) := ((znl _ w).alloc _).alloc _; unfold zit at lH ax gv
   generalize World.alloc _ (Obj.cells #[.slice none 0 0, .slice none 0 0, .slice none 0 0, .slice none 0 0, .slice none 0 0, .slice none 0 0, .slice none 0 0] 54) = W at lH ax gv ⊢; refine zmh ?_; refine (HC.out W gv).mono ?_; rintro r w1 ⟨v, rfl, ⟨Av, mv, cv, rfl⟩, qC, ah⟩; have ge := lH.fr ah id; have ji := ax.fr ah id; have dE := gv.same ah
   have D0 := ge.set_ 2 (.slice Av mv cv); have kj : Blk (w1.setCell ⟨w.heap.size, 2, none⟩ (.slice Av mv cv)) w.heap.size 54 #[.slice A0 m0 c0, .slice A1 m1 c1, .slice Av mv cv, .slice A3 m3 c3, .slice A4 m4 c4, .slice A5 m5 c5, .slice A6 m6 c6] := by simpa using D0
   have D1 := ji.far (p := ⟨w.heap.size, 2, none⟩) (by show w.heap.size + 1 ≠ w.heap.size; omega) (.slice Av mv cv); have y2 := ge.cell 2; have z2 := ge.frozen 2; simp at y2; have FD := dE.setCell (p := ⟨w.heap.size, 2, none⟩) (.inr (zmt _)) (.slice Av mv cv)
   have LD := HL.out _ _ (w1.setCell ⟨w.heap.size, 2, none⟩ (.slice Av mv cv)) qC ((znl _ w1).setCell (p := ⟨w.heap.size, 2, none⟩) (.inl ⟨_, ge⟩) _); have jd := zmh kj; have aT := zmh D1; have ja := zmh FD; have rQ := zmh LD; obtain ⟨x0, x1, x2, x3, x4, x5, x6⟩ := zad kj; obtain ⟨u0, u1, u2, u3, u4, u5, u6⟩ := zad D1; have t0 := D1.frozen 0
   have t1 := D1.frozen 1; have t2 := D1.frozen 2; have t3 := D1.frozen 3; have t4 := D1.frozen 4; have t5 := D1.frozen 5; have t6 := D1.frozen 6; clear lH ax gv ah ge ji dE D0 kj D1 FD LD qC; go_wp2_with fail
   have g7 := ze6 (.slice A0 m0 c0) (.slice A1 m1 c1) (.slice Av mv cv) (.slice A3 m3 c3) (.slice A4 m4 c4) (.slice A5 m5 c5) (.slice A6 m6 c6) aT.out; have F7 := zdq (.slice A0 m0 c0) (.slice A1 m1 c1) (.slice Av mv cv) (.slice A3 m3 c3) (.slice A4 m4 c4) (.slice A5 m5 c5) (.slice A6 m6 c6) ja.out (b := w.heap.size + 1) (.inr (by omega))
   have V7 := zdq (.slice A0 m0 c0) (.slice A1 m1 c1) (.slice Av mv cv) (.slice A3 m3 c3) (.slice A4 m4 c4) (.slice A5 m5 c5) (.slice A6 m6 c6) (znl (fun k => ∃ cs, Blk (w1.setCell ⟨w.heap.size, 2, none⟩ (.slice Av mv cv)) k 54 cs) (w1.setCell ⟨w.heap.size, 2, none⟩ (.slice Av mv cv))) (b := w.heap.size + 1) (.inl ⟨_, aT.out⟩); have L7 := HL.out _ _ _ rQ.out V7
   generalize (World.setCell (World.setCell _ _ _) ⟨w.heap.size + 1, 6, none⟩ _) = w7 at g7 F7 L7 ⊢; obtain ⟨q0, q1, q2, q3, q4, q5, q6⟩ := zad g7; have jb := zmh F7; have om := zmh L7; clear F7 L7 V7 g7 x0 x1 x2 x3 x4 x5 x6 u0 u1 u2 u3 u4 u5 u6 t0 t1 t2 t3 t4 t5 t6; simp [Exit.then, bodyPost, results, results33, go_sem, q0, q1, q2, q3, q4, q5, q6]
   exact ⟨_, rfl, ⟨_, _, _, rfl⟩, om.out, jb.out⟩
theorem zfa : type_of% (zcQ.1 trivial) := zcQ.1 trivial
theorem zcX : type_of% (zcQ.2 trivial) := zcQ.2 trivial
theorem slices7 {A0 A1 A2 A3 A4 A5 A6 : Option Addr} {m0 m1 m2 m3 m4 m5 m6 c0 c1 c2 c3 c4 c5 c6 : Nat} : ∀ s ∈ [Value.slice A0 m0 c0, .slice A1 m1 c1, .slice A2 m2 c2, .slice A3 m3 c3, .slice A4 m4 c4, .slice A5 m5 c5, .slice A6 m6 c6], ∃ A m c, s = .slice A m c := by
 intro s hs; simp only [zmV, List.mem_nil_iff, or_false] at hs; rcases hs with rfl | rfl | rfl | rfl | rfl | rfl | rfl <;> exact ⟨_, _, _, rfl⟩
theorem zjw (kind : Int) (hk : kind = 7 ∨ kind = 8) (p0 p1 p2 p3 p4 p5 p6 : Value) (L L6 : Value -> World -> Prop) (w : World)
 (au : ∀ s ∈ [p0, p1, p2, p3, p4, p5, p6], ∃ A m c, s = .slice A m c)
 (hL : ∀ v W W', L v W -> Fr (fun k => ∃ cs, Blk W k 54 cs) W W' -> L v W')
 (hc : ∀ W, z_F w W -> Calls prog 105 #[p2] W (fun r w' => ∃ v, r = .returned v /\ (∃ A m c, v = .slice A m c) /\ L v w' /\ z_F W w'))
 (kr : ∀ v W W', L6 v W -> Fr (fun k => ∃ cs, Blk W k 54 cs) W W' -> L6 v W')
 (h36 : ∀ W, z_F w W -> Calls prog 36 #[p6, .bool false] W (fun r w' => ∃ v, r = .returned v /\ (∃ A m c, v = .slice A m c) /\ L6 v w' /\ z_F W w')) :
 Calls prog 33 #[.int .i64 kind, .agg #[p0, p1, p2, p3, p4, p5, p6]] w (fun r w' => ∃ v v6, r = .returned (.agg #[p0, p1, v, p3, p4, p5, v6]) /\ (∃ A m c, v = .slice A m c) /\ (∃ A m c, v6 = .slice A m c) /\ L v w' /\ L6 v6 w' /\ z_F w w') := by
 obtain ⟨A0, m0, c0, rfl⟩ := au p0 (by simp); obtain ⟨A1, m1, c1, rfl⟩ := au p1 (by simp); obtain ⟨A2, m2, c2, rfl⟩ := au p2 (by simp); obtain ⟨A3, m3, c3, rfl⟩ := au p3 (by simp); obtain ⟨A4, m4, c4, rfl⟩ := au p4 (by simp); obtain ⟨A5, m5, c5, rfl⟩ := au p5 (by simp); obtain ⟨A6, m6, c6, rfl⟩ := au p6 (by simp); have HC := zmh hc; have HL := zmh hL; have pb := zmh kr
 have H36 := zmh h36; clear au hc hL kr h36; rcases hk with rfl | rfl; all_goals
  go_enter func33, ntmps33; go_wp2_with (go_at_call 105; refine Hid.out ?_)
  have lH := (znm w 54 #[.slice A0 m0 c0, .slice A1 m1 c1, .slice A2 m2 c2, .slice A3 m3 c3, .slice A4 m4 c4, .slice A5 m5 c5, .slice A6 m6 c6]).alloc (.cells zit 54); have ax := zaH w (.cells #[.slice A0 m0 c0, .slice A1 m1 c1, .slice A2 m2 c2, .slice A3 m3 c3, .slice A4 m4 c4, .slice A5 m5 c5, .slice A6 m6 c6] 54) 54 zit
  have gv : z_F w ((w.alloc (.cells #[.slice A0 m0 c0, .slice A1 m1 c1, .slice A2 m2 c2, .slice A3 m3 c3, .slice A4 m4 c4, .slice A5 m5 c5, .slice A6 m6 c6] 54)).alloc (.cells zit 54)) := ((znl _ w).alloc _).alloc _; unfold zit at lH ax gv
  generalize World.alloc _ (Obj.cells #[.slice none 0 0, .slice none 0 0, .slice none 0 0, .slice none 0 0, .slice none 0 0, .slice none 0 0, .slice none 0 0] 54) = W at lH ax gv ⊢; refine zmh ?_; refine (HC.out W gv).mono ?_; rintro r w1 ⟨v, rfl, ⟨Av, mv, cv, rfl⟩, qC, ah⟩; have ge := lH.fr ah id; have ji := ax.fr ah id; have dE := gv.same ah
  have D0 := ge.set_ 2 (.slice Av mv cv); have kj : Blk (w1.setCell ⟨w.heap.size, 2, none⟩ (.slice Av mv cv)) w.heap.size 54 #[.slice A0 m0 c0, .slice A1 m1 c1, .slice Av mv cv, .slice A3 m3 c3, .slice A4 m4 c4, .slice A5 m5 c5, .slice A6 m6 c6] := by simpa using D0
  have D1 := ji.far (p := ⟨w.heap.size, 2, none⟩) (by show w.heap.size + 1 ≠ w.heap.size; omega) (.slice Av mv cv); have y2 := ge.cell 2; have z2 := ge.frozen 2; simp at y2; have FD := dE.setCell (p := ⟨w.heap.size, 2, none⟩) (.inr (zmt _)) (.slice Av mv cv)
  have LD := HL.out _ _ (w1.setCell ⟨w.heap.size, 2, none⟩ (.slice Av mv cv)) qC ((znl _ w1).setCell (p := ⟨w.heap.size, 2, none⟩) (.inl ⟨_, ge⟩) _); have jd := zmh kj; have aT := zmh D1; have ja := zmh FD; have rQ := zmh LD; obtain ⟨x0, x1, x2, x3, x4, x5, x6⟩ := zad kj; clear lH ax gv ah ge ji dE D0 kj D1 FD LD qC
  go_wp2_with (go_at_call 36; refine Hid.out ?_)
  clear x0 x1 x2 x3 x4 x5 x6 y2 z2; generalize World.setCell w1 ⟨w.heap.size, 2, none⟩ (.slice Av mv cv) = W2 at jd aT ja rQ ⊢; refine zmh ?_; refine (H36.out W2 ja.out).mono ?_; rintro r w3 ⟨v6, rfl, ⟨Aw, mw, cw, rfl⟩, qE, bL⟩; have ge := jd.out.fr bL id; have ji := aT.out.fr bL id; have iS := ja.out.same bL
  have qB := HL.out _ _ _ rQ.out (bL.mono (S' := fun k => ∃ cs, Blk W2 k 54 cs) (fun _ _ e => e.elim)); have D0 := ge.set_ 6 (.slice Aw mw cw); have kj : Blk (w3.setCell ⟨w.heap.size, 6, none⟩ (.slice Aw mw cw)) w.heap.size 54 #[.slice A0 m0 c0, .slice A1 m1 c1, .slice Av mv cv, .slice A3 m3 c3, .slice A4 m4 c4, .slice A5 m5 c5, .slice Aw mw cw] := by simpa using D0
  have D1 := ji.far (p := ⟨w.heap.size, 6, none⟩) (by show w.heap.size + 1 ≠ w.heap.size; omega) (.slice Aw mw cw); have y6 := ge.cell 6; have z6 := ge.frozen 6; simp at y6; have VS : Fr (fun k => ∃ cs, Blk w3 k 54 cs) w3 (w3.setCell ⟨w.heap.size, 6, none⟩ (.slice Aw mw cw)) := (znl _ w3).setCell (p := ⟨w.heap.size, 6, none⟩) (.inl ⟨_, ge⟩) _; have GD0 := zmh kj; have GD1 := zmh D1
  have GF := zmh (iS.setCell (p := ⟨w.heap.size, 6, none⟩) (.inr (zmt _)) (.slice Aw mw cw)); have GL := zmh (HL.out _ _ _ qB VS); have GL6 := zmh (pb.out _ _ _ qE VS); obtain ⟨x0, x1, x2, x3, x4, x5, x6⟩ := zad kj; obtain ⟨u0, u1, u2, u3, u4, u5, u6⟩ := zad D1; have t0 := D1.frozen 0; have t1 := D1.frozen 1; have t2 := D1.frozen 2; have t3 := D1.frozen 3
  have t4 := D1.frozen 4; have t5 := D1.frozen 5; have t6 := D1.frozen 6; clear bL ge ji iS D0 kj D1 VS qB qE jd aT ja rQ; go_wp2_with fail
  have g7 := ze6 (.slice A0 m0 c0) (.slice A1 m1 c1) (.slice Av mv cv) (.slice A3 m3 c3) (.slice A4 m4 c4) (.slice A5 m5 c5) (.slice Aw mw cw) GD1.out; have F7 := zdq (.slice A0 m0 c0) (.slice A1 m1 c1) (.slice Av mv cv) (.slice A3 m3 c3) (.slice A4 m4 c4) (.slice A5 m5 c5) (.slice Aw mw cw) GF.out (b := w.heap.size + 1) (.inr (by omega))
  have V7 := zdq (.slice A0 m0 c0) (.slice A1 m1 c1) (.slice Av mv cv) (.slice A3 m3 c3) (.slice A4 m4 c4) (.slice A5 m5 c5) (.slice Aw mw cw) (znl (fun k => ∃ cs, Blk (w3.setCell ⟨w.heap.size, 6, none⟩ (.slice Aw mw cw)) k 54 cs) (w3.setCell ⟨w.heap.size, 6, none⟩ (.slice Aw mw cw))) (b := w.heap.size + 1) (.inl ⟨_, GD1.out⟩); have L7 := HL.out _ _ _ GL.out V7
  have L76 := pb.out _ _ _ GL6.out V7; generalize (World.setCell (World.setCell _ _ _) ⟨w.heap.size + 1, 6, none⟩ _) = w7 at g7 F7 L7 L76 ⊢; obtain ⟨q0, q1, q2, q3, q4, q5, q6⟩ := zad g7; have jb := zmh F7; have om := zmh L7; have HL76 := zmh L76; clear F7 L7 L76 V7 g7 x0 x1 x2 x3 x4 x5 x6 u0 u1 u2 u3 u4 u5 u6 t0 t1 t2 t3 t4 t5 t6
  simp [Exit.then, bodyPost, results, results33, go_sem, q0, q1, q2, q3, q4, q5, q6]; exact ⟨_, _, ⟨rfl, rfl⟩, ⟨_, _, _, rfl⟩, ⟨_, _, _, rfl⟩, om.out, HL76.out, jb.out⟩
def wrD (k : Nat) (D : Dat) : Dat := { D with sto := (zb7 D.sto).map one, his := if k = 7 ∨ k = 8 then D.his.filter (fun s => !zaV s) else D.his }
theorem zg7 (c : Bool) (l : List (Rhs × Hsl)) : (l.filter (zbx c)).map Prod.fst = (l.map Prod.fst).filter (fun s => zaV s == c) := by
 rw [List.filter_map]; rfl
theorem zhY : (fun s => zaV s == false) = (fun s => !zaV s) := by funext s; cases zaV s <;> rfl
theorem zjx (k : Nat) (hk : k = 1 ∨ k = 2 ∨ k = 3 ∨ k = 4 ∨ k = 5 ∨ k = 6 ∨ k = 7 ∨ k = 8 ∨ k = 9 ∨ k = 10) (q : Prt) (s0 s1 s2 s3 s4 s5 s6 : Value) (w : World) (hq : q.At Yes w s0 s1 s2 s3 s4 s5 s6) (hl : q.sto.length <= 4096) (aP : ∀ p ∈ q.sto, p.1.ivs.length <= 4096) (hh : q.his.length <= 1048576) :
 Calls prog 33 #[.int .i64 k, .agg #[s0, s1, s2, s3, s4, s5, s6]] w (fun r w' => ∃ ps, r = .returned (.agg ps) /\ RP (wrD k q.dat) ps w' /\ z_F w w') := by
 have au : ∀ s ∈ [s0, s1, s2, s3, s4, s5, s6], ∃ A m c, s = .slice A m c := by
  obtain ⟨A0, c0, rfl⟩ := hq.ser.1.shape; obtain ⟨A1, c1, rfl⟩ := hq.smp.shape; obtain ⟨A2, c2, rfl⟩ := hq.sto.1.shape; obtain ⟨A3, c3, rfl⟩ := hq.exm.1.shape; obtain ⟨A4, c4, rfl⟩ := hq.mta.shape; obtain ⟨A5, c5, rfl⟩ := hq.mrk.shape; obtain ⟨A6, c6, rfl⟩ := hq.his.1.shape; exact slices7
 have hL : ∀ v W W', (∃ lo, lo.map Prod.fst = (zb7 (q.sto.map Prod.fst)).map one /\ OwnS w.heap.size 151 281 W v lo) -> Fr (fun k => ∃ cs, Blk W k 54 cs) W W' -> (∃ lo, lo.map Prod.fst = (zb7 (q.sto.map Prod.fst)).map one /\ OwnS w.heap.size 151 281 W' v lo) := by
  rintro v W W' ⟨lo, hm, ho⟩ hf; refine ⟨lo, hm, zai ho.1 hf ?_, fun p hp => zai (ho.2 p hp) hf ?_⟩
  ·rintro g hg ⟨cs, hb⟩; exact zak ho.1 hb (by decide) hg
  ·rintro g hg ⟨cs, hb⟩; exact zak (ho.2 p hp) hb (by decide) hg
 have fw : ∀ W, z_F w W -> Calls prog 105 #[s2] W (fun r w' => ∃ v, r = .returned v /\ (∃ A m c, v = .slice A m c) /\ (∃ lo, lo.map Prod.fst = (zb7 (q.sto.map Prod.fst)).map one /\ OwnS w.heap.size 151 281 w' v lo) /\ z_F W w') := by
  intro W hF; refine (flat_any Yes _ q.sto W (hq.sto.fr hF z_i) hl aP).mono ?_; rintro r w' ⟨v, lo, rfl, hm, ho, hf⟩; obtain ⟨a, k, rfl⟩ := zaa ho.1; exact ⟨_, rfl, ⟨_, _, _, rfl⟩, ⟨lo, hm, OwnS.mono ho hF.size⟩, hf⟩
 have fin : ∀ {k : Nat} (hk7 : ¬ (k = 7 ∨ k = 8)) (r : Ending) (w' : World), zeJ (fun v W => ∃ lo, lo.map Prod.fst = (zb7 (q.sto.map Prod.fst)).map one /\ OwnS w.heap.size 151 281 W v lo) s0 s1 s3 s4 s5 s6 w r w' -> ∃ ps, r = .returned (.agg ps) /\ RP (wrD k q.dat) ps w' /\ z_F w w' := by
  rintro k hk7 r w' ⟨v, rfl, _, ⟨lo, hm, ho⟩, hf⟩; have dD := hq.fr hf z_i; refine ⟨_, rfl, ⟨⟨q.ser, q.smp, lo, q.exm, q.mta, q.mrk, q.his⟩, _, _, _, _, _, _, _, rfl, ?_, dD.ser, dD.smp, ho.sl.yes, dD.exm, dD.mta, dD.mrk, dD.his⟩, hf⟩; simp only [Prt.dat, wrD, hm, znd hk7]
 by_cases h7 : k = 7 ∨ k = 8
 ·have h36 : ∀ W, z_F w W -> Calls prog 36 #[s6, .bool false] W (fun r w' => ∃ v, r = .returned v /\ (∃ A m c, v = .slice A m c) /\ (w'.ownsRow w.heap.size 194 15 v (q.his.filter (zbx false)).length ((q.his.filter (zbx false)).flatMap hsc)) /\ z_F W w') := by
   intro W hF; refine (zfn false Yes _ q.his W (hq.his.fr hF z_i) hh).mono ?_; rintro r w' ⟨v, rfl, ho, hf⟩; obtain ⟨a, k, rfl⟩ := zaa ho; exact ⟨_, rfl, ⟨_, _, _, rfl⟩, zah ho hF.size, hf⟩
  refine (zjw k (by rcases h7 with rfl | rfl <;> decide) s0 s1 s2 s3 s4 s5 s6 _ (fun v W => W.ownsRow w.heap.size 194 15 v (q.his.filter (zbx false)).length ((q.his.filter (zbx false)).flatMap hsc)) w au hL fw (fun v W W' ho hf => zai ho hf (fun g hg => by rintro ⟨cs, hb⟩; exact zak ho hb (by decide) hg)) h36).mono ?_; rintro r w' ⟨v, v6, rfl, _, _, ⟨lo, hm, ho⟩, ho6, hf⟩
  have dD := hq.fr hf z_i; refine ⟨_, rfl, ⟨⟨q.ser, q.smp, lo, q.exm, q.mta, q.mrk, q.his.filter (zbx false)⟩, _, _, _, _, _, _, _, rfl, ?_, dD.ser, dD.smp, ho.sl.yes, dD.exm, dD.mta, dD.mrk, (zno ho6).yes, fun p hp => dD.his.2 p (zmW.1 hp).1⟩, hf⟩; simp only [Prt.dat, wrD, hm, if_pos h7, zg7, zhY]
 ·rcases hk with rfl | rfl | rfl | rfl | rfl | rfl | rfl | rfl | rfl | rfl
  ·exact (zcX 1 (by decide) s0 s1 s2 s3 s4 s5 s6 _ w au hL fw).mono (fin h7)
  ·exact (zfa 2 (by decide) s0 s1 s2 s3 s4 s5 s6 _ w au hL fw).mono (fin h7)
  ·exact (zfa 3 (by decide) s0 s1 s2 s3 s4 s5 s6 _ w au hL fw).mono (fin h7)
  ·exact (zcX 4 (by decide) s0 s1 s2 s3 s4 s5 s6 _ w au hL fw).mono (fin h7)
  ·exact (zfa 5 (by decide) s0 s1 s2 s3 s4 s5 s6 _ w au hL fw).mono (fin h7)
  ·exact (zcX 6 (by decide) s0 s1 s2 s3 s4 s5 s6 _ w au hL fw).mono (fin h7)
  ·exact absurd (.inl rfl) h7
  ·exact absurd (.inr rfl) h7
  ·exact (zcX 9 (by decide) s0 s1 s2 s3 s4 s5 s6 _ w au hL fw).mono (fin h7)
  ·exact (zcX 10 (by decide) s0 s1 s2 s3 s4 s5 s6 _ w au hL fw).mono (fin h7)
theorem zhS (la lb : List (Ser × Value)) (xa xb : List (Exm × Value)) (A0 A1 A2 A3 A4 A5 A6 B0 B1 B2 B3 B4 B5 B6 : Option Addr) (c0 c1 c2 c3 c4 c5 c6 d0 d1 d2 d3 d4 d5 d6 n m n1 n2 n4 n5 n6 m1 m2 m4 m5 m6 : Nat) (w : World)
 (jy : SlR Yes w (.slice A0 n c0) la) (ht0 : SlR Yes w (.slice B0 n d0) lb) (hm0 : (la.map Prod.fst).map tos = (lb.map Prod.fst).map tos) (hn : la.length = n) (hn40 : n <= 1048576) (hla : ∀ p ∈ la, p.1.labs.length <= 1048576) (gm : ∀ p ∈ lb, p.1.labs.length <= 1048576)
 (hs3 : SlX Yes w (.slice A3 m c3) xa) (ht3 : SlX Yes w (.slice B3 m d3) xb) (hm3 : (xa.map Prod.fst).map toe = (xb.map Prod.fst).map toe) (hm : xa.length = m) (hm40 : m <= 1048576) (hxa : ∀ p ∈ xa, p.1.labs.length <= 1048576) (hxb : ∀ p ∈ xb, p.1.labs.length <= 1048576)
 (h1 : ∀ W, z_F w W -> Calls prog 101 #[.slice A1 n1 c1, .slice B1 m1 d1] W (zap W))
 (h2 : ∀ W, z_F w W -> Calls prog 102 #[.slice A2 n2 c2, .slice B2 m2 d2] W (zap W))
 (h4 : ∀ W, z_F w W -> Calls prog 103 #[.slice A4 n4 c4, .slice B4 m4 d4] W (zap W))
 (h5 : ∀ W, z_F w W -> Calls prog 104 #[.slice A5 n5 c5, .slice B5 m5 d5] W (zap W))
 (h6 : ∀ W, z_F w W -> Calls prog 37 #[.slice A6 n6 c6, .slice B6 m6 d6] W (zap W)) :
 Calls prog 32 #[.agg #[.slice A0 n c0, .slice A1 n1 c1, .slice A2 n2 c2, .slice A3 m c3, .slice A4 n4 c4, .slice A5 n5 c5, .slice A6 n6 c6], .agg #[.slice B0 n d0, .slice B1 m1 d1, .slice B2 m2 d2, .slice B3 m d3, .slice B4 m4 d4, .slice B5 m5 d5, .slice B6 m6 d6]] w (zap w) := by
 have ic := zmh jy; have HT0 := zmh ht0; have HM0 := zmh hm0; have HN := zmh hn; have HLA := zmh hla; have rR := zmh gm; have HS3 := zmh hs3; have HT3 := zmh ht3; have HM3 := zmh hm3; have HM := zmh hm; have HXA := zmh hxa; have HXB := zmh hxb
 have pa : Hid (lb.length = n) := zmh (by have := zm7 List.length hm0; simp only [zmF] at this; omega); have HMB : Hid (xb.length = m) := zmh (by have := zm7 List.length hm3; simp only [zmF] at this; omega); have H1 := zmh h1; have H2 := zmh h2; have H4 := zmh h4; have H5 := zmh h5; have H6 := zmh h6
 clear jy ht0 hm0 hn hla gm hs3 ht3 hm3 hm hxa hxb h1 h2 h4 h5 h6; go_enter func32, ntmps32; go_wp2_with fail
 have hP := (znm w 54 #[.slice A0 n c0, .slice A1 n1 c1, .slice A2 n2 c2, .slice A3 m c3, .slice A4 n4 c4, .slice A5 n5 c5, .slice A6 n6 c6]).alloc (.cells #[.slice B0 n d0, .slice B1 m1 d1, .slice B2 m2 d2, .slice B3 m d3, .slice B4 m4 d4, .slice B5 m5 d5, .slice B6 m6 d6] 54)
 have hQ := zaH w (.cells #[.slice A0 n c0, .slice A1 n1 c1, .slice A2 n2 c2, .slice A3 m c3, .slice A4 n4 c4, .slice A5 n5 c5, .slice A6 n6 c6] 54) 54 #[.slice B0 n d0, .slice B1 m1 d1, .slice B2 m2 d2, .slice B3 m d3, .slice B4 m4 d4, .slice B5 m5 d5, .slice B6 m6 d6]
 obtain ⟨W, hW⟩ := exE ((w.alloc (.cells #[.slice A0 n c0, .slice A1 n1 c1, .slice A2 n2 c2, .slice A3 m c3, .slice A4 n4 c4, .slice A5 n5 c5, .slice A6 n6 c6] 54)).alloc (.cells #[.slice B0 n d0, .slice B1 m1 d1, .slice B2 m2 d2, .slice B3 m d3, .slice B4 m4 d4, .slice B5 m5 d5, .slice B6 m6 d6] 54)); have hF : z_F w W := hW ▸ ((znl _ w).alloc _).alloc _; rw [hW] at hP hQ ⊢
 have bD : w.heap.size + 2 <= W.heap.size := by rw [<- hW]; simp
 have HP := zmh hP; have HQ := zmh hQ; have HF := zmh hF; clear hW hP hQ hF; go_loopw [5] (fun i wr => ∃ k : Nat, k <= n /\ i = .int .i64 k /\ Hid (z_F W wr)) (fun i _ => n - (intOf i).toNat)
 case atStart => exact ⟨0, zms _, rfl, zmh (znl _ _)⟩
 case round =>
  obtain ⟨k, hk, rfl, HR⟩ := hrel; obtain ⟨p0, p1, p2, p3, p4, p5, p6⟩ := zad (HP.out.fr HR.out id); obtain ⟨q0, q1, q2, q3, q4, q5, q6⟩ := zad (HQ.out.fr HR.out id); by_cases hlt : k < n
  ·obtain ⟨g, off, rfl, _, aa⟩ := ic.out.1.at (by have := HN.out; omega)
   obtain ⟨g2, an, rfl, _, aj⟩ := HT0.out.1.at (by have := pa.out; omega); obtain ⟨x, hx⟩ : ∃ x, la[k]? = some x := ⟨_, zmj (by rw [HN.out]; exact hlt)⟩; obtain ⟨y, hy⟩ : ∃ y, lb[k]? = some y := ⟨_, zmj (by rw [pa.out]; exact hlt)⟩; have hxy : tos x.1 = tos y.1 := by
    have h1 : ((la.map Prod.fst).map tos)[k]? = some (tos x.1) := by rw [zmR, zmR, hx]; rfl
    have h2 : ((lb.map Prod.fst).map tos)[k]? = some (tos y.1) := by rw [zmR, zmR, hy]; rfl
    rw [HM0.out, h2] at h1; exact (zm6 h1).symm
   have gK := ic.out.2 x (zmp hx); have gn := HT0.out.2 y (zmp hy); have kZ := HLA.out x (zmp hx); have pU := rR.out y (zmp hy); obtain ⟨⟨ref, lx⟩, xv⟩ := x; obtain ⟨⟨rf2, ly⟩, yv⟩ := y; simp only [] at gK gn kZ pU; have e1 : ref = rf2 := zm7 SerD.ref hxy; have e2 : zaI lx = zaI ly := zm7 SerD.labs hxy
   subst e1; have ry : Hid (∀ W', z_F W W' -> Calls prog 24 #[xv] W' (zem 40 W' (zaI lx))) := zmh (fun W' hF => zeo Yes xv lx W' (gK.fr (HF.out.same hF) z_i) (by omega))
   have mM : Hid (∀ W', z_F W W' -> Calls prog 24 #[yv] W' (zem 40 W' (zaI lx))) := zmh (fun W' hF => by rw [e2]; exact zeo Yes yv ly W' (gn.fr (HF.out.same hF) z_i) (by omega)); have qD : (zaI lx).length <= 1048576 := by rw [zaZ]; exact kZ
   obtain ⟨L, hL⟩ := exE (zaI lx); rw [hL] at ry mM qD; have jY : Hid (∀ u v W', Sl Yes W' u 2 L.length (L.flatMap zaK) -> Sl Yes W' v 2 L.length (L.flatMap zaK) -> Calls prog 25 #[u, v] W' (zap W')) := zmh (fun u v W' hu hv => zeu Yes Yes u v L W' hu hv (by omega))
   have aw : ∀ {l : List (Ser × Value)} {g off : Nat} {z : Ser × Value}, l[k]? = some z -> (∀ j u, (l.flatMap zfP)[j]? = some u -> w.cell? ⟨g, off + j, none⟩ = some u) -> ∀ W', z_F W W' -> ∀ j, j < 2 -> ∀ u, (zfP z)[j]? = some u -> W'.cell? ⟨g, off + (k * 2 + j), none⟩ = some u := fun {l g off z} hz aa W' hF j hj u hu => by
    have := aa (k * 2 + j) u (by rw [zby zfP (fun _ => rfl) l k z hz j hj]; exact hu); rw [(HF.out.same hF).cell (p := ⟨g, off + (k * 2 + j), none⟩) (zmo w _ this) id]; exact this
   have HC : Hid (∀ w', z_F W w' -> w'.cell? ⟨w.heap.size, 0, none⟩ = some (.slice (some ⟨g, off, none⟩) n c0) /\ w'.cell? ⟨w.heap.size + 1, 0, none⟩ = some (.slice (some ⟨g2, an, none⟩) n d0) /\ w'.cell? ⟨g, off + k * 2, none⟩ = some (.int .u64 ref) /\ w'.cell? ⟨g, off + k * 2 + 1, none⟩ = some xv /\ w'.cell? ⟨g2, an + k * 2, none⟩ = some (.int .u64 ref) /\ w'.cell? ⟨g2, an + k * 2 + 1, none⟩ = some yv) := zmh (fun w' hF => ⟨(HP.out.fr hF id).cell 0, (HQ.out.fr hF id).cell 0, aw hx aa w' hF 0 (by omega) _ rfl, aw hx aa w' hF 1 (by omega) _ rfl, aw hy aj w' hF 0 (by omega) _ rfl, aw hy aj w' hF 1 (by omega) _ rfl⟩)
   have FD := zmh HR.out.drew; clear aw hx hy hxy gK gn kZ pU e2 hL aa aj qD; clear p0 p1 p2 p3 p4 p5 p6 q0 q1 q2 q3 q4 q5 q6; obtain ⟨p0, q0, r0, r1, r2, r3⟩ := HC.out _ HR.out; go_wp2; clear p0 q0 r0 r1 r2 r3
   refine zaQ (fun w' => w'.cell? ⟨w.heap.size, 0, none⟩ = some (.slice (some ⟨g, off, none⟩) n c0) /\ w'.cell? ⟨w.heap.size + 1, 0, none⟩ = some (.slice (some ⟨g2, an, none⟩) n d0) /\ w'.cell? ⟨g, off + k * 2, none⟩ = some (.int .u64 ref) /\ w'.cell? ⟨g, off + k * 2 + 1, none⟩ = some xv /\ w'.cell? ⟨g2, an + k * 2, none⟩ = some (.int .u64 ref) /\ w'.cell? ⟨g2, an + k * 2 + 1, none⟩ = some yv) 30 (by kernel_rfl) (HC.out _ FD.out) ?_
   intro hS; refine wpT 0 (.pointer (some ⟨w.heap.size, 0, none⟩)) rfl (by intro w; go_simp) hS ?_; try simp only [Act.put, zml, zmm, zmn]
   refine wpT 2 (.int .i64 k) rfl (by intro w; go_simp) hS ?_; try simp only [Act.put, zml, zmm, zmn]
   refine wpT 6 (.pointer (some ⟨w.heap.size + 1, 0, none⟩)) rfl (by intro w; go_simp) hS ?_; try simp only [Act.put, zml, zmm, zmn]
   refine wpT 8 (.int .i64 k) rfl (by intro w; go_simp) hS ?_; try simp only [Act.put, zml, zmm, zmn]
   refine wpL 1 [3, 4, 5, 12, 13, 30] (.slice (some ⟨g, off, none⟩) n c0) rfl (by rintro w ⟨h1, h2, h3, h4, h5, h6⟩; go_simp) hS ?_; try simp only [Act.put, zml, zmm, zmn]
   refine wpT 3 (.pointer (some ⟨g, off + k * 2, none⟩)) rfl (by intro w; go_simp) hS ?_; try simp only [Act.put, zml, zmm, zmn]
   refine wpT 4 (.pointer (some ⟨g, off + k * 2, none⟩)) rfl (by intro w; go_simp) hS ?_; try simp only [Act.put, zml, zmm, zmn]
   refine wpL 5 [12, 13, 30] (.int .u64 ref) rfl (by rintro w ⟨h1, h2, h3, h4, h5, h6⟩; go_simp) hS ?_; try simp only [Act.put, zml, zmm, zmn]
   refine wpL 7 [9, 10, 11, 12, 13, 30] (.slice (some ⟨g2, an, none⟩) n d0) rfl (by rintro w ⟨h1, h2, h3, h4, h5, h6⟩; go_simp) hS ?_; try simp only [Act.put, zml, zmm, zmn]
   refine wpT 9 (.pointer (some ⟨g2, an + k * 2, none⟩)) rfl (by intro w; go_simp) hS ?_; try simp only [Act.put, zml, zmm, zmn]
   refine wpT 10 (.pointer (some ⟨g2, an + k * 2, none⟩)) rfl (by intro w; go_simp) hS ?_; try simp only [Act.put, zml, zmm, zmn]
   refine wpL 11 [12, 13, 30] (.int .u64 ref) rfl (by rintro w ⟨h1, h2, h3, h4, h5, h6⟩; go_simp) hS ?_; try simp only [Act.put, zml, zmm, zmn]
   refine wpT 12 (.bool false) rfl (by intro w; go_simp) hS ?_; try simp only [Act.put, zml, zmm, zmn]
   refine wpT 13 (.bool false) rfl (by intro w; go_simp) hS ?_; try simp only [Act.put, zml, zmm, zmn]
   refine wpT 14 (.pointer (some ⟨w.heap.size, 0, none⟩)) rfl (by intro w; go_simp) hS ?_; try simp only [Act.put, zml, zmm, zmn]
   refine wpT 16 (.int .i64 k) rfl (by intro w; go_simp) hS ?_; try simp only [Act.put, zml, zmm, zmn]
   refine wpT 21 (.pointer (some ⟨w.heap.size + 1, 0, none⟩)) rfl (by intro w; go_simp) hS ?_; try simp only [Act.put, zml, zmm, zmn]
   refine wpT 23 (.int .i64 k) rfl (by intro w; go_simp) hS ?_; try simp only [Act.put, zml, zmm, zmn]
   refine wpL 15 [17, 18, 19, 20, 28, 29, 30] (.slice (some ⟨g, off, none⟩) n c0) rfl (by rintro w ⟨h1, h2, h3, h4, h5, h6⟩; go_simp) hS ?_; try simp only [Act.put, zml, zmm, zmn]
   refine wpT 17 (.pointer (some ⟨g, off + k * 2, none⟩)) rfl (by intro w; go_simp) hS ?_; try simp only [Act.put, zml, zmm, zmn]
   refine wpT 18 (.pointer (some ⟨g, off + k * 2 + 1, none⟩)) rfl (by intro w; go_simp) hS ?_; try simp only [Act.put, zml, zmm, zmn]
   refine wpL 22 [24, 25, 26, 27, 28, 29, 30] (.slice (some ⟨g2, an, none⟩) n d0) rfl (by rintro w ⟨h1, h2, h3, h4, h5, h6⟩; go_simp) hS ?_; try simp only [Act.put, zml, zmm, zmn]
   refine wpT 24 (.pointer (some ⟨g2, an + k * 2, none⟩)) rfl (by intro w; go_simp) hS ?_; try simp only [Act.put, zml, zmm, zmn]
   refine wpT 25 (.pointer (some ⟨g2, an + k * 2 + 1, none⟩)) rfl (by intro w; go_simp) hS ?_; try simp only [Act.put, zml, zmm, zmn]
   refine wpL 19 [20, 28, 29, 30] (xv) rfl (by rintro w ⟨h1, h2, h3, h4, h5, h6⟩; go_simp) hS ?_; try simp only [Act.put, zml, zmm, zmn]
   refine wpL 26 [27, 28, 29, 30] (yv) rfl (by rintro w ⟨h1, h2, h3, h4, h5, h6⟩; go_simp) hS ?_; try simp only [Act.put, zml, zmm, zmn]
   clear hS; refine zao 20 (by kernel_rfl) rfl (by kernel_rfl) (fun K hK => ?_); go_simp; go_at_call 24
   refine (ry.out _ FD.out).mono ?_; rintro rA wA ⟨v1, rfl, pO, iK⟩; have FA := zmh (FD.out.same iK); have SA := zmh (zno pO).yes; have GA := zmh iK; refine hK.out _ _ (HC.out _ FA.out) ?_; clear hK K pO iK; try simp only [Act.put, zml, zmm, zmn]
   refine zao 27 (by kernel_rfl) rfl (by kernel_rfl) (fun K hK => ?_); go_simp; go_at_call 24
   refine (mM.out _ FA.out).mono ?_; rintro rB wB ⟨v2, rfl, pN, nB⟩; have FB := zmh (FA.out.same nB); have SB := zmh (zno pN).yes; have GB := zmh nB; refine hK.out _ _ (HC.out _ FB.out) ?_; clear hK K pN nB; try simp only [Act.put, zml, zmm, zmn]
   refine zao 28 (by kernel_rfl) rfl (by kernel_rfl) (fun K hK => ?_); go_simp; go_at_call 25
   refine (jY.out _ _ _ (SA.out.fr GB.out z_i) SB.out).mono ?_; rintro r9 w9 ⟨rfl, dY⟩; have F9 := zmh (FB.out.same dY); refine hK.out _ _ (HC.out _ F9.out) ?_; clear hK K dY; try simp only [Act.put, zml, zmm, zmn]
   refine zao 29 (by kernel_rfl) rfl (by kernel_rfl) (fun K hK => ?_); go_simp; refine hK.out _ _ (HC.out _ F9.out) ?_; clear hK K; try simp only [Act.put, zml, zmm, zmn]
   refine zaA 30 (by kernel_rfl) rfl (by kernel_rfl) (by kernel_rfl) (fun K hK => ?_); go_simp; refine hK.out _ _ ?_; clear hK K; refine zbv (by kernel_rfl) ?_ _; go_wp2; go_roundw
   case rel => exact ⟨k + 1, by omega, by go_num, F9⟩
   case measure => simp [intOf]; omega
  ·clear p0 p1 p2 p3 p4 p5 p6 q0 q1 q2 q3 q4 q5 q6
   obtain ⟨p0, p1, p2, p3, p4, p5, p6⟩ := zad (HP.out.fr HR.out id); obtain ⟨q0, q1, q2, q3, q4, q5, q6⟩ := zad (HQ.out.fr HR.out id); go_wp2_with fail
   clear p0 p1 p2 p3 p4 p5 p6 q0 q1 q2 q3 q4 q5 q6; go_loopw [6] (fun i wr2 => ∃ k2 : Nat, k2 <= m /\ i = .int .i64 k2 /\ Hid (z_F W wr2)) (fun i _ => m - (intOf i).toNat)
   case atStart => exact ⟨0, zms _, rfl, HR⟩
   case round =>
    obtain ⟨k2, cI, rfl, bj⟩ := hrel; obtain ⟨p0, p1, p2, p3, p4, p5, p6⟩ := zad (HP.out.fr bj.out id); obtain ⟨q0, q1, q2, q3, q4, q5, q6⟩ := zad (HQ.out.fr bj.out id); by_cases hlt2 : k2 < m
    ·obtain ⟨g, off, rfl, _, aa⟩ := HS3.out.1.at (by have := HM.out; omega)
     obtain ⟨g2, an, rfl, _, aj⟩ := HT3.out.1.at (by have := HMB.out; omega); obtain ⟨x, hx⟩ : ∃ x, xa[k2]? = some x := ⟨_, zmj (by rw [HM.out]; exact hlt2)⟩; obtain ⟨y, hy⟩ : ∃ y, xb[k2]? = some y := ⟨_, zmj (by rw [HMB.out]; exact hlt2)⟩; have hxy : toe x.1 = toe y.1 := by
      have h1 : ((xa.map Prod.fst).map toe)[k2]? = some (toe x.1) := by rw [zmR, zmR, hx]; rfl
      have h2 : ((xb.map Prod.fst).map toe)[k2]? = some (toe y.1) := by rw [zmR, zmR, hy]; rfl
      rw [HM3.out, h2] at h1; exact (zm6 h1).symm
     have gK := HS3.out.2 x (zmp hx); have gn := HT3.out.2 y (zmp hy); have kZ := HXA.out x (zmp hx); have pU := HXB.out y (zmp hy); obtain ⟨⟨ref, tt, vv, lx⟩, xv⟩ := x; obtain ⟨⟨rf2, tt2, vv2, ly⟩, yv⟩ := y; simp only [] at gK gn kZ pU
     obtain ⟨xA, xn, xc, rfl⟩ : ∃ A n c, xv = .slice A n c := let ⟨A, c, h⟩ := gK.shape; ⟨A, _, c, h⟩
     obtain ⟨yA, yn, yc, rfl⟩ : ∃ A n c, yv = .slice A n c := let ⟨A, c, h⟩ := gn.shape; ⟨A, _, c, h⟩
     have e1 : ref = rf2 := zm7 ExD.ref hxy; have e3 : tt = tt2 := zm7 ExD.t hxy; have e4 : vv = vv2 := zm7 ExD.v hxy; have e2 : zaI lx = zaI ly := zm7 ExD.labs hxy; subst e1 e3 e4
     have ry : Hid (∀ W', z_F W W' -> Calls prog 24 #[(.slice xA xn xc)] W' (zem 40 W' (zaI lx))) := zmh (fun W' hF => zeo Yes (.slice xA xn xc) lx W' (gK.fr (HF.out.same hF) z_i) (by omega))
     have mM : Hid (∀ W', z_F W W' -> Calls prog 24 #[(.slice yA yn yc)] W' (zem 40 W' (zaI lx))) := zmh (fun W' hF => by rw [e2]; exact zeo Yes (.slice yA yn yc) ly W' (gn.fr (HF.out.same hF) z_i) (by omega)); have qD : (zaI lx).length <= 1048576 := by rw [zaZ]; exact kZ
     obtain ⟨L, hL⟩ := exE (zaI lx); rw [hL] at ry mM qD; have jY : Hid (∀ u v W', Sl Yes W' u 2 L.length (L.flatMap zaK) -> Sl Yes W' v 2 L.length (L.flatMap zaK) -> Calls prog 25 #[u, v] W' (zap W')) := zmh (fun u v W' hu hv => zeu Yes Yes u v L W' hu hv (by omega))
     have aw : ∀ {l : List (Exm × Value)} {g off : Nat} {z : Exm × Value}, l[k2]? = some z -> (∀ j u, (l.flatMap exc)[j]? = some u -> w.cell? ⟨g, off + j, none⟩ = some u) -> ∀ W', z_F W W' -> ∀ j, j < 4 -> ∀ u, (exc z)[j]? = some u -> W'.cell? ⟨g, off + (k2 * 4 + j), none⟩ = some u := fun {l g off z} hz aa W' hF j hj u hu => by
      have := aa (k2 * 4 + j) u (by rw [zdy exc (fun _ => rfl) l k2 z hz j hj]; exact hu); rw [(HF.out.same hF).cell (p := ⟨g, off + (k2 * 4 + j), none⟩) (zmo w _ this) id]; exact this
     have HC : Hid (∀ w', z_F W w' -> w'.cell? ⟨w.heap.size, 3, none⟩ = some (.slice (some ⟨g, off, none⟩) m c3) /\ w'.cell? ⟨w.heap.size + 1, 3, none⟩ = some (.slice (some ⟨g2, an, none⟩) m d3) /\ w'.cell? ⟨g, off + k2 * 4, none⟩ = some (.int .u64 ref) /\ w'.cell? ⟨g, off + k2 * 4 + 1, none⟩ = some (.int .i64 tt) /\ w'.cell? ⟨g, off + k2 * 4 + 2, none⟩ = some (.int .u64 vv) /\ w'.cell? ⟨g, off + k2 * 4 + 3, none⟩ = some (.slice xA xn xc) /\ w'.cell? ⟨g2, an + k2 * 4, none⟩ = some (.int .u64 ref) /\ w'.cell? ⟨g2, an + k2 * 4 + 1, none⟩ = some (.int .i64 tt) /\ w'.cell? ⟨g2, an + k2 * 4 + 2, none⟩ = some (.int .u64 vv) /\ w'.cell? ⟨g2, an + k2 * 4 + 3, none⟩ = some (.slice yA yn yc)) := zmh (fun w' hF => ⟨(HP.out.fr hF id).cell 3, (HQ.out.fr hF id).cell 3, aw hx aa w' hF 0 (by omega) _ rfl, aw hx aa w' hF 1 (by omega) _ rfl, aw hx aa w' hF 2 (by omega) _ rfl, aw hx aa w' hF 3 (by omega) _ rfl, aw hy aj w' hF 0 (by omega) _ rfl, aw hy aj w' hF 1 (by omega) _ rfl, aw hy aj w' hF 2 (by omega) _ rfl, aw hy aj w' hF 3 (by omega) _ rfl⟩)
     have FD := zmh bj.out.drew; have kU := bj.out.size; clear aw hx hy hxy gK gn kZ pU e2 hL aa aj qD; clear p0 p1 p2 p4 p5 p6 q0 q1 q2 q4 q5 q6; go_wp2
     refine zaQ (fun w' => w'.cell? ⟨w.heap.size, 3, none⟩ = some (.slice (some ⟨g, off, none⟩) m c3) /\ w'.cell? ⟨w.heap.size + 1, 3, none⟩ = some (.slice (some ⟨g2, an, none⟩) m d3) /\ w'.cell? ⟨g, off + k2 * 4, none⟩ = some (.int .u64 ref) /\ w'.cell? ⟨g, off + k2 * 4 + 1, none⟩ = some (.int .i64 tt) /\ w'.cell? ⟨g, off + k2 * 4 + 2, none⟩ = some (.int .u64 vv) /\ w'.cell? ⟨g, off + k2 * 4 + 3, none⟩ = some (.slice xA xn xc) /\ w'.cell? ⟨g2, an + k2 * 4, none⟩ = some (.int .u64 ref) /\ w'.cell? ⟨g2, an + k2 * 4 + 1, none⟩ = some (.int .i64 tt) /\ w'.cell? ⟨g2, an + k2 * 4 + 2, none⟩ = some (.int .u64 vv) /\ w'.cell? ⟨g2, an + k2 * 4 + 3, none⟩ = some (.slice yA yn yc)) 13 (by kernel_rfl) (HC.out _ FD.out) ?_
     intro hS; refine wpT 0 (.pointer (some ⟨w.heap.size, 3, none⟩)) rfl (by intro w; go_simp) hS ?_; try simp only [Act.put, zml, zmm, zmn]
     refine wpT 2 (.int .i64 k2) rfl (by intro w; go_simp) hS ?_; try simp only [Act.put, zml, zmm, zmn]
     refine wpT 5 (.pointer (some ⟨w.heap.size + 1, 3, none⟩)) rfl (by intro w; go_simp) hS ?_; try simp only [Act.put, zml, zmm, zmn]
     refine wpT 7 (.int .i64 k2) rfl (by intro w; go_simp) hS ?_; try simp only [Act.put, zml, zmm, zmn]
     refine wpL 1 [3, 4, 12, 13] (.slice (some ⟨g, off, none⟩) m c3) rfl (by rintro w ⟨h1, h2, h3, h4, h5, h6, h7, h8, h9, h10⟩; go_simp) hS ?_; try simp only [Act.put, zml, zmm, zmn]
     refine wpT 3 (.pointer (some ⟨g, off + k2 * 4, none⟩)) rfl (by intro w; go_simp) hS ?_; try simp only [Act.put, zml, zmm, zmn]
     refine wpL 4 [12, 13] (.agg #[.int .u64 ref, .int .i64 tt, .int .u64 vv, .slice xA xn xc]) rfl (by rintro w ⟨h1, h2, h3, h4, h5, h6, h7, h8, h9, h10⟩; go_simp) hS ?_; try simp only [Act.put, zml, zmm, zmn]
     refine wpL 6 [8, 9, 13] (.slice (some ⟨g2, an, none⟩) m d3) rfl (by rintro w ⟨h1, h2, h3, h4, h5, h6, h7, h8, h9, h10⟩; go_simp) hS ?_; try simp only [Act.put, zml, zmm, zmn]
     refine wpT 8 (.pointer (some ⟨g2, an + k2 * 4, none⟩)) rfl (by intro w; go_simp) hS ?_; try simp only [Act.put, zml, zmm, zmn]
     refine wpL 9 [13] (.agg #[.int .u64 ref, .int .i64 tt, .int .u64 vv, .slice yA yn yc]) rfl (by rintro w ⟨h1, h2, h3, h4, h5, h6, h7, h8, h9, h10⟩; go_simp) hS ?_; try simp only [Act.put, zml, zmm, zmn]
     clear hS; refine zd7 10 11 (by kernel_rfl) rfl rfl (by kernel_rfl) (by kernel_rfl) (fun K hK => ?_) (fun K hK => ?_); go_simp; refine hK.out _ _ (HC.out _ (bj.out.alloc (.cells #[.int .u64 0, .int .i64 0, .int .u64 0, .slice none 0 0] 159)).drew) ?_; clear hK K; try simp only [Act.put, zml, zmm, zmn]
     refine zao 11 (by kernel_rfl) rfl (by kernel_rfl) (fun K hK => ?_); go_simp; refine hK.out _ _ (HC.out _ ((bj.out.alloc (.cells #[.int .u64 0, .int .i64 0, .int .u64 0, .slice none 0 0] 159)).alloc (.cells #[.int .u64 0, .int .i64 0, .int .u64 0, .slice none 0 0] 159)).drew) ?_; clear hK K; try simp only [Act.put, zml, zmm, zmn]
     refine zao 12 (by kernel_rfl) rfl (by kernel_rfl) (fun K hK => ?_); go_simp; refine hK.out _ _ (HC.out _ ((bj.out.alloc (.cells #[.int .u64 ref, .int .i64 tt, .int .u64 vv, .slice xA xn xc] 159)).alloc (.cells #[.int .u64 0, .int .i64 0, .int .u64 0, .slice none 0 0] 159)).drew) ?_; clear hK K; try simp only [Act.put, zml, zmm, zmn]
     refine zaA 13 (by kernel_rfl) rfl (by kernel_rfl) (by kernel_rfl) (fun K hK => ?_); go_simp; refine hK.out _ _ ?_; clear hK K; refine zbv (by kernel_rfl) ?_ _
     have d7 : Blk (((wr.alloc (.cells #[.int .u64 ref, .int .i64 tt, .int .u64 vv, .slice xA xn xc] 159)).alloc (.cells #[.int .u64 ref, .int .i64 tt, .int .u64 vv, .slice yA yn yc] 159)).drew) (wr.heap.size) 159 #[.int .u64 ref, .int .i64 tt, .int .u64 vv, .slice xA xn xc] := ((znm wr 159 #[.int .u64 ref, .int .i64 tt, .int .u64 vv, .slice xA xn xc]).alloc (.cells #[.int .u64 ref, .int .i64 tt, .int .u64 vv, .slice yA yn yc] 159)).drew
     have d8 : Blk (((wr.alloc (.cells #[.int .u64 ref, .int .i64 tt, .int .u64 vv, .slice xA xn xc] 159)).alloc (.cells #[.int .u64 ref, .int .i64 tt, .int .u64 vv, .slice yA yn yc] 159)).drew) (wr.heap.size + 1) 159 #[.int .u64 ref, .int .i64 tt, .int .u64 vv, .slice yA yn yc] := (zaH wr (.cells #[.int .u64 ref, .int .i64 tt, .int .u64 vv, .slice xA xn xc] 159) 159 #[.int .u64 ref, .int .i64 tt, .int .u64 vv, .slice yA yn yc]).drew
     have sG : z_F W (((wr.alloc (.cells #[.int .u64 ref, .int .i64 tt, .int .u64 vv, .slice xA xn xc] 159)).alloc (.cells #[.int .u64 ref, .int .i64 tt, .int .u64 vv, .slice yA yn yc] 159)).drew) := ((bj.out.alloc (.cells #[.int .u64 ref, .int .i64 tt, .int .u64 vv, .slice xA xn xc] 159)).alloc (.cells #[.int .u64 ref, .int .i64 tt, .int .u64 vv, .slice yA yn yc] 159)).drew
     generalize ((wr.alloc (.cells #[.int .u64 ref, .int .i64 tt, .int .u64 vv, .slice xA xn xc] 159)).alloc (.cells #[.int .u64 ref, .int .i64 tt, .int .u64 vv, .slice yA yn yc] 159)).drew = V at d7 d8 sG ⊢; generalize wr.heap.size + 1 = a8 at d8 ⊢; generalize wr.heap.size = a7 at d7 ⊢
     rotate_left
     go_simp; refine hK.out _ _ (HC.out _ (bj.out.alloc (.cells #[.int .u64 0, .int .i64 0, .int .u64 0, .slice none 0 0] 159)).drew) ?_; clear hK K; try simp only [Act.put, zml, zmm, zmn]
     refine zao 10 (by kernel_rfl) rfl (by kernel_rfl) (fun K hK => ?_); go_simp; refine hK.out _ _ (HC.out _ ((bj.out.alloc (.cells #[.int .u64 0, .int .i64 0, .int .u64 0, .slice none 0 0] 159)).alloc (.cells #[.int .u64 0, .int .i64 0, .int .u64 0, .slice none 0 0] 159)).drew) ?_; clear hK K; try simp only [Act.put, zml, zmm, zmn]
     refine zao 12 (by kernel_rfl) rfl (by kernel_rfl) (fun K hK => ?_); go_simp; refine hK.out _ _ (HC.out _ ((bj.out.alloc (.cells #[.int .u64 0, .int .i64 0, .int .u64 0, .slice none 0 0] 159)).alloc (.cells #[.int .u64 ref, .int .i64 tt, .int .u64 vv, .slice xA xn xc] 159)).drew) ?_; clear hK K; try simp only [Act.put, zml, zmm, zmn]
     refine zaA 13 (by kernel_rfl) rfl (by kernel_rfl) (by kernel_rfl) (fun K hK => ?_); go_simp; refine hK.out _ _ ?_; clear hK K; refine zbv (by kernel_rfl) ?_ _
     have d7 : Blk (((wr.alloc (.cells #[.int .u64 ref, .int .i64 tt, .int .u64 vv, .slice yA yn yc] 159)).alloc (.cells #[.int .u64 ref, .int .i64 tt, .int .u64 vv, .slice xA xn xc] 159)).drew) (wr.heap.size + 1) 159 #[.int .u64 ref, .int .i64 tt, .int .u64 vv, .slice xA xn xc] := (zaH wr (.cells #[.int .u64 ref, .int .i64 tt, .int .u64 vv, .slice yA yn yc] 159) 159 #[.int .u64 ref, .int .i64 tt, .int .u64 vv, .slice xA xn xc]).drew
     have d8 : Blk (((wr.alloc (.cells #[.int .u64 ref, .int .i64 tt, .int .u64 vv, .slice yA yn yc] 159)).alloc (.cells #[.int .u64 ref, .int .i64 tt, .int .u64 vv, .slice xA xn xc] 159)).drew) (wr.heap.size) 159 #[.int .u64 ref, .int .i64 tt, .int .u64 vv, .slice yA yn yc] := ((znm wr 159 #[.int .u64 ref, .int .i64 tt, .int .u64 vv, .slice yA yn yc]).alloc (.cells #[.int .u64 ref, .int .i64 tt, .int .u64 vv, .slice xA xn xc] 159)).drew
     have sG : z_F W (((wr.alloc (.cells #[.int .u64 ref, .int .i64 tt, .int .u64 vv, .slice yA yn yc] 159)).alloc (.cells #[.int .u64 ref, .int .i64 tt, .int .u64 vv, .slice xA xn xc] 159)).drew) := ((bj.out.alloc (.cells #[.int .u64 ref, .int .i64 tt, .int .u64 vv, .slice yA yn yc] 159)).alloc (.cells #[.int .u64 ref, .int .i64 tt, .int .u64 vv, .slice xA xn xc] 159)).drew
     generalize ((wr.alloc (.cells #[.int .u64 ref, .int .i64 tt, .int .u64 vv, .slice yA yn yc] 159)).alloc (.cells #[.int .u64 ref, .int .i64 tt, .int .u64 vv, .slice xA xn xc] 159)).drew = V at d7 d8 sG ⊢; generalize wr.heap.size + 1 = a7 at d7 ⊢; generalize wr.heap.size = a8 at d8 ⊢; all_goals
      have B7 := zmh d7; have B8 := zmh d8; have FV := zmh sG; clear d7 d8 sG FD HC
      have lU : Hid (∀ w', z_F V w' -> (w'.cell? ⟨a7, 0, none⟩ = some (.int .u64 ref) /\ w'.cell? ⟨a7, 1, none⟩ = some (.int .i64 tt) /\ w'.cell? ⟨a7, 2, none⟩ = some (.int .u64 vv) /\ w'.cell? ⟨a7, 3, none⟩ = some (.slice xA xn xc) /\ w'.cell? ⟨a8, 0, none⟩ = some (.int .u64 ref) /\ w'.cell? ⟨a8, 1, none⟩ = some (.int .i64 tt) /\ w'.cell? ⟨a8, 2, none⟩ = some (.int .u64 vv) /\ w'.cell? ⟨a8, 3, none⟩ = some (.slice yA yn yc))) := zmh (fun w' hF => ⟨(B7.out.fr hF id).cell 0, (B7.out.fr hF id).cell 1, (B7.out.fr hF id).cell 2, (B7.out.fr hF id).cell 3, (B8.out.fr hF id).cell 0, (B8.out.fr hF id).cell 1, (B8.out.fr hF id).cell 2, (B8.out.fr hF id).cell 3⟩)
      have FD : Hid (z_F V V.drew) := zmh (znl _ V).drew; go_wp2
      refine zaQ (fun w' => w'.cell? ⟨a7, 0, none⟩ = some (.int .u64 ref) /\ w'.cell? ⟨a7, 1, none⟩ = some (.int .i64 tt) /\ w'.cell? ⟨a7, 2, none⟩ = some (.int .u64 vv) /\ w'.cell? ⟨a7, 3, none⟩ = some (.slice xA xn xc) /\ w'.cell? ⟨a8, 0, none⟩ = some (.int .u64 ref) /\ w'.cell? ⟨a8, 1, none⟩ = some (.int .i64 tt) /\ w'.cell? ⟨a8, 2, none⟩ = some (.int .u64 vv) /\ w'.cell? ⟨a8, 3, none⟩ = some (.slice yA yn yc)) 28 (by kernel_rfl) (lU.out _ FD.out) ?_
      intro hS; refine wpT 0 (.pointer (some ⟨a7, 0, none⟩)) rfl (by intro w; go_simp) hS ?_; try simp only [Act.put, zml, zmm, zmn]
      refine wpT 2 (.pointer (some ⟨a8, 0, none⟩)) rfl (by intro w; go_simp) hS ?_; try simp only [Act.put, zml, zmm, zmn]
      refine wpL 1 [4, 5, 11, 12, 18, 19, 28] (.int .u64 ref) rfl (by rintro w ⟨h1, h2, h3, h4, h5, h6, h7, h8⟩; go_simp) hS ?_; try simp only [Act.put, zml, zmm, zmn]
      refine wpL 3 [4, 5, 11, 12, 18, 19, 28] (.int .u64 ref) rfl (by rintro w ⟨h1, h2, h3, h4, h5, h6, h7, h8⟩; go_simp) hS ?_; try simp only [Act.put, zml, zmm, zmn]
      refine wpT 4 (.bool false) rfl (by intro w; go_simp) hS ?_; try simp only [Act.put, zml, zmm, zmn]
      refine wpT 5 (.bool false) rfl (by intro w; go_simp) hS ?_; try simp only [Act.put, zml, zmm, zmn]
      refine wpT 6 (.pointer (some ⟨a7, 1, none⟩)) rfl (by intro w; go_simp) hS ?_; try simp only [Act.put, zml, zmm, zmn]
      refine wpT 8 (.pointer (some ⟨a8, 1, none⟩)) rfl (by intro w; go_simp) hS ?_; try simp only [Act.put, zml, zmm, zmn]
      refine wpL 7 [10, 11, 12, 18, 19, 28] (.int .i64 tt) rfl (by rintro w ⟨h1, h2, h3, h4, h5, h6, h7, h8⟩; go_simp) hS ?_; try simp only [Act.put, zml, zmm, zmn]
      refine wpL 9 [10, 11, 12, 18, 19, 28] (.int .i64 tt) rfl (by rintro w ⟨h1, h2, h3, h4, h5, h6, h7, h8⟩; go_simp) hS ?_; try simp only [Act.put, zml, zmm, zmn]
      refine wpT 10 (.bool false) rfl (by intro w; go_simp) hS ?_; try simp only [Act.put, zml, zmm, zmn]
      refine wpT 11 (.bool false) rfl (by intro w; go_simp) hS ?_; try simp only [Act.put, zml, zmm, zmn]
      refine wpT 12 (.bool false) rfl (by intro w; go_simp) hS ?_; try simp only [Act.put, zml, zmm, zmn]
      refine wpT 13 (.pointer (some ⟨a7, 2, none⟩)) rfl (by intro w; go_simp) hS ?_; try simp only [Act.put, zml, zmm, zmn]
      refine wpT 15 (.pointer (some ⟨a8, 2, none⟩)) rfl (by intro w; go_simp) hS ?_; try simp only [Act.put, zml, zmm, zmn]
      refine wpL 14 [17, 18, 19, 28] (.int .u64 vv) rfl (by rintro w ⟨h1, h2, h3, h4, h5, h6, h7, h8⟩; go_simp) hS ?_; try simp only [Act.put, zml, zmm, zmn]
      refine wpL 16 [17, 18, 19, 28] (.int .u64 vv) rfl (by rintro w ⟨h1, h2, h3, h4, h5, h6, h7, h8⟩; go_simp) hS ?_; try simp only [Act.put, zml, zmm, zmn]
      refine wpT 17 (.bool false) rfl (by intro w; go_simp) hS ?_; try simp only [Act.put, zml, zmm, zmn]
      refine wpT 18 (.bool false) rfl (by intro w; go_simp) hS ?_; try simp only [Act.put, zml, zmm, zmn]
      refine wpT 19 (.bool false) rfl (by intro w; go_simp) hS ?_; try simp only [Act.put, zml, zmm, zmn]
      refine wpT 20 (.pointer (some ⟨a7, 3, none⟩)) rfl (by intro w; go_simp) hS ?_; try simp only [Act.put, zml, zmm, zmn]
      refine wpT 23 (.pointer (some ⟨a8, 3, none⟩)) rfl (by intro w; go_simp) hS ?_; try simp only [Act.put, zml, zmm, zmn]
      refine wpL 21 [22, 26, 27, 28] (.slice xA xn xc) rfl (by rintro w ⟨h1, h2, h3, h4, h5, h6, h7, h8⟩; go_simp) hS ?_; try simp only [Act.put, zml, zmm, zmn]
      refine wpL 24 [25, 26, 27, 28] (.slice yA yn yc) rfl (by rintro w ⟨h1, h2, h3, h4, h5, h6, h7, h8⟩; go_simp) hS ?_; try simp only [Act.put, zml, zmm, zmn]
      clear hS; refine zao 22 (by kernel_rfl) rfl (by kernel_rfl) (fun K hK => ?_); go_simp; go_at_call 24
      refine (ry.out _ (FV.out.same FD.out)).mono ?_; rintro rA wA ⟨v1, rfl, pO, iK⟩; have FA := zmh (FD.out.same iK); have SA := zmh (zno pO).yes; have GA := zmh iK; refine hK.out _ _ (lU.out _ FA.out) ?_; clear hK K pO iK; try simp only [Act.put, zml, zmm, zmn]
      refine zao 25 (by kernel_rfl) rfl (by kernel_rfl) (fun K hK => ?_); go_simp; go_at_call 24
      refine (mM.out _ (FV.out.same FA.out)).mono ?_; rintro rB wB ⟨v2, rfl, pN, nB⟩; have FB := zmh (FA.out.same nB); have SB := zmh (zno pN).yes; have GB := zmh nB; refine hK.out _ _ (lU.out _ FB.out) ?_; clear hK K pN nB; try simp only [Act.put, zml, zmm, zmn]
      refine zao 26 (by kernel_rfl) rfl (by kernel_rfl) (fun K hK => ?_); go_simp; go_at_call 25
      refine (jY.out _ _ _ (SA.out.fr GB.out z_i) SB.out).mono ?_; rintro r9 w9 ⟨rfl, dY⟩; have F9 := zmh (FB.out.same dY); refine hK.out _ _ (lU.out _ F9.out) ?_; clear hK K dY; try simp only [Act.put, zml, zmm, zmn]
      refine zao 27 (by kernel_rfl) rfl (by kernel_rfl) (fun K hK => ?_); go_simp; refine hK.out _ _ (lU.out _ F9.out) ?_; clear hK K; try simp only [Act.put, zml, zmm, zmn]
      refine zaA 28 (by kernel_rfl) rfl (by kernel_rfl) (by kernel_rfl) (fun K hK => ?_); go_simp; refine hK.out _ _ ?_; clear hK K; refine zbv (by kernel_rfl) ?_ _; go_wp2; go_roundw
      case rel => exact ⟨k2 + 1, by omega, by go_num, zmh (FV.out.same F9.out)⟩
      case measure => simp [intOf]; omega
    ·go_wp2_with (go_at_call 101; refine (H1.out _ (HF.out.same bj.out)).mono ?_; rintro r W1 ⟨rfl, hf⟩; refine Hid.out ?_)
     have F1 := zmh (bj.out.same hf); clear hf p0 p1 p2 p3 p4 p5 p6 q0 q1 q2 q3 q4 q5 q6; obtain ⟨p0, p1, p2, p3, p4, p5, p6⟩ := zad (HP.out.fr F1.out id); obtain ⟨q0, q1, q2, q3, q4, q5, q6⟩ := zad (HQ.out.fr F1.out id); refine zmh ?_; go_wp2_with (go_at_call 102; refine (H2.out _ (HF.out.same F1.out)).mono ?_; rintro r W2 ⟨rfl, hf⟩; refine Hid.out ?_)
     have F2 := zmh (F1.out.same hf); clear hf p0 p1 p2 p3 p4 p5 p6 q0 q1 q2 q3 q4 q5 q6; obtain ⟨p0, p1, p2, p3, p4, p5, p6⟩ := zad (HP.out.fr F2.out id); obtain ⟨q0, q1, q2, q3, q4, q5, q6⟩ := zad (HQ.out.fr F2.out id); refine zmh ?_; go_wp2_with (go_at_call 103; refine (H4.out _ (HF.out.same F2.out)).mono ?_; rintro r W3 ⟨rfl, hf⟩; refine Hid.out ?_)
     have F3 := zmh (F2.out.same hf); clear hf p0 p1 p2 p3 p4 p5 p6 q0 q1 q2 q3 q4 q5 q6; obtain ⟨p0, p1, p2, p3, p4, p5, p6⟩ := zad (HP.out.fr F3.out id); obtain ⟨q0, q1, q2, q3, q4, q5, q6⟩ := zad (HQ.out.fr F3.out id); refine zmh ?_; go_wp2_with (go_at_call 104; refine (H5.out _ (HF.out.same F3.out)).mono ?_; rintro r W4 ⟨rfl, hf⟩; refine Hid.out ?_)
     have F4 := zmh (F3.out.same hf); clear hf p0 p1 p2 p3 p4 p5 p6 q0 q1 q2 q3 q4 q5 q6; obtain ⟨p0, p1, p2, p3, p4, p5, p6⟩ := zad (HP.out.fr F4.out id); obtain ⟨q0, q1, q2, q3, q4, q5, q6⟩ := zad (HQ.out.fr F4.out id); refine zmh ?_; go_wp2_with (go_at_call 37; refine (H6.out _ (HF.out.same F4.out)).mono ?_; rintro r W5 ⟨rfl, hf⟩; refine Hid.out ?_)
     have F5 := zmh (F4.out.same hf); clear hf p0 p1 p2 p3 p4 p5 p6 q0 q1 q2 q3 q4 q5 q6; refine zmh ?_; go_wp2; go_ret; exact ⟨rfl, HF.out.same F5.out⟩
def SameD (D E : Dat) : Prop := D.ser.map tos = E.ser.map tos /\ D.smp = E.smp /\ D.sto = E.sto /\ D.exm.map toe = E.exm.map toe /\ D.mta = E.mta /\ D.mrk = E.mrk /\ D.his = E.his
structure SmallD (D : Dat) : Prop where
 ser : D.ser.length <= 1048576 /\ ∀ s ∈ D.ser, s.labs.length <= 1048576
 smp : D.smp.length <= 1099511627776
 sto : D.sto.length <= 1099511627776 /\ ∀ s ∈ D.sto, s.ivs.length <= 1099511627776
 exm : D.exm.length <= 1048576 /\ ∀ s ∈ D.exm, s.labs.length <= 1048576
 mta : D.mta.length <= 1099511627776
 mrk : D.mrk.length <= 1099511627776
 his : D.his.length <= 1099511627776 /\ ∀ s ∈ D.his, s.h.few 1099511627776
theorem zhT {D E : Dat} {ps qs : Array Value} {w : World} (h1 : RP D ps w) (h2 : RP E qs w) (hs : SameD D E) (hD : SmallD D) (hE : SmallD E) : Calls prog 32 #[.agg ps, .agg qs] w (zap w) := by
 obtain ⟨q, s0, s1, s2, s3, s4, s5, s6, rfl, rfl, hq⟩ := h1; obtain ⟨q', t0, t1, t2, t3, t4, t5, t6, rfl, rfl, dD⟩ := h2; obtain ⟨e0, e1, e2, e3, e4, e5, e6⟩ := hs; have e0 : (q.ser.map Prod.fst).map tos = (q'.ser.map Prod.fst).map tos := e0; have e1 : q.smp = q'.smp := e1; have e2 : q.sto.map Prod.fst = q'.sto.map Prod.fst := e2
 have e3 : (q.exm.map Prod.fst).map toe = (q'.exm.map Prod.fst).map toe := e3; have e4 : q.mta = q'.mta := e4; have e5 : q.mrk = q'.mrk := e5; have e6 : q.his.map Prod.fst = q'.his.map Prod.fst := e6; have l0 : q'.ser.length = q.ser.length := by have := zm7 List.length e0; simp only [zmF] at this; exact this.symm
 have l3 : q'.exm.length = q.exm.length := by have := zm7 List.length e3; simp only [zmF] at this; exact this.symm
 have y1 : Sl Yes w t1 3 q.smp.length (q.smp.flatMap Smp.a) := by rw [e1]; exact dD.smp
 have y4 : Sl Yes w t4 4 q.mta.length (q.mta.flatMap Mta.c) := by rw [e4]; exact dD.mta
 have y5 : Sl Yes w t5 2 q.mrk.length (q.mrk.flatMap Mrk.c) := by rw [e5]; exact dD.mrk
 have n0 : q.ser.length <= 1048576 := by have := hD.ser.1; simpa [Prt.dat] using this
 have n3 : q.exm.length <= 1048576 := by have := hD.exm.1; simpa [Prt.dat] using this
 have n2 : q.sto.length <= 1099511627776 := by have := hD.sto.1; simpa [Prt.dat] using this
 have n6 : q.his.length <= 1099511627776 := by have := hD.his.1; simpa [Prt.dat] using this
 have C1 := fun (W : World) (hF : z_F w W) => zgf Yes Yes s1 t1 q.smp W (hq.smp.fr hF z_i) (y1.fr hF z_i) hD.smp; have C2 := fun (W : World) (hF : z_F w W) => zjV Yes Yes s2 t2 q.sto q'.sto W (hq.sto.fr hF z_i) (dD.sto.fr hF z_i) e2 n2 (fun p hp => hD.sto.2 p.1 (zmN.2 ⟨p, hp, rfl⟩))
 have C4 := fun (W : World) (hF : z_F w W) => zjT Yes Yes s4 t4 q.mta W (hq.mta.fr hF z_i) (y4.fr hF z_i) hD.mta; have C5 := fun (W : World) (hF : z_F w W) => zjR Yes Yes s5 t5 q.mrk W (hq.mrk.fr hF z_i) (y5.fr hF z_i) hD.mrk
 have C6 := fun (W : World) (hF : z_F w W) => zlg Yes Yes s6 t6 q.his q'.his W (hq.his.fr hF z_i) (dD.his.fr hF z_i) e6 n6 (fun p hp => hD.his.2 p.1 (zmN.2 ⟨p, hp, rfl⟩)); have z0 := hq.ser; have z3 := hq.exm; have v0 := dD.ser; have v3 := dD.exm; obtain ⟨A0, c0, rfl⟩ := hq.ser.1.shape; obtain ⟨A1, c1, rfl⟩ := hq.smp.shape
 obtain ⟨A2, c2, rfl⟩ := hq.sto.1.shape; obtain ⟨A3, c3, rfl⟩ := hq.exm.1.shape; obtain ⟨A4, c4, rfl⟩ := hq.mta.shape; obtain ⟨A5, c5, rfl⟩ := hq.mrk.shape; obtain ⟨A6, c6, rfl⟩ := hq.his.1.shape; obtain ⟨B0, d0, rfl⟩ := dD.ser.1.shape; obtain ⟨B1, d1, rfl⟩ := dD.smp.shape; obtain ⟨B2, d2, rfl⟩ := dD.sto.1.shape; obtain ⟨B3, d3, rfl⟩ := dD.exm.1.shape; obtain ⟨B4, d4, rfl⟩ := dD.mta.shape
 obtain ⟨B5, d5, rfl⟩ := dD.mrk.shape; obtain ⟨B6, d6, rfl⟩ := dD.his.1.shape; rw [l0] at v0 ⊢; rw [l3] at v3 ⊢
 exact zhS q.ser q'.ser q.exm q'.exm A0 A1 A2 A3 A4 A5 A6 B0 B1 B2 B3 B4 B5 B6 c0 c1 c2 c3 c4 c5 c6 d0 d1 d2 d3 d4 d5 d6 _ _ _ _ _ _ _ _ _ _ _ _ w z0 v0 e0 rfl n0 (fun p hp => hD.ser.2 p.1 (zmN.2 ⟨p, hp, rfl⟩)) (fun p hp => hE.ser.2 p.1 (zmN.2 ⟨p, hp, rfl⟩)) z3 v3 e3 rfl n3 (fun p hp => hD.exm.2 p.1 (zmN.2 ⟨p, hp, rfl⟩)) (fun p hp => hE.exm.2 p.1 (zmN.2 ⟨p, hp, rfl⟩)) C1 C2 C4 C5 C6
theorem flatS_wf (l : List Ston) (hl : ∀ s ∈ l, s.wf) : ∀ s ∈ zb7 l, s.wf := fun s hs => by
 obtain ⟨x, hx, hs⟩ := List.mem_flatMap.1 hs; obtain ⟨p, hp, rfl⟩ := zmN.1 hs; exact ⟨(hl x hx).1, (hl x hx).2 p hp⟩
theorem zlh {h : Hst} (k : zbD false h) : h.readW.cutW = h := by
 obtain ⟨_, k2, k3⟩ := k; have e1 : h.fups = [] := zmJ (by simp at k3; rw [k3.1]; rfl); have e2 : h.fdowns = [] := zmJ (by simp at k3; rw [k3.2]; rfl); have e3 : (if h.schema = -53 then h.cus else []) = h.cus := by
  split
  ·rfl
  ·rename_i aN
   rcases k2 with k2 | ⟨_, _, k2⟩
   ·exact absurd k2 aN
   ·exact (zmJ k2).symm
 obtain ⟨hint, schema, thr, sum, zc, cnt, pos, neg, ups, downs, fups, fdowns, cus⟩ := h; simp only [] at e1 e2 e3; subst e1 e2; simp only [Hst.readW, Hst.cutW, e3]
theorem cut_backW {h : Hst} (k : zbD false h) : h.cutW = h := by
 obtain ⟨_, k2, k3⟩ := k; have e1 : h.fups = [] := zmJ (by simp at k3; rw [k3.1]; rfl); have e2 : h.fdowns = [] := zmJ (by simp at k3; rw [k3.2]; rfl); obtain ⟨hint, schema, thr, sum, zc, cnt, pos, neg, ups, downs, fups, fdowns, cus⟩ := h; simp only [] at e1 e2; subst e1 e2; rfl
theorem zli {h : Hst} (k : zbD true h) : h.readF.cutF = h := by
 obtain ⟨_, k2, k3⟩ := k; have e1 : h.ups = [] := zmJ (by simp at k3; rw [k3.1]; rfl); have e2 : h.downs = [] := zmJ (by simp at k3; rw [k3.2]; rfl); have e3 : (if h.schema = -53 then h.cus else []) = h.cus := by
  split
  ·rfl
  ·rename_i aN
   rcases k2 with k2 | ⟨_, _, k2⟩
   ·exact absurd k2 aN
   ·exact (zmJ k2).symm
 obtain ⟨hint, schema, thr, sum, zc, cnt, pos, neg, ups, downs, fups, fdowns, cus⟩ := h; simp only [] at e1 e2 e3; subst e1 e2; simp only [Hst.readF, Hst.cutF, e3]
theorem cut_backF {h : Hst} (k : zbD true h) : h.cutF = h := by
 obtain ⟨_, k2, k3⟩ := k; have e1 : h.ups = [] := zmJ (by simp at k3; rw [k3.1]; rfl); have e2 : h.downs = [] := zmJ (by simp at k3; rw [k3.2]; rfl); obtain ⟨hint, schema, thr, sum, zc, cnt, pos, neg, ups, downs, fups, fdowns, cus⟩ := h; simp only [] at e1 e2; subst e1 e2; rfl
def In (w : World) (g : Nat) : Prop := g < w.heap.size
theorem Sl.inn {P : Nat -> Prop} {w : World} {v : Value} {z n : Nat} {xs : List Value} (h : Sl P w v (z + 1) n xs) : Sl (In w) w v (z + 1) n xs := by
 obtain ⟨A, c, hv, hl, hc, hr⟩ := h; refine ⟨A, c, hv, hl, hc, fun hn => ?_⟩; obtain ⟨g, off, hA, _, aa⟩ := hr hn; have h0 : 0 < xs.length := by rw [hl]; exact Nat.mul_pos hn (Nat.succ_pos z)
 exact ⟨g, off, hA, zmo w _ (aa 0 xs[0] (zmj h0)), aa⟩
theorem Prt.At.inn {P : Nat -> Prop} {w : World} {q : Prt} {s0 s1 s2 s3 s4 s5 s6 : Value} (h : q.At P w s0 s1 s2 s3 s4 s5 s6) : q.At (In w) w s0 s1 s2 s3 s4 s5 s6 :=
 ⟨⟨h.ser.1.inn, fun p hp => (h.ser.2 p hp).inn⟩, h.smp.inn, ⟨h.sto.1.inn, fun p hp => (h.sto.2 p hp).inn⟩, ⟨h.exm.1.inn, fun p hp => (h.exm.2 p hp).inn⟩, h.mta.inn, h.mrk.inn, ⟨h.his.1.inn, fun p hp => let ⟨a, b, c, d, e, f, g⟩ := h.his.2 p hp; ⟨a.inn, b.inn, c.inn, d.inn, e.inn, f.inn, g.inn⟩⟩⟩
theorem Prt.At.sls {P : Nat -> Prop} {w : World} {q : Prt} {s0 s1 s2 s3 s4 s5 s6 : Value} (h : q.At P w s0 s1 s2 s3 s4 s5 s6) : ∀ s ∈ [s0, s1, s2, s3, s4, s5, s6], ∃ A m c, s = .slice A m c := by
 obtain ⟨A0, c0, rfl⟩ := h.ser.1.shape; obtain ⟨A1, c1, rfl⟩ := h.smp.shape; obtain ⟨A2, c2, rfl⟩ := h.sto.1.shape; obtain ⟨A3, c3, rfl⟩ := h.exm.1.shape; obtain ⟨A4, c4, rfl⟩ := h.mta.shape; obtain ⟨A5, c5, rfl⟩ := h.mrk.shape; obtain ⟨A6, c6, rfl⟩ := h.his.1.shape; intro s hs; simp only [zmV, zmU, or_false] at hs
 rcases hs with rfl | rfl | rfl | rfl | rfl | rfl | rfl <;> exact ⟨_, _, _, rfl⟩
def zcI (d : Nat) (xs : List UInt8) (b : Prt) (D : Dat) : Prop :=
 ∀ (te : TypeId) (pe bv s0 s1 s2 s3 s4 s5 s6 : Value) (P Q : Nat -> Prop) (w : World), Sl P w bv 1 xs.length (bc xs) -> b.At Q w s0 s1 s2 s3 s4 s5 s6 -> w.cell? ⟨2, 0, none⟩ = some (.iface te pe) ->
  Calls prog 29 #[.int .i64 d, bv, .agg #[s0, s1, s2, s3, s4, s5, s6]] w (fun r w' => ∃ ps, r = .returned (.tuple #[.agg ps, .bool true]) /\ RP D ps w' /\ z_F w w')
theorem zcJ {L : Nat -> Array Value -> World -> Prop} {d : Nat} {xs : List UInt8} {D : Dat} {q : Prt} {okb : Bool} (hb : okb = true) (k : ∀ b ps W, L b ps W -> RP D ps W)
 (h : ∀ (te : TypeId) (pe bv s0 s1 s2 s3 s4 s5 s6 : Value) (w : World), Sl (In w) w bv 1 xs.length (bc xs) -> q.At (In w) w s0 s1 s2 s3 s4 s5 s6 -> w.cell? ⟨2, 0, none⟩ = some (.iface te pe) -> Calls prog 29 #[.int .i64 d, bv, .agg #[s0, s1, s2, s3, s4, s5, s6]] w (ReadDone (L w.heap.size) okb w)) : zcI d xs q D := by
 subst hb; exact fun te pe bv s0 s1 s2 s3 s4 s5 s6 P Q w h1 h2 h3 => (h te pe bv s0 s1 s2 s3 s4 s5 s6 w h1.inn h2.inn h3).mono fun r w' e => e.toRP (k w.heap.size)
theorem ze7 : (∀ (_ : True) (q : Prt) (hq : ∀ p ∈ q.ser, LabOk p.1.labs 12 600) (mh : q.ser.length <= 12) (l : List Ser) (hl : ∀ s ∈ l, zhh s) (hn : l.length <= 12),
 zcI 1 (zbY l) q { Dat.none with ser := (q.ser.map Prod.fst ++ l).map fun s => (⟨s.ref, zaI s.labs⟩ : Ser) }) /\ (∀ (_ : True) (q : Prt) (hq : ∀ p ∈ q.exm, LabOk p.1.labs 12 600) (mh : q.exm.length <= 12) (l : List Exm) (hl : ∀ s ∈ l, zfO s) (hn : l.length <= 12),
 zcI 4 (zbA l) q { Dat.none with exm := (q.exm.map Prod.fst ++ l).map fun s => (⟨s.ref, s.t, s.v, zaI s.labs⟩ : Exm) }) := by
 refine ⟨fun ag q hq mh l hl hn => ?_, fun bU q hq mh l hl hn => ?_⟩; all_goals
  first | (guard_hyp ag; have ai := len_ser l hl hn) | (have ai := len_exm l hl hn)
  first | (guard_hyp bU; obtain ⟨ak, hG, aZ⟩ := goodX_rec l hl) | skip
  first | (guard_hyp ag; have e := zkp l hl) | (have e := zkv l hl)
  first
   | guard_hyp ag
     have hx : ∀ x ∈ ziM ((q.ser.map Prod.fst).map tos) (zbY l), x.labs.length <= 4096 /\ ∀ p ∈ x.labs, p.1.size <= 1048576 /\ p.2.size <= 1048576 := by
      unfold ziM; rw [e]; intro x hx; rcases zmX.1 hx with hx | hx
      ·obtain ⟨s, hs, rfl⟩ := zmN.1 hx
       obtain ⟨p, hp, rfl⟩ := zmN.1 hs; obtain ⟨h2, h3, _⟩ := hq p hp; obtain ⟨q1, q2⟩ := zep p.1.labs h2 (fun y hy => (h3 y hy).2); exact ⟨by show (zaI p.1.labs).length <= _; omega, fun y hy => by have := q2 y hy; omega⟩
      ·obtain ⟨s, hs, rfl⟩ := zmN.1 hx
       obtain ⟨_, h2, h3, _⟩ := hl s hs; obtain ⟨q1, q2⟩ := zep s.labs h2 h3; exact ⟨by show (zaI s.labs).length <= _; omega, fun p hp => by have := q2 p hp; omega⟩
   | have hx : ∀ x ∈ ziL ((q.exm.map Prod.fst).map toe) (zbA l), x.labs.length <= 4096 /\ ∀ p ∈ x.labs, p.1.size <= 1048576 /\ p.2.size <= 1048576 := by
      unfold ziL; rw [e]; intro x hx; rcases zmX.1 hx with hx | hx
      ·obtain ⟨s, hs, rfl⟩ := zmN.1 hx
       obtain ⟨p, hp, rfl⟩ := zmN.1 hs; obtain ⟨h2, h3, _⟩ := hq p hp; obtain ⟨q1, q2⟩ := zep p.1.labs h2 (fun y hy => (h3 y hy).2); exact ⟨by show (zaI p.1.labs).length <= _; omega, fun y hy => by have := q2 y hy; omega⟩
      ·obtain ⟨s, hs, rfl⟩ := zmN.1 hx
       obtain ⟨_, _, _, _, h2, h3, _⟩ := hl s hs; obtain ⟨q1, q2⟩ := zep s.labs h2 h3; exact ⟨by show (zaI s.labs).length <= _; omega, fun p hp => by have := q2 p hp; omega⟩
  first
   | guard_hyp ag
     have hy : (ziM ((q.ser.map Prod.fst).map tos) (zbY l)).length <= 1048576 := by
      unfold ziM; rw [e]; simp only [zmi, zmF]; omega
   | have hy : (ziL ((q.exm.map Prod.fst).map toe) (zbA l)).length <= 1048576 := by
      unfold ziL; rw [e]; simp only [zmi, zmF]; omega
  first | (guard_hyp ag; have e2 : (ziM ((q.ser.map Prod.fst).map tos) (zbY l)).map zjE = (q.ser.map Prod.fst ++ l).map (fun s => (⟨s.ref, zaI s.labs⟩ : Ser)) := by unfold ziM; rw [e]; show ((q.ser.map Prod.fst).map tos ++ l.map tos).map zjE = _; rw [<- zmH, znj]; rfl) | (have e2 : (ziL ((q.exm.map Prod.fst).map toe) (zbA l)).map zjF = (q.exm.map Prod.fst ++ l).map (fun s => (⟨s.ref, s.t, s.v, zaI s.labs⟩ : Exm)) := by unfold ziL; rw [e]; show ((q.exm.map Prod.fst).map toe ++ l.map toe).map zjF = _; rw [<- zmH, znj]; rfl)
  first | (guard_hyp ag; refine zcJ (L := fun b => SerParts b ((ziM ((q.ser.map Prod.fst).map tos) (zbY l)).map zjE)) (okb := (zbk (zbY l)).isSome) (by rw [e]; rfl) (fun b ps W k => by have := k.rp; rwa [e2] at this) (fun te pe bv s0 s1 s2 s3 s4 s5 s6 w hb hA hE => ?_)) | (refine zcJ (L := fun b => ExmParts b ((ziL ((q.exm.map Prod.fst).map toe) (zbA l)).map zjF)) (okb := (zbB (zbA l)).isSome) (by rw [e]; rfl) (fun b ps W k => by have := k.rp; rwa [e2] at this) (fun te pe bv s0 s1 s2 s3 s4 s5 s6 w hb hA hE => ?_))
  first | (guard_hyp ag; exact zfc te pe _ _ _ _ _ _ _ bv q.ser _ (In w) w hb ai (fun _ h => h) hA.sls hA.ser (by omega) hq hx hy hE GoodR zlt (goodR_rec l hl)) | (exact zgk te pe _ _ _ _ _ _ _ bv q.exm _ (In w) w hb ai (fun _ h => h) hA.sls hA.exm (by omega) hq hx hy hE ak hG aZ)
theorem bh_ser : type_of% (ze7.1 trivial) := ze7.1 trivial
theorem bh_exm : type_of% (ze7.2 trivial) := ze7.2 trivial
theorem bh_smp (q : Prt) (mh : q.smp.length = 0) (l : List Smp) (hl : ∀ s ∈ l, s.wf) (hn : l.length <= 12) : zcI 2 (zaE l) q { Dat.none with smp := l } := by
 have ai := len_smp l hl hn; have e := dec_enc l hl; have e3 := zmJ mh; refine zcJ (L := fun b => SmpParts b ((zan (zaE l)).getD [])) (okb := (zan (zaE l)).isSome) (by rw [e]; rfl) (fun b ps W k => by rw [e] at k; exact k.rp) (fun te pe bv s0 s1 s2 s3 s4 s5 s6 w hb hA hE => ?_); have h := hA.smp; rw [e3] at h
 exact zdg te pe _ _ _ _ _ _ _ bv _ (In w) w hb ai (fun _ h => h) hA.sls h hE
theorem bh_sto (q : Prt) (mh : q.sto.length <= 12) (hqi : ∀ p ∈ q.sto, p.1.ivs.length <= 4096) (l : List Ston) (hl : ∀ s ∈ l, s.wf) (hn : l.length <= 12) (hi : ∀ s ∈ l, s.ivs.length <= 4096) : zcI 3 (zbz l) q { Dat.none with sto := q.sto.map Prod.fst ++ (zb7 l).map one } := by
 have ai := len_sto l hl hn hi; have e : zaL (zbz l) = some (zb7 l) := zif _ (flatS_wf l hl); have e2 : outS (q.sto.map Prod.fst) (zbz l) = q.sto.map Prod.fst ++ (zb7 l).map one := by unfold outS; rw [e]
 refine zcJ (L := fun b => StnParts b (outS (q.sto.map Prod.fst) (zbz l))) (okb := (zaL (zbz l)).isSome) (by rw [e]; rfl) (fun b ps W k => by rw [e2] at k; exact k.rp) (fun te pe bv s0 s1 s2 s3 s4 s5 s6 w hb hA hE => ?_)
 exact zfb te pe _ _ _ _ _ _ _ bv q.sto _ (In w) w hb ai (fun _ h => h) hA.sls hA.sto (by omega) (fun s hs => by obtain ⟨p, hp, rfl⟩ := zmN.1 hs; have := hqi p hp; omega) hE
theorem bh_mrk (q : Prt) (mh : q.mrk.length <= 12) (l : List Mrk) (hl : ∀ s ∈ l, s.wf) (hn : l.length <= 12) : zcI 5 (zba l) q { Dat.none with mrk := q.mrk ++ l } := by
 have ai := len_mrk l hl hn; have e := zhf l hl; have e2 : zmc q.mrk (zba l) = q.mrk ++ l := by unfold zmc; rw [e]
 refine zcJ (L := fun b => MrkParts b (zmc q.mrk (zba l))) (okb := (zaG (zba l)).isSome) (by rw [e]; rfl) (fun b ps W k => by rw [e2] at k; exact k.rp) (fun te pe bv s0 s1 s2 s3 s4 s5 s6 w hb hA hE => ?_); exact zeU te pe _ _ _ _ _ _ _ bv q.mrk _ (In w) w hb ai (fun _ h => h) hA.sls hA.mrk (by omega) hE
theorem bh_mta (q : Prt) (mh : q.mta.length <= 12) (l : List Mta) (hl : ∀ s ∈ l, s.wf) (hn : l.length <= 12) : zcI 6 (zbJ l) q { Dat.none with mta := q.mta ++ l } := by
 have ai := len_mta l hl hn; have e := zjd l hl; have e2 : zmb q.mta (zbJ l) = q.mta ++ l := by unfold zmb; rw [e]
 refine zcJ (L := fun b => MtaParts b (zmb q.mta (zbJ l))) (okb := (zaU (zbJ l)).isSome) (by rw [e]; rfl) (fun b ps W k => by rw [e2] at k; exact k.rp) (fun te pe bv s0 s1 s2 s3 s4 s5 s6 w hb hA hE => ?_); exact zfH te pe _ _ _ _ _ _ _ bv q.mta _ (In w) w hb ai (fun _ h => h) hA.sls hA.mta (by omega) hE GoodM zlu (goodM_rec l hl)
theorem few_sh {h : Hst} {fl : Bool} (hs : zbD fl h) : h.few 1099511627776 := by
 have hs := hs.1; unfold Hst.total at hs; exact ⟨by omega, by omega, by omega, by omega, by omega, by omega, by omega⟩
theorem ze8 : (∀ (_ : True) (k : Nat) (hk : k = 7 ∨ k = 9) (u : Prt) (eL : u.his.length <= 12) (hu : ∀ p ∈ u.his, zbD false p.1.h) (q : Rhs -> Bool) (l : List Rhs) (hl : ∀ s ∈ l, s.ok) (hn : l.length <= 12) (hs : ∀ s ∈ l, zbD false s.h),
 zcI k (za3 (UInt8.ofNat k) q l) u { Dat.none with his := u.his.map Prod.fst ++ l.filter q }) /\ (∀ (_ : True) (k : Nat) (hk : k = 8 ∨ k = 10) (u : Prt) (eL : u.his.length <= 12) (hu : ∀ p ∈ u.his, zbD true p.1.h) (q : Rhs -> Bool) (l : List Rhs) (hl : ∀ s ∈ l, s.ok) (hn : l.length <= 12) (hs : ∀ s ∈ l, zbD true s.h),
 zcI k (za4 (UInt8.ofNat k) q l) u { Dat.none with his := u.his.map Prod.fst ++ l.filter q }) := by
 refine ⟨fun ag k hk u eL hu q l hl hn hs => ?_, fun bU k hk u eL hu q l hl hn hs => ?_⟩; all_goals
  first | (guard_hyp ag; have ai := len_hsW k q l hl hn) | (have ai := len_hsF k q l hl hn)
  first | (guard_hyp ag; have e := zlX (UInt8.ofNat k) (by rcases hk with rfl | rfl <;> decide) q l hl) | (have e := zlZ (UInt8.ofNat k) (by rcases hk with rfl | rfl <;> decide) q l hl)
  first | (guard_hyp ag; obtain ⟨ak, hG, aZ⟩ := goodW_rec (UInt8.ofNat k) q l hl) | (obtain ⟨ak, hG, aZ⟩ := goodF_rec (UInt8.ofNat k) q l hl)
  first
   | guard_hyp ag
     have e2 : zgp (u.his.map Prod.fst) (za3 (UInt8.ofNat k) q l) = u.his.map Prod.fst ++ l.filter q := by
      unfold zgp; rw [e]; show (u.his.map Prod.fst ++ (l.filter q).map Rhs.readW).map _ = _; rw [zmH, znj]; congr 1
      ·conv => rhs; rw [<- List.map_id (u.his.map Prod.fst)]
       rw [znj]; refine List.map_congr_left fun p hp => ?_; show ({ p.1 with h := p.1.h.cutW } : Rhs) = p.1; rw [cut_backW (hu p hp)]
      ·conv => rhs; rw [<- List.map_id (l.filter q)]
       rw [znj]; refine List.map_congr_left fun x hx => ?_; have := zlh (hs x (zmW.1 hx).1); show ({ x with h := x.h.readW.cutW } : Rhs) = x; rw [this]
   | have e2 : zgq (u.his.map Prod.fst) (za4 (UInt8.ofNat k) q l) = u.his.map Prod.fst ++ l.filter q := by
      unfold zgq; rw [e]; show (u.his.map Prod.fst ++ (l.filter q).map Rhs.readF).map _ = _; rw [zmH, znj]; congr 1
      ·conv => rhs; rw [<- List.map_id (u.his.map Prod.fst)]
       rw [znj]; refine List.map_congr_left fun p hp => ?_; show ({ p.1 with h := p.1.h.cutF } : Rhs) = p.1; rw [cut_backF (hu p hp)]
      ·conv => rhs; rw [<- List.map_id (l.filter q)]
       rw [znj]; refine List.map_congr_left fun x hx => ?_; have := zli (hs x (zmW.1 hx).1); show ({ x with h := x.h.readF.cutF } : Rhs) = x; rw [this]
  first | (guard_hyp ag; refine zcJ (L := fun b => HstParts b (zgp (u.his.map Prod.fst) (za3 (UInt8.ofNat k) q l))) (okb := (zcO (za3 (UInt8.ofNat k) q l)).isSome) (by rw [e]; rfl) (fun b ps W k => by rw [e2] at k; exact k.rp) (fun te pe bv s0 s1 s2 s3 s4 s5 s6 w hb hA hE => ?_)) | (refine zcJ (L := fun b => HstParts b (zgq (u.his.map Prod.fst) (za4 (UInt8.ofNat k) q l))) (okb := (zcP (za4 (UInt8.ofNat k) q l)).isSome) (by rw [e]; rfl) (fun b ps W k => by rw [e2] at k; exact k.rp) (fun te pe bv s0 s1 s2 s3 s4 s5 s6 w hb hA hE => ?_))
  first | (guard_hyp ag; refine zg3 te pe _ _ _ _ _ _ _ bv k hk u.his _ (In w) w hb ai (fun _ h => h) hA.sls hA.his (by omega) (fun p hp => few_sh (hu p hp)) ?_ hE ak hG aZ) | (refine zg4 te pe _ _ _ _ _ _ _ bv k hk u.his _ (In w) w hb ai (fun _ h => h) hA.sls hA.his (by omega) (fun p hp => few_sh (hu p hp)) ?_ hE ak hG aZ)
  rw [e]; intro l2 h2; injection h2 with h2; subst h2; refine ⟨by rw [zmF]; have := znf q l; omega, fun x hx => ?_⟩; obtain ⟨s, hs, rfl⟩ := zmN.1 hx
  first | (guard_hyp ag; exact few_readW (hl s (zmW.1 hs).1).2.2.2) | (exact few_readF (hl s (zmW.1 hs).1).2.2.2)
theorem bh_hsW : type_of% (ze8.1 trivial) := ze8.1 trivial
theorem bh_hsF : type_of% (ze8.2 trivial) := ze8.2 trivial
end Go.Proofs.YtbkookiigkckdaaGreatDoor
