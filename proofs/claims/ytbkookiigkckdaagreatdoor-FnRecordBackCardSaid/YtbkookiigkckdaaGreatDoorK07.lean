/- Texts of this seat, merged and shortened. -/
import Derived.Test.YtbkookiigkckdaaGreatDoorK06
set_option linter.unusedVariables false
set_option linter.unusedSimpArgs false
set_option maxRecDepth 100000
set_option maxHeartbeats 8000000
namespace Go.Proofs.YtbkookiigkckdaaGreatDoor
open Go.RowKit Go.Proofs.Tryz
theorem zd9 {P : Program} {ops : Array Oper} {Q : Exit -> Act -> World -> Prop} {md : Region.Mode} {S : World -> Prop} {c : Nat} (i j : Nat) {fuel : Nat} {ah : Array Bool} {a : Act} {w : World} {oi oj : Oper}
 (hr : Region.ready md ops ah = [i, j]) (hoi : ops[i]? = some oi) (ju : ops[j]? = some oj) (hwi : Region.wanted oi (yielded ops a.tmps) = true) (hwj : Region.wanted oj (yielded ops a.tmps) = true)
 (hi : ∀ K' : Act -> World -> Prop, Shut (∀ a w, S w -> zc1 P md ops Q S c fuel (ah.setIfInBounds i true) a w -> K' a w) -> Oper.wp P oi a w K' Q)
 (hj : ∀ K' : Act -> World -> Prop, Shut (∀ a w, S w -> zc1 P md ops Q S c fuel (ah.setIfInBounds j true) a w -> K' a w) -> Oper.wp P oj a w K' Q) : zc1 P md ops Q S c (fuel + 1) ah a w := by
 refine ⟨fun h0 => (by rw [hr] at h0; cases h0), fun k hk => ?_⟩; rw [hr] at hk; rcases List.mem_cons.mp hk with e | hk
 ·subst e
  unfold wpOp; simp only [hoi, hwi, if_true]; exact .inl (hi _ (fun a w hS hW => ⟨fun _ => hS, hW⟩))
 ·rw [zmt] at hk
  subst hk; unfold wpOp; simp only [ju, hwj, if_true]; exact .inl (hj _ (fun a w hS hW => ⟨fun _ => hS, hW⟩))
theorem less_lt : ∀ x y : List UInt8, Op.bytesLess x y = decide (x < y)
 | x, [] => by cases x <;> simp [Op.bytesLess]
 | [], _ :: _ => by simp [Op.bytesLess]
 | a :: x, b :: y => by
   rw [Op.bytesLess, less_lt x y]; simp only [List.cons_lt_cons_iff, Bool.decide_or, Bool.decide_and]; congr 1
theorem zku (x y : Lab) : Op.bytesLess x.1.toList y.1.toList = ltL x y := by
 rw [less_lt, Lib.toList_data, Lib.toList_data]; rfl
theorem zfQ (l : List Lab) : ∀ u ∈ l.flatMap zaI, u.oneCell' = true := by
 intro u hu; obtain ⟨x, _, hx⟩ := List.mem_flatMap.mp hu; simp [zaI] at hx; rcases hx with rfl | rfl <;> rfl
theorem zh7 : prog.elem 31 = 40 := by kernel_rfl
theorem size40 (w : World) : (sizeOf 40).run prog w = .ok 2 w := by kernel_rfl
theorem zhl (o : List Lab) (j : Nat) (hj : j <= o.length) : (o.flatMap zaI).take (j * 2) = (o.take j).flatMap zaI /\ (o.flatMap zaI).drop (j * 2) = (o.drop j).flatMap zaI := by
 have e : o.flatMap zaI = (o.take j).flatMap zaI ++ (o.drop j).flatMap zaI := by rw [<- zml, List.take_append_drop]
 have h : ((o.take j).flatMap zaI).length = j * 2 := by rw [zej, zmy, Nat.min_eq_left hj]
 rw [e]; exact ⟨List.take_left' h, List.drop_left' h⟩
theorem sl_take {P : Nat -> Prop} {W : World} {A : Option Addr} {c : Nat} {o : List Lab} {k j : Nat} (h : Sl P W (.slice A k c) 2 k (o.flatMap zaI)) (ho : o.length = k) (hj : j <= k) : Sl P W (.slice A j c) 2 j ((o.take j).flatMap zaI) := by
 obtain ⟨A', c', e, hl, hc, hr⟩ := h; injection e with e1 _ e3; subst e1 e3; refine ⟨A, c, rfl, by rw [zej, zmy]; omega, by omega, fun h0 => ?_⟩; obtain ⟨g, off, hA, hP, aa⟩ := hr (by omega); refine ⟨g, off, hA, hP, fun i u hu => aa i u ?_⟩; rw [<- (zhl o j (by omega)).1, List.getElem?_take] at hu; split at hu
 ·exact hu
 ·cases hu
theorem sl_drop {P : Nat -> Prop} {W0 : World} {A : Option Addr} {c : Nat} {o : List Lab} {k j : Nat} (h : Sl P W0 (.slice A k c) 2 k (o.flatMap zaI)) (ho : o.length = k) (hj : j <= k) :
 ∃ A', (∀ W, (Instr.slice 31 (.slice A k c) (some (.int .i64 j)) none none).run prog W = .ok (.slice A' (k - j) (c - j)) W) /\ ∀ W, Sl P W (.slice A k c) 2 k (o.flatMap zaI) -> Sl P W (.slice A' (k - j) (c - j)) 2 (k - j) ((o.drop j).flatMap zaI) := by
 have js : ∀ W, (Instr.slice 31 (.slice A k c) (some (.int .i64 j)) none none).run prog W = .ok (sliced A j k c 2) W := fun W => by
  have h := run_slice_l (P := prog) W 31 A k c (by rw [zh7]; exact underlying31) .i64 j (by omega) (by omega); rw [zh7, size40] at h; rw [h]; simp [Result.andThen]
 refine ⟨if c = j then A else A.map (fun a : Addr => a.add (j * 2)), fun W => js W, fun W h2 => ?_⟩; obtain ⟨A', c', e, hl, hc, hr⟩ := h2; injection e with e1 _ e3; subst e1 e3; refine ⟨_, _, rfl, by rw [zej, List.length_drop]; omega, by omega, fun h0 => ?_⟩; obtain ⟨g, off, rfl, hP, aa⟩ := hr (by omega); have hcj : ¬ c = j := by omega
 have e1 : (⟨g, off, none⟩ : Addr).add (j * 2) = ⟨g, off + j * 2, none⟩ := by unfold Addr.add; split <;> simp_all
 refine ⟨g, off + j * 2, by simp [hcj, e1], hP, fun i u hu => ?_⟩; rw [<- (zhl o j (by omega)).2, List.getElem?_drop] at hu; rw [Nat.add_assoc]; exact aa _ _ hu
theorem zdL (W : World) (base : Nat) (h : base <= W.heap.size) : (W.alloc (.cells #[] 40)).ownsRow base 40 2 (.slice (some ⟨W.heap.size, 0, none⟩) 0 0) 0 [] :=
 zmQ (base := base) (e := 40) (size := 2) W #[] 0 h (zlX _) rfl
theorem zeq (P : Nat -> Prop) (v : Value) (l : List Lab) (w : World) (h : Sl P w v 2 l.length (l.flatMap zaI)) (hl : l.length <= 1099511627776) : Calls prog 24 #[v] w (zeo 40 w (zaE l)) := by
 unfold zeo; rw [zaZ]; obtain ⟨A, c, rfl, _, hc, hr⟩ := h; obtain ⟨n, hn⟩ := exE l.length; rw [hn] at hr hc hl ⊢; have HN := zlM hn; have HR := zlM hr; obtain ⟨i0, aB, ay, ax, aA⟩ := info_parts info40; clear hn hr; go_enter func24, ntmps24; go_wp2
 go_loopw [3, 4] (fun vo vi wr => ∃ k : Nat, k <= n /\ vi = .int .i64 k /\ Hid (wr.ownsRow w.heap.size 40 2 vo k ((zaE (l.take k)).flatMap zaI)) /\ Hid (Fr (fun _ => False) w wr)) (fun _ vi _ => n - (intOf vi).toNat)
 case atStart => exact ⟨0, zlX _, rfl, zlM (zl0 _ _ _ _), zlM (zmR _ _)⟩
 case round =>
  obtain ⟨k, hk, rfl, HO, HF⟩ := hrel; by_cases hlt : k < n
  ·obtain ⟨g, off, rfl, _, aa⟩ := HR.out (by omega)
   obtain ⟨x, hx⟩ : ∃ x, l[k]? = some x := ⟨_, zlO (by rw [HN.out]; exact hlt)⟩; have cx : ∀ W, Fr (fun _ => False) w W -> W.cell? ⟨g, off + k * 2, none⟩ = some (.string x.1) /\ W.cell? ⟨g, off + k * 2 + 1, none⟩ = some (.string x.2) := fun W hF => by
    have cc : ∀ j, j < 2 -> ∀ u, (zaI x)[j]? = some u -> W.cell? ⟨g, off + (k * 2 + j), none⟩ = some u := fun j hj u hu => by
     have := aa (k * 2 + j) u (by rw [zbB zaI (fun _ => rfl) l k x hx j hj]; exact hu); rw [hF.cell (p := ⟨g, off + (k * 2 + j), none⟩) (zlT w _ this) (fun e => e)]; exact this
    exact ⟨cc 0 (by omega) _ rfl, cc 1 (by omega) _ rfl⟩
   have ai : (zaE (l.take k)).length = k := by rw [zaZ, zmy]; have := HN.out; omega
   have lQ := zkW ltL l k x hx; obtain ⟨o, ho⟩ := exE (zaE (l.take k)); have mb : o.length = k := by rw [<- ho]; exact ai
   have jl : zaE (l.take (k + 1)) = zjh ltL o x := by rw [<- ho]; exact lQ
   rw [ho] at HO; obtain ⟨A2, c2, rfl⟩ := zaa HO.out; have HX := zlM cx; have HL := zlM mb; have jd := zlM jl; have iT := zlM (zmU HO.out); clear cx ai lQ ho hx aa mb jl; go_wp2; go_loopw [5] (fun vj w' => ∃ j : Nat, j <= k /\ vj = .int .i64 j /\ Hid (zhU ltL x o k = zhU ltL x o j) /\ Hid (Fr (fun _ => False) wr w')) (fun vj _ => (intOf vj).toNat)
   case atStart => exact ⟨k, zlY _, rfl, zlM rfl, zlM (zmR _ _)⟩
   case round =>
    obtain ⟨j, hj, rfl, HJ, bx⟩ := hrel; have oa : Hid (Fr (fun _ => False) w wr) := zlM (HF.out.same bx.out); rcases j with _ | j
    ·have HP : Hid (zhU ltL x o o.length = 0) := zlM (by rw [HL.out, HJ.out]; rfl)
     go_wp2; go_region; all_goals go_wp2
     have jQ : Hid (∀ W, Fr (fun _ => False) wr W -> Sl (fun g => (Value.slice A2 k c2).ownBlock = some g) W (.slice A2 k c2) 2 k (o.flatMap zaI)) := zlM (fun W hW => (iT.out.fr (bx.out.same hW) (fun _ _ e => e))); have hjk : 0 <= k := by omega
     have mO := cutTo zh7 underlying31 size40 A2 k c2 (0) .i64 ((0 : Nat) : Int) rfl (by have h := iT.out; obtain ⟨_, _, e, _, h, _⟩ := h; injection e with e1 e2 e3; omega)
     have eK : Hid (∀ W, Fr (fun _ => False) wr W -> Src prog 2 31 (.slice A2 (0) c2) (0) ((o.take (0)).flatMap zaI) W) := zlM (fun W hW => zde underlying31 (sl_take (jQ.out W hW) HL.out hjk) (zfQ _))
     have jP : Hid (∀ W, Fr (fun _ => False) wr W -> Src prog 2 31 (.slice A2 (k - (0)) (c2 - (0))) (k - (0)) ((o.drop (0)).flatMap zaI) W) := zlM (fun W hW => zde underlying31 (by have h := jQ.out W hW; simpa using h) (zfQ _)); have jy : zjh ltL o x = o.take (0) ++ x :: o.drop (0) := by unfold zjh; rw [HP.out]
     have nW := zlM jy
     have mR := oa.out.size; clear jy jQ; refine zaV (fun w' => Fr (fun _ => False) wr w') 14 (by kernel_rfl) ((zmR _ wr).drew.drew) ?_; intro hS; have F0 : Fr (fun _ => False) wr wr.drew.drew := (zmR _ wr).drew.drew; generalize wr.drew.drew = W0 at F0 hS ⊢; refine wpT 1 (.slice A2 k c2) rfl (by intro w; go_simp) hS ?_
     try simp only [Act.put, zlQ, zlR, zlS]
     refine wpT 2 (.int .i64 ((0 : Nat) : Int)) rfl (by intro w; go_simp) hS ?_; try simp only [Act.put, zlQ, zlR, zlS]
     refine wpT 3 (.slice A2 (0) c2) rfl (by intro w; go_simp) hS ?_; try simp only [Act.put, zlQ, zlR, zlS]
     refine wpT 5 (.slice (some ⟨g, off, none⟩) n c) rfl (by intro w; go_simp) hS ?_; try simp only [Act.put, zlQ, zlR, zlS]
     refine wpT 6 (.int .i64 k) rfl (by intro w; go_simp) hS ?_; try simp only [Act.put, zlQ, zlR, zlS]
     refine wpT 7 (.pointer (some ⟨g, off + k * 2, none⟩)) rfl (by intro w; go_simp) hS ?_; try simp only [Act.put, zlQ, zlR, zlS]
     refine wpL 8 [9, 10, 14] (.agg #[.string x.1, .string x.2]) rfl (by rintro w h1; obtain ⟨h2, h3⟩ := HX.out _ (oa.out.same h1); go_simp) hS ?_; try simp only [Act.put, zlQ, zlR, zlS]
     refine wpT 11 (.slice A2 k c2) rfl (by intro w; go_simp) hS ?_; try simp only [Act.put, zlQ, zlR, zlS]
     refine wpT 12 (.int .i64 ((0 : Nat) : Int)) rfl (by intro w; go_simp) hS ?_; try simp only [Act.put, zlQ, zlR, zlS]
     refine wpT 13 (.slice A2 (k - (0)) (c2 - (0))) rfl (by intro w; go_simp) hS ?_; try simp only [Act.put, zlQ, zlR, zlS]
     refine zd9 0 9 (by kernel_rfl) rfl rfl (by rfl) (by rfl) (fun K hK => ?_) (fun K hK => ?_); go_simp; have o0 := zdL W0 wr.heap.size F0.size; have F1 := F0.alloc (.cells #[] 40); have nl := F0.size; refine hK.out _ _ F1 ?_; clear hK K hS; try simp only [Act.put, zlQ, zlR, zlS]
     generalize World.alloc W0 (Obj.cells #[] 40) = W1 at o0 F1 ⊢; generalize W0.heap.size = e0 at o0 nl ⊢; have hS := F1; refine zd9 4 9 (by kernel_rfl) rfl rfl (by rfl) (by rfl) (fun K hK => ?_) (fun K hK => ?_)
     refine zay W1 _ _ 31 31 (by rfl) wr.heap.size 40 i0 _ 2 32 underlying31 aB ay ax aA rfl (by decide) (.slice (some ⟨e0, 0, none⟩) 0 0) 0 [] (by rfl) o0 (.slice A2 (0) c2) (0) ((o.take (0)).flatMap zaI) (by rfl) (eK.out _ F1) (by unfold maxLen; omega) (by omega) F1.size ?_; intro v1 W2 an aK eG; rw [zmh, zmo] at an
     have F2 := F1.grown aK (fun q hq => .inr (by have hq : e0 = q := zmB hq; omega)); obtain ⟨a1, n1, k1, rfl⟩ := zab an; refine hK.out _ _ F2 ?_; clear hK K hS aK eG; try simp only [Act.put, zlQ, zlR, zlS]
     have hS := F2; refine zap 9 (by kernel_rfl) rfl (by rfl) (fun K hK => ?_); go_simp; have B9 : Blk (W2.alloc (.cells #[.string x.1, .string x.2] 40)) W2.heap.size 40 #[.string x.1, .string x.2] := zmS W2 40 _; have F3 := F2.alloc (.cells #[.string x.1, .string x.2] 40); have eA := World.ownsRow.alloc an (.cells #[.string x.1, .string x.2] 40); refine hK.out _ _ F3 ?_; clear hK K hS
     try simp only [Act.put, zlQ, zlR, zlS]
     generalize World.alloc W2 (Obj.cells #[.string x.1, .string x.2] 40) = W3 at B9 F3 eA ⊢; generalize W2.heap.size = g9 at B9 ⊢; have hS := F3; have OX := eA; have BX := B9
     rotate_left
     go_simp; have B9 : Blk (W1.alloc (.cells #[.string x.1, .string x.2] 40)) W1.heap.size 40 #[.string x.1, .string x.2] := zmS W1 40 _; have F2 := F1.alloc (.cells #[.string x.1, .string x.2] 40); have oX := World.ownsRow.alloc o0 (.cells #[.string x.1, .string x.2] 40); have eB : W1.heap.size ≠ e0 := fun e => by have h := zar o0 (k := e0) rfl; omega
     refine hK.out _ _ F2 ?_; clear hK K hS; try simp only [Act.put, zlQ, zlR, zlS]
     generalize World.alloc W1 (Obj.cells #[.string x.1, .string x.2] 40) = W2 at B9 F2 oX ⊢; generalize W1.heap.size = g9 at B9 eB ⊢; have hS := F2; refine zap 4 (by kernel_rfl) rfl (by rfl) (fun K hK => ?_)
     refine zay W2 _ _ 31 31 (by rfl) wr.heap.size 40 i0 _ 2 32 underlying31 aB ay ax aA rfl (by decide) (.slice (some ⟨e0, 0, none⟩) 0 0) 0 [] (by rfl) oX (.slice A2 (0) c2) (0) ((o.take (0)).flatMap zaI) (by rfl) (eK.out _ F2) (by unfold maxLen; omega) (by omega) F2.size ?_; intro v1 W3 an aK eG; rw [zmh, zmo] at an
     have F3 := F2.grown aK (fun q hq => .inr (by have hq : e0 = q := zmB hq; omega)); have lJ := B9.grown aK (fun e => eB (zmB e)); obtain ⟨a1, n1, k1, rfl⟩ := zab an; refine hK.out _ _ F3 ?_; clear hK K hS aK eG; try simp only [Act.put, zlQ, zlR, zlS]
     have hS := F3; have OX := an; have BX := lJ
     rotate_left
     go_simp; have B9 : Blk (W0.alloc (.cells #[.string x.1, .string x.2] 40)) W0.heap.size 40 #[.string x.1, .string x.2] := zmS W0 40 _; have F1 := F0.alloc (.cells #[.string x.1, .string x.2] 40); refine hK.out _ _ F1 ?_; clear hK K hS; try simp only [Act.put, zlQ, zlR, zlS]
     generalize World.alloc W0 (Obj.cells #[.string x.1, .string x.2] 40) = W1 at B9 F1 ⊢; generalize W0.heap.size = g9 at B9 ⊢; have hS := F1; refine zap 0 (by kernel_rfl) rfl (by rfl) (fun K hK => ?_); go_simp; have o0 := zdL W1 wr.heap.size F1.size; have F2 := F1.alloc (.cells #[] 40); have nl := F1.size; have eB : g9 ≠ W1.heap.size := Nat.ne_of_lt B9.lt
     have lJ := B9.alloc (.cells #[] 40); refine hK.out _ _ F2 ?_; clear hK K hS; try simp only [Act.put, zlQ, zlR, zlS]
     generalize World.alloc W1 (Obj.cells #[] 40) = W2 at o0 F2 lJ ⊢; generalize W1.heap.size = e0 at o0 nl eB ⊢; have hS := F2; refine zap 4 (by kernel_rfl) rfl (by rfl) (fun K hK => ?_)
     refine zay W2 _ _ 31 31 (by rfl) wr.heap.size 40 i0 _ 2 32 underlying31 aB ay ax aA rfl (by decide) (.slice (some ⟨e0, 0, none⟩) 0 0) 0 [] (by rfl) o0 (.slice A2 (0) c2) (0) ((o.take (0)).flatMap zaI) (by rfl) (eK.out _ F2) (by unfold maxLen; omega) (by omega) F2.size ?_; intro v1 W3 an aK eG; rw [zmh, zmo] at an
     have F3 := F2.grown aK (fun q hq => .inr (by have hq : e0 = q := zmB hq; omega)); have B9c := lJ.grown aK (fun e => eB (zmB e)); obtain ⟨a1, n1, k1, rfl⟩ := zab an; refine hK.out _ _ F3 ?_; clear hK K hS aK eG; try simp only [Act.put, zlQ, zlR, zlS]
     have hS := F3; have OX := an; have BX := B9c
     rotate_left
     all_goals
      refine zap 10 (by kernel_rfl) rfl (by rfl) (fun K hK => ?_); refine zay W3 _ _ 31 31 (by rfl) wr.heap.size 40 i0 _ 2 32 underlying31 aB ay ax aA rfl (by decide) (.slice a1 n1 k1) (0) ((o.take (0)).flatMap zaI) (by rfl) OX _ 1 (zaI x) (by rfl) (zaF (cs := zaI x) underlying31 BX rfl (by simp [zaI, Value.oneCell'])) (by unfold maxLen; omega) (by omega) F3.size ?_
      intro v2 W4 af eE bn; have F4 := F3.grown eE (fun q hq => .inr ((World.ownsRow.lt OX q hq).1)); obtain ⟨a2, n2, k2, rfl⟩ := zab af; refine hK.out _ _ F4 ?_; clear hK K hS eE bn; try simp only [Act.put, zlQ, zlR, zlS]
      have hS := F4; refine zaA 14 (by kernel_rfl) rfl (by kernel_rfl) (by rfl) (fun K hK => ?_)
      refine zay W4 _ _ 31 31 (by rfl) wr.heap.size 40 i0 _ 2 32 underlying31 aB ay ax aA rfl (by decide) (.slice a2 n2 k2) (0 + 1) ((o.take (0)).flatMap zaI ++ zaI x) (by rfl) af (.slice A2 (k - (0)) (c2 - (0))) (k - (0)) ((o.drop (0)).flatMap zaI) (by rfl) (jP.out _ F4) (by unfold maxLen; omega) (by omega) F4.size ?_; intro v3 W5 aE eD iJ
      have F5 := F4.grown eD (fun q hq => .inr ((World.ownsRow.lt af q hq).1)); obtain ⟨a3, n3, k3, rfl⟩ := zab aE; have aV : W5.ownsRow w.heap.size 40 2 (.slice a3 n3 k3) (k + 1) ((zaE (l.take (k + 1))).flatMap zaI) := by
       rw [jd.out, nW.out]; have e1 : 0 + 1 + (k - (0)) = k + 1 := by omega
       rw [e1] at aE; have h := zah aE mR; simpa [zml, zl1] using h
      have dq := zlM aV; have iY := zlM (oa.out.same F5); refine hK.out _ _ ?_; clear hK K hS eD iJ aE aV; try simp only [Act.put, zlQ, zlR, zlS]
      refine zaA 15 (by kernel_rfl) rfl (by kernel_rfl) (by rfl) (fun K hK => ?_); go_simp; refine hK.out _ _ ?_; clear hK K; refine zbQ (by kernel_rfl) ?_ _; go_wp2; go_roundw
      case rel => exact ⟨k + 1, by omega, by go_num, dq, iY⟩
      case measure => simp [intOf]; omega
    ·obtain ⟨g2, ap, rfl, _, ak⟩ : ∃ g2 ap, A2 = some ⟨g2, ap, none⟩ /\ True /\ ∀ i u, (o.flatMap zaI)[i]? = some u -> (_ : World).cell? ⟨g2, ap + i, none⟩ = some u := by
      obtain ⟨A3, c3, e3, _, _, h3⟩ := iT.out; injection e3 with e1 _ e2; subst e1 e2; obtain ⟨g2, ap, h4, _, h5⟩ := h3 (by omega); exact ⟨g2, ap, h4, trivial, h5⟩
     obtain ⟨y, hy⟩ : ∃ y, o[j]? = some y := ⟨_, zlO (by rw [HL.out]; omega)⟩; have d0 : wr.drew.cell? ⟨g, off + k * 2, none⟩ = some (.string x.1) := (HX.out _ oa.out.drew).1; have d1 : wr.drew.cell? ⟨g2, ap + j * 2, none⟩ = some (.string y.1) := by
      have := ak (j * 2 + 0) (.string y.1) (by rw [zbB zaI (fun _ => rfl) o j y hy 0 (by omega)]; rfl); have h6 := bx.out.drew.cell (p := ⟨g2, ap + j * 2, none⟩) (zlT _ _ this) (fun e => e); rw [h6]; exact this
     have HY := zlM hy; have bH := zlM bx.out.drew; clear ak hy; by_cases hxy : ltL x y = true
     ·have ma : Op.bytesLess x.1.toList y.1.toList = true := by rw [zku, hxy]
      have HJ3 : Hid (zhU ltL x o k = zhU ltL x o j) := zlM (by
       rw [HJ.out, zhU, HY.out]
       simp [hxy])
      clear hxy; go_wp2; go_region; all_goals go_wp2
      exact ⟨⟨j, by omega, by first | rfl | go_num, HJ3, bH⟩, by simp [intOf]; try omega⟩
     ·have mI : ltL x y = false := by simpa using hxy
      have ma : Op.bytesLess x.1.toList y.1.toList = false := by rw [zku, mI]
      have HP : Hid (zhU ltL x o o.length = j + 1) := zlM (by
       rw [HL.out, HJ.out, zhU, HY.out]
       simp [mI])
      clear hxy mI; go_wp2; go_region; all_goals go_wp2
      clear d0 d1 ma; generalize some (⟨g2, ap, none⟩ : Addr) = A2 at *
      have jQ : Hid (∀ W, Fr (fun _ => False) wr W -> Sl (fun g => (Value.slice A2 k c2).ownBlock = some g) W (.slice A2 k c2) 2 k (o.flatMap zaI)) := zlM (fun W hW => (iT.out.fr (bx.out.same hW) (fun _ _ e => e))); have hjk : j + 1 <= k := by omega
      obtain ⟨A3, lT, jp⟩ := sl_drop iT.out HL.out hjk; have mO := cutTo zh7 underlying31 size40 A2 k c2 (j + 1) .i64 ((j + 1 : Nat) : Int) rfl (by have h := iT.out; obtain ⟨_, _, e, _, h, _⟩ := h; injection e with e1 e2 e3; omega)
      have eK : Hid (∀ W, Fr (fun _ => False) wr W -> Src prog 2 31 (.slice A2 (j + 1) c2) (j + 1) ((o.take (j + 1)).flatMap zaI) W) := zlM (fun W hW => zde underlying31 (sl_take (jQ.out W hW) HL.out hjk) (zfQ _))
      have jP : Hid (∀ W, Fr (fun _ => False) wr W -> Src prog 2 31 (.slice A3 (k - (j + 1)) (c2 - (j + 1))) (k - (j + 1)) ((o.drop (j + 1)).flatMap zaI) W) := zlM (fun W hW => zde underlying31 (jp W (jQ.out W hW)) (zfQ _)); have jy : zjh ltL o x = o.take (j + 1) ++ x :: o.drop (j + 1) := by unfold zjh; rw [HP.out]
      have hrun3b : ∀ W, (Instr.slice 31 (.slice A2 k c2) (some (.int .i64 ((j : Int) + 1))) none none).run prog W = .ok (.slice A3 (k - (j + 1)) (c2 - (j + 1))) W := lT; have htob : ∀ W, (Instr.slice 31 (.slice A2 k c2) none (some (.int .i64 ((j : Int) + 1))) none).run prog W = .ok (.slice A2 (j + 1) c2) W := mO; clear lT mO; have nW := zlM jy
      have mR := oa.out.size; clear jy jp jQ; refine zaV (fun w' => Fr (fun _ => False) wr w') 14 (by kernel_rfl) ((zmR _ wr).drew.drew) ?_; intro hS; have F0 : Fr (fun _ => False) wr wr.drew.drew := (zmR _ wr).drew.drew; generalize wr.drew.drew = W0 at F0 hS ⊢; refine wpT 1 (.slice A2 k c2) rfl (by intro w; go_simp) hS ?_
      try simp only [Act.put, zlQ, zlR, zlS]
      refine wpT 2 (.int .i64 ((j + 1 : Nat) : Int)) rfl (by intro w; go_simp) hS ?_; try simp only [Act.put, zlQ, zlR, zlS]
      refine wpT 3 (.slice A2 (j + 1) c2) rfl (by intro w; go_simp) hS ?_; try simp only [Act.put, zlQ, zlR, zlS]
      refine wpT 5 (.slice (some ⟨g, off, none⟩) n c) rfl (by intro w; go_simp) hS ?_; try simp only [Act.put, zlQ, zlR, zlS]
      refine wpT 6 (.int .i64 k) rfl (by intro w; go_simp) hS ?_; try simp only [Act.put, zlQ, zlR, zlS]
      refine wpT 7 (.pointer (some ⟨g, off + k * 2, none⟩)) rfl (by intro w; go_simp) hS ?_; try simp only [Act.put, zlQ, zlR, zlS]
      refine wpL 8 [9, 10, 14] (.agg #[.string x.1, .string x.2]) rfl (by rintro w h1; obtain ⟨h2, h3⟩ := HX.out _ (oa.out.same h1); go_simp) hS ?_; try simp only [Act.put, zlQ, zlR, zlS]
      refine wpT 11 (.slice A2 k c2) rfl (by intro w; go_simp) hS ?_; try simp only [Act.put, zlQ, zlR, zlS]
      refine wpT 12 (.int .i64 ((j + 1 : Nat) : Int)) rfl (by intro w; go_simp) hS ?_; try simp only [Act.put, zlQ, zlR, zlS]
      refine wpT 13 (.slice A3 (k - (j + 1)) (c2 - (j + 1))) rfl (by intro w; go_simp) hS ?_; try simp only [Act.put, zlQ, zlR, zlS]
      refine zd9 0 9 (by kernel_rfl) rfl rfl (by rfl) (by rfl) (fun K hK => ?_) (fun K hK => ?_); go_simp; have o0 := zdL W0 wr.heap.size F0.size; have F1 := F0.alloc (.cells #[] 40); have nl := F0.size; refine hK.out _ _ F1 ?_; clear hK K hS; try simp only [Act.put, zlQ, zlR, zlS]
      generalize World.alloc W0 (Obj.cells #[] 40) = W1 at o0 F1 ⊢; generalize W0.heap.size = e0 at o0 nl ⊢; have hS := F1; refine zd9 4 9 (by kernel_rfl) rfl rfl (by rfl) (by rfl) (fun K hK => ?_) (fun K hK => ?_)
      refine zay W1 _ _ 31 31 (by rfl) wr.heap.size 40 i0 _ 2 32 underlying31 aB ay ax aA rfl (by decide) (.slice (some ⟨e0, 0, none⟩) 0 0) 0 [] (by rfl) o0 (.slice A2 (j + 1) c2) (j + 1) ((o.take (j + 1)).flatMap zaI) (by rfl) (eK.out _ F1) (by unfold maxLen; omega) (by omega) F1.size ?_; intro v1 W2 an aK eG; rw [zmh, zmo] at an
      have F2 := F1.grown aK (fun q hq => .inr (by have hq : e0 = q := zmB hq; omega)); obtain ⟨a1, n1, k1, rfl⟩ := zab an; refine hK.out _ _ F2 ?_; clear hK K hS aK eG; try simp only [Act.put, zlQ, zlR, zlS]
      have hS := F2; refine zap 9 (by kernel_rfl) rfl (by rfl) (fun K hK => ?_); go_simp; have B9 : Blk (W2.alloc (.cells #[.string x.1, .string x.2] 40)) W2.heap.size 40 #[.string x.1, .string x.2] := zmS W2 40 _; have F3 := F2.alloc (.cells #[.string x.1, .string x.2] 40); have eA := World.ownsRow.alloc an (.cells #[.string x.1, .string x.2] 40); refine hK.out _ _ F3 ?_; clear hK K hS
      try simp only [Act.put, zlQ, zlR, zlS]
      generalize World.alloc W2 (Obj.cells #[.string x.1, .string x.2] 40) = W3 at B9 F3 eA ⊢; generalize W2.heap.size = g9 at B9 ⊢; have hS := F3; have OX := eA; have BX := B9
      rotate_left
      go_simp; have B9 : Blk (W1.alloc (.cells #[.string x.1, .string x.2] 40)) W1.heap.size 40 #[.string x.1, .string x.2] := zmS W1 40 _; have F2 := F1.alloc (.cells #[.string x.1, .string x.2] 40); have oX := World.ownsRow.alloc o0 (.cells #[.string x.1, .string x.2] 40); have eB : W1.heap.size ≠ e0 := fun e => by have h := zar o0 (k := e0) rfl; omega
      refine hK.out _ _ F2 ?_; clear hK K hS; try simp only [Act.put, zlQ, zlR, zlS]
      generalize World.alloc W1 (Obj.cells #[.string x.1, .string x.2] 40) = W2 at B9 F2 oX ⊢; generalize W1.heap.size = g9 at B9 eB ⊢; have hS := F2; refine zap 4 (by kernel_rfl) rfl (by rfl) (fun K hK => ?_)
      refine zay W2 _ _ 31 31 (by rfl) wr.heap.size 40 i0 _ 2 32 underlying31 aB ay ax aA rfl (by decide) (.slice (some ⟨e0, 0, none⟩) 0 0) 0 [] (by rfl) oX (.slice A2 (j + 1) c2) (j + 1) ((o.take (j + 1)).flatMap zaI) (by rfl) (eK.out _ F2) (by unfold maxLen; omega) (by omega) F2.size ?_; intro v1 W3 an aK eG; rw [zmh, zmo] at an
      have F3 := F2.grown aK (fun q hq => .inr (by have hq : e0 = q := zmB hq; omega)); have lJ := B9.grown aK (fun e => eB (zmB e)); obtain ⟨a1, n1, k1, rfl⟩ := zab an; refine hK.out _ _ F3 ?_; clear hK K hS aK eG; try simp only [Act.put, zlQ, zlR, zlS]
      have hS := F3; have OX := an; have BX := lJ
      rotate_left
      go_simp; have B9 : Blk (W0.alloc (.cells #[.string x.1, .string x.2] 40)) W0.heap.size 40 #[.string x.1, .string x.2] := zmS W0 40 _; have F1 := F0.alloc (.cells #[.string x.1, .string x.2] 40); refine hK.out _ _ F1 ?_; clear hK K hS; try simp only [Act.put, zlQ, zlR, zlS]
      generalize World.alloc W0 (Obj.cells #[.string x.1, .string x.2] 40) = W1 at B9 F1 ⊢; generalize W0.heap.size = g9 at B9 ⊢; have hS := F1; refine zap 0 (by kernel_rfl) rfl (by rfl) (fun K hK => ?_); go_simp; have o0 := zdL W1 wr.heap.size F1.size; have F2 := F1.alloc (.cells #[] 40); have nl := F1.size; have eB : g9 ≠ W1.heap.size := Nat.ne_of_lt B9.lt
      have lJ := B9.alloc (.cells #[] 40); refine hK.out _ _ F2 ?_; clear hK K hS; try simp only [Act.put, zlQ, zlR, zlS]
      generalize World.alloc W1 (Obj.cells #[] 40) = W2 at o0 F2 lJ ⊢; generalize W1.heap.size = e0 at o0 nl eB ⊢; have hS := F2; refine zap 4 (by kernel_rfl) rfl (by rfl) (fun K hK => ?_)
      refine zay W2 _ _ 31 31 (by rfl) wr.heap.size 40 i0 _ 2 32 underlying31 aB ay ax aA rfl (by decide) (.slice (some ⟨e0, 0, none⟩) 0 0) 0 [] (by rfl) o0 (.slice A2 (j + 1) c2) (j + 1) ((o.take (j + 1)).flatMap zaI) (by rfl) (eK.out _ F2) (by unfold maxLen; omega) (by omega) F2.size ?_; intro v1 W3 an aK eG; rw [zmh, zmo] at an
      have F3 := F2.grown aK (fun q hq => .inr (by have hq : e0 = q := zmB hq; omega)); have B9c := lJ.grown aK (fun e => eB (zmB e)); obtain ⟨a1, n1, k1, rfl⟩ := zab an; refine hK.out _ _ F3 ?_; clear hK K hS aK eG; try simp only [Act.put, zlQ, zlR, zlS]
      have hS := F3; have OX := an; have BX := B9c
      rotate_left
      all_goals
       refine zap 10 (by kernel_rfl) rfl (by rfl) (fun K hK => ?_)
       refine zay W3 _ _ 31 31 (by rfl) wr.heap.size 40 i0 _ 2 32 underlying31 aB ay ax aA rfl (by decide) (.slice a1 n1 k1) (j + 1) ((o.take (j + 1)).flatMap zaI) (by rfl) OX _ 1 (zaI x) (by rfl) (zaF (cs := zaI x) underlying31 BX rfl (by simp [zaI, Value.oneCell'])) (by unfold maxLen; omega) (by omega) F3.size ?_; intro v2 W4 af eE bn
       have F4 := F3.grown eE (fun q hq => .inr ((World.ownsRow.lt OX q hq).1)); obtain ⟨a2, n2, k2, rfl⟩ := zab af; refine hK.out _ _ F4 ?_; clear hK K hS eE bn; try simp only [Act.put, zlQ, zlR, zlS]
       have hS := F4; refine zaA 14 (by kernel_rfl) rfl (by kernel_rfl) (by rfl) (fun K hK => ?_)
       refine zay W4 _ _ 31 31 (by rfl) wr.heap.size 40 i0 _ 2 32 underlying31 aB ay ax aA rfl (by decide) (.slice a2 n2 k2) (j + 1 + 1) ((o.take (j + 1)).flatMap zaI ++ zaI x) (by rfl) af (.slice A3 (k - (j + 1)) (c2 - (j + 1))) (k - (j + 1)) ((o.drop (j + 1)).flatMap zaI) (by rfl) (jP.out _ F4) (by unfold maxLen; omega) (by omega) F4.size ?_; intro v3 W5 aE eD iJ
       have F5 := F4.grown eD (fun q hq => .inr ((World.ownsRow.lt af q hq).1)); obtain ⟨a3, n3, k3, rfl⟩ := zab aE; have aV : W5.ownsRow w.heap.size 40 2 (.slice a3 n3 k3) (k + 1) ((zaE (l.take (k + 1))).flatMap zaI) := by
        rw [jd.out, nW.out]; have e1 : j + 1 + 1 + (k - (j + 1)) = k + 1 := by omega
        rw [e1] at aE; have h := zah aE mR; simpa [zml, zl1] using h
       have dq := zlM aV; have iY := zlM (oa.out.same F5); refine hK.out _ _ ?_; clear hK K hS eD iJ aE aV; try simp only [Act.put, zlQ, zlR, zlS]
       refine zaA 15 (by kernel_rfl) rfl (by kernel_rfl) (by rfl) (fun K hK => ?_); go_simp; refine hK.out _ _ ?_; clear hK K; refine zbQ (by kernel_rfl) ?_ _; go_wp2; go_roundw
       case rel => exact ⟨k + 1, by omega, by go_num, dq, iY⟩
       case measure => simp [intOf]; omega
  ·go_wp2
   go_ret; obtain rfl : k = n := by omega
   have e : l.take k = l := zlV (by rw [HN.out]; exact zlY _); have h := HO.out; rw [e] at h; exact ⟨_, rfl, h, HF.out⟩
theorem zjA (w : World) : Calls prog 129 #[.int .i64 0] w (zgT (fun v w' => ∃ g, v = .agg #[.slice (some ⟨g, 0, none⟩) 0 0, .string ⟨#[]⟩, .slice none 0 0] /\ w'.ownsRow w.heap.size 108 2 (.slice (some ⟨g, 0, none⟩) 0 0) 0 []) w) := by
 obtain ⟨i0, aB, ay, ax, aA⟩ := info_parts zh0; have lZ : ∀ W : World, (Instr.makeSlice 115 (.int .i64 0) (.int .i64 0)).run prog W = .ok (.slice (some ⟨W.heap.size, 0, none⟩) 0 0) (W.alloc (.cells #[] 108)) := fun W => by
  have h := run_make (P := prog) W 115 108 i0 _ underlying115 aB ay .i64 .i64 0 0 (by omega) (by omega) (by omega) (by omega); simp [madeCells, ax, Array.range_zero'] at h; exact h
 go_enter func129, ntmps129; go_wp2_with fail
 simp [Exit.then, bodyPost, results, results129, go_sem]; refine ⟨_, rfl, ⟨w.heap.size + 1, rfl, ?_⟩, (((zmR _ w).alloc _).alloc _)⟩; have h := zmQ (base := w.heap.size) (e := 108) (size := 2) (w.alloc (.cells #[.slice (some ⟨w.heap.size + 1, 0, none⟩) 0 0, .string ⟨#[]⟩, .slice none 0 0] 117)) #[] 0 (by simp) (zlX _) rfl; simpa using h
theorem zkU (v : Value) (w : World) : Calls prog 67 #[v] w (zgT (fun v w' => ∃ g, v = .agg #[.slice (some ⟨g, 0, none⟩) 0 0, .string ⟨#[]⟩, .slice none 0 0] /\ w'.ownsRow w.heap.size 108 2 (.slice (some ⟨g, 0, none⟩) 0 0) 0 []) w) := by
 have hS := zjA (w.alloc (.cells #[.slice none 0 0, .string ⟨#[]⟩, .slice none 0 0] 119)); go_enter func67, ntmps67; go_wp2_with (refine hS.mono ?_; rintro r w1 ⟨v1, rfl, ⟨a, rfl, dN⟩, ag⟩; refine Hid.out ?_)
 have hB := (zmS w 119 #[.slice none 0 0, .string ⟨#[]⟩, .slice none 0 0]).fr ag (fun e => e); have k0 := hB.cell 0; have k1 := hB.cell 1; have k2 := hB.cell 2; have z0 := hB.frozen 0; have z1 := hB.frozen 1; have z2 := hB.frozen 2; simp at k0 k1 k2; have m1 := hB.set_ 0 (.slice (some ⟨a, 0, none⟩) 0 0); have m2 := m1.set_ 1 (.string ⟨#[]⟩); have m3 := m2.set_ 2 (.slice none 0 0)
 have e0 := m1.cell 0; have e1 := m2.cell 1; have e2 := m3.cell 2; simp only [List.size_toArray, zl4, zlQ, zlR, zlS, zl7, zl5, zl6] at e0 e1 e2; have HF := zlM ((((zmR (fun _ => False) w).alloc _).same ag)); have HB := zlM hB; clear hS ag hB m1 m2 m3
 refine zlM ?_; go_wp2_with fail
 simp [Exit.then, bodyPost, results, results67, go_sem, e0, e1, e2]; refine ⟨_, rfl, ⟨a, rfl, ?_⟩, ((HF.out.setCell (p := ⟨w.heap.size, 0, none⟩) (.inr (zlY _)) _).setCell (p := ⟨w.heap.size, 1, none⟩) (.inr (zlY _)) _).setCell (p := ⟨w.heap.size, 2, none⟩) (.inr (zlY _)) _⟩; have hO := zah dN (show w.heap.size <= _ by simp)
 exact zai (S := fun k => k = w.heap.size) hO (((Fr.at_ w1 w.heap.size 0 _).setCell (p := ⟨w.heap.size, 1, none⟩) (.inl rfl) _).setCell (p := ⟨w.heap.size, 2, none⟩) (.inl rfl) _) (fun g hg e => zak dN HB.out (by decide) (by rw [hg]; exact zmC some e))
end Go.Proofs.YtbkookiigkckdaaGreatDoor
