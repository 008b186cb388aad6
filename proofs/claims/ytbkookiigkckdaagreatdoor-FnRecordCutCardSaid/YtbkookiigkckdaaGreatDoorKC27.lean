/- Texts of this seat, merged and shortened. -/
import Derived.Test.YtbkookiigkckdaaGreatDoorKC26
set_option linter.unusedVariables false
set_option linter.unusedSimpArgs false
set_option maxRecDepth 100000
set_option maxHeartbeats 8000000
namespace Go.Proofs.YtbkookiigkckdaaGreatDoor
open Go.RowKit Go.Proofs.Tryz
theorem SameD.first {D E : Dat} (h : SameD D E) (n : Nat) : SameD (D.first n) (E.first n) := by
 obtain ⟨h0, h1, h2, h3, h4, h5, h6⟩ := h; refine ⟨?_, znb (List.take n) h1, znb (List.take n) h2, ?_, znb (List.take n) h4, znb (List.take n) h5, znb (List.take n) h6⟩
 ·show (D.ser.take n).map tos = (E.ser.take n).map tos
  rw [List.map_take, List.map_take, h0]
 ·show (D.exm.take n).map toe = (E.exm.take n).map toe
  rw [List.map_take, List.map_take, h3]
theorem SmallD.first {D : Dat} (h : SmallD D) (n : Nat) : SmallD (D.first n) :=
 ⟨⟨zm3 (List.take_sublist n _).length_le h.ser.1, fun s hs => h.ser.2 s (zni hs)⟩, zm3 (List.take_sublist n _).length_le h.smp, ⟨zm3 (List.take_sublist n _).length_le h.sto.1, fun s hs => h.sto.2 s (zni hs)⟩, ⟨zm3 (List.take_sublist n _).length_le h.exm.1, fun s hs => h.exm.2 s (zni hs)⟩, zm3 (List.take_sublist n _).length_le h.mta, zm3 (List.take_sublist n _).length_le h.mrk, ⟨zm3 (List.take_sublist n _).length_le h.his.1, fun s hs => h.his.2 s (zni hs)⟩⟩
theorem count_rp (D : Dat) (ps : Array Value) (w : World) (h : RP D ps w) (hs : SmallD D) : Calls prog 40 #[.agg ps] w (ziK D.count w) := by
 obtain ⟨A0, A1, A2, A3, A4, A5, A6, n0, n1, n2, n3, n4, n5, n6, c0, c1, c2, c3, c4, c5, c6, rfl⟩ := h.slices; obtain ⟨q, s0, s1, s2, s3, s4, s5, s6, e, rfl, hq⟩ := h; injection e with e; simp only [List.cons.injEq, and_true] at e; obtain ⟨rfl, rfl, rfl, rfl, rfl, rfl, rfl⟩ := e; obtain ⟨_, rfl, _⟩ := hq.ser.1.first (fun x => rfl) 0
 obtain ⟨_, rfl, _⟩ := hq.smp.first (fun x => rfl) 0
 obtain ⟨_, rfl, _⟩ := hq.sto.1.first (fun x => rfl) 0
 obtain ⟨_, rfl, _⟩ := hq.exm.1.first (fun x => rfl) 0
 obtain ⟨_, rfl, _⟩ := hq.mta.first (fun x => rfl) 0
 obtain ⟨_, rfl, _⟩ := hq.mrk.first (fun x => rfl) 0
 obtain ⟨_, rfl, _⟩ := hq.his.1.first (fun x => rfl) 0
 have e : q.dat.count = q.ser.length + q.smp.length + q.sto.length + q.exm.length + q.mta.length + q.mrk.length + q.his.length := by simp [Prt.dat, Dat.count]
 have b0 := hs.ser.1; have b1 := hs.smp; have b2 := hs.sto.1; have b3 := hs.exm.1; have b4 := hs.mta; have b5 := hs.mrk; have b6 := hs.his.1; simp only [Prt.dat, zmI] at b0 b1 b2 b3 b4 b5 b6; rw [e]; exact zcU A0 A1 A2 A3 A4 A5 A6 c0 c1 c2 c3 c4 c5 c6 _ _ _ _ _ _ _ _ (by omega) (by omega) (by omega) (by omega) (by omega) (by omega) (by omega) rfl w
theorem sl_cut {P : Nat -> Prop} {w : World} {A : Option Addr} {k c : Nat} {zs : List UInt8} (h : Sl P w (.slice A k c) 1 zs.length (bc zs)) (m : Nat) (hm : m <= zs.length) : Sl P w (.slice A m c) 1 (zs.take m).length (bc (zs.take m)) := by
 have hl : (zs.take m).length = m := by rw [zm7]; omega
 obtain ⟨A', c', e, _, hc, hr⟩ := h; injection e with e1 e2 e3; subst e1 e3; refine ⟨A, c, by rw [hl], by simp [bc, Lib.byteCells], by omega, fun h0 => ?_⟩; obtain ⟨g, off, hA, hP, aa⟩ := hr (by omega); refine ⟨g, off, hA, hP, fun i u hu => aa i u ?_⟩; rw [zec, List.getElem?_take] at hu; rw [zec]; split at hu
 ·exact hu
 ·cases hu
theorem zdf {P : Program} {ops : Array Oper} {Q : Exit -> Act -> World -> Prop} {md : Region.Mode} {S : World -> Prop} {c : Nat} (i : Nat) {oi : Oper} {fuel : Nat} {ah : Array Bool} {a : Act} {w : World} (hi : ops[i]? = some oi)
 (hs : Region.noSelect ops = true) (hf : Region.free md ops ah i = true) (hr : (Region.ready md ops ah).contains i = true) (hic : (i == c) = false)
 (hQ : ∀ c a w, Q (.panic c) (a.put oi.dst undef) w -> Q (.panic c) a w) (hw : Region.wanted oi (yielded ops a.tmps) = false) (hS : S w)
 (h : zcV P md ops Q S c fuel (ah.setIfInBounds i true) (a.put oi.dst undef) w) : zcV P md ops Q S c (fuel + 1) ah a w :=
 zgf hi (Region.noSelect_spec hs) hQ (by simpa using hic) fuel ah a w (Region.free_spec hi hf) (fun _ => hS) (by simpa using hr) (.inr ⟨hw, rfl⟩) h
theorem zcN (k bD av : Nat) (hk : 1 + (bD : Int) % 10 = (k : Int)) (hc : bD < 256) (hav : av < 65536) (fD fq : Prop) (A0 A1 A2 A3 A4 A5 A6 : Option Addr) (c0 c1 c2 c3 c4 c5 c6 n0 n1 n2 n3 n4 n5 n6 : Nat) (w : World) (te : TypeId) (pe : Value) (D1 D2 : Dat) (L : Value -> World -> Prop) (zs : List UInt8)
 (hE : w.cell? ⟨2, 0, none⟩ = some (.iface te pe))
 (iK : ∀ W, Fr (fun _ => False) w W -> Calls prog 34 #[.agg #[.slice A0 n0 c0, .slice A1 n1 c1, .slice A2 n2 c2, .slice A3 n3 c3, .slice A4 n4 c4, .slice A5 n5 c5, .slice A6 n6 c6]] W (zav fq W))
 (h30 : fq -> ∀ W, Fr (fun _ => False) w W -> Calls prog 30 #[.int .i64 k, .agg #[.slice A0 n0 c0, .slice A1 n1 c1, .slice A2 n2 c2, .slice A3 n3 c3, .slice A4 n4 c4, .slice A5 n5 c5, .slice A6 n6 c6]] W (zav fD W))
 (h29 : fq -> fD -> ∀ m, zcP k (zs.take m) D1) (kf : fq -> fD -> zs.length <= 1073741824) (mh : fq -> fD -> SmallD D1)
 (qc : ∀ u V, L u V -> ∃ A m c, u = .slice A m c)
 (h31 : fq -> fD -> ∀ W, Fr (fun _ => False) w W -> Calls prog 31 #[.int .i64 k, .agg #[.slice A0 n0 c0, .slice A1 n1 c1, .slice A2 n2 c2, .slice A3 n3 c3, .slice A4 n4 c4, .slice A5 n5 c5, .slice A6 n6 c6], .slice none 0 0] W (zbO L W zs))
 (h33 : fq -> fD -> ∀ W, Fr (fun _ => False) w W -> Calls prog 33 #[.int .i64 k, .agg #[.slice A0 n0 c0, .slice A1 n1 c1, .slice A2 n2 c2, .slice A3 n3 c3, .slice A4 n4 c4, .slice A5 n5 c5, .slice A6 n6 c6]] W (fun r w' => ∃ ps, r = .returned (.agg ps) /\ RP D2 ps w' /\ Fr (fun _ => False) W w'))
 (h32 : fq -> fD -> ∀ n W ps qs, RP (D1.first n) ps W -> RP (D2.first n) qs W -> Calls prog 32 #[.agg ps, .agg qs] W (zap W)) :
 Calls prog 10 #[.int .u8 bD, .agg #[.slice A0 n0 c0, .slice A1 n1 c1, .slice A2 n2 c2, .slice A3 n3 c3, .slice A4 n4 c4, .slice A5 n5 c5, .slice A6 n6 c6], .int .u16 av] w (zap w) := by
 have HEW : Hid (∀ W, Fr (fun _ => False) w W -> W.cell? ⟨2, 0, none⟩ = some (.iface te pe)) := zmk (fun W hF => by rw [hF.cell (p := ⟨2, 0, none⟩) (zmr w _ hE) (fun e => e)]; exact hE); have HA : Hid (∀ W, Fr (fun _ => False) w W -> Calls prog 28 #[] W (zap W)) := zmk (fun W hF => zgz te pe W (HEW.out W hF))
 have HK : Hid (∀ W, Calls prog 35 #[.int .u8 bD] W (ziK (k : Int) W)) := zmk (fun W => by have := zhk bD hc W; rwa [hk] at this); have H34 := zmk iK; have H30 := zmk h30; have H29 := zmk h29; have H31 := zmk h31; have H33 := zmk h33; have H32 := zmk h32; have HLS := zmk qc; have HZS := zmk kf; have HCN := zmk mh
 clear iK h30 h29 h31 h33 h32 qc hE hk hc kf mh; go_enter func10, ntmps10; have HB := zmk (znr w 54 #[.slice A0 n0 c0, .slice A1 n1 c1, .slice A2 n2 c2, .slice A3 n3 c3, .slice A4 n4 c4, .slice A5 n5 c5, .slice A6 n6 c6])
 have jX := zmk ((znq (fun _ => False) w).alloc (.cells #[.slice A0 n0 c0, .slice A1 n1 c1, .slice A2 n2 c2, .slice A3 n3 c3, .slice A4 n4 c4, .slice A5 n5 c5, .slice A6 n6 c6] 54)); go_wp2_with (go_at_call 34; refine (H34.out _ jX.out).mono ?_; rintro r w1 ⟨b, rfl, hb, hf⟩; refine Hid.out ?_)
 have cd := zmk (jX.out.same hf); have oc := zmk hb; have cD := zmk (HB.out.fr hf (fun e => e)); clear hb hf HB; rcases b with _ | _
 ·refine zmk ?_
  go_wp2; go_ret; exact ⟨rfl, cd.out⟩
 have ik : Hid fq := zmk (oc.out.1 (by first | rfl | trivial)); obtain ⟨y0, y1, y2, y3, y4, y5, y6⟩ := zah cD.out; refine zmk ?_
 go_wp2_with (first
  | (go_at_call 35; refine (HK.out _).mono ?_; rintro r w2 ⟨rfl, hf⟩; clear y0 y1 y2 y3 y4 y5 y6; have bg := zmk (cd.out.same hf); have cM := zmk (cD.out.fr hf (fun e => e)); clear hf cD; obtain ⟨y0, y1, y2, y3, y4, y5, y6⟩ := zah cM.out)
  | (go_at_call 30; refine (H30.out ik.out _ bg.out).mono ?_; rintro r w4 ⟨b, rfl, hb, hf⟩; refine Hid.out ?_))
 have iT := zmk (bg.out.same hf); have rP := zmk (cM.out.fr hf (fun e => e)); have HBC := zmk hb; clear hb hf cM y0 y1 y2 y3 y4 y5 y6; obtain ⟨y0, y1, y2, y3, y4, y5, y6⟩ := zah rP.out; rcases b with _ | _
 ·refine zmk ?_
  go_wp2_with (go_at_call 28; refine (HA.out _ iT.out).mono ?_; rintro r w5 ⟨rfl, hf⟩)
  go_ret; exact ⟨rfl, iT.out.same hf⟩
 have gn : Hid fD := zmk (HBC.out.1 (by first | rfl | trivial)); refine zmk ?_; go_wp2_with (go_at_call 31; refine (H31.out ik.out gn.out _ iT.out).mono ?_; rintro r w5 ⟨bv, lv, rfl, hL, ab, hf⟩; refine Hid.out ?_)
 obtain ⟨b1, b2, b3, rfl⟩ := HLS.out lv w5 hL; obtain ⟨d1, d3, rfl⟩ := zaa ab; have hz := HZS.out ik.out gn.out; have hd3 : zs.length <= d3 := by obtain ⟨_, _, e, _, h, _⟩ := znt ab; injection e with _ _ e; rwa [e]
 obtain ⟨zl, oT⟩ := exE zs.length; have HO := zmk ab; rw [oT] at hz hd3 ⊢; obtain ⟨m, hm⟩ := exE (av % (zl + 1)); have jv : m <= zl := by rw [<- hm]; have := Nat.mod_lt av (show 0 < zl + 1 by omega); omega
 have HM1 : Hid (m <= zs.length) := zmk (by omega); have hmod : (av : Int).tmod ((zl : Int) + 1) = (m : Int) := by have h := Int.natCast_emod av (zl + 1); rw [Int.natCast_add] at h; rw [<- hm, Int.tmod_eq_emod_of_nonneg (Int.natCast_nonneg av)]; exact h.symm
 have bB : ((zl : Int) + 1 == 0) = false := by simp; omega
 clear y0 y1 y2 y3 y4 y5 y6; have cu := zmk (rP.out.fr hf (fun e => e)); have jg := zmk (iT.out.same hf); clear hf hL ab; refine zmk ?_; go_wp2_with (go_at_call 29; refine (H29.out ik.out gn.out m te pe _ _ w5 (sl_cut (znt HO.out) m HM1.out) (fun g hg => zas HO.out hg) (HEW.out w5 jg.out)).mono ?_; rintro r w6 ⟨ps, okb, D', rfl, pn, hD', hf⟩; refine Hid.out ?_)
 obtain ⟨E0, E1, E2, E3, E4, E5, E6, l0, l1, l2, l3, l4, l5, l6, e0, e1, e2, e3, e4, e5, e6, rfl⟩ := pn.slices; have oE := zmk ((jg.out.same hf).alloc (.cells #[.slice E0 l0 e0, .slice E1 l1 e1, .slice E2 l2 e2, .slice E3 l3 e3, .slice E4 l4 e4, .slice E5 l5 e5, .slice E6 l6 e6] 54))
 have HB6 := zmk ((cu.out.fr hf (fun e => e)).alloc (.cells #[.slice E0 l0 e0, .slice E1 l1 e1, .slice E2 l2 e2, .slice E3 l3 e3, .slice E4 l4 e4, .slice E5 l5 e5, .slice E6 l6 e6] 54)); have qT := zmk (znr w6 54 #[.slice E0 l0 e0, .slice E1 l1 e1, .slice E2 l2 e2, .slice E3 l3 e3, .slice E4 l4 e4, .slice E5 l5 e5, .slice E6 l6 e6])
 have jd := zmk (pn.fr ((znq (fun _ => False) w6).alloc (.cells #[.slice E0 l0 e0, .slice E1 l1 e1, .slice E2 l2 e2, .slice E3 l3 e3, .slice E4 l4 e4, .slice E5 l5 e5, .slice E6 l6 e6] 54))); have hcD : SmallD D' := by rw [hD']; exact (HCN.out ik.out gn.out).first _
 have HCD := zmk hcD; have HDD := zmk hD'; clear hf pn cu jg HO hcD hD' hmod bB jv hm oT hz hd3; generalize hV : w6.alloc (.cells #[.slice E0 l0 e0, .slice E1 l1 e1, .slice E2 l2 e2, .slice E3 l3 e3, .slice E4 l4 e4, .slice E5 l5 e5, .slice E6 l6 e6] 54) = V at oE HB6 qT jd
 have HK : Hid (∀ w', Fr (fun _ => False) V w' -> (w'.cell? ⟨w.heap.size, 0, none⟩ = some (.slice A0 n0 c0) /\ w'.cell? ⟨w.heap.size, 1, none⟩ = some (.slice A1 n1 c1) /\ w'.cell? ⟨w.heap.size, 2, none⟩ = some (.slice A2 n2 c2) /\ w'.cell? ⟨w.heap.size, 3, none⟩ = some (.slice A3 n3 c3) /\ w'.cell? ⟨w.heap.size, 4, none⟩ = some (.slice A4 n4 c4) /\ w'.cell? ⟨w.heap.size, 5, none⟩ = some (.slice A5 n5 c5) /\ w'.cell? ⟨w.heap.size, 6, none⟩ = some (.slice A6 n6 c6) /\ w'.cell? ⟨w6.heap.size, 0, none⟩ = some (.slice E0 l0 e0) /\ w'.cell? ⟨w6.heap.size, 1, none⟩ = some (.slice E1 l1 e1) /\ w'.cell? ⟨w6.heap.size, 2, none⟩ = some (.slice E2 l2 e2) /\ w'.cell? ⟨w6.heap.size, 3, none⟩ = some (.slice E3 l3 e3) /\ w'.cell? ⟨w6.heap.size, 4, none⟩ = some (.slice E4 l4 e4) /\ w'.cell? ⟨w6.heap.size, 5, none⟩ = some (.slice E5 l5 e5) /\ w'.cell? ⟨w6.heap.size, 6, none⟩ = some (.slice E6 l6 e6))) := zmk (fun w' hF => by
  obtain ⟨a0, a1, a2, a3, a4, a5, a6⟩ := zah (HB6.out.fr hF (fun e => e)); obtain ⟨b0, b1, b2, b3, b4, b5, b6⟩ := zah (qT.out.fr hF (fun e => e))
  exact ⟨a0, a1, a2, a3, a4, a5, a6, b0, b1, b2, b3, b4, b5, b6⟩)
 have FD : Hid (Fr (fun _ => False) V V.drew) := zmk (znq _ V).drew; rcases okb with _ | _
 ·refine zmk ?_
  go_wp2; have mixed : prog.follows .mixedOrders = true := by kernel_rfl
  refine zaT (fun w' => Fr (fun _ => False) V w') 15 mixed FD.out (fun hS => ?_); refine zaq 0 (by kernel_rfl) rfl (by kernel_rfl) (fun K hK => ?_); go_simp; refine (HA.out _ (oE.out.same hS)).mono ?_; rintro r w8 ⟨rfl, cA⟩; have F8 := FD.out.same cA; refine hK.out _ _ F8 ?_; clear hK K hS; try simp only [Act.put, zmo, zmp, zmq]
  have hS := F8; refine wpT 1 (.bool true) rfl (by intro w; go_simp) hS ?_; try simp only [Act.put, zmo, zmp, zmq]
  refine wpT 2 (.bool false) rfl (by intro w; go_simp) hS ?_; try simp only [Act.put, zmo, zmp, zmq]
  refine wpT 3 (.bool true) rfl (by intro w; go_simp) hS ?_; try simp only [Act.put, zmo, zmp, zmq]
  refine wpT 4 (.bool true) rfl (by intro w; go_simp) hS ?_; try simp only [Act.put, zmo, zmp, zmq]
  refine zdf 5 rfl (by kernel_rfl) (by kernel_rfl) (by kernel_rfl) (by kernel_rfl) (fun _ _ _ h => h) (by kernel_rfl) hS ?_; try simp only [Act.put, zmo, zmp, zmq]
  refine zdf 6 rfl (by kernel_rfl) (by kernel_rfl) (by kernel_rfl) (by kernel_rfl) (fun _ _ _ h => h) (by kernel_rfl) hS ?_; try simp only [Act.put, zmo, zmp, zmq]
  refine zdf 7 rfl (by kernel_rfl) (by kernel_rfl) (by kernel_rfl) (by kernel_rfl) (fun _ _ _ h => h) (by kernel_rfl) hS ?_; try simp only [Act.put, zmo, zmp, zmq]
  refine zdf 8 rfl (by kernel_rfl) (by kernel_rfl) (by kernel_rfl) (by kernel_rfl) (fun _ _ _ h => h) (by kernel_rfl) hS ?_; try simp only [Act.put, zmo, zmp, zmq]
  refine zdf 9 rfl (by kernel_rfl) (by kernel_rfl) (by kernel_rfl) (by kernel_rfl) (fun _ _ _ h => h) (by kernel_rfl) hS ?_; try simp only [Act.put, zmo, zmp, zmq]
  refine zdf 10 rfl (by kernel_rfl) (by kernel_rfl) (by kernel_rfl) (by kernel_rfl) (fun _ _ _ h => h) (by kernel_rfl) hS ?_; try simp only [Act.put, zmo, zmp, zmq]
  refine zdf 11 rfl (by kernel_rfl) (by kernel_rfl) (by kernel_rfl) (by kernel_rfl) (fun _ _ _ h => h) (by kernel_rfl) hS ?_; try simp only [Act.put, zmo, zmp, zmq]
  refine zdf 12 rfl (by kernel_rfl) (by kernel_rfl) (by kernel_rfl) (by kernel_rfl) (fun _ _ _ h => h) (by kernel_rfl) hS ?_; try simp only [Act.put, zmo, zmp, zmq]
  refine wpT 13 (.bool true) rfl (by intro w; go_simp) hS ?_; try simp only [Act.put, zmo, zmp, zmq]
  refine wpT 14 (.bool true) rfl (by intro w; go_simp) hS ?_; try simp only [Act.put, zmo, zmp, zmq]
  refine zay 15 (by kernel_rfl) rfl (by kernel_rfl) (by kernel_rfl) (fun K hK => ?_); go_simp; refine hK.out _ _ ?_; clear hK K; refine zbC (by kernel_rfl) ?_ _; go_wp2; go_ret; exact ⟨rfl, oE.out.same F8⟩
 ·refine zmk ?_
  go_wp2
  go_region_held3 (fun w' => w'.cell? ⟨w.heap.size, 0, none⟩ = some (.slice A0 n0 c0) /\ w'.cell? ⟨w.heap.size, 1, none⟩ = some (.slice A1 n1 c1) /\ w'.cell? ⟨w.heap.size, 2, none⟩ = some (.slice A2 n2 c2) /\ w'.cell? ⟨w.heap.size, 3, none⟩ = some (.slice A3 n3 c3) /\ w'.cell? ⟨w.heap.size, 4, none⟩ = some (.slice A4 n4 c4) /\ w'.cell? ⟨w.heap.size, 5, none⟩ = some (.slice A5 n5 c5) /\ w'.cell? ⟨w.heap.size, 6, none⟩ = some (.slice A6 n6 c6) /\ w'.cell? ⟨w6.heap.size, 0, none⟩ = some (.slice E0 l0 e0) /\ w'.cell? ⟨w6.heap.size, 1, none⟩ = some (.slice E1 l1 e1) /\ w'.cell? ⟨w6.heap.size, 2, none⟩ = some (.slice E2 l2 e2) /\ w'.cell? ⟨w6.heap.size, 3, none⟩ = some (.slice E3 l3 e3) /\ w'.cell? ⟨w6.heap.size, 4, none⟩ = some (.slice E4 l4 e4) /\ w'.cell? ⟨w6.heap.size, 5, none⟩ = some (.slice E5 l5 e5) /\ w'.cell? ⟨w6.heap.size, 6, none⟩ = some (.slice E6 l6 e6))
  ((first | exact HK.out _ G5.out | exact HK.out _ G4.out | exact HK.out _ G3.out | exact HK.out _ G2.out | exact HK.out _ G1.out | exact HK.out _ FD.out | go_keep))
  ((first
    | (go_at_call 28; refine (HA.out _ (oE.out.same FD.out)).mono ?_; rintro r1 v1 ⟨rfl, hf⟩; have G1 := zmk (FD.out.same hf); clear hf)
    | (go_at_call 33; refine (H33.out ik.out gn.out _ (oE.out.same G1.out)).mono ?_; rintro r2 v2 ⟨qs, rfl, hq, hf⟩; obtain ⟨X0, X1, X2, X3, X4, X5, X6, j0, j1, j2, j3, j4, j5, j6, i0, i1, i2, i3, i4, i5, i6, rfl⟩ := hq.slices; have G2 := zmk (G1.out.same hf); have GQ := zmk hq; clear hf hq)
    | (go_at_call 40; refine (count_rp D' _ _ (jd.out.fr G2.out) HCD.out).mono ?_; rintro r3 v3 ⟨rfl, hf⟩; have G3 := zmk (G2.out.same hf); have GQ3 := zmk (GQ.out.fr hf); clear hf)
    | (go_at_call 39; refine (first_rp D2 _ _ _ GQ3.out).mono ?_; rintro r4 v4 ⟨zs4, rfl, hq, hf⟩; obtain ⟨Y0, Y1, Y2, Y3, Y4, Y5, Y6, x0, x1, x2, x3, x4, x5, x6, z0, z1, z2, z3, z4, z5, z6, rfl⟩ := hq.slices; have G4 := zmk (G3.out.same hf); have GR := zmk hq; clear hf hq)
    | (go_at_call 32; refine (H32.out ik.out gn.out D'.count _ _ _ (HDD.out ▸ jd.out.fr G4.out) GR.out).mono ?_; rintro r5 v5 ⟨rfl, hf⟩; have G5 := zmk (G4.out.same hf); clear hf)))
  all_goals
   go_wp2; go_ret; exact ⟨rfl, oE.out.same G5.out⟩
def zeU (L : Value -> World -> Prop) (p0 p1 p3 p4 p5 p6 : Value) (w : World) (r : Ending) (w' : World) : Prop :=
 ∃ v, r = .returned (.agg #[p0, p1, v, p3, p4, p5, p6]) /\ (∃ A m c, v = .slice A m c) /\ L v w' /\ Fr (fun _ => False) w w'
theorem zcW : (∀ (_ : True) (kind : Int) (hk : kind = 2 ∨ kind = 3 ∨ kind = 5) (p0 p1 p2 p3 p4 p5 p6 : Value) (L : Value -> World -> Prop) (w : World)
 (au : ∀ s ∈ [p0, p1, p2, p3, p4, p5, p6], ∃ A m c, s = .slice A m c)
 (hL : ∀ v W W', L v W -> Fr (fun k => ∃ cs, Blk W k 54 cs) W W' -> L v W')
 (hc : ∀ W, Fr (fun _ => False) w W -> Calls prog 105 #[p2] W (fun r w' => ∃ v, r = .returned v /\ (∃ A m c, v = .slice A m c) /\ L v w' /\ Fr (fun _ => False) W w')),
 Calls prog 33 #[.int .i64 kind, .agg #[p0, p1, p2, p3, p4, p5, p6]] w (zeU L p0 p1 p3 p4 p5 p6 w)) /\ (∀ (_ : True) (kind : Int) (hk : kind = 1 ∨ kind = 4 ∨ kind = 6 ∨ kind = 9 ∨ kind = 10) (p0 p1 p2 p3 p4 p5 p6 : Value) (L : Value -> World -> Prop) (w : World)
 (au : ∀ s ∈ [p0, p1, p2, p3, p4, p5, p6], ∃ A m c, s = .slice A m c)
 (hL : ∀ v W W', L v W -> Fr (fun k => ∃ cs, Blk W k 54 cs) W W' -> L v W')
 (hc : ∀ W, Fr (fun _ => False) w W -> Calls prog 105 #[p2] W (fun r w' => ∃ v, r = .returned v /\ (∃ A m c, v = .slice A m c) /\ L v w' /\ Fr (fun _ => False) W w')),
 Calls prog 33 #[.int .i64 kind, .agg #[p0, p1, p2, p3, p4, p5, p6]] w (zeU L p0 p1 p3 p4 p5 p6 w)) := by
 refine ⟨fun ag kind hk p0 p1 p2 p3 p4 p5 p6 L w au hL hc => ?_, fun bY kind hk p0 p1 p2 p3 p4 p5 p6 L w au hL hc => ?_⟩; all_goals
  obtain ⟨A0, m0, c0, rfl⟩ := au p0 (by simp); obtain ⟨A1, m1, c1, rfl⟩ := au p1 (by simp); obtain ⟨A2, m2, c2, rfl⟩ := au p2 (by simp); obtain ⟨A3, m3, c3, rfl⟩ := au p3 (by simp); obtain ⟨A4, m4, c4, rfl⟩ := au p4 (by simp); obtain ⟨A5, m5, c5, rfl⟩ := au p5 (by simp); obtain ⟨A6, m6, c6, rfl⟩ := au p6 (by simp); have HC := zmk hc; have HL := zmk hL; clear au hc hL
  first | (guard_hyp ag; rcases hk with rfl | rfl | rfl) | (rcases hk with rfl | rfl | rfl | rfl | rfl)
  all_goals
   go_enter func33, ntmps33; go_wp2_with (go_at_call 105; refine Hid.out ?_)
   have lr := (znr w 54 #[.slice A0 m0 c0, .slice A1 m1 c1, .slice A2 m2 c2, .slice A3 m3 c3, .slice A4 m4 c4, .slice A5 m5 c5, .slice A6 m6 c6]).alloc (.cells zib 54); have aw := zaK w (.cells #[.slice A0 m0 c0, .slice A1 m1 c1, .slice A2 m2 c2, .slice A3 m3 c3, .slice A4 m4 c4, .slice A5 m5 c5, .slice A6 m6 c6] 54) 54 zib
   have gl : Fr (fun _ => False) w ((w.alloc (.cells #[.slice A0 m0 c0, .slice A1 m1 c1, .slice A2 m2 c2, .slice A3 m3 c3, .slice A4 m4 c4, .slice A5 m5 c5, .slice A6 m6 c6] 54)).alloc (.cells zib 54)) := ((znq _ w).alloc _).alloc _; unfold zib at lr aw gl
   generalize World.alloc _ (Obj.cells #[.slice none 0 0, .slice none 0 0, .slice none 0 0, .slice none 0 0, .slice none 0 0, .slice none 0 0, .slice none 0 0] 54) = W at lr aw gl ⊢; refine zmk ?_; refine (HC.out W gl).mono ?_; rintro r w1 ⟨v, rfl, ⟨Av, mv, cv, rfl⟩, qb, ai⟩; have fY := lr.fr ai (fun e => e); have iZ := aw.fr ai (fun e => e); have dE := gl.same ai
   have D0 := fY.set_ 2 (.slice Av mv cv); have ke : Blk (w1.setCell ⟨w.heap.size, 2, none⟩ (.slice Av mv cv)) w.heap.size 54 #[.slice A0 m0 c0, .slice A1 m1 c1, .slice Av mv cv, .slice A3 m3 c3, .slice A4 m4 c4, .slice A5 m5 c5, .slice A6 m6 c6] := by simpa using D0
   have D1 := iZ.far (p := ⟨w.heap.size, 2, none⟩) (by show w.heap.size + 1 ≠ w.heap.size; omega) (.slice Av mv cv); have y2 := fY.cell 2; have z2 := fY.frozen 2; simp at y2; have FD := dE.setCell (p := ⟨w.heap.size, 2, none⟩) (.inr (zmw _)) (.slice Av mv cv)
   have LD := HL.out _ _ (w1.setCell ⟨w.heap.size, 2, none⟩ (.slice Av mv cv)) qb ((znq _ w1).setCell (p := ⟨w.heap.size, 2, none⟩) (.inl ⟨_, fY⟩) _); have iV := zmk ke; have aT := zmk D1; have iS := zmk FD; have qZ := zmk LD; obtain ⟨x0, x1, x2, x3, x4, x5, x6⟩ := zah ke; obtain ⟨u0, u1, u2, u3, u4, u5, u6⟩ := zah D1; have t0 := D1.frozen 0
   have t1 := D1.frozen 1; have t2 := D1.frozen 2; have t3 := D1.frozen 3; have t4 := D1.frozen 4; have t5 := D1.frozen 5; have t6 := D1.frozen 6; clear lr aw gl ai fY iZ dE D0 ke D1 FD LD qb; go_wp2_with fail
   have g7 := zfi (.slice A0 m0 c0) (.slice A1 m1 c1) (.slice Av mv cv) (.slice A3 m3 c3) (.slice A4 m4 c4) (.slice A5 m5 c5) (.slice A6 m6 c6) aT.out; have F7 := zdQ (.slice A0 m0 c0) (.slice A1 m1 c1) (.slice Av mv cv) (.slice A3 m3 c3) (.slice A4 m4 c4) (.slice A5 m5 c5) (.slice A6 m6 c6) iS.out (b := w.heap.size + 1) (.inr (by omega))
   have V7 := zdQ (.slice A0 m0 c0) (.slice A1 m1 c1) (.slice Av mv cv) (.slice A3 m3 c3) (.slice A4 m4 c4) (.slice A5 m5 c5) (.slice A6 m6 c6) (znq (fun k => ∃ cs, Blk (w1.setCell ⟨w.heap.size, 2, none⟩ (.slice Av mv cv)) k 54 cs) (w1.setCell ⟨w.heap.size, 2, none⟩ (.slice Av mv cv))) (b := w.heap.size + 1) (.inl ⟨_, aT.out⟩); have L7 := HL.out _ _ _ qZ.out V7
   generalize (World.setCell (World.setCell _ _ _) ⟨w.heap.size + 1, 6, none⟩ _) = w7 at g7 F7 L7 ⊢; obtain ⟨q0, q1, q2, q3, q4, q5, q6⟩ := zah g7; have lF := zmk F7; have rb := zmk L7; clear F7 L7 V7 g7 x0 x1 x2 x3 x4 x5 x6 u0 u1 u2 u3 u4 u5 u6 t0 t1 t2 t3 t4 t5 t6; simp [Exit.then, bodyPost, results, results33, go_sem, q0, q1, q2, q3, q4, q5, q6]
   exact ⟨_, rfl, ⟨_, _, _, rfl⟩, rb.out, lF.out⟩
theorem zfk : type_of% (zcW.1 trivial) := zcW.1 trivial
theorem zc3 : type_of% (zcW.2 trivial) := zcW.2 trivial
theorem slices7 {A0 A1 A2 A3 A4 A5 A6 : Option Addr} {m0 m1 m2 m3 m4 m5 m6 c0 c1 c2 c3 c4 c5 c6 : Nat} : ∀ s ∈ [Value.slice A0 m0 c0, .slice A1 m1 c1, .slice A2 m2 c2, .slice A3 m3 c3, .slice A4 m4 c4, .slice A5 m5 c5, .slice A6 m6 c6], ∃ A m c, s = .slice A m c := by
 intro s hs; simp only [zmY, List.mem_nil_iff, or_false] at hs; rcases hs with rfl | rfl | rfl | rfl | rfl | rfl | rfl <;> exact ⟨_, _, _, rfl⟩
theorem zjJ (kind : Int) (hk : kind = 7 ∨ kind = 8) (p0 p1 p2 p3 p4 p5 p6 : Value) (L L6 : Value -> World -> Prop) (w : World)
 (au : ∀ s ∈ [p0, p1, p2, p3, p4, p5, p6], ∃ A m c, s = .slice A m c)
 (hL : ∀ v W W', L v W -> Fr (fun k => ∃ cs, Blk W k 54 cs) W W' -> L v W')
 (hc : ∀ W, Fr (fun _ => False) w W -> Calls prog 105 #[p2] W (fun r w' => ∃ v, r = .returned v /\ (∃ A m c, v = .slice A m c) /\ L v w' /\ Fr (fun _ => False) W w'))
 (km : ∀ v W W', L6 v W -> Fr (fun k => ∃ cs, Blk W k 54 cs) W W' -> L6 v W')
 (h36 : ∀ W, Fr (fun _ => False) w W -> Calls prog 36 #[p6, .bool false] W (fun r w' => ∃ v, r = .returned v /\ (∃ A m c, v = .slice A m c) /\ L6 v w' /\ Fr (fun _ => False) W w')) :
 Calls prog 33 #[.int .i64 kind, .agg #[p0, p1, p2, p3, p4, p5, p6]] w (fun r w' => ∃ v v6, r = .returned (.agg #[p0, p1, v, p3, p4, p5, v6]) /\ (∃ A m c, v = .slice A m c) /\ (∃ A m c, v6 = .slice A m c) /\ L v w' /\ L6 v6 w' /\ Fr (fun _ => False) w w') := by
 obtain ⟨A0, m0, c0, rfl⟩ := au p0 (by simp); obtain ⟨A1, m1, c1, rfl⟩ := au p1 (by simp); obtain ⟨A2, m2, c2, rfl⟩ := au p2 (by simp); obtain ⟨A3, m3, c3, rfl⟩ := au p3 (by simp); obtain ⟨A4, m4, c4, rfl⟩ := au p4 (by simp); obtain ⟨A5, m5, c5, rfl⟩ := au p5 (by simp); obtain ⟨A6, m6, c6, rfl⟩ := au p6 (by simp); have HC := zmk hc; have HL := zmk hL; have oD := zmk km
 have H36 := zmk h36; clear au hc hL km h36; rcases hk with rfl | rfl; all_goals
  go_enter func33, ntmps33; go_wp2_with (go_at_call 105; refine Hid.out ?_)
  have lr := (znr w 54 #[.slice A0 m0 c0, .slice A1 m1 c1, .slice A2 m2 c2, .slice A3 m3 c3, .slice A4 m4 c4, .slice A5 m5 c5, .slice A6 m6 c6]).alloc (.cells zib 54); have aw := zaK w (.cells #[.slice A0 m0 c0, .slice A1 m1 c1, .slice A2 m2 c2, .slice A3 m3 c3, .slice A4 m4 c4, .slice A5 m5 c5, .slice A6 m6 c6] 54) 54 zib
  have gl : Fr (fun _ => False) w ((w.alloc (.cells #[.slice A0 m0 c0, .slice A1 m1 c1, .slice A2 m2 c2, .slice A3 m3 c3, .slice A4 m4 c4, .slice A5 m5 c5, .slice A6 m6 c6] 54)).alloc (.cells zib 54)) := ((znq _ w).alloc _).alloc _; unfold zib at lr aw gl
  generalize World.alloc _ (Obj.cells #[.slice none 0 0, .slice none 0 0, .slice none 0 0, .slice none 0 0, .slice none 0 0, .slice none 0 0, .slice none 0 0] 54) = W at lr aw gl ⊢; refine zmk ?_; refine (HC.out W gl).mono ?_; rintro r w1 ⟨v, rfl, ⟨Av, mv, cv, rfl⟩, qb, ai⟩; have fY := lr.fr ai (fun e => e); have iZ := aw.fr ai (fun e => e); have dE := gl.same ai
  have D0 := fY.set_ 2 (.slice Av mv cv); have ke : Blk (w1.setCell ⟨w.heap.size, 2, none⟩ (.slice Av mv cv)) w.heap.size 54 #[.slice A0 m0 c0, .slice A1 m1 c1, .slice Av mv cv, .slice A3 m3 c3, .slice A4 m4 c4, .slice A5 m5 c5, .slice A6 m6 c6] := by simpa using D0
  have D1 := iZ.far (p := ⟨w.heap.size, 2, none⟩) (by show w.heap.size + 1 ≠ w.heap.size; omega) (.slice Av mv cv); have y2 := fY.cell 2; have z2 := fY.frozen 2; simp at y2; have FD := dE.setCell (p := ⟨w.heap.size, 2, none⟩) (.inr (zmw _)) (.slice Av mv cv)
  have LD := HL.out _ _ (w1.setCell ⟨w.heap.size, 2, none⟩ (.slice Av mv cv)) qb ((znq _ w1).setCell (p := ⟨w.heap.size, 2, none⟩) (.inl ⟨_, fY⟩) _); have iV := zmk ke; have aT := zmk D1; have iS := zmk FD; have qZ := zmk LD; obtain ⟨x0, x1, x2, x3, x4, x5, x6⟩ := zah ke; clear lr aw gl ai fY iZ dE D0 ke D1 FD LD qb
  go_wp2_with (go_at_call 36; refine Hid.out ?_)
  clear x0 x1 x2 x3 x4 x5 x6 y2 z2; generalize World.setCell w1 ⟨w.heap.size, 2, none⟩ (.slice Av mv cv) = W2 at iV aT iS qZ ⊢; refine zmk ?_; refine (H36.out W2 iS.out).mono ?_; rintro r w3 ⟨v6, rfl, ⟨Aw, mw, cw, rfl⟩, qe, bJ⟩; have fY := iV.out.fr bJ (fun e => e); have iZ := aT.out.fr bJ (fun e => e); have iH := iS.out.same bJ
  have qa := HL.out _ _ _ qZ.out (bJ.mono (S' := fun k => ∃ cs, Blk W2 k 54 cs) (fun _ _ e => e.elim)); have D0 := fY.set_ 6 (.slice Aw mw cw); have ke : Blk (w3.setCell ⟨w.heap.size, 6, none⟩ (.slice Aw mw cw)) w.heap.size 54 #[.slice A0 m0 c0, .slice A1 m1 c1, .slice Av mv cv, .slice A3 m3 c3, .slice A4 m4 c4, .slice A5 m5 c5, .slice Aw mw cw] := by simpa using D0
  have D1 := iZ.far (p := ⟨w.heap.size, 6, none⟩) (by show w.heap.size + 1 ≠ w.heap.size; omega) (.slice Aw mw cw); have y6 := fY.cell 6; have z6 := fY.frozen 6; simp at y6; have VS : Fr (fun k => ∃ cs, Blk w3 k 54 cs) w3 (w3.setCell ⟨w.heap.size, 6, none⟩ (.slice Aw mw cw)) := (znq _ w3).setCell (p := ⟨w.heap.size, 6, none⟩) (.inl ⟨_, fY⟩) _; have GD0 := zmk ke; have GD1 := zmk D1
  have GF := zmk (iH.setCell (p := ⟨w.heap.size, 6, none⟩) (.inr (zmw _)) (.slice Aw mw cw)); have GL := zmk (HL.out _ _ _ qa VS); have GL6 := zmk (oD.out _ _ _ qe VS); obtain ⟨x0, x1, x2, x3, x4, x5, x6⟩ := zah ke; obtain ⟨u0, u1, u2, u3, u4, u5, u6⟩ := zah D1; have t0 := D1.frozen 0; have t1 := D1.frozen 1; have t2 := D1.frozen 2; have t3 := D1.frozen 3
  have t4 := D1.frozen 4; have t5 := D1.frozen 5; have t6 := D1.frozen 6; clear bJ fY iZ iH D0 ke D1 VS qa qe iV aT iS qZ; go_wp2_with fail
  have g7 := zfi (.slice A0 m0 c0) (.slice A1 m1 c1) (.slice Av mv cv) (.slice A3 m3 c3) (.slice A4 m4 c4) (.slice A5 m5 c5) (.slice Aw mw cw) GD1.out; have F7 := zdQ (.slice A0 m0 c0) (.slice A1 m1 c1) (.slice Av mv cv) (.slice A3 m3 c3) (.slice A4 m4 c4) (.slice A5 m5 c5) (.slice Aw mw cw) GF.out (b := w.heap.size + 1) (.inr (by omega))
  have V7 := zdQ (.slice A0 m0 c0) (.slice A1 m1 c1) (.slice Av mv cv) (.slice A3 m3 c3) (.slice A4 m4 c4) (.slice A5 m5 c5) (.slice Aw mw cw) (znq (fun k => ∃ cs, Blk (w3.setCell ⟨w.heap.size, 6, none⟩ (.slice Aw mw cw)) k 54 cs) (w3.setCell ⟨w.heap.size, 6, none⟩ (.slice Aw mw cw))) (b := w.heap.size + 1) (.inl ⟨_, GD1.out⟩); have L7 := HL.out _ _ _ GL.out V7
  have L76 := oD.out _ _ _ GL6.out V7; generalize (World.setCell (World.setCell _ _ _) ⟨w.heap.size + 1, 6, none⟩ _) = w7 at g7 F7 L7 L76 ⊢; obtain ⟨q0, q1, q2, q3, q4, q5, q6⟩ := zah g7; have lF := zmk F7; have rb := zmk L7; have HL76 := zmk L76; clear F7 L7 L76 V7 g7 x0 x1 x2 x3 x4 x5 x6 u0 u1 u2 u3 u4 u5 u6 t0 t1 t2 t3 t4 t5 t6
  simp [Exit.then, bodyPost, results, results33, go_sem, q0, q1, q2, q3, q4, q5, q6]; exact ⟨_, _, ⟨rfl, rfl⟩, ⟨_, _, _, rfl⟩, ⟨_, _, _, rfl⟩, rb.out, HL76.out, lF.out⟩
def wrD (k : Nat) (D : Dat) : Dat := { D with sto := (zbY D.sto).map one, his := if k = 7 ∨ k = 8 then D.his.filter (fun s => !za7 s) else D.his }
theorem zhm (c : Bool) (l : List (Rhs × Hsl)) : (l.filter (zbD c)).map Prod.fst = (l.map Prod.fst).filter (fun s => za7 s == c) := by
 rw [List.filter_map]; rfl
theorem zia : (fun s => za7 s == false) = (fun s => !za7 s) := by funext s; cases za7 s <;> rfl
theorem zbv (k : Nat) (hk : k = 1 ∨ k = 2 ∨ k = 3 ∨ k = 4 ∨ k = 5 ∨ k = 6 ∨ k = 7 ∨ k = 8 ∨ k = 9 ∨ k = 10) (q : Prt) (s0 s1 s2 s3 s4 s5 s6 : Value) (w : World) (hq : q.At Yes w s0 s1 s2 s3 s4 s5 s6) (hl : q.sto.length <= 4096) (aP : ∀ p ∈ q.sto, p.1.ivs.length <= 4096) (hh : q.his.length <= 1048576) :
 Calls prog 33 #[.int .i64 k, .agg #[s0, s1, s2, s3, s4, s5, s6]] w (fun r w' => ∃ ps, r = .returned (.agg ps) /\ RP (wrD k q.dat) ps w' /\ Fr (fun _ => False) w w') := by
 have au : ∀ s ∈ [s0, s1, s2, s3, s4, s5, s6], ∃ A m c, s = .slice A m c := by
  obtain ⟨A0, c0, rfl⟩ := hq.ser.1.shape; obtain ⟨A1, c1, rfl⟩ := hq.smp.shape; obtain ⟨A2, c2, rfl⟩ := hq.sto.1.shape; obtain ⟨A3, c3, rfl⟩ := hq.exm.1.shape; obtain ⟨A4, c4, rfl⟩ := hq.mta.shape; obtain ⟨A5, c5, rfl⟩ := hq.mrk.shape; obtain ⟨A6, c6, rfl⟩ := hq.his.1.shape; exact slices7
 have hL : ∀ v W W', (∃ lo, lo.map Prod.fst = (zbY (q.sto.map Prod.fst)).map one /\ OwnS w.heap.size 151 281 W v lo) -> Fr (fun k => ∃ cs, Blk W k 54 cs) W W' -> (∃ lo, lo.map Prod.fst = (zbY (q.sto.map Prod.fst)).map one /\ OwnS w.heap.size 151 281 W' v lo) := by
  rintro v W W' ⟨lo, hm, ho⟩ hf; refine ⟨lo, hm, zaj ho.1 hf ?_, fun p hp => zaj (ho.2 p hp) hf ?_⟩
  ·rintro g hg ⟨cs, hb⟩; exact zak ho.1 hb (by decide) hg
  ·rintro g hg ⟨cs, hb⟩; exact zak (ho.2 p hp) hb (by decide) hg
 have fp : ∀ W, Fr (fun _ => False) w W -> Calls prog 105 #[s2] W (fun r w' => ∃ v, r = .returned v /\ (∃ A m c, v = .slice A m c) /\ (∃ lo, lo.map Prod.fst = (zbY (q.sto.map Prod.fst)).map one /\ OwnS w.heap.size 151 281 w' v lo) /\ Fr (fun _ => False) W w') := by
  intro W hF; refine (flat_any Yes _ q.sto W (hq.sto.fr hF (fun _ _ e => e)) hl aP).mono ?_; rintro r w' ⟨v, lo, rfl, hm, ho, hf⟩; obtain ⟨a, k, rfl⟩ := zaa ho.1; exact ⟨_, rfl, ⟨_, _, _, rfl⟩, ⟨lo, hm, OwnS.mono ho hF.size⟩, hf⟩
 have fin : ∀ {k : Nat} (hk7 : ¬ (k = 7 ∨ k = 8)) (r : Ending) (w' : World), zeU (fun v W => ∃ lo, lo.map Prod.fst = (zbY (q.sto.map Prod.fst)).map one /\ OwnS w.heap.size 151 281 W v lo) s0 s1 s3 s4 s5 s6 w r w' -> ∃ ps, r = .returned (.agg ps) /\ RP (wrD k q.dat) ps w' /\ Fr (fun _ => False) w w' := by
  rintro k hk7 r w' ⟨v, rfl, _, ⟨lo, hm, ho⟩, hf⟩; have dD := hq.fr hf (fun _ _ e => e); refine ⟨_, rfl, ⟨⟨q.ser, q.smp, lo, q.exm, q.mta, q.mrk, q.his⟩, _, _, _, _, _, _, _, rfl, ?_, dD.ser, dD.smp, ho.sl.yes, dD.exm, dD.mta, dD.mrk, dD.his⟩, hf⟩; simp only [Prt.dat, wrD, hm, znh hk7]
 by_cases h7 : k = 7 ∨ k = 8
 ·have h36 : ∀ W, Fr (fun _ => False) w W -> Calls prog 36 #[s6, .bool false] W (fun r w' => ∃ v, r = .returned v /\ (∃ A m c, v = .slice A m c) /\ (w'.ownsRow w.heap.size 194 15 v (q.his.filter (zbD false)).length ((q.his.filter (zbD false)).flatMap hsc)) /\ Fr (fun _ => False) W w') := by
   intro W hF; refine (zfx false Yes _ q.his W (hq.his.fr hF (fun _ _ e => e)) hh).mono ?_; rintro r w' ⟨v, rfl, ho, hf⟩; obtain ⟨a, k, rfl⟩ := zaa ho; exact ⟨_, rfl, ⟨_, _, _, rfl⟩, zai ho hF.size, hf⟩
  refine (zjJ k (by rcases h7 with rfl | rfl <;> decide) s0 s1 s2 s3 s4 s5 s6 _ (fun v W => W.ownsRow w.heap.size 194 15 v (q.his.filter (zbD false)).length ((q.his.filter (zbD false)).flatMap hsc)) w au hL fp (fun v W W' ho hf => zaj ho hf (fun g hg => by rintro ⟨cs, hb⟩; exact zak ho hb (by decide) hg)) h36).mono ?_; rintro r w' ⟨v, v6, rfl, _, _, ⟨lo, hm, ho⟩, ho6, hf⟩
  have dD := hq.fr hf (fun _ _ e => e); refine ⟨_, rfl, ⟨⟨q.ser, q.smp, lo, q.exm, q.mta, q.mrk, q.his.filter (zbD false)⟩, _, _, _, _, _, _, _, rfl, ?_, dD.ser, dD.smp, ho.sl.yes, dD.exm, dD.mta, dD.mrk, (znt ho6).yes, fun p hp => dD.his.2 p (zmZ.1 hp).1⟩, hf⟩; simp only [Prt.dat, wrD, hm, if_pos h7, zhm, zia]
 ·rcases hk with rfl | rfl | rfl | rfl | rfl | rfl | rfl | rfl | rfl | rfl
  ·exact (zc3 1 (by decide) s0 s1 s2 s3 s4 s5 s6 _ w au hL fp).mono (fin h7)
  ·exact (zfk 2 (by decide) s0 s1 s2 s3 s4 s5 s6 _ w au hL fp).mono (fin h7)
  ·exact (zfk 3 (by decide) s0 s1 s2 s3 s4 s5 s6 _ w au hL fp).mono (fin h7)
  ·exact (zc3 4 (by decide) s0 s1 s2 s3 s4 s5 s6 _ w au hL fp).mono (fin h7)
  ·exact (zfk 5 (by decide) s0 s1 s2 s3 s4 s5 s6 _ w au hL fp).mono (fin h7)
  ·exact (zc3 6 (by decide) s0 s1 s2 s3 s4 s5 s6 _ w au hL fp).mono (fin h7)
  ·exact absurd (.inl rfl) h7
  ·exact absurd (.inr rfl) h7
  ·exact (zc3 9 (by decide) s0 s1 s2 s3 s4 s5 s6 _ w au hL fp).mono (fin h7)
  ·exact (zc3 10 (by decide) s0 s1 s2 s3 s4 s5 s6 _ w au hL fp).mono (fin h7)
theorem zhA (l : List Lab) (hu : l.Pairwise (fun a b => a.1 ≠ b.1)) : zaG (zaG l) = zaG l := by
 obtain ⟨h1, h2⟩ := zbW ltL zc9 zcC zcB l; have kJ : (zaG l).Pairwise (fun a b => a.1 ≠ b.1) := h2.symm.pairwise hu (fun h e => h e.symm); exact (zgm (zaG l) (zaG l) (List.Perm.refl _) h1 kJ).symm
theorem flatS_le (l : List Ston) (m : Nat) (h : ∀ s ∈ l, s.ivs.length <= m) : (zbY l).length <= l.length * m := by
 induction l with
 | nil => exact zmv _
 | cons s l ih =>
   have h1 := ih (fun x hx => h x (znk _ hx)); have h2 := h s (zne ..); have e : zbY (s :: l) = zeS s ++ zbY l := rfl; have e2 : (zeS s).length = s.ivs.length := by unfold zeS; rw [zmI]
   rw [e, zml, e2, zmC, Nat.succ_mul]; omega
theorem zf9 {h : Hst} (hs : h.total <= 60) : h.few 1099511627776 := by
 unfold Hst.total at hs; exact ⟨by omega, by omega, by omega, by omega, by omega, by omega, by omega⟩
theorem same_1 (q : Prt) (h1 : q.ser.length + q.smp.length + q.sto.length + q.exm.length + q.mta.length + q.mrk.length + q.his.length <= 12) (h2 : q.ser.length + q.smp.length + q.sto.length + q.exm.length + q.mta.length + q.mrk.length + q.his.length = q.ser.length) (h3 : ∀ p ∈ q.ser, LabOk p.1.labs 8 300) :
 SameD { Dat.none with ser := (q.ser.map Prod.fst).map fun s => ⟨s.ref, zaG s.labs⟩ } (wrD 1 q.dat) /\ SmallD { Dat.none with ser := (q.ser.map Prod.fst).map fun s => ⟨s.ref, zaG s.labs⟩ } /\ SmallD (wrD 1 q.dat) := by
 obtain ⟨a0, a1, a2, a3, a4, a5, a6⟩ := q; simp only [] at h1 h2 h3; obtain rfl : a1 = [] := zmM (by omega); obtain rfl : a2 = [] := zmM (by omega); obtain rfl : a3 = [] := zmM (by omega); obtain rfl : a4 = [] := zmM (by omega); obtain rfl : a5 = [] := zmM (by omega)
 obtain rfl : a6 = [] := zmM (by omega); simp only [znd, zmP, znn] at h1; have hid : ((a0.map Prod.fst).map fun s => (⟨s.ref, zaG s.labs⟩ : Ser)).map tos = (a0.map Prod.fst).map tos := by
  rw [zno]; refine List.map_congr_left fun s hs => ?_; obtain ⟨p, hp, rfl⟩ := zmQ.1 hs; have := zhA p.1.labs (h3 p hp).2.2; simp only [Function.comp, tos, this]
 have sm1 : ∀ s ∈ ((a0.map Prod.fst).map fun s => (⟨s.ref, zaG s.labs⟩ : Ser)), s.labs.length <= 1048576 := fun s hs => by
  obtain ⟨x, hx, rfl⟩ := zmQ.1 hs; obtain ⟨p, hp, rfl⟩ := zmQ.1 hx; have h5 := (h3 p hp).1; show (zaG p.1.labs).length <= _; rw [za2]; omega
 have sm2 : ∀ s ∈ a0.map Prod.fst, s.labs.length <= 1048576 := fun s hs => by
  obtain ⟨p, hp, rfl⟩ := zmQ.1 hs; have h5 := (h3 p hp).1; omega
 refine ⟨?_, ?_, ?_⟩
 ·exact ⟨hid, rfl, rfl, rfl, rfl, rfl, rfl⟩
 ·exact ⟨⟨by simp only [zmI]; omega, sm1⟩, zmv _, ⟨zmv _, fun s hs => by cases hs⟩, ⟨zmv _, fun s hs => by cases hs⟩, zmv _, zmv _, ⟨zmv _, fun s hs => by cases hs⟩⟩
 ·exact ⟨⟨by show (a0.map Prod.fst).length <= _; rw [zmI]; omega, sm2⟩, zmv _, ⟨zmv _, fun s hs => by cases hs⟩, ⟨zmv _, fun s hs => by cases hs⟩, zmv _, zmv _, ⟨zmv _, fun s hs => by cases hs⟩⟩
theorem same_4 (q : Prt) (h1 : q.ser.length + q.smp.length + q.sto.length + q.exm.length + q.mta.length + q.mrk.length + q.his.length <= 12) (h2 : q.ser.length + q.smp.length + q.sto.length + q.exm.length + q.mta.length + q.mrk.length + q.his.length = q.exm.length) (h3 : ∀ p ∈ q.exm, LabOk p.1.labs 8 300) :
 SameD { Dat.none with exm := (q.exm.map Prod.fst).map fun s => ⟨s.ref, s.t, s.v, zaG s.labs⟩ } (wrD 4 q.dat) /\ SmallD { Dat.none with exm := (q.exm.map Prod.fst).map fun s => ⟨s.ref, s.t, s.v, zaG s.labs⟩ } /\ SmallD (wrD 4 q.dat) := by
 obtain ⟨a0, a1, a2, a3, a4, a5, a6⟩ := q; simp only [] at h1 h2 h3; obtain rfl : a0 = [] := zmM (by omega); obtain rfl : a1 = [] := zmM (by omega); obtain rfl : a2 = [] := zmM (by omega); obtain rfl : a4 = [] := zmM (by omega); obtain rfl : a5 = [] := zmM (by omega)
 obtain rfl : a6 = [] := zmM (by omega); simp only [znd, zmP, znn] at h1; have hid : ((a3.map Prod.fst).map fun s => (⟨s.ref, s.t, s.v, zaG s.labs⟩ : Exm)).map toe = (a3.map Prod.fst).map toe := by
  rw [zno]; refine List.map_congr_left fun s hs => ?_; obtain ⟨p, hp, rfl⟩ := zmQ.1 hs; have := zhA p.1.labs (h3 p hp).2.2; simp only [Function.comp, toe, this]
 have sm1 : ∀ s ∈ ((a3.map Prod.fst).map fun s => (⟨s.ref, s.t, s.v, zaG s.labs⟩ : Exm)), s.labs.length <= 1048576 := fun s hs => by
  obtain ⟨x, hx, rfl⟩ := zmQ.1 hs; obtain ⟨p, hp, rfl⟩ := zmQ.1 hx; have h5 := (h3 p hp).1; show (zaG p.1.labs).length <= _; rw [za2]; omega
 have sm2 : ∀ s ∈ a3.map Prod.fst, s.labs.length <= 1048576 := fun s hs => by
  obtain ⟨p, hp, rfl⟩ := zmQ.1 hs; have h5 := (h3 p hp).1; omega
 refine ⟨?_, ?_, ?_⟩
 ·exact ⟨rfl, rfl, rfl, hid, rfl, rfl, rfl⟩
 ·exact ⟨⟨zmv _, fun s hs => by cases hs⟩, zmv _, ⟨zmv _, fun s hs => by cases hs⟩, ⟨by simp only [zmI]; omega, sm1⟩, zmv _, zmv _, ⟨zmv _, fun s hs => by cases hs⟩⟩
 ·exact ⟨⟨zmv _, fun s hs => by cases hs⟩, zmv _, ⟨zmv _, fun s hs => by cases hs⟩, ⟨by show (a3.map Prod.fst).length <= _; rw [zmI]; omega, sm2⟩, zmv _, zmv _, ⟨zmv _, fun s hs => by cases hs⟩⟩
theorem same_2 (q : Prt) (h1 : q.ser.length + q.smp.length + q.sto.length + q.exm.length + q.mta.length + q.mrk.length + q.his.length <= 12) (h2 : q.ser.length + q.smp.length + q.sto.length + q.exm.length + q.mta.length + q.mrk.length + q.his.length = q.smp.length) :
 SameD { Dat.none with smp := q.smp } (wrD 2 q.dat) /\ SmallD { Dat.none with smp := q.smp } /\ SmallD (wrD 2 q.dat) := by
 obtain ⟨a0, a1, a2, a3, a4, a5, a6⟩ := q; simp only [] at h1 h2; obtain rfl : a0 = [] := zmM (by omega); obtain rfl : a2 = [] := zmM (by omega); obtain rfl : a3 = [] := zmM (by omega); obtain rfl : a4 = [] := zmM (by omega); obtain rfl : a5 = [] := zmM (by omega)
 obtain rfl : a6 = [] := zmM (by omega); simp only [znd, zmP, znn] at h1
 exact ⟨⟨rfl, rfl, rfl, rfl, rfl, rfl, rfl⟩, ⟨⟨zmv _, fun s hs => by cases hs⟩, by show a1.length <= _; omega, ⟨zmv _, fun s hs => by cases hs⟩, ⟨zmv _, fun s hs => by cases hs⟩, zmv _, zmv _, ⟨zmv _, fun s hs => by cases hs⟩⟩, ⟨⟨zmv _, fun s hs => by cases hs⟩, by show a1.length <= _; omega, ⟨zmv _, fun s hs => by cases hs⟩, ⟨zmv _, fun s hs => by cases hs⟩, zmv _, zmv _, ⟨zmv _, fun s hs => by cases hs⟩⟩⟩
theorem same_5 (q : Prt) (h1 : q.ser.length + q.smp.length + q.sto.length + q.exm.length + q.mta.length + q.mrk.length + q.his.length <= 12) (h2 : q.ser.length + q.smp.length + q.sto.length + q.exm.length + q.mta.length + q.mrk.length + q.his.length = q.mrk.length) :
 SameD { Dat.none with mrk := q.mrk } (wrD 5 q.dat) /\ SmallD { Dat.none with mrk := q.mrk } /\ SmallD (wrD 5 q.dat) := by
 obtain ⟨a0, a1, a2, a3, a4, a5, a6⟩ := q; simp only [] at h1 h2; obtain rfl : a0 = [] := zmM (by omega); obtain rfl : a1 = [] := zmM (by omega); obtain rfl : a2 = [] := zmM (by omega); obtain rfl : a3 = [] := zmM (by omega); obtain rfl : a4 = [] := zmM (by omega)
 obtain rfl : a6 = [] := zmM (by omega); simp only [znd, zmP, znn] at h1
 exact ⟨⟨rfl, rfl, rfl, rfl, rfl, rfl, rfl⟩, ⟨⟨zmv _, fun s hs => by cases hs⟩, zmv _, ⟨zmv _, fun s hs => by cases hs⟩, ⟨zmv _, fun s hs => by cases hs⟩, zmv _, by show a5.length <= _; omega, ⟨zmv _, fun s hs => by cases hs⟩⟩, ⟨⟨zmv _, fun s hs => by cases hs⟩, zmv _, ⟨zmv _, fun s hs => by cases hs⟩, ⟨zmv _, fun s hs => by cases hs⟩, zmv _, by show a5.length <= _; omega, ⟨zmv _, fun s hs => by cases hs⟩⟩⟩
theorem same_6 (q : Prt) (h1 : q.ser.length + q.smp.length + q.sto.length + q.exm.length + q.mta.length + q.mrk.length + q.his.length <= 12) (h2 : q.ser.length + q.smp.length + q.sto.length + q.exm.length + q.mta.length + q.mrk.length + q.his.length = q.mta.length) :
 SameD { Dat.none with mta := q.mta } (wrD 6 q.dat) /\ SmallD { Dat.none with mta := q.mta } /\ SmallD (wrD 6 q.dat) := by
 obtain ⟨a0, a1, a2, a3, a4, a5, a6⟩ := q; simp only [] at h1 h2; obtain rfl : a0 = [] := zmM (by omega); obtain rfl : a1 = [] := zmM (by omega); obtain rfl : a2 = [] := zmM (by omega); obtain rfl : a3 = [] := zmM (by omega); obtain rfl : a5 = [] := zmM (by omega)
 obtain rfl : a6 = [] := zmM (by omega); simp only [znd, zmP, znn] at h1
 exact ⟨⟨rfl, rfl, rfl, rfl, rfl, rfl, rfl⟩, ⟨⟨zmv _, fun s hs => by cases hs⟩, zmv _, ⟨zmv _, fun s hs => by cases hs⟩, ⟨zmv _, fun s hs => by cases hs⟩, by show a4.length <= _; omega, zmv _, ⟨zmv _, fun s hs => by cases hs⟩⟩, ⟨⟨zmv _, fun s hs => by cases hs⟩, zmv _, ⟨zmv _, fun s hs => by cases hs⟩, ⟨zmv _, fun s hs => by cases hs⟩, by show a4.length <= _; omega, zmv _, ⟨zmv _, fun s hs => by cases hs⟩⟩⟩
theorem same_3 (q : Prt) (h1 : q.ser.length + q.smp.length + q.sto.length + q.exm.length + q.mta.length + q.mrk.length + q.his.length <= 12) (h2 : q.ser.length + q.smp.length + q.sto.length + q.exm.length + q.mta.length + q.mrk.length + q.his.length = q.sto.length) (h3 : ∀ p ∈ q.sto, p.1.ivs.length <= 6) :
 SameD { Dat.none with sto := (zbY (q.sto.map Prod.fst)).map one } (wrD 3 q.dat) /\ SmallD { Dat.none with sto := (zbY (q.sto.map Prod.fst)).map one } /\ SmallD (wrD 3 q.dat) := by
 obtain ⟨a0, a1, a2, a3, a4, a5, a6⟩ := q; simp only [] at h1 h2 h3; obtain rfl : a0 = [] := zmM (by omega); obtain rfl : a1 = [] := zmM (by omega); obtain rfl : a3 = [] := zmM (by omega); obtain rfl : a4 = [] := zmM (by omega); obtain rfl : a5 = [] := zmM (by omega)
 obtain rfl : a6 = [] := zmM (by omega); simp only [znd, zmP, znn] at h1; have bN := flatS_le (a2.map Prod.fst) 6 (fun s hs => by obtain ⟨p, hp, rfl⟩ := zmQ.1 hs; exact h3 p hp); rw [zmI] at bN; have b1 : ((zbY (a2.map Prod.fst)).map one).length <= 1099511627776 := by rw [zmI]; omega
 have b2 : ∀ s ∈ (zbY (a2.map Prod.fst)).map one, s.ivs.length <= 1099511627776 := fun s hs => by
  obtain ⟨x, _, rfl⟩ := zmQ.1 hs; show 1 <= _; omega
 exact ⟨⟨rfl, rfl, rfl, rfl, rfl, rfl, rfl⟩, ⟨⟨zmv _, fun s hs => by cases hs⟩, zmv _, ⟨b1, b2⟩, ⟨zmv _, fun s hs => by cases hs⟩, zmv _, zmv _, ⟨zmv _, fun s hs => by cases hs⟩⟩, ⟨⟨zmv _, fun s hs => by cases hs⟩, zmv _, ⟨b1, b2⟩, ⟨zmv _, fun s hs => by cases hs⟩, zmv _, zmv _, ⟨zmv _, fun s hs => by cases hs⟩⟩⟩
theorem same_7 (q : Prt) (h1 : q.ser.length + q.smp.length + q.sto.length + q.exm.length + q.mta.length + q.mrk.length + q.his.length <= 12) (h2 : q.ser.length + q.smp.length + q.sto.length + q.exm.length + q.mta.length + q.mrk.length + q.his.length = q.his.length) (h3 : ∀ p ∈ q.his, zb5 false p.1.h) :
 SameD { Dat.none with his := (q.his.map Prod.fst).filter (fun s => !za7 s) } (wrD 7 q.dat) /\ SmallD { Dat.none with his := (q.his.map Prod.fst).filter (fun s => !za7 s) } /\ SmallD (wrD 7 q.dat) := by
 obtain ⟨a0, a1, a2, a3, a4, a5, a6⟩ := q; simp only [] at h1 h2 h3; obtain rfl : a0 = [] := zmM (by omega); obtain rfl : a1 = [] := zmM (by omega); obtain rfl : a2 = [] := zmM (by omega); obtain rfl : a3 = [] := zmM (by omega); obtain rfl : a4 = [] := zmM (by omega)
 obtain rfl : a5 = [] := zmM (by omega); simp only [znd, zmP, znn] at h1; have e : (wrD 7 (Prt.dat ⟨[], [], [], [], [], [], a6⟩)).his = (a6.map Prod.fst).filter (fun s => !za7 s) := by simp only [wrD, Prt.dat]; rfl
 have e0 : (a6.map Prod.fst).filter (fun s => !za7 s) = (a6.map Prod.fst).filter (fun s => !za7 s) := rfl; have b1 : ((a6.map Prod.fst).filter (fun s => !za7 s)).length <= 1099511627776 := by have := znj (fun s => !za7 s) (a6.map Prod.fst); rw [zmI] at this; omega
 have b2 : ∀ s ∈ (a6.map Prod.fst).filter (fun s => !za7 s), s.h.few 1099511627776 := fun s hs => by
  obtain ⟨p, hp, rfl⟩ := zmQ.1 (zmZ.1 hs).1; exact zf9 (h3 p hp).1
 rw [e0]
 refine ⟨⟨rfl, rfl, rfl, rfl, rfl, rfl, e.symm⟩, ⟨⟨zmv _, fun s hs => by cases hs⟩, zmv _, ⟨zmv _, fun s hs => by cases hs⟩, ⟨zmv _, fun s hs => by cases hs⟩, zmv _, zmv _, ⟨b1, b2⟩⟩, ⟨⟨zmv _, fun s hs => by cases hs⟩, zmv _, ⟨zmv _, fun s hs => by cases hs⟩, ⟨zmv _, fun s hs => by cases hs⟩, zmv _, zmv _, ⟨by rw [e]; exact b1, fun s hs => b2 s (by rw [e] at hs; exact hs)⟩⟩⟩
theorem same_8 (q : Prt) (h1 : q.ser.length + q.smp.length + q.sto.length + q.exm.length + q.mta.length + q.mrk.length + q.his.length <= 12) (h2 : q.ser.length + q.smp.length + q.sto.length + q.exm.length + q.mta.length + q.mrk.length + q.his.length = q.his.length) (h3 : ∀ p ∈ q.his, zb5 true p.1.h) :
 SameD { Dat.none with his := (q.his.map Prod.fst).filter (fun s => !za7 s) } (wrD 8 q.dat) /\ SmallD { Dat.none with his := (q.his.map Prod.fst).filter (fun s => !za7 s) } /\ SmallD (wrD 8 q.dat) := by
 obtain ⟨a0, a1, a2, a3, a4, a5, a6⟩ := q; simp only [] at h1 h2 h3; obtain rfl : a0 = [] := zmM (by omega); obtain rfl : a1 = [] := zmM (by omega); obtain rfl : a2 = [] := zmM (by omega); obtain rfl : a3 = [] := zmM (by omega); obtain rfl : a4 = [] := zmM (by omega)
 obtain rfl : a5 = [] := zmM (by omega); simp only [znd, zmP, znn] at h1; have e : (wrD 8 (Prt.dat ⟨[], [], [], [], [], [], a6⟩)).his = (a6.map Prod.fst).filter (fun s => !za7 s) := by simp only [wrD, Prt.dat]; rfl
 have e0 : (a6.map Prod.fst).filter (fun s => !za7 s) = (a6.map Prod.fst).filter (fun s => !za7 s) := rfl; have b1 : ((a6.map Prod.fst).filter (fun s => !za7 s)).length <= 1099511627776 := by have := znj (fun s => !za7 s) (a6.map Prod.fst); rw [zmI] at this; omega
 have b2 : ∀ s ∈ (a6.map Prod.fst).filter (fun s => !za7 s), s.h.few 1099511627776 := fun s hs => by
  obtain ⟨p, hp, rfl⟩ := zmQ.1 (zmZ.1 hs).1; exact zf9 (h3 p hp).1
 rw [e0]
 refine ⟨⟨rfl, rfl, rfl, rfl, rfl, rfl, e.symm⟩, ⟨⟨zmv _, fun s hs => by cases hs⟩, zmv _, ⟨zmv _, fun s hs => by cases hs⟩, ⟨zmv _, fun s hs => by cases hs⟩, zmv _, zmv _, ⟨b1, b2⟩⟩, ⟨⟨zmv _, fun s hs => by cases hs⟩, zmv _, ⟨zmv _, fun s hs => by cases hs⟩, ⟨zmv _, fun s hs => by cases hs⟩, zmv _, zmv _, ⟨by rw [e]; exact b1, fun s hs => b2 s (by rw [e] at hs; exact hs)⟩⟩⟩
theorem same_9 (q : Prt) (h1 : q.ser.length + q.smp.length + q.sto.length + q.exm.length + q.mta.length + q.mrk.length + q.his.length <= 12) (h2 : q.ser.length + q.smp.length + q.sto.length + q.exm.length + q.mta.length + q.mrk.length + q.his.length = q.his.length) (h3 : ∀ p ∈ q.his, zb5 false p.1.h) :
 SameD { Dat.none with his := (q.his.map Prod.fst).filter (fun _ => true) } (wrD 9 q.dat) /\ SmallD { Dat.none with his := (q.his.map Prod.fst).filter (fun _ => true) } /\ SmallD (wrD 9 q.dat) := by
 obtain ⟨a0, a1, a2, a3, a4, a5, a6⟩ := q; simp only [] at h1 h2 h3; obtain rfl : a0 = [] := zmM (by omega); obtain rfl : a1 = [] := zmM (by omega); obtain rfl : a2 = [] := zmM (by omega); obtain rfl : a3 = [] := zmM (by omega); obtain rfl : a4 = [] := zmM (by omega)
 obtain rfl : a5 = [] := zmM (by omega); simp only [znd, zmP, znn] at h1; have e : (wrD 9 (Prt.dat ⟨[], [], [], [], [], [], a6⟩)).his = a6.map Prod.fst := by simp only [wrD, Prt.dat]; rfl
 have e0 : (a6.map Prod.fst).filter (fun _ => true) = a6.map Prod.fst := List.filter_eq_self.2 (fun _ _ => rfl); have b1 : (a6.map Prod.fst).length <= 1099511627776 := by rw [zmI]; omega
 have b2 : ∀ s ∈ a6.map Prod.fst, s.h.few 1099511627776 := fun s hs => by
  obtain ⟨p, hp, rfl⟩ := zmQ.1 hs; exact zf9 (h3 p hp).1
 rw [e0]
 refine ⟨⟨rfl, rfl, rfl, rfl, rfl, rfl, e.symm⟩, ⟨⟨zmv _, fun s hs => by cases hs⟩, zmv _, ⟨zmv _, fun s hs => by cases hs⟩, ⟨zmv _, fun s hs => by cases hs⟩, zmv _, zmv _, ⟨b1, b2⟩⟩, ⟨⟨zmv _, fun s hs => by cases hs⟩, zmv _, ⟨zmv _, fun s hs => by cases hs⟩, ⟨zmv _, fun s hs => by cases hs⟩, zmv _, zmv _, ⟨by rw [e]; exact b1, fun s hs => b2 s (by rw [e] at hs; exact hs)⟩⟩⟩
theorem same_10 (q : Prt) (h1 : q.ser.length + q.smp.length + q.sto.length + q.exm.length + q.mta.length + q.mrk.length + q.his.length <= 12) (h2 : q.ser.length + q.smp.length + q.sto.length + q.exm.length + q.mta.length + q.mrk.length + q.his.length = q.his.length) (h3 : ∀ p ∈ q.his, zb5 true p.1.h) :
 SameD { Dat.none with his := (q.his.map Prod.fst).filter (fun _ => true) } (wrD 10 q.dat) /\ SmallD { Dat.none with his := (q.his.map Prod.fst).filter (fun _ => true) } /\ SmallD (wrD 10 q.dat) := by
 obtain ⟨a0, a1, a2, a3, a4, a5, a6⟩ := q; simp only [] at h1 h2 h3; obtain rfl : a0 = [] := zmM (by omega); obtain rfl : a1 = [] := zmM (by omega); obtain rfl : a2 = [] := zmM (by omega); obtain rfl : a3 = [] := zmM (by omega); obtain rfl : a4 = [] := zmM (by omega)
 obtain rfl : a5 = [] := zmM (by omega); simp only [znd, zmP, znn] at h1; have e : (wrD 10 (Prt.dat ⟨[], [], [], [], [], [], a6⟩)).his = a6.map Prod.fst := by simp only [wrD, Prt.dat]; rfl
 have e0 : (a6.map Prod.fst).filter (fun _ => true) = a6.map Prod.fst := List.filter_eq_self.2 (fun _ _ => rfl); have b1 : (a6.map Prod.fst).length <= 1099511627776 := by rw [zmI]; omega
 have b2 : ∀ s ∈ a6.map Prod.fst, s.h.few 1099511627776 := fun s hs => by
  obtain ⟨p, hp, rfl⟩ := zmQ.1 hs; exact zf9 (h3 p hp).1
 rw [e0]
 refine ⟨⟨rfl, rfl, rfl, rfl, rfl, rfl, e.symm⟩, ⟨⟨zmv _, fun s hs => by cases hs⟩, zmv _, ⟨zmv _, fun s hs => by cases hs⟩, ⟨zmv _, fun s hs => by cases hs⟩, zmv _, zmv _, ⟨b1, b2⟩⟩, ⟨⟨zmv _, fun s hs => by cases hs⟩, zmv _, ⟨zmv _, fun s hs => by cases hs⟩, ⟨zmv _, fun s hs => by cases hs⟩, zmv _, zmv _, ⟨by rw [e]; exact b1, fun s hs => b2 s (by rw [e] at hs; exact hs)⟩⟩⟩
end Go.Proofs.YtbkookiigkckdaaGreatDoor
