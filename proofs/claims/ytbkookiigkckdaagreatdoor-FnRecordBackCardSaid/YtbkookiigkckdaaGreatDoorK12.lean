/- Texts of this seat, merged and shortened. -/
import Derived.Test.YtbkookiigkckdaaGreatDoorK11
import Derived.Deep.DeepCutAuto
set_option linter.unusedVariables false
set_option linter.unusedSimpArgs false
set_option maxRecDepth 100000
set_option maxHeartbeats 8000000
namespace Go.Proofs.YtbkookiigkckdaaGreatDoor
open Go.RowKit Go.Proofs.Tryz
theorem zcf {n : Nat} (h : n <= 1000) : i64 n = (n : Int) := by unfold i64 wrap64; omega
theorem zcH : prog.underlying 286 = some (.slice 135) := by kernel_rfl
theorem zcI : prog.underlying 285 = some (.slice 361) := by kernel_rfl
theorem zet : prog.underlying 189 = some (.slice 2) := by kernel_rfl
theorem zdq (P : Program) (t e : TypeId) (zc : Array Value) (z bytes : Nat) (i : TypeInfo) (zv : Value) (ht : P.underlying t = some (.slice e)) (hi : P.info? e = some i) (hz : i.zero = some zv) (hs : i.size = z) (hb : i.bytes = bytes) (hc : zv.cells = zc) (hb2 : bytes <= 64) (n : Nat) (hn : n <= 1000) :
 ∀ W : World, (Instr.makeSlice t (.int .i64 (n : Int)) (.int .i64 (n : Int))).run P W = .ok (.slice (some ⟨W.heap.size, 0, none⟩) n n) (W.alloc (.cells (madeCells zc (n * z)) e)) := fun W => by
 have bN : bytes * n <= 64 * 1000 := Nat.mul_le_mul hb2 hn; have h8 : ((bytes * n : Nat) : Int) <= 64000 := by omega
 rw [Int.natCast_mul] at h8; have hr := run_make (P := P) W t e i zv ht hi hz .i64 .i64 n n (by omega) (by omega) (by rw [hb]; exact Int.le_trans h8 (by decide)) (by omega); simp only [Int.toNat_natCast] at hr; rw [hc, hs] at hr; exact hr
def HEndsW (te : TypeId) (pe : Value) (d g0 : Nat) (cur : Array Value) (g : Nat) (w : World) (b : Nat) (x1 : Int) (x2 x3 x4 x5 : Nat) (pos neg : List (Int × Nat)) (ups downs : List Int) (cus : List Nat) (gc : St) (r : Ending) (w' : World) : Prop :=
 r = .returned (.tuple #[]) /\ ∃ v1 v2 v3 v4 v5, DH te pe d g0 cur g 288 w w' gc (cW b x1 x2 x3 x4 x5 v1 v2 v3 v4 v5) [⟨135, 1, v5, cus.length, cus.flatMap f1⟩, ⟨2, 1, v4, downs.length, downs.flatMap i1⟩, ⟨2, 1, v3, ups.length, ups.flatMap i1⟩, ⟨361, 2, v2, neg.length, neg.flatMap spc⟩, ⟨361, 2, v1, pos.length, pos.flatMap spc⟩]
theorem zi6 (te : TypeId) (pe : Value) (d g0 : Nat) (cur : Array Value) (g : Nat) (w : World) (b : Nat) (x1 : Int) (x2 x3 x4 x5 n1 n2 n3 n4 n5 : Nat) (pos neg : List (Int × Nat)) (ups downs : List Int) (cus : List Nat) (S0 S1 S2 S3 S4 S5 S6 T1 S7 T2 S8 T3 S9 T4 gY T5 gc : St)
 (hD : DH te pe d g0 cur g 288 w w S0 #[.int .u8 0, .int .i32 0, .float .f64 0, .int .u64 0, .int .u64 0, .float .f64 0, .slice none 0 0, .slice none 0 0, .slice none 0 0, .slice none 0 0, .slice none 0 0] [])
 (e0 : zaC S0 = (b, S1)) (e1 : zaH S1 = (x1, S2)) (e2 : zac S2 = (x2, S3)) (e3 : gUv S3 = (x3, S4)) (e4 : gUv S4 = (x4, S5)) (e5 : zac S5 = (x5, S6))
 (k1 : gUv S6 = (n1, T1)) (m1 : n1 <= 1000) (r1 : gN gSp n1 T1 = (pos, S7)) (k2 : gUv S7 = (n2, T2)) (m2 : n2 <= 1000) (r2 : gN gSp n2 T2 = (neg, S8))
 (k3 : gUv S8 = (n3, T3)) (m3 : n3 <= 1000) (r3 : gN zaH n3 T3 = (ups, S9)) (k4 : gUv S9 = (n4, T4)) (m4 : n4 <= 1000) (r4 : gN zaH n4 T4 = (downs, gY))
 (k5 : wrap32 x1 = -53 -> gUv gY = (n5, T5) /\ n5 <= 1000 /\ gN zac n5 T5 = (cus, gc)) (k6 : ¬ wrap32 x1 = -53 -> cus = [] /\ gc = gY) :
 Calls prog 174 #[.pointer (some ⟨d, 0, none⟩), .pointer (some ⟨g, 0, none⟩)] w (HEndsW te pe d g0 cur g w b x1 x2 x3 x4 x5 pos neg ups downs cus gc) := by
 have mixed : prog.follows .mixedOrders = true := by kernel_rfl
 have hr6 := zhj; have pw := zbA
 have ir := zlM hD; have hgw : g < w.heap.size := hD.2.2.2.2.2.1; have l1 : pos.length = n1 := by rw [<- zb3 gSp n1 T1, r1]
 have l2 : neg.length = n2 := by rw [<- zb3 gSp n2 T2, r2]
 have l3 : ups.length = n3 := by rw [<- zb3 zaH n3 T3, r3]
 have l4 : downs.length = n4 := by rw [<- zb3 zaH n4 T4, r4]
 have HQ0 : Hid (DQ te pe d g0 cur 160 S0 (.int .u8 (b : Int)) S1) := zlM (fun W hW => by have := zbt te pe _ _ _ _ _ hW; rw [e0] at this; exact this); have gp : Hid (DQ te pe d g0 cur 165 S1 (.int .i64 x1) S2) := zlM (fun W hW => by have := zcS te pe _ _ _ _ _ hW; rw [e1] at this; exact this)
 have eU : Hid (DQ te pe d g0 cur 162 S2 (.int .u64 (x2 : Int)) S3) := zlM (fun W hW => by have := zcE te pe _ _ _ _ _ hW; rw [e2] at this; exact this); have c8 : Hid (DQ te pe d g0 cur 171 S3 (.int .u64 (x3 : Int)) S4) := zlM (fun W hW => by have := zlw te pe _ _ _ _ _ hW; rw [e3] at this; exact this)
 have re : Hid (DQ te pe d g0 cur 171 S4 (.int .u64 (x4 : Int)) S5) := zlM (fun W hW => by have := zlw te pe _ _ _ _ _ hW; rw [e4] at this; exact this); have HQ5 : Hid (DQ te pe d g0 cur 162 S5 (.int .u64 (x5 : Int)) S6) := zlM (fun W hW => by have := zcE te pe _ _ _ _ _ hW; rw [e5] at this; exact this)
 have mz : Hid (DQ te pe d g0 cur 172 S6 (.int .i64 (n1 : Int)) T1) := zlM (fun W hW => by have := zbl te pe _ _ _ _ _ hW; rw [k1] at this; rw [show ((n1, T1) : Nat × St).1 = n1 from rfl, zcf m1] at this; exact this)
 have HQ7 : Hid (DQ te pe d g0 cur 172 S7 (.int .i64 (n2 : Int)) T2) := zlM (fun W hW => by have := zbl te pe _ _ _ _ _ hW; rw [k2] at this; rw [show ((n2, T2) : Nat × St).1 = n2 from rfl, zcf m2] at this; exact this)
 have rb : Hid (DQ te pe d g0 cur 172 S8 (.int .i64 (n3 : Int)) T3) := zlM (fun W hW => by have := zbl te pe _ _ _ _ _ hW; rw [k3] at this; rw [show ((n3, T3) : Nat × St).1 = n3 from rfl, zcf m3] at this; exact this)
 have HQ9 : Hid (DQ te pe d g0 cur 172 S9 (.int .i64 (n4 : Int)) T4) := zlM (fun W hW => by have := zbl te pe _ _ _ _ _ hW; rw [k4] at this; rw [show ((n4, T4) : Nat × St).1 = n4 from rfl, zcf m4] at this; exact this); have R1 := zlM r1; have R2 := zlM r2; have R3 := zlM r3; have R4 := zlM r4; have R5 := zlM k5; have R6 := zlM k6
 have LL := zlM (zmD l1 (zmD l2 (zmD l3 l4))); clear hD e0 e1 e2 e3 e4 e5 k1 k2 k3 k4 k5 k6 r1 r2 r3 r4 l1 l2 l3 l4; go_enter func174, ntmps174
 go_upto_if 46 with (first
  | (go_at_call 172; refine (mz.out _ (jZ.out.set 5 (.float .f64 x5)).1).mono ?_; rintro r7 w7 ⟨rfl, hd, hf⟩
     have om := zlM ((jZ.out.set 5 (.float .f64 x5)).call hd hf)
     clear hd hf z5 q5 jZ)
  | (go_at_call 162; refine (HQ5.out _ (cG.out.set 4 (.int .u64 (x4 : Int))).1).mono ?_; rintro r6 w6 ⟨rfl, hd, hf⟩
     have jZ := zlM ((cG.out.set 4 (.int .u64 (x4 : Int))).call hd hf); have z5 : w6.cell? ⟨g, 5, none⟩ = some (.float .f64 0) := jZ.out.2.1.cell 5; have q5 : w6.frozen? ⟨g, 5, none⟩ = false := jZ.out.2.1.frozen 5
     clear hd hf z4 q4 cG)
  | (go_at_call 171; refine (re.out _ (bZ.out.set 3 (.int .u64 (x3 : Int))).1).mono ?_; rintro r5 w5 ⟨rfl, hd, hf⟩
     have cG := zlM ((bZ.out.set 3 (.int .u64 (x3 : Int))).call hd hf); have z4 : w5.cell? ⟨g, 4, none⟩ = some (.int .u64 0) := cG.out.2.1.cell 4; have q4 : w5.frozen? ⟨g, 4, none⟩ = false := cG.out.2.1.frozen 4
     clear hd hf z3 q3 bZ)
  | (go_at_call 171; refine (c8.out _ (cH.out.set 2 (.float .f64 x2)).1).mono ?_; rintro r4 w4 ⟨rfl, hd, hf⟩
     have bZ := zlM ((cH.out.set 2 (.float .f64 x2)).call hd hf); have z3 : w4.cell? ⟨g, 3, none⟩ = some (.int .u64 0) := bZ.out.2.1.cell 3; have q3 : w4.frozen? ⟨g, 3, none⟩ = false := bZ.out.2.1.frozen 3
     clear hd hf z2 q2 cH)
  | (go_at_call 162; refine (eU.out _ (aN.out.set 1 (.int .i32 (wrap32 x1))).1).mono ?_; rintro r3 w3 ⟨rfl, hd, hf⟩
     have cH := zlM ((aN.out.set 1 (.int .i32 (wrap32 x1))).call hd hf); have z2 : w3.cell? ⟨g, 2, none⟩ = some (.float .f64 0) := cH.out.2.1.cell 2; have q2 : w3.frozen? ⟨g, 2, none⟩ = false := cH.out.2.1.frozen 2
     clear hd hf z1 q1 aN)
  | (go_at_call 165; refine (gp.out _ (aI.out.set 0 (.int .u8 (b : Int))).1).mono ?_; rintro r2 w2 ⟨rfl, hd, hf⟩
     have aN := zlM ((aI.out.set 0 (.int .u8 (b : Int))).call hd hf); have z1 : w2.cell? ⟨g, 1, none⟩ = some (.int .i32 0) := aN.out.2.1.cell 1; have q1 : w2.frozen? ⟨g, 1, none⟩ = false := aN.out.2.1.frozen 1
     clear hd hf z0 q0 aI)
  | (go_at_call 160; refine (HQ0.out _ ir.out.1).mono ?_; rintro r1 w1 ⟨rfl, hd, hf⟩
     have aI := zlM (ir.out.call hd hf); have z0 : w1.cell? ⟨g, 0, none⟩ = some (.int .u8 0) := aI.out.2.1.cell 0; have q0 : w1.frozen? ⟨g, 0, none⟩ = false := aI.out.2.1.frozen 0
     clear hd hf))
 go_cut [] (fun wx => ∃ v, Hid (DH te pe d g0 cur g 288 w wx T1 (cW b x1 x2 x3 x4 x5 v (.slice none 0 0) (.slice none 0 0) (.slice none 0 0) (.slice none 0 0)) [⟨361, 2, v, n1, (List.replicate n1 ((0, 0) : Int × Nat)).flatMap spc⟩]))
 case first =>
  as_aux_lemma =>
   rcases zl9 n1 with h0 | h0
   ·have h1 : ¬ (0 : Int) < (n1 : Int) := by omega
    have H0 := zlM h0; clear h0; go_wp2_with fail
    go_meet
    refine ⟨.slice none 0 0, zlM ?_⟩; have h := om.out.none_ 361 2; rw [H0.out]; exact h
   ·have h1 : (0 : Int) < (n1 : Int) := by omega
    obtain ⟨i0, aB, ay, ax, aA⟩ := info_parts zgr; have eC := zdq prog 285 361 #[.int .i32 0, .int .u32 0] 2 8 i0 _ zcI aB ay ax aA rfl (by omega) n1 m1; obtain ⟨Z, hZ⟩ := exE (madeCells #[.int .i32 0, .int .u32 0] (n1 * 2))
    have HM := zlM (DH.make (f := spc) (zr := (0, 0)) (Z := Z) (e := 361) (z := 2) (n := n1) om.out (by rw [<- hZ]; exact zce spc (0, 0) #[.int .i32 0, .int .u32 0] 2 rfl rfl (by omega) (fun _ => rfl) n1) (by rw [<- hZ]; exact size_madeCells _ _) (by unfold maxLen; omega)); rw [hZ] at eC; have a0 : (w7.alloc (.cells Z 361)).cell? ⟨g, 6, none⟩ = some (.slice none 0 0) := HM.out.2.1.cell 6
    have a1 : (w7.alloc (.cells Z 361)).frozen? ⟨g, 6, none⟩ = false := HM.out.2.1.frozen 6; clear hZ; go_wp2_with fail
    go_meet
    exact ⟨_, zlM (HM.out.set 6 _)⟩
 case rest =>
  as_aux_lemma =>
   obtain ⟨v, HC⟩ := hcut; obtain ⟨A1, c1, rfl⟩ := zaa HC.out.row; have hN : Hid (n1 = n1) := zlM rfl; have z6 : wc.cell? ⟨g, 6, none⟩ = some (.slice A1 n1 c1) := HC.out.2.1.cell 6; clear om; go_wp2
   go_loopw [57] (fun i wr => ∃ (k : Nat) (acc rest : List (Int × Nat)) (ST : St), i = .int .i64 k /\ k <= n1 /\ Hid (acc.length = k /\ gN gSp (n1 - k) ST = (rest, S7) /\ acc ++ rest = pos) /\ Hid (DH te pe d g0 cur g 288 w wr ST (cW b x1 x2 x3 x4 x5 (.slice A1 n1 c1) (.slice none 0 0) (.slice none 0 0) (.slice none 0 0) (.slice none 0 0)) [⟨361, 2, .slice A1 n1 c1, n1, (acc ++ List.replicate (n1 - k) (0, 0)).flatMap spc⟩])) (fun i _ => n1 - (intOf i).toNat)
   case atStart => exact ⟨0, [], pos, T1, rfl, zlX _, zlM ⟨rfl, R1.out, rfl⟩, HC⟩
   case round =>
    obtain ⟨k, acc, rest, ST, rfl, hk, HA, HD⟩ := hrel; by_cases hlt : k < n1
    ·clear HC z6
     obtain ⟨m, c, hv, hm0, hc⟩ := zey HD.out.row (by omega); injection hv with bT bz dn; subst bT dn; have eF : g ≠ m := by omega
     obtain ⟨k', eQ⟩ : ∃ k', n1 - k = k' + 1 := ⟨n1 - k - 1, by omega⟩; obtain ⟨cu, ba, dB⟩ := HA.out; rw [eQ] at ba; obtain ⟨y0, U1, hy⟩ : ∃ a b, zaH ST = (a, b) := ⟨_, _, rfl⟩; obtain ⟨y1, U2, hu⟩ : ∃ a b, gUv U1 = (a, b) := ⟨_, _, rfl⟩; have hs : gSp ST = ((wrap32 y0, y1 % 4294967296), U2) := by unfold gSp; rw [hy]; simp only []; rw [hu]
     obtain ⟨x, hx⟩ := exE (((wrap32 y0, y1 % 4294967296) : Int × Nat)); have V1 : Hid (DQ te pe d g0 cur 165 ST (.int .i64 y0) U1) := zlM (fun W hW => by have := zcS te pe _ _ _ _ _ hW; rw [hy] at this; exact this); have V2 : Hid (DQ te pe d g0 cur 232 U1 (.int .u32 (IntKind.u32.wrap y1)) U2) := zlM (fun W hW => by have := zdn te pe _ _ _ _ _ hW; rw [hu] at this; exact this)
     have az : rest = (wrap32 y0, y1 % 4294967296) :: (gN gSp k' U2).1 /\ (gN gSp k' U2).2 = S7 := by
      rw [gN, hs] at ba; exact ⟨(zmC Prod.fst ba).symm, zmC Prod.snd ba⟩
     have HB : Hid ((acc ++ [(wrap32 y0, y1 % 4294967296)]).length = k + 1 /\ gN gSp (n1 - (k + 1)) U2 = ((gN gSp k' U2).1, S7) /\ (acc ++ [(wrap32 y0, y1 % 4294967296)]) ++ (gN gSp k' U2).1 = pos) := zlM ⟨by rw [zlN, cu]; rfl, by rw [show n1 - (k + 1) = k' by omega, <- az.2], by rw [zlP, zmu, <- az.1]; exact dB⟩; have HK := zlM cu
     have aI := zlM (HD.out.rep hlt); have z6 : wr.drew.cell? ⟨g, 6, none⟩ = some (.slice (some ⟨m, 0, none⟩) n1 c1) := aI.out.2.1.cell 6; clear HA HD cu ba dB az hy hu hx hs; go_wp2_with fail
     go_region_held3 (fun w' => w'.cell? ⟨g, 6, none⟩ = some (.slice (some ⟨m, 0, none⟩) n1 c1))
      ((first | exact (Blk.far aN.out.2.1 (p := ⟨m, k * 2, none⟩) eF _).cell 6 | exact aN.out.2.1.cell 6 | exact aI.out.2.1.cell 6 | go_keep))
      ((go_at_call 165; refine (V1.out _ aI.out.1).mono ?_; rintro r cl ⟨rfl, hd, hf⟩
        have aN := zlM (aI.out.call hd hf); have s0 : cl.cell? ⟨m, k * 2, none⟩ = some (.int .i32 0) := zbo aN.out.row (zbV spc 2 (fun _ => rfl) acc _ (0, 0) k 0 _ HK.out (by omega) (by omega)); have s1 : cl.frozen? ⟨m, k * 2, none⟩ = false := zbn aN.out.row _
        clear hd hf))
     obtain ⟨W9, hW9⟩ : ∃ W, cl.setCell ⟨m, k * 2, none⟩ (.int .i32 (IntKind.i32.wrap y0)) = W := ⟨_, rfl⟩; rw [hW9]; have cH := zlM ((aN.out.pt (y := (wrap32 y0, 0)) hW9 (fun _ => rfl) HK.out 0 (by omega) (by omega) (by simp [spc, IntKind.wrap_i32, wrap32])).fr0 (zmR _ W9).drew); have z6' : W9.drew.cell? ⟨g, 6, none⟩ = some (.slice (some ⟨m, 0, none⟩) n1 c1) := cH.out.2.1.cell 6
     clear aI aN hW9 s0 s1 z6; go_wp2_with fail
     go_region_held3 (fun w' => w'.cell? ⟨g, 6, none⟩ = some (.slice (some ⟨m, 0, none⟩) n1 c1))
      ((first | exact (Blk.far bZ.out.2.1 (p := ⟨m, k * 2 + 1, none⟩) eF _).cell 6 | exact bZ.out.2.1.cell 6 | exact cH.out.2.1.cell 6 | go_keep))
      ((go_at_call 232; refine (V2.out _ cH.out.1).mono ?_; rintro r gt ⟨rfl, hd, hf⟩
        have bZ := zlM (cH.out.call hd hf); have s0 : gt.cell? ⟨m, k * 2 + 1, none⟩ = some (.int .u32 0) := zbo bZ.out.row (zbV spc 2 (fun _ => rfl) acc _ (wrap32 y0, 0) k 1 _ HK.out (by omega) (by omega)); have s1 : gt.frozen? ⟨m, k * 2 + 1, none⟩ = false := zbn bZ.out.row _
        clear hd hf))
     obtain ⟨WA, cy⟩ : ∃ W, gt.setCell ⟨m, k * 2 + 1, none⟩ (.int .u32 (IntKind.u32.wrap y1)) = W := ⟨_, rfl⟩; rw [cy]; have cG := zlM (bZ.out.pt (y := (wrap32 y0, y1 % 4294967296)) cy (fun _ => rfl) HK.out 1 (by omega) (by omega) (by simp [spc, IntKind.wrap_u32])); clear cH bZ cy s0 s1; go_wp2; go_roundw
     case rel => exact ⟨k + 1, acc ++ [(wrap32 y0, y1 % 4294967296)], (gN gSp k' U2).1, U2, by go_num, by omega, HB, zlM (by have h := cG.out; rw [zmN] at h; exact h)⟩
     case measure => simp [intOf]; omega
    ·have cB : k = n1 := by omega
     have HX := zlM (HD.out.fin HA.out cB LL.out.1); have hlt2 : ¬ (k : Int) < (n1 : Int) := by omega
     clear HA HD HC hlt cB z6
     go_upto_if 83 with (first
      | (go_at_call 172; refine (HQ7.out _ HX.out.1).mono ?_; rintro r8 w8 ⟨rfl, hd, hf⟩
         have ol := zlM (HX.out.call hd hf)
         clear hd hf HX))
     go_cut [] (fun wx => ∃ v, Hid (DH te pe d g0 cur g 288 w wx T2 (cW b x1 x2 x3 x4 x5 (.slice A1 n1 c1) v (.slice none 0 0) (.slice none 0 0) (.slice none 0 0)) [⟨361, 2, v, n2, (List.replicate n2 ((0, 0) : Int × Nat)).flatMap spc⟩, rwS A1 n1 c1 pos]))
     case first =>
      as_aux_lemma =>
       rcases zl9 n2 with h0 | h0
       ·have h1 : ¬ (0 : Int) < (n2 : Int) := by omega
        have H0 := zlM h0; clear h0; go_wp2_with fail
        go_meet
        refine ⟨.slice none 0 0, zlM ?_⟩; have h := ol.out.none_ 361 2; rw [H0.out]; exact h
       ·have h1 : (0 : Int) < (n2 : Int) := by omega
        obtain ⟨i0, aB, ay, ax, aA⟩ := info_parts zgr; have eC := zdq prog 285 361 #[.int .i32 0, .int .u32 0] 2 8 i0 _ zcI aB ay ax aA rfl (by omega) n2 m2; obtain ⟨Z, hZ⟩ := exE (madeCells #[.int .i32 0, .int .u32 0] (n2 * 2))
        have HM := zlM (DH.make (f := spc) (zr := (0, 0)) (Z := Z) (e := 361) (z := 2) (n := n2) ol.out (by rw [<- hZ]; exact zce spc (0, 0) #[.int .i32 0, .int .u32 0] 2 rfl rfl (by omega) (fun _ => rfl) n2) (by rw [<- hZ]; exact size_madeCells _ _) (by unfold maxLen; omega)); rw [hZ] at eC; have a0 : (w8.alloc (.cells Z 361)).cell? ⟨g, 7, none⟩ = some (.slice none 0 0) := HM.out.2.1.cell 7
        have a1 : (w8.alloc (.cells Z 361)).frozen? ⟨g, 7, none⟩ = false := HM.out.2.1.frozen 7; clear hZ; go_wp2_with fail
        go_meet
        exact ⟨_, zlM (HM.out.set 7 _)⟩
     case rest =>
      as_aux_lemma =>
       obtain ⟨v, HC⟩ := hcut; obtain ⟨A2, c2, rfl⟩ := zaa HC.out.row; have HN2 : Hid (n2 = n2) := zlM rfl; have z7 : wc.cell? ⟨g, 7, none⟩ = some (.slice A2 n2 c2) := HC.out.2.1.cell 7; clear ol; go_wp2
       go_loopw [94] (fun i wr => ∃ (k : Nat) (acc rest : List (Int × Nat)) (ST : St), i = .int .i64 k /\ k <= n2 /\ Hid (acc.length = k /\ gN gSp (n2 - k) ST = (rest, S8) /\ acc ++ rest = neg) /\ Hid (DH te pe d g0 cur g 288 w wr ST (cW b x1 x2 x3 x4 x5 (.slice A1 n1 c1) (.slice A2 n2 c2) (.slice none 0 0) (.slice none 0 0) (.slice none 0 0)) [⟨361, 2, .slice A2 n2 c2, n2, (acc ++ List.replicate (n2 - k) (0, 0)).flatMap spc⟩, rwS A1 n1 c1 pos])) (fun i _ => n2 - (intOf i).toNat)
       case atStart => exact ⟨0, [], neg, T2, rfl, zlX _, zlM ⟨rfl, R2.out, rfl⟩, HC⟩
       case round =>
        obtain ⟨k, acc, rest, ST, rfl, hk, HA, HD⟩ := hrel; by_cases hlt : k < n2
        ·clear HC z7
         obtain ⟨m, c, hv, hm0, hc⟩ := zey HD.out.row (by omega); injection hv with bT bz dn; subst bT dn; have eF : g ≠ m := by omega
         obtain ⟨k', eQ⟩ : ∃ k', n2 - k = k' + 1 := ⟨n2 - k - 1, by omega⟩; obtain ⟨cu, ba, dB⟩ := HA.out; rw [eQ] at ba; obtain ⟨y0, U1, hy⟩ : ∃ a b, zaH ST = (a, b) := ⟨_, _, rfl⟩; obtain ⟨y1, U2, hu⟩ : ∃ a b, gUv U1 = (a, b) := ⟨_, _, rfl⟩; have hs : gSp ST = ((wrap32 y0, y1 % 4294967296), U2) := by unfold gSp; rw [hy]; simp only []; rw [hu]
         obtain ⟨x, hx⟩ := exE (((wrap32 y0, y1 % 4294967296) : Int × Nat)); have V1 : Hid (DQ te pe d g0 cur 165 ST (.int .i64 y0) U1) := zlM (fun W hW => by have := zcS te pe _ _ _ _ _ hW; rw [hy] at this; exact this); have V2 : Hid (DQ te pe d g0 cur 232 U1 (.int .u32 (IntKind.u32.wrap y1)) U2) := zlM (fun W hW => by have := zdn te pe _ _ _ _ _ hW; rw [hu] at this; exact this)
         have az : rest = (wrap32 y0, y1 % 4294967296) :: (gN gSp k' U2).1 /\ (gN gSp k' U2).2 = S8 := by
          rw [gN, hs] at ba; exact ⟨(zmC Prod.fst ba).symm, zmC Prod.snd ba⟩
         have HB : Hid ((acc ++ [(wrap32 y0, y1 % 4294967296)]).length = k + 1 /\ gN gSp (n2 - (k + 1)) U2 = ((gN gSp k' U2).1, S8) /\ (acc ++ [(wrap32 y0, y1 % 4294967296)]) ++ (gN gSp k' U2).1 = neg) := zlM ⟨by rw [zlN, cu]; rfl, by rw [show n2 - (k + 1) = k' by omega, <- az.2], by rw [zlP, zmu, <- az.1]; exact dB⟩; have HK := zlM cu
         have aI := zlM (HD.out.rep hlt); have z7 : wr.drew.cell? ⟨g, 7, none⟩ = some (.slice (some ⟨m, 0, none⟩) n2 c2) := aI.out.2.1.cell 7; clear HA HD cu ba dB az hy hu hx hs; go_wp2_with fail
         go_region_held3 (fun w' => w'.cell? ⟨g, 7, none⟩ = some (.slice (some ⟨m, 0, none⟩) n2 c2))
          ((first | exact (Blk.far aN.out.2.1 (p := ⟨m, k * 2, none⟩) eF _).cell 7 | exact aN.out.2.1.cell 7 | exact aI.out.2.1.cell 7 | go_keep))
          ((go_at_call 165; refine (V1.out _ aI.out.1).mono ?_; rintro r cl ⟨rfl, hd, hf⟩
            have aN := zlM (aI.out.call hd hf); have s0 : cl.cell? ⟨m, k * 2, none⟩ = some (.int .i32 0) := zbo aN.out.row (zbV spc 2 (fun _ => rfl) acc _ (0, 0) k 0 _ HK.out (by omega) (by omega)); have s1 : cl.frozen? ⟨m, k * 2, none⟩ = false := zbn aN.out.row _
            clear hd hf))
         obtain ⟨W9, hW9⟩ : ∃ W, cl.setCell ⟨m, k * 2, none⟩ (.int .i32 (IntKind.i32.wrap y0)) = W := ⟨_, rfl⟩; rw [hW9]; have cH := zlM ((aN.out.pt (y := (wrap32 y0, 0)) hW9 (fun _ => rfl) HK.out 0 (by omega) (by omega) (by simp [spc, IntKind.wrap_i32, wrap32])).fr0 (zmR _ W9).drew); have z7' : W9.drew.cell? ⟨g, 7, none⟩ = some (.slice (some ⟨m, 0, none⟩) n2 c2) := cH.out.2.1.cell 7
         clear aI aN hW9 s0 s1 z7; go_wp2_with fail
         go_region_held3 (fun w' => w'.cell? ⟨g, 7, none⟩ = some (.slice (some ⟨m, 0, none⟩) n2 c2))
          ((first | exact (Blk.far bZ.out.2.1 (p := ⟨m, k * 2 + 1, none⟩) eF _).cell 7 | exact bZ.out.2.1.cell 7 | exact cH.out.2.1.cell 7 | go_keep))
          ((go_at_call 232; refine (V2.out _ cH.out.1).mono ?_; rintro r gt ⟨rfl, hd, hf⟩
            have bZ := zlM (cH.out.call hd hf); have s0 : gt.cell? ⟨m, k * 2 + 1, none⟩ = some (.int .u32 0) := zbo bZ.out.row (zbV spc 2 (fun _ => rfl) acc _ (wrap32 y0, 0) k 1 _ HK.out (by omega) (by omega)); have s1 : gt.frozen? ⟨m, k * 2 + 1, none⟩ = false := zbn bZ.out.row _
            clear hd hf))
         obtain ⟨WA, cy⟩ : ∃ W, gt.setCell ⟨m, k * 2 + 1, none⟩ (.int .u32 (IntKind.u32.wrap y1)) = W := ⟨_, rfl⟩; rw [cy]; have cG := zlM (bZ.out.pt (y := (wrap32 y0, y1 % 4294967296)) cy (fun _ => rfl) HK.out 1 (by omega) (by omega) (by simp [spc, IntKind.wrap_u32])); clear cH bZ cy s0 s1; go_wp2; go_roundw
         case rel => exact ⟨k + 1, acc ++ [(wrap32 y0, y1 % 4294967296)], (gN gSp k' U2).1, U2, by go_num, by omega, HB, zlM (by have h := cG.out; rw [zmN] at h; exact h)⟩
         case measure => simp [intOf]; omega
        ·have cB : k = n2 := by omega
         have HX := zlM (HD.out.fin HA.out cB LL.out.2.1); have hlt2 : ¬ (k : Int) < (n2 : Int) := by omega
         clear HA HD HC hlt cB z7
         go_upto_if 120 with (first
          | (go_at_call 172; refine (rb.out _ HX.out.1).mono ?_; rintro r9 w9 ⟨rfl, hd, hf⟩
             have oh := zlM (HX.out.call hd hf)
             clear hd hf HX))
         go_cut [] (fun wx => ∃ v, Hid (DH te pe d g0 cur g 288 w wx T3 (cW b x1 x2 x3 x4 x5 (.slice A1 n1 c1) (.slice A2 n2 c2) v (.slice none 0 0) (.slice none 0 0)) [⟨2, 1, v, n3, (List.replicate n3 (0 : Int)).flatMap i1⟩, rwS A2 n2 c2 neg, rwS A1 n1 c1 pos]))
         case first =>
          as_aux_lemma =>
           rcases zl9 n3 with h0 | h0
           ·have h1 : ¬ (0 : Int) < (n3 : Int) := by omega
            have H0 := zlM h0; clear h0; go_wp2_with fail
            go_meet
            refine ⟨.slice none 0 0, zlM ?_⟩; have h := oh.out.none_ 2 1; rw [H0.out]; exact h
           ·have h1 : (0 : Int) < (n3 : Int) := by omega
            obtain ⟨i0, aB, ay, ax, aA⟩ := info_parts info2; have eC := zdq prog 189 2 #[.int .i64 0] 1 8 i0 _ zet aB ay ax aA rfl (by omega) n3 m3; obtain ⟨Z, hZ⟩ := exE (madeCells #[.int .i64 0] (n3 * 1))
            have HM := zlM (DH.make (f := i1) (zr := 0) (Z := Z) (e := 2) (z := 1) (n := n3) oh.out (by rw [<- hZ]; exact zce i1 0 #[.int .i64 0] 1 rfl rfl (by omega) (fun _ => rfl) n3) (by rw [<- hZ]; exact size_madeCells _ _) (by unfold maxLen; omega)); rw [hZ] at eC; have a0 : (w9.alloc (.cells Z 2)).cell? ⟨g, 8, none⟩ = some (.slice none 0 0) := HM.out.2.1.cell 8
            have a1 : (w9.alloc (.cells Z 2)).frozen? ⟨g, 8, none⟩ = false := HM.out.2.1.frozen 8; clear hZ; go_wp2_with fail
            go_meet
            exact ⟨_, zlM (HM.out.set 8 _)⟩
         case rest =>
          as_aux_lemma =>
           obtain ⟨v, HC⟩ := hcut; obtain ⟨A3, c3, rfl⟩ := zaa HC.out.row; have HN3 : Hid (n3 = n3) := zlM rfl; have z8 : wc.cell? ⟨g, 8, none⟩ = some (.slice A3 n3 c3) := HC.out.2.1.cell 8; clear oh; go_wp2
           go_loopw [131] (fun i wr => ∃ (k : Nat) (acc rest : List Int) (ST : St), i = .int .i64 k /\ k <= n3 /\ Hid (acc.length = k /\ gN zaH (n3 - k) ST = (rest, S9) /\ acc ++ rest = ups) /\ Hid (DH te pe d g0 cur g 288 w wr ST (cW b x1 x2 x3 x4 x5 (.slice A1 n1 c1) (.slice A2 n2 c2) (.slice A3 n3 c3) (.slice none 0 0) (.slice none 0 0)) [⟨2, 1, .slice A3 n3 c3, n3, (acc ++ List.replicate (n3 - k) 0).flatMap i1⟩, rwS A2 n2 c2 neg, rwS A1 n1 c1 pos])) (fun i _ => n3 - (intOf i).toNat)
           case atStart => exact ⟨0, [], ups, T3, rfl, zlX _, zlM ⟨rfl, R3.out, rfl⟩, HC⟩
           case round =>
            obtain ⟨k, acc, rest, ST, rfl, hk, HA, HD⟩ := hrel; by_cases hlt : k < n3
            ·clear HC z8
             obtain ⟨m, c, hv, hm0, hc⟩ := zey HD.out.row (by omega); injection hv with bT bz dn; subst bT dn; have eF : g ≠ m := by omega
             obtain ⟨k', eQ⟩ : ∃ k', n3 - k = k' + 1 := ⟨n3 - k - 1, by omega⟩; obtain ⟨cu, ba, dB⟩ := HA.out; rw [eQ] at ba; obtain ⟨x, U1, hs⟩ : ∃ a b, zaH ST = (a, b) := ⟨_, _, rfl⟩; have V1 : Hid (DQ te pe d g0 cur 165 ST (.int .i64 x) U1) := zlM (fun W hW => by have := zcS te pe _ _ _ _ _ hW; rw [hs] at this; exact this)
             have az : rest = x :: (gN zaH k' U1).1 /\ (gN zaH k' U1).2 = S9 := by
              rw [gN, hs] at ba; exact ⟨(zmC Prod.fst ba).symm, zmC Prod.snd ba⟩
             have HB : Hid ((acc ++ [x]).length = k + 1 /\ gN zaH (n3 - (k + 1)) U1 = ((gN zaH k' U1).1, S9) /\ (acc ++ [x]) ++ (gN zaH k' U1).1 = ups) := zlM ⟨by rw [zlN, cu]; rfl, by rw [show n3 - (k + 1) = k' by omega, <- az.2], by rw [zlP, zmu, <- az.1]; exact dB⟩; have HK := zlM cu; have aI := zlM (HD.out.rep hlt)
             have z8 : wr.drew.cell? ⟨g, 8, none⟩ = some (.slice (some ⟨m, 0, none⟩) n3 c3) := aI.out.2.1.cell 8; clear HA HD cu ba dB az hs; go_wp2_with fail
             go_region_held3 (fun w' => w'.cell? ⟨g, 8, none⟩ = some (.slice (some ⟨m, 0, none⟩) n3 c3))
              ((first | exact (Blk.far aN.out.2.1 (p := ⟨m, k, none⟩) eF _).cell 8 | exact aN.out.2.1.cell 8 | exact aI.out.2.1.cell 8 | go_keep))
              ((go_at_call 165; refine (V1.out _ aI.out.1).mono ?_; rintro r cl ⟨rfl, hd, hf⟩
                have aN := zlM (aI.out.call hd hf); have s0 : cl.cell? ⟨m, k, none⟩ = some (.int .i64 0) := zbo aN.out.row (zbV i1 1 (fun _ => rfl) acc _ 0 k 0 _ HK.out (by omega) (by omega)); have s1 : cl.frozen? ⟨m, k, none⟩ = false := zbn aN.out.row _
                clear hd hf))
             obtain ⟨WA, cy⟩ : ∃ W, cl.setCell ⟨m, k, none⟩ (.int .i64 x) = W := ⟨_, rfl⟩; rw [cy]; have cG := zlM (aN.out.pt (y := x) cy (fun _ => rfl) HK.out 0 (by omega) (by omega) rfl); clear aI aN cy s0 s1 z8; go_wp2; go_roundw
             case rel => exact ⟨k + 1, acc ++ [x], (gN zaH k' U1).1, U1, by go_num, by omega, HB, zlM (by have h := cG.out; rw [zmN] at h; exact h)⟩
             case measure => simp [intOf]; omega
            ·have cB : k = n3 := by omega
             have HX := zlM (HD.out.fin HA.out cB LL.out.2.2.1); have hlt2 : ¬ (k : Int) < (n3 : Int) := by omega
             clear HA HD HC hlt cB z8
             go_upto_if 146 with (first
              | (go_at_call 172; refine (HQ9.out _ HX.out.1).mono ?_; rintro r10 da ⟨rfl, hd, hf⟩
                 have ie := zlM (HX.out.call hd hf)
                 clear hd hf HX))
             go_cut [] (fun wx => ∃ v, Hid (DH te pe d g0 cur g 288 w wx T4 (cW b x1 x2 x3 x4 x5 (.slice A1 n1 c1) (.slice A2 n2 c2) (.slice A3 n3 c3) v (.slice none 0 0)) [⟨2, 1, v, n4, (List.replicate n4 (0 : Int)).flatMap i1⟩, rwI A3 n3 c3 ups, rwS A2 n2 c2 neg, rwS A1 n1 c1 pos]))
             case first =>
              as_aux_lemma =>
               rcases zl9 n4 with h0 | h0
               ·have h1 : ¬ (0 : Int) < (n4 : Int) := by omega
                have H0 := zlM h0; clear h0; go_wp2_with fail
                go_meet
                refine ⟨.slice none 0 0, zlM ?_⟩; have h := ie.out.none_ 2 1; rw [H0.out]; exact h
               ·have h1 : (0 : Int) < (n4 : Int) := by omega
                obtain ⟨i0, aB, ay, ax, aA⟩ := info_parts info2; have eC := zdq prog 189 2 #[.int .i64 0] 1 8 i0 _ zet aB ay ax aA rfl (by omega) n4 m4; obtain ⟨Z, hZ⟩ := exE (madeCells #[.int .i64 0] (n4 * 1))
                have HM := zlM (DH.make (f := i1) (zr := 0) (Z := Z) (e := 2) (z := 1) (n := n4) ie.out (by rw [<- hZ]; exact zce i1 0 #[.int .i64 0] 1 rfl rfl (by omega) (fun _ => rfl) n4) (by rw [<- hZ]; exact size_madeCells _ _) (by unfold maxLen; omega)); rw [hZ] at eC; have a0 : (da.alloc (.cells Z 2)).cell? ⟨g, 9, none⟩ = some (.slice none 0 0) := HM.out.2.1.cell 9
                have a1 : (da.alloc (.cells Z 2)).frozen? ⟨g, 9, none⟩ = false := HM.out.2.1.frozen 9; clear hZ; go_wp2_with fail
                go_meet
                exact ⟨_, zlM (HM.out.set 9 _)⟩
             case rest =>
              as_aux_lemma =>
               obtain ⟨v, HC⟩ := hcut; obtain ⟨A4, c4, rfl⟩ := zaa HC.out.row; have HN4 : Hid (n4 = n4) := zlM rfl; have z9 : wc.cell? ⟨g, 9, none⟩ = some (.slice A4 n4 c4) := HC.out.2.1.cell 9; clear ie; go_wp2
               go_loopw [157] (fun i wr => ∃ (k : Nat) (acc rest : List Int) (ST : St), i = .int .i64 k /\ k <= n4 /\ Hid (acc.length = k /\ gN zaH (n4 - k) ST = (rest, gY) /\ acc ++ rest = downs) /\ Hid (DH te pe d g0 cur g 288 w wr ST (cW b x1 x2 x3 x4 x5 (.slice A1 n1 c1) (.slice A2 n2 c2) (.slice A3 n3 c3) (.slice A4 n4 c4) (.slice none 0 0)) [⟨2, 1, .slice A4 n4 c4, n4, (acc ++ List.replicate (n4 - k) 0).flatMap i1⟩, rwI A3 n3 c3 ups, rwS A2 n2 c2 neg, rwS A1 n1 c1 pos])) (fun i _ => n4 - (intOf i).toNat)
               case atStart => exact ⟨0, [], downs, T4, rfl, zlX _, zlM ⟨rfl, R4.out, rfl⟩, HC⟩
               case round =>
                obtain ⟨k, acc, rest, ST, rfl, hk, HA, HD⟩ := hrel; by_cases hlt : k < n4
                ·clear HC z9
                 obtain ⟨m, c, hv, hm0, hc⟩ := zey HD.out.row (by omega); injection hv with bT bz dn; subst bT dn; have eF : g ≠ m := by omega
                 obtain ⟨k', eQ⟩ : ∃ k', n4 - k = k' + 1 := ⟨n4 - k - 1, by omega⟩; obtain ⟨cu, ba, dB⟩ := HA.out; rw [eQ] at ba; obtain ⟨x, U1, hs⟩ : ∃ a b, zaH ST = (a, b) := ⟨_, _, rfl⟩; have V1 : Hid (DQ te pe d g0 cur 165 ST (.int .i64 x) U1) := zlM (fun W hW => by have := zcS te pe _ _ _ _ _ hW; rw [hs] at this; exact this)
                 have az : rest = x :: (gN zaH k' U1).1 /\ (gN zaH k' U1).2 = gY := by
                  rw [gN, hs] at ba; exact ⟨(zmC Prod.fst ba).symm, zmC Prod.snd ba⟩
                 have HB : Hid ((acc ++ [x]).length = k + 1 /\ gN zaH (n4 - (k + 1)) U1 = ((gN zaH k' U1).1, gY) /\ (acc ++ [x]) ++ (gN zaH k' U1).1 = downs) := zlM ⟨by rw [zlN, cu]; rfl, by rw [show n4 - (k + 1) = k' by omega, <- az.2], by rw [zlP, zmu, <- az.1]; exact dB⟩; have HK := zlM cu; have aI := zlM (HD.out.rep hlt)
                 have z9 : wr.drew.cell? ⟨g, 9, none⟩ = some (.slice (some ⟨m, 0, none⟩) n4 c4) := aI.out.2.1.cell 9; clear HA HD cu ba dB az hs; go_wp2_with fail
                 go_region_held3 (fun w' => w'.cell? ⟨g, 9, none⟩ = some (.slice (some ⟨m, 0, none⟩) n4 c4))
                  ((first | exact (Blk.far aN.out.2.1 (p := ⟨m, k, none⟩) eF _).cell 9 | exact aN.out.2.1.cell 9 | exact aI.out.2.1.cell 9 | go_keep))
                  ((go_at_call 165; refine (V1.out _ aI.out.1).mono ?_; rintro r cl ⟨rfl, hd, hf⟩
                    have aN := zlM (aI.out.call hd hf); have s0 : cl.cell? ⟨m, k, none⟩ = some (.int .i64 0) := zbo aN.out.row (zbV i1 1 (fun _ => rfl) acc _ 0 k 0 _ HK.out (by omega) (by omega)); have s1 : cl.frozen? ⟨m, k, none⟩ = false := zbn aN.out.row _
                    clear hd hf))
                 obtain ⟨WA, cy⟩ : ∃ W, cl.setCell ⟨m, k, none⟩ (.int .i64 x) = W := ⟨_, rfl⟩; rw [cy]; have cG := zlM (aN.out.pt (y := x) cy (fun _ => rfl) HK.out 0 (by omega) (by omega) rfl); clear aI aN cy s0 s1 z9; go_wp2; go_roundw
                 case rel => exact ⟨k + 1, acc ++ [x], (gN zaH k' U1).1, U1, by go_num, by omega, HB, zlM (by have h := cG.out; rw [zmN] at h; exact h)⟩
                 case measure => simp [intOf]; omega
                ·have cB : k = n4 := by omega
                 have HX := zlM (HD.out.fin HA.out cB LL.out.2.2.2); have hlt2 : ¬ (k : Int) < (n4 : Int) := by omega
                 clear HA HD HC hlt cB z9; obtain ⟨cb, gJ⟩ := exE ((wrap32 x1 == -53)); have ra : Hid (∀ W, Calls prog 233 #[.int .i32 (wrap32 x1)] W fun r w' => r = .returned (.bool cb) /\ W = w') := zlM (fun W => by rw [<- gJ]; exact zb2 _ _); have y1c : wr.cell? ⟨g, 1, none⟩ = some (.int .i32 (wrap32 x1)) := HX.out.2.1.cell 1; rcases cb with _ | _
                 ·obtain ⟨rfl, rfl⟩ := R6.out (by simpa using gJ)
                  clear gJ; go_wp2_with (go_at_call 233; refine (ra.out _).mono ?_; rintro r50 w50 ⟨rfl, rfl⟩)
                  go_end0; exact ⟨rfl, _, _, _, _, _, HX.out.none_ 135 1⟩
                 ·obtain ⟨pL, m5, mZ⟩ := R5.out (by simpa using gJ)
                  have mc : cus.length = n5 := by rw [<- zb3 zac n5 T5, mZ]
                  have HQA : Hid (DQ te pe d g0 cur 172 gY (.int .i64 (n5 : Int)) T5) := zlM (fun W hW => by have := zbl te pe _ _ _ _ _ hW; rw [pL] at this; rw [show ((n5, T5) : Nat × St).1 = n5 from rfl, zcf m5] at this; exact this); have je := zlM mZ; have oN := zlM mc; clear pL mZ mc gJ
                  go_upto_if 177 with (first
                   | (go_at_call 172; refine (HQA.out _ HX.out.1).mono ?_; rintro r11 ig ⟨rfl, hd, hf⟩
                      have ic := zlM (HX.out.call hd hf)
                      clear hd hf HX)
                   | (go_at_call 233; refine (ra.out _).mono ?_; rintro r50 w50 ⟨rfl, rfl⟩))
                  go_cut [] (fun wx => ∃ v, Hid (DH te pe d g0 cur g 288 w wx T5 (cW b x1 x2 x3 x4 x5 (.slice A1 n1 c1) (.slice A2 n2 c2) (.slice A3 n3 c3) (.slice A4 n4 c4) v) [⟨135, 1, v, n5, (List.replicate n5 (0 : Nat)).flatMap f1⟩, rwI A4 n4 c4 downs, rwI A3 n3 c3 ups, rwS A2 n2 c2 neg, rwS A1 n1 c1 pos]))
                  case first =>
                   as_aux_lemma =>
                    rcases zl9 n5 with h0 | h0
                    ·have h1 : ¬ (0 : Int) < (n5 : Int) := by omega
                     have H0 := zlM h0; clear h0; go_wp2_with fail
                     go_meet
                     refine ⟨.slice none 0 0, zlM ?_⟩; have h := ic.out.none_ 135 1; rw [H0.out]; exact h
                    ·have h1 : (0 : Int) < (n5 : Int) := by omega
                     obtain ⟨i0, aB, ay, ax, aA⟩ := info_parts zgs; have eC := zdq prog 286 135 #[.float .f64 0] 1 8 i0 _ zcH aB ay ax aA rfl (by omega) n5 m5; obtain ⟨Z, hZ⟩ := exE (madeCells #[.float .f64 0] (n5 * 1))
                     have HM := zlM (DH.make (f := f1) (zr := 0) (Z := Z) (e := 135) (z := 1) (n := n5) ic.out (by rw [<- hZ]; exact zce f1 0 #[.float .f64 0] 1 rfl rfl (by omega) (fun _ => rfl) n5) (by rw [<- hZ]; exact size_madeCells _ _) (by unfold maxLen; omega)); rw [hZ] at eC; have a0 : (ig.alloc (.cells Z 135)).cell? ⟨g, 10, none⟩ = some (.slice none 0 0) := HM.out.2.1.cell 10
                     have a1 : (ig.alloc (.cells Z 135)).frozen? ⟨g, 10, none⟩ = false := HM.out.2.1.frozen 10; clear hZ; go_wp2_with fail
                     go_meet
                     exact ⟨_, zlM (HM.out.set 10 _)⟩
                  case rest =>
                   as_aux_lemma =>
                    obtain ⟨v, HC⟩ := hcut; obtain ⟨A5, c5, rfl⟩ := zaa HC.out.row; have io : Hid (n5 = n5) := zlM rfl; have kw : wc.cell? ⟨g, 10, none⟩ = some (.slice A5 n5 c5) := HC.out.2.1.cell 10; clear ic; go_wp2
                    go_loopw [188] (fun i wr => ∃ (k : Nat) (acc rest : List Nat) (ST : St), i = .int .i64 k /\ k <= n5 /\ Hid (acc.length = k /\ gN zac (n5 - k) ST = (rest, gc) /\ acc ++ rest = cus) /\ Hid (DH te pe d g0 cur g 288 w wr ST (cW b x1 x2 x3 x4 x5 (.slice A1 n1 c1) (.slice A2 n2 c2) (.slice A3 n3 c3) (.slice A4 n4 c4) (.slice A5 n5 c5)) [⟨135, 1, .slice A5 n5 c5, n5, (acc ++ List.replicate (n5 - k) 0).flatMap f1⟩, rwI A4 n4 c4 downs, rwI A3 n3 c3 ups, rwS A2 n2 c2 neg, rwS A1 n1 c1 pos])) (fun i _ => n5 - (intOf i).toNat)
                    case atStart => exact ⟨0, [], cus, T5, rfl, zlX _, zlM ⟨rfl, je.out, rfl⟩, HC⟩
                    case round =>
                     obtain ⟨k, acc, rest, ST, rfl, hk, HA, HD⟩ := hrel; by_cases hlt : k < n5
                     ·clear HC kw
                      obtain ⟨m, c, hv, hm0, hc⟩ := zey HD.out.row (by omega); injection hv with bT bz dn; subst bT dn; have eF : g ≠ m := by omega
                      obtain ⟨k', eQ⟩ : ∃ k', n5 - k = k' + 1 := ⟨n5 - k - 1, by omega⟩; obtain ⟨cu, ba, dB⟩ := HA.out; rw [eQ] at ba; obtain ⟨x, U1, hs⟩ : ∃ a b, zac ST = (a, b) := ⟨_, _, rfl⟩; have V1 : Hid (DQ te pe d g0 cur 234 ST (.float .f64 x) U1) := zlM (fun W hW => by have := zdp te pe _ _ _ _ _ hW; rw [hs] at this; exact this)
                      have az : rest = x :: (gN zac k' U1).1 /\ (gN zac k' U1).2 = gc := by
                       rw [gN, hs] at ba; exact ⟨(zmC Prod.fst ba).symm, zmC Prod.snd ba⟩
                      have HB : Hid ((acc ++ [x]).length = k + 1 /\ gN zac (n5 - (k + 1)) U1 = ((gN zac k' U1).1, gc) /\ (acc ++ [x]) ++ (gN zac k' U1).1 = cus) := zlM ⟨by rw [zlN, cu]; rfl, by rw [show n5 - (k + 1) = k' by omega, <- az.2], by rw [zlP, zmu, <- az.1]; exact dB⟩; have HK := zlM cu; have aI := zlM (HD.out.rep hlt)
                      have kw : wr.drew.cell? ⟨g, 10, none⟩ = some (.slice (some ⟨m, 0, none⟩) n5 c5) := aI.out.2.1.cell 10; clear HA HD cu ba dB az hs; go_wp2_with fail
                      go_region_held3 (fun w' => w'.cell? ⟨g, 10, none⟩ = some (.slice (some ⟨m, 0, none⟩) n5 c5))
                       ((first | exact (Blk.far aN.out.2.1 (p := ⟨m, k, none⟩) eF _).cell 10 | exact aN.out.2.1.cell 10 | exact aI.out.2.1.cell 10 | go_keep))
                       ((go_at_call 234; refine (V1.out _ aI.out.1).mono ?_; rintro r cl ⟨rfl, hd, hf⟩
                         have aN := zlM (aI.out.call hd hf); have s0 : cl.cell? ⟨m, k, none⟩ = some (.float .f64 0) := zbo aN.out.row (zbV f1 1 (fun _ => rfl) acc _ 0 k 0 _ HK.out (by omega) (by omega)); have s1 : cl.frozen? ⟨m, k, none⟩ = false := zbn aN.out.row _
                         clear hd hf))
                      obtain ⟨WA, cy⟩ : ∃ W, cl.setCell ⟨m, k, none⟩ (.float .f64 x) = W := ⟨_, rfl⟩; rw [cy]; have cG := zlM (aN.out.pt (y := x) cy (fun _ => rfl) HK.out 0 (by omega) (by omega) rfl); clear aI aN cy s0 s1 kw; go_wp2; go_roundw
                      case rel => exact ⟨k + 1, acc ++ [x], (gN zac k' U1).1, U1, by go_num, by omega, HB, zlM (by have h := cG.out; rw [zmN] at h; exact h)⟩
                      case measure => simp [intOf]; omega
                     ·have cB : k = n5 := by omega
                      have HX := zlM (HD.out.fin HA.out cB oN.out); have hlt2 : ¬ (k : Int) < (n5 : Int) := by omega
                      clear HA HD HC hlt cB kw; go_wp2; go_end0; exact ⟨rfl, _, _, _, _, _, HX.out⟩
end Go.Proofs.YtbkookiigkckdaaGreatDoor
