/- Texts of this seat, merged and shortened. -/
import Derived.Test.YtbkookiigkckdaaGreatDoorKC11
set_option linter.unusedVariables false
set_option linter.unusedSimpArgs false
set_option maxRecDepth 100000
set_option maxHeartbeats 8000000
namespace Go.Proofs.YtbkookiigkckdaaGreatDoor
open Go.RowKit Go.Proofs.Tryz
def HEndsF (te : TypeId) (pe : Value) (d g0 : Nat) (cur : Array Value) (g : Nat) (w : World) (b : Nat) (x1 : Int) (x2 x3 x4 x5 : Nat) (pos neg : List (Int × Nat)) (fups fdowns : List Nat) (cus : List Nat) (g8 : St) (r : Ending) (w' : World) : Prop :=
 r = .returned (.tuple #[]) /\ ∃ v1 v2 v3 v4 v5, DH te pe d g0 cur g 296 w w' g8 (cF b x1 x2 x3 x4 x5 v1 v2 v3 v4 v5) [⟨135, 1, v5, cus.length, cus.flatMap f1⟩, ⟨135, 1, v4, fdowns.length, fdowns.flatMap f1⟩, ⟨135, 1, v3, fups.length, fups.flatMap f1⟩, ⟨361, 2, v2, neg.length, neg.flatMap spc⟩, ⟨361, 2, v1, pos.length, pos.flatMap spc⟩]
theorem zct : (∀ (_ : True) (te : TypeId) (pe : Value) (d g0 : Nat) (cur : Array Value) (g : Nat) (w : World) (b : Nat) (x1 : Int) (x2 x3 x4 x5 n1 n2 n3 n4 n5 : Nat) (pos neg : List (Int × Nat)) (ups downs : List Int) (cus : List Nat) (S0 S1 S2 S3 S4 S5 S6 T1 S7 T2 S8 T3 S9 T4 gm T5 g8 : St)
 (hD : DH te pe d g0 cur g 288 w w S0 #[.int .u8 0, .int .i32 0, .float .f64 0, .int .u64 0, .int .u64 0, .float .f64 0, .slice none 0 0, .slice none 0 0, .slice none 0 0, .slice none 0 0, .slice none 0 0] [])
 (e0 : zaD S0 = (b, S1)) (e1 : zaI S1 = (x1, S2)) (e2 : zab S2 = (x2, S3)) (e3 : gUv S3 = (x3, S4)) (e4 : gUv S4 = (x4, S5)) (e5 : zab S5 = (x5, S6))
 (k1 : gUv S6 = (n1, T1)) (m1 : n1 <= 1000) (r1 : gN gSp n1 T1 = (pos, S7)) (k2 : gUv S7 = (n2, T2)) (m2 : n2 <= 1000) (r2 : gN gSp n2 T2 = (neg, S8))
 (k3 : gUv S8 = (n3, T3)) (m3 : n3 <= 1000) (r3 : gN zaI n3 T3 = (ups, S9)) (k4 : gUv S9 = (n4, T4)) (m4 : n4 <= 1000) (r4 : gN zaI n4 T4 = (downs, gm))
 (k5 : wrap32 x1 = -53 -> gUv gm = (n5, T5) /\ n5 <= 1000 /\ gN zab n5 T5 = (cus, g8)) (k6 : ¬ wrap32 x1 = -53 -> cus = [] /\ g8 = gm),
 Calls prog 174 #[.pointer (some ⟨d, 0, none⟩), .pointer (some ⟨g, 0, none⟩)] w (HEndsW te pe d g0 cur g w b x1 x2 x3 x4 x5 pos neg ups downs cus g8)) /\ (∀ (_ : True) (te : TypeId) (pe : Value) (d g0 : Nat) (cur : Array Value) (g : Nat) (w : World) (b : Nat) (x1 : Int) (x2 x3 x4 x5 n1 n2 n3 n4 n5 : Nat) (pos neg : List (Int × Nat)) (fups fdowns : List Nat) (cus : List Nat) (S0 S1 S2 S3 S4 S5 S6 T1 S7 T2 S8 T3 S9 T4 gm T5 g8 : St)
 (hD : DH te pe d g0 cur g 296 w w S0 #[.int .u8 0, .int .i32 0, .float .f64 0, .float .f64 0, .float .f64 0, .float .f64 0, .slice none 0 0, .slice none 0 0, .slice none 0 0, .slice none 0 0, .slice none 0 0] [])
 (e0 : zaD S0 = (b, S1)) (e1 : zaI S1 = (x1, S2)) (e2 : zab S2 = (x2, S3)) (e3 : zab S3 = (x3, S4)) (e4 : zab S4 = (x4, S5)) (e5 : zab S5 = (x5, S6))
 (k1 : gUv S6 = (n1, T1)) (m1 : n1 <= 1000) (r1 : gN gSp n1 T1 = (pos, S7)) (k2 : gUv S7 = (n2, T2)) (m2 : n2 <= 1000) (r2 : gN gSp n2 T2 = (neg, S8))
 (k3 : gUv S8 = (n3, T3)) (m3 : n3 <= 1000) (r3 : gN zab n3 T3 = (fups, S9)) (k4 : gUv S9 = (n4, T4)) (m4 : n4 <= 1000) (r4 : gN zab n4 T4 = (fdowns, gm))
 (k5 : wrap32 x1 = -53 -> gUv gm = (n5, T5) /\ n5 <= 1000 /\ gN zab n5 T5 = (cus, g8)) (k6 : ¬ wrap32 x1 = -53 -> cus = [] /\ g8 = gm),
 Calls prog 177 #[.pointer (some ⟨d, 0, none⟩), .pointer (some ⟨g, 0, none⟩)] w (HEndsF te pe d g0 cur g w b x1 x2 x3 x4 x5 pos neg fups fdowns cus g8)) := by
 refine ⟨fun ag te pe d g0 cur g w b x1 x2 x3 x4 x5 n1 n2 n3 n4 n5 pos neg ups downs cus S0 S1 S2 S3 S4 S5 S6 T1 S7 T2 S8 T3 S9 T4 gm T5 g8 hD e0 e1 e2 e3 e4 e5 k1 m1 r1 k2 m2 r2 k3 m3 r3 k4 m4 r4 k5 k6 => ?_, fun bY te pe d g0 cur g w b x1 x2 x3 x4 x5 n1 n2 n3 n4 n5 pos neg fups fdowns cus S0 S1 S2 S3 S4 S5 S6 T1 S7 T2 S8 T3 S9 T4 gm T5 g8 hD e0 e1 e2 e3 e4 e5 k1 m1 r1 k2 m2 r2 k3 m3 r3 k4 m4 r4 k5 k6 => ?_⟩
 all_goals
  have mixed : prog.follows .mixedOrders = true := by kernel_rfl
  have hr6 := ziV; have hsf := zbU
  have iV := zmk hD; have hgw : g < w.heap.size := hD.2.2.2.2.2.1; have l1 : pos.length = n1 := by rw [<- zcT gSp n1 T1, r1]
  have l2 : neg.length = n2 := by rw [<- zcT gSp n2 T2, r2]
  first | (guard_hyp ag; have l3 : ups.length = n3 := by rw [<- zcT zaI n3 T3, r3]) | (have l3 : fups.length = n3 := by rw [<- zcT zab n3 T3, r3])
  first | (guard_hyp ag; have l4 : downs.length = n4 := by rw [<- zcT zaI n4 T4, r4]) | (have l4 : fdowns.length = n4 := by rw [<- zcT zab n4 T4, r4])
  have HQ0 : Hid (DQ te pe d g0 cur 160 S0 (.int .u8 (b : Int)) S1) := zmk (fun W hW => by have := zbG te pe _ _ _ _ _ hW; rw [e0] at this; exact this); have gX : Hid (DQ te pe d g0 cur 165 S1 (.int .i64 x1) S2) := zmk (fun W hW => by have := zdC te pe _ _ _ _ _ hW; rw [e1] at this; exact this)
  first | (guard_hyp ag; have eS : Hid (DQ te pe d g0 cur 162 S2 (.int .u64 (x2 : Int)) S3) := zmk (fun W hW => by have := zcF te pe _ _ _ _ _ hW; rw [e2] at this; exact this)) | (have eS : Hid (DQ te pe d g0 cur 234 S2 (.float .f64 x2) S3) := zmk (fun W hW => by have := zdU te pe _ _ _ _ _ hW; rw [e2] at this; exact this))
  first | (guard_hyp ag; have bZ : Hid (DQ te pe d g0 cur 171 S3 (.int .u64 (x3 : Int)) S4) := zmk (fun W hW => by have := zl3 te pe _ _ _ _ _ hW; rw [e3] at this; exact this)) | (have bZ : Hid (DQ te pe d g0 cur 234 S3 (.float .f64 x3) S4) := zmk (fun W hW => by have := zdU te pe _ _ _ _ _ hW; rw [e3] at this; exact this))
  first | (guard_hyp ag; have qU : Hid (DQ te pe d g0 cur 171 S4 (.int .u64 (x4 : Int)) S5) := zmk (fun W hW => by have := zl3 te pe _ _ _ _ _ hW; rw [e4] at this; exact this)) | (have qU : Hid (DQ te pe d g0 cur 234 S4 (.float .f64 x4) S5) := zmk (fun W hW => by have := zdU te pe _ _ _ _ _ hW; rw [e4] at this; exact this))
  first | (guard_hyp ag; have HQ5 : Hid (DQ te pe d g0 cur 162 S5 (.int .u64 (x5 : Int)) S6) := zmk (fun W hW => by have := zcF te pe _ _ _ _ _ hW; rw [e5] at this; exact this)) | (have HQ5 : Hid (DQ te pe d g0 cur 234 S5 (.float .f64 x5) S6) := zmk (fun W hW => by have := zdU te pe _ _ _ _ _ hW; rw [e5] at this; exact this))
  have qT : Hid (DQ te pe d g0 cur 172 S6 (.int .i64 (n1 : Int)) T1) := zmk (fun W hW => by have := zcE te pe _ _ _ _ _ hW; rw [k1] at this; rw [show ((n1, T1) : Nat × St).1 = n1 from rfl, zen m1] at this; exact this)
  have HQ7 : Hid (DQ te pe d g0 cur 172 S7 (.int .i64 (n2 : Int)) T2) := zmk (fun W hW => by have := zcE te pe _ _ _ _ _ hW; rw [k2] at this; rw [show ((n2, T2) : Nat × St).1 = n2 from rfl, zen m2] at this; exact this)
  have HQ8 : Hid (DQ te pe d g0 cur 172 S8 (.int .i64 (n3 : Int)) T3) := zmk (fun W hW => by have := zcE te pe _ _ _ _ _ hW; rw [k3] at this; rw [show ((n3, T3) : Nat × St).1 = n3 from rfl, zen m3] at this; exact this)
  have HQ9 : Hid (DQ te pe d g0 cur 172 S9 (.int .i64 (n4 : Int)) T4) := zmk (fun W hW => by have := zcE te pe _ _ _ _ _ hW; rw [k4] at this; rw [show ((n4, T4) : Nat × St).1 = n4 from rfl, zen m4] at this; exact this); have R1 := zmk r1; have R2 := zmk r2; have R3 := zmk r3; have R4 := zmk r4; have R5 := zmk k5; have R6 := zmk k6
  have LL := zmk (znc l1 (znc l2 (znc l3 l4))); clear hD e0 e1 e2 e3 e4 e5 k1 k2 k3 k4 k5 k6 r1 r2 r3 r4 l1 l2 l3 l4
  first | (guard_hyp ag; go_enter func174, ntmps174) | (go_enter func177, ntmps177)
  first
   | guard_hyp ag
     go_upto_if 46 with (first
      | (go_at_call 172; refine (qT.out _ (jZ.out.set 5 (.float .f64 x5)).1).mono ?_; rintro r7 w7 ⟨rfl, hd, hf⟩
         have HD7 := zmk ((jZ.out.set 5 (.float .f64 x5)).call hd hf)
         clear hd hf z5 q5 jZ)
      | (go_at_call 162; refine (HQ5.out _ (dB.out.set 4 (.int .u64 (x4 : Int))).1).mono ?_; rintro r6 w6 ⟨rfl, hd, hf⟩
         have jZ := zmk ((dB.out.set 4 (.int .u64 (x4 : Int))).call hd hf); have z5 : w6.cell? ⟨g, 5, none⟩ = some (.float .f64 0) := jZ.out.2.1.cell 5; have q5 : w6.frozen? ⟨g, 5, none⟩ = false := jZ.out.2.1.frozen 5
         clear hd hf z4 q4 dB)
      | (go_at_call 171; refine (qU.out _ (dm.out.set 3 (.int .u64 (x3 : Int))).1).mono ?_; rintro r5 w5 ⟨rfl, hd, hf⟩
         have dB := zmk ((dm.out.set 3 (.int .u64 (x3 : Int))).call hd hf); have z4 : w5.cell? ⟨g, 4, none⟩ = some (.int .u64 0) := dB.out.2.1.cell 4; have q4 : w5.frozen? ⟨g, 4, none⟩ = false := dB.out.2.1.frozen 4
         clear hd hf z3 q3 dm)
      | (go_at_call 171; refine (bZ.out _ (eh.out.set 2 (.float .f64 x2)).1).mono ?_; rintro r4 w4 ⟨rfl, hd, hf⟩
         have dm := zmk ((eh.out.set 2 (.float .f64 x2)).call hd hf); have z3 : w4.cell? ⟨g, 3, none⟩ = some (.int .u64 0) := dm.out.2.1.cell 3; have q3 : w4.frozen? ⟨g, 3, none⟩ = false := dm.out.2.1.frozen 3
         clear hd hf z2 q2 eh)
      | (go_at_call 162; refine (eS.out _ (bz.out.set 1 (.int .i32 (wrap32 x1))).1).mono ?_; rintro r3 w3 ⟨rfl, hd, hf⟩
         have eh := zmk ((bz.out.set 1 (.int .i32 (wrap32 x1))).call hd hf); have z2 : w3.cell? ⟨g, 2, none⟩ = some (.float .f64 0) := eh.out.2.1.cell 2; have q2 : w3.frozen? ⟨g, 2, none⟩ = false := eh.out.2.1.frozen 2
         clear hd hf z1 q1 bz)
      | (go_at_call 165; refine (gX.out _ (aT.out.set 0 (.int .u8 (b : Int))).1).mono ?_; rintro r2 w2 ⟨rfl, hd, hf⟩
         have bz := zmk ((aT.out.set 0 (.int .u8 (b : Int))).call hd hf); have z1 : w2.cell? ⟨g, 1, none⟩ = some (.int .i32 0) := bz.out.2.1.cell 1; have q1 : w2.frozen? ⟨g, 1, none⟩ = false := bz.out.2.1.frozen 1
         clear hd hf z0 q0 aT)
      | (go_at_call 160; refine (HQ0.out _ iV.out.1).mono ?_; rintro r1 w1 ⟨rfl, hd, hf⟩
         have aT := zmk (iV.out.call hd hf); have z0 : w1.cell? ⟨g, 0, none⟩ = some (.int .u8 0) := aT.out.2.1.cell 0; have q0 : w1.frozen? ⟨g, 0, none⟩ = false := aT.out.2.1.frozen 0
         clear hd hf))
   | go_upto_if 44 with (first
      | (go_at_call 172; refine (qT.out _ (jZ.out.set 5 (.float .f64 x5)).1).mono ?_; rintro r7 w7 ⟨rfl, hd, hf⟩
         have HD7 := zmk ((jZ.out.set 5 (.float .f64 x5)).call hd hf)
         clear hd hf z5 q5 jZ)
      | (go_at_call 234; refine (HQ5.out _ (dB.out.set 4 (.float .f64 x4)).1).mono ?_; rintro r6 w6 ⟨rfl, hd, hf⟩
         have jZ := zmk ((dB.out.set 4 (.float .f64 x4)).call hd hf); have z5 : w6.cell? ⟨g, 5, none⟩ = some (.float .f64 0) := jZ.out.2.1.cell 5; have q5 : w6.frozen? ⟨g, 5, none⟩ = false := jZ.out.2.1.frozen 5
         clear hd hf z4 q4 dB)
      | (go_at_call 234; refine (qU.out _ (dm.out.set 3 (.float .f64 x3)).1).mono ?_; rintro r5 w5 ⟨rfl, hd, hf⟩
         have dB := zmk ((dm.out.set 3 (.float .f64 x3)).call hd hf); have z4 : w5.cell? ⟨g, 4, none⟩ = some (.float .f64 0) := dB.out.2.1.cell 4; have q4 : w5.frozen? ⟨g, 4, none⟩ = false := dB.out.2.1.frozen 4
         clear hd hf z3 q3 dm)
      | (go_at_call 234; refine (bZ.out _ (eh.out.set 2 (.float .f64 x2)).1).mono ?_; rintro r4 w4 ⟨rfl, hd, hf⟩
         have dm := zmk ((eh.out.set 2 (.float .f64 x2)).call hd hf); have z3 : w4.cell? ⟨g, 3, none⟩ = some (.float .f64 0) := dm.out.2.1.cell 3; have q3 : w4.frozen? ⟨g, 3, none⟩ = false := dm.out.2.1.frozen 3
         clear hd hf z2 q2 eh)
      | (go_at_call 234; refine (eS.out _ (bz.out.set 1 (.int .i32 (wrap32 x1))).1).mono ?_; rintro r3 w3 ⟨rfl, hd, hf⟩
         have eh := zmk ((bz.out.set 1 (.int .i32 (wrap32 x1))).call hd hf); have z2 : w3.cell? ⟨g, 2, none⟩ = some (.float .f64 0) := eh.out.2.1.cell 2; have q2 : w3.frozen? ⟨g, 2, none⟩ = false := eh.out.2.1.frozen 2
         clear hd hf z1 q1 bz)
      | (go_at_call 165; refine (gX.out _ (aT.out.set 0 (.int .u8 (b : Int))).1).mono ?_; rintro r2 w2 ⟨rfl, hd, hf⟩
         have bz := zmk ((aT.out.set 0 (.int .u8 (b : Int))).call hd hf); have z1 : w2.cell? ⟨g, 1, none⟩ = some (.int .i32 0) := bz.out.2.1.cell 1; have q1 : w2.frozen? ⟨g, 1, none⟩ = false := bz.out.2.1.frozen 1
         clear hd hf z0 q0 aT)
      | (go_at_call 160; refine (HQ0.out _ iV.out.1).mono ?_; rintro r1 w1 ⟨rfl, hd, hf⟩
         have aT := zmk (iV.out.call hd hf); have z0 : w1.cell? ⟨g, 0, none⟩ = some (.int .u8 0) := aT.out.2.1.cell 0; have q0 : w1.frozen? ⟨g, 0, none⟩ = false := aT.out.2.1.frozen 0
         clear hd hf))
  first | (guard_hyp ag; go_cut [] (fun wx => ∃ v, Hid (DH te pe d g0 cur g 288 w wx T1 #[(.int .u8 (b : Int)), (.int .i32 (wrap32 x1)), (.float .f64 x2), (.int .u64 (x3 : Int)), (.int .u64 (x4 : Int)), (.float .f64 x5), v, .slice none 0 0, .slice none 0 0, .slice none 0 0, .slice none 0 0] [⟨361, 2, v, n1, (List.replicate n1 ((0, 0) : Int × Nat)).flatMap spc⟩]))) | (go_cut [] (fun wx => ∃ v, Hid (DH te pe d g0 cur g 296 w wx T1 (cF b x1 x2 x3 x4 x5 v (.slice none 0 0) (.slice none 0 0) (.slice none 0 0) (.slice none 0 0)) [⟨361, 2, v, n1, (List.replicate n1 ((0, 0) : Int × Nat)).flatMap spc⟩])))
  case first =>
   as_aux_lemma =>
    rcases zmH n1 with h0 | h0
    ·have h1 : ¬ (0 : Int) < (n1 : Int) := by omega
     have H0 := zmk h0; clear h0; go_wp2_with fail
     go_meet
     refine ⟨.slice none 0 0, zmk ?_⟩; have h := HD7.out.none_ 361 2; rw [H0.out]; exact h
    ·have h1 : (0 : Int) < (n1 : Int) := by omega
     obtain ⟨i0, aD, aA, az, aC⟩ := info_parts zki; have gy := zeO prog 285 361 #[.int .i32 0, .int .u32 0] 2 8 i0 _ zeA aD aA az aC rfl (by omega) n1 m1; obtain ⟨Z, hZ⟩ := exE (madeCells #[.int .i32 0, .int .u32 0] (n1 * 2))
     have HM := zmk (DH.make (f := spc) (zr := (0, 0)) (Z := Z) (e := 361) (z := 2) (n := n1) HD7.out (by rw [<- hZ]; exact zc8 spc (0, 0) #[.int .i32 0, .int .u32 0] 2 rfl rfl (by omega) (fun _ => rfl) n1) (by rw [<- hZ]; exact size_madeCells _ _) (by unfold maxLen; omega)); rw [hZ] at gy; have a0 : (w7.alloc (.cells Z 361)).cell? ⟨g, 6, none⟩ = some (.slice none 0 0) := HM.out.2.1.cell 6
     have a1 : (w7.alloc (.cells Z 361)).frozen? ⟨g, 6, none⟩ = false := HM.out.2.1.frozen 6; clear hZ; go_wp2_with fail
     go_meet
     exact ⟨_, zmk (HM.out.set 6 _)⟩
  case rest =>
   as_aux_lemma =>
    obtain ⟨v, HC⟩ := hcut; obtain ⟨A1, c1, rfl⟩ := zaa HC.out.row; have ig : Hid (n1 = n1) := zmk rfl; have z6 : wc.cell? ⟨g, 6, none⟩ = some (.slice A1 n1 c1) := HC.out.2.1.cell 6; clear HD7; go_wp2
    first | (guard_hyp ag; go_loopw [57] (fun i wr => ∃ (k : Nat) (acc rest : List (Int × Nat)) (ST : St), i = .int .i64 k /\ k <= n1 /\ Hid (acc.length = k /\ gN gSp (n1 - k) ST = (rest, S7) /\ acc ++ rest = pos) /\ Hid (DH te pe d g0 cur g 288 w wr ST #[(.int .u8 (b : Int)), (.int .i32 (wrap32 x1)), (.float .f64 x2), (.int .u64 (x3 : Int)), (.int .u64 (x4 : Int)), (.float .f64 x5), .slice A1 n1 c1, .slice none 0 0, .slice none 0 0, .slice none 0 0, .slice none 0 0] [⟨361, 2, .slice A1 n1 c1, n1, (acc ++ List.replicate (n1 - k) (0, 0)).flatMap spc⟩])) (fun i _ => n1 - (intOf i).toNat)) | (go_loopw [55] (fun i wr => ∃ (k : Nat) (acc rest : List (Int × Nat)) (ST : St), i = .int .i64 k /\ k <= n1 /\ Hid (acc.length = k /\ gN gSp (n1 - k) ST = (rest, S7) /\ acc ++ rest = pos) /\ Hid (DH te pe d g0 cur g 296 w wr ST (cF b x1 x2 x3 x4 x5 (.slice A1 n1 c1) (.slice none 0 0) (.slice none 0 0) (.slice none 0 0) (.slice none 0 0)) [⟨361, 2, .slice A1 n1 c1, n1, (acc ++ List.replicate (n1 - k) (0, 0)).flatMap spc⟩])) (fun i _ => n1 - (intOf i).toNat))
    case atStart => exact ⟨0, [], pos, T1, rfl, zmv _, zmk ⟨rfl, R1.out, rfl⟩, HC⟩
    case round =>
     obtain ⟨k, acc, rest, ST, rfl, hk, HA, HD⟩ := hrel; by_cases hlt : k < n1
     ·clear HC z6
      obtain ⟨m, c, hv, hm0, hc⟩ := ziZ HD.out.row (by omega); injection hv with cE bI eW; subst cE eW; have iw : g ≠ m := by omega
      obtain ⟨k', jB⟩ : ∃ k', n1 - k = k' + 1 := ⟨n1 - k - 1, by omega⟩; obtain ⟨eO, cB, gj⟩ := HA.out; rw [jB] at cB; obtain ⟨y0, U1, hy⟩ : ∃ a b, zaI ST = (a, b) := ⟨_, _, rfl⟩; obtain ⟨y1, U2, hu⟩ : ∃ a b, gUv U1 = (a, b) := ⟨_, _, rfl⟩; have hs : gSp ST = ((wrap32 y0, y1 % 4294967296), U2) := by unfold gSp; rw [hy]; simp only []; rw [hu]
      obtain ⟨x, hx⟩ := exE (((wrap32 y0, y1 % 4294967296) : Int × Nat)); have V1 : Hid (DQ te pe d g0 cur 165 ST (.int .i64 y0) U1) := zmk (fun W hW => by have := zdC te pe _ _ _ _ _ hW; rw [hy] at this; exact this); have V2 : Hid (DQ te pe d g0 cur 232 U1 (.int .u32 (IntKind.u32.wrap y1)) U2) := zmk (fun W hW => by have := zfM te pe _ _ _ _ _ hW; rw [hu] at this; exact this)
      have aN : rest = (wrap32 y0, y1 % 4294967296) :: (gN gSp k' U2).1 /\ (gN gSp k' U2).2 = S7 := by
       rw [gN, hs] at cB; exact ⟨(znb Prod.fst cB).symm, znb Prod.snd cB⟩
      have HB : Hid ((acc ++ [(wrap32 y0, y1 % 4294967296)]).length = k + 1 /\ gN gSp (n1 - (k + 1)) U2 = ((gN gSp k' U2).1, S7) /\ (acc ++ [(wrap32 y0, y1 % 4294967296)]) ++ (gN gSp k' U2).1 = pos) := zmk ⟨by rw [zml, eO]; rfl, by rw [show n1 - (k + 1) = k' by omega, <- aN.2], by rw [zmn, zm2, <- aN.1]; exact gj⟩; have HK := zmk eO
      have aT := zmk (HD.out.rep hlt); have z6 : wr.drew.cell? ⟨g, 6, none⟩ = some (.slice (some ⟨m, 0, none⟩) n1 c1) := aT.out.2.1.cell 6; clear HA HD eO cB gj aN hy hu hx hs; go_wp2_with fail
      go_region_held3 (fun w' => w'.cell? ⟨g, 6, none⟩ = some (.slice (some ⟨m, 0, none⟩) n1 c1))
       ((first | exact (Blk.far bz.out.2.1 (p := ⟨m, k * 2, none⟩) iw _).cell 6 | exact bz.out.2.1.cell 6 | exact aT.out.2.1.cell 6 | go_keep))
       ((go_at_call 165; refine (V1.out _ aT.out.1).mono ?_; rintro r dI ⟨rfl, hd, hf⟩
         have bz := zmk (aT.out.call hd hf); have s0 : dI.cell? ⟨m, k * 2, none⟩ = some (.int .i32 0) := zcp bz.out.row (zcZ spc 2 (fun _ => rfl) acc _ (0, 0) k 0 _ HK.out (by omega) (by omega)); have s1 : dI.frozen? ⟨m, k * 2, none⟩ = false := zco bz.out.row _
         clear hd hf))
      obtain ⟨W9, hW9⟩ : ∃ W, dI.setCell ⟨m, k * 2, none⟩ (.int .i32 (IntKind.i32.wrap y0)) = W := ⟨_, rfl⟩; rw [hW9]; have eh := zmk ((bz.out.pt (y := (wrap32 y0, 0)) hW9 (fun _ => rfl) HK.out 0 (by omega) (by omega) (by simp [spc, IntKind.wrap_i32, wrap32])).fr0 (znq _ W9).drew); have z6' : W9.drew.cell? ⟨g, 6, none⟩ = some (.slice (some ⟨m, 0, none⟩) n1 c1) := eh.out.2.1.cell 6
      clear aT bz hW9 s0 s1 z6; go_wp2_with fail
      go_region_held3 (fun w' => w'.cell? ⟨g, 6, none⟩ = some (.slice (some ⟨m, 0, none⟩) n1 c1))
       ((first | exact (Blk.far dm.out.2.1 (p := ⟨m, k * 2 + 1, none⟩) iw _).cell 6 | exact dm.out.2.1.cell 6 | exact eh.out.2.1.cell 6 | go_keep))
       ((go_at_call 232; refine (V2.out _ eh.out.1).mono ?_; rintro r mF ⟨rfl, hd, hf⟩
         have dm := zmk (eh.out.call hd hf); have s0 : mF.cell? ⟨m, k * 2 + 1, none⟩ = some (.int .u32 0) := zcp dm.out.row (zcZ spc 2 (fun _ => rfl) acc _ (wrap32 y0, 0) k 1 _ HK.out (by omega) (by omega)); have s1 : mF.frozen? ⟨m, k * 2 + 1, none⟩ = false := zco dm.out.row _
         clear hd hf))
      obtain ⟨WA, eP⟩ : ∃ W, mF.setCell ⟨m, k * 2 + 1, none⟩ (.int .u32 (IntKind.u32.wrap y1)) = W := ⟨_, rfl⟩; rw [eP]; have dB := zmk (dm.out.pt (y := (wrap32 y0, y1 % 4294967296)) eP (fun _ => rfl) HK.out 1 (by omega) (by omega) (by simp [spc, IntKind.wrap_u32])); clear eh dm eP s0 s1; go_wp2; go_roundw
      case rel => exact ⟨k + 1, acc ++ [(wrap32 y0, y1 % 4294967296)], (gN gSp k' U2).1, U2, by go_num, by omega, HB, zmk (by have h := dB.out; rw [znm] at h; exact h)⟩
      case measure => simp [intOf]; omega
     ·have eA : k = n1 := by omega
      have HX := zmk (HD.out.fin HA.out eA LL.out.1); have hlt2 : ¬ (k : Int) < (n1 : Int) := by omega
      clear HA HD HC hlt eA z6
      first
       | guard_hyp ag
         go_upto_if 83 with (first
          | (go_at_call 172; refine (HQ7.out _ HX.out.1).mono ?_; rintro r8 w8 ⟨rfl, hd, hf⟩
             have HD8 := zmk (HX.out.call hd hf)
             clear hd hf HX))
       | go_upto_if 81 with (first
          | (go_at_call 172; refine (HQ7.out _ HX.out.1).mono ?_; rintro r8 w8 ⟨rfl, hd, hf⟩
             have HD8 := zmk (HX.out.call hd hf)
             clear hd hf HX))
      first | (guard_hyp ag; go_cut [] (fun wx => ∃ v, Hid (DH te pe d g0 cur g 288 w wx T2 #[(.int .u8 (b : Int)), (.int .i32 (wrap32 x1)), (.float .f64 x2), (.int .u64 (x3 : Int)), (.int .u64 (x4 : Int)), (.float .f64 x5), .slice A1 n1 c1, v, .slice none 0 0, .slice none 0 0, .slice none 0 0] [⟨361, 2, v, n2, (List.replicate n2 ((0, 0) : Int × Nat)).flatMap spc⟩, rwS A1 n1 c1 pos]))) | (go_cut [] (fun wx => ∃ v, Hid (DH te pe d g0 cur g 296 w wx T2 (cF b x1 x2 x3 x4 x5 (.slice A1 n1 c1) v (.slice none 0 0) (.slice none 0 0) (.slice none 0 0)) [⟨361, 2, v, n2, (List.replicate n2 ((0, 0) : Int × Nat)).flatMap spc⟩, rwS A1 n1 c1 pos])))
      case first =>
       as_aux_lemma =>
        rcases zmH n2 with h0 | h0
        ·have h1 : ¬ (0 : Int) < (n2 : Int) := by omega
         have H0 := zmk h0; clear h0; go_wp2_with fail
         go_meet
         refine ⟨.slice none 0 0, zmk ?_⟩; have h := HD8.out.none_ 361 2; rw [H0.out]; exact h
        ·have h1 : (0 : Int) < (n2 : Int) := by omega
         obtain ⟨i0, aD, aA, az, aC⟩ := info_parts zki; have gy := zeO prog 285 361 #[.int .i32 0, .int .u32 0] 2 8 i0 _ zeA aD aA az aC rfl (by omega) n2 m2; obtain ⟨Z, hZ⟩ := exE (madeCells #[.int .i32 0, .int .u32 0] (n2 * 2))
         have HM := zmk (DH.make (f := spc) (zr := (0, 0)) (Z := Z) (e := 361) (z := 2) (n := n2) HD8.out (by rw [<- hZ]; exact zc8 spc (0, 0) #[.int .i32 0, .int .u32 0] 2 rfl rfl (by omega) (fun _ => rfl) n2) (by rw [<- hZ]; exact size_madeCells _ _) (by unfold maxLen; omega)); rw [hZ] at gy; have a0 : (w8.alloc (.cells Z 361)).cell? ⟨g, 7, none⟩ = some (.slice none 0 0) := HM.out.2.1.cell 7
         have a1 : (w8.alloc (.cells Z 361)).frozen? ⟨g, 7, none⟩ = false := HM.out.2.1.frozen 7; clear hZ; go_wp2_with fail
         go_meet
         exact ⟨_, zmk (HM.out.set 7 _)⟩
      case rest =>
       as_aux_lemma =>
        obtain ⟨v, HC⟩ := hcut; obtain ⟨A2, c2, rfl⟩ := zaa HC.out.row; have HN2 : Hid (n2 = n2) := zmk rfl; have z7 : wc.cell? ⟨g, 7, none⟩ = some (.slice A2 n2 c2) := HC.out.2.1.cell 7; clear HD8; go_wp2
        first | (guard_hyp ag; go_loopw [94] (fun i wr => ∃ (k : Nat) (acc rest : List (Int × Nat)) (ST : St), i = .int .i64 k /\ k <= n2 /\ Hid (acc.length = k /\ gN gSp (n2 - k) ST = (rest, S8) /\ acc ++ rest = neg) /\ Hid (DH te pe d g0 cur g 288 w wr ST #[(.int .u8 (b : Int)), (.int .i32 (wrap32 x1)), (.float .f64 x2), (.int .u64 (x3 : Int)), (.int .u64 (x4 : Int)), (.float .f64 x5), .slice A1 n1 c1, .slice A2 n2 c2, .slice none 0 0, .slice none 0 0, .slice none 0 0] [⟨361, 2, .slice A2 n2 c2, n2, (acc ++ List.replicate (n2 - k) (0, 0)).flatMap spc⟩, rwS A1 n1 c1 pos])) (fun i _ => n2 - (intOf i).toNat)) | (go_loopw [92] (fun i wr => ∃ (k : Nat) (acc rest : List (Int × Nat)) (ST : St), i = .int .i64 k /\ k <= n2 /\ Hid (acc.length = k /\ gN gSp (n2 - k) ST = (rest, S8) /\ acc ++ rest = neg) /\ Hid (DH te pe d g0 cur g 296 w wr ST (cF b x1 x2 x3 x4 x5 (.slice A1 n1 c1) (.slice A2 n2 c2) (.slice none 0 0) (.slice none 0 0) (.slice none 0 0)) [⟨361, 2, .slice A2 n2 c2, n2, (acc ++ List.replicate (n2 - k) (0, 0)).flatMap spc⟩, rwS A1 n1 c1 pos])) (fun i _ => n2 - (intOf i).toNat))
        case atStart => exact ⟨0, [], neg, T2, rfl, zmv _, zmk ⟨rfl, R2.out, rfl⟩, HC⟩
        case round =>
         obtain ⟨k, acc, rest, ST, rfl, hk, HA, HD⟩ := hrel; by_cases hlt : k < n2
         ·clear HC z7
          obtain ⟨m, c, hv, hm0, hc⟩ := ziZ HD.out.row (by omega); injection hv with cE bI eW; subst cE eW; have iw : g ≠ m := by omega
          obtain ⟨k', jB⟩ : ∃ k', n2 - k = k' + 1 := ⟨n2 - k - 1, by omega⟩; obtain ⟨eO, cB, gj⟩ := HA.out; rw [jB] at cB; obtain ⟨y0, U1, hy⟩ : ∃ a b, zaI ST = (a, b) := ⟨_, _, rfl⟩; obtain ⟨y1, U2, hu⟩ : ∃ a b, gUv U1 = (a, b) := ⟨_, _, rfl⟩; have hs : gSp ST = ((wrap32 y0, y1 % 4294967296), U2) := by unfold gSp; rw [hy]; simp only []; rw [hu]
          obtain ⟨x, hx⟩ := exE (((wrap32 y0, y1 % 4294967296) : Int × Nat)); have V1 : Hid (DQ te pe d g0 cur 165 ST (.int .i64 y0) U1) := zmk (fun W hW => by have := zdC te pe _ _ _ _ _ hW; rw [hy] at this; exact this); have V2 : Hid (DQ te pe d g0 cur 232 U1 (.int .u32 (IntKind.u32.wrap y1)) U2) := zmk (fun W hW => by have := zfM te pe _ _ _ _ _ hW; rw [hu] at this; exact this)
          have aN : rest = (wrap32 y0, y1 % 4294967296) :: (gN gSp k' U2).1 /\ (gN gSp k' U2).2 = S8 := by
           rw [gN, hs] at cB; exact ⟨(znb Prod.fst cB).symm, znb Prod.snd cB⟩
          have HB : Hid ((acc ++ [(wrap32 y0, y1 % 4294967296)]).length = k + 1 /\ gN gSp (n2 - (k + 1)) U2 = ((gN gSp k' U2).1, S8) /\ (acc ++ [(wrap32 y0, y1 % 4294967296)]) ++ (gN gSp k' U2).1 = neg) := zmk ⟨by rw [zml, eO]; rfl, by rw [show n2 - (k + 1) = k' by omega, <- aN.2], by rw [zmn, zm2, <- aN.1]; exact gj⟩; have HK := zmk eO
          have aT := zmk (HD.out.rep hlt); have z7 : wr.drew.cell? ⟨g, 7, none⟩ = some (.slice (some ⟨m, 0, none⟩) n2 c2) := aT.out.2.1.cell 7; clear HA HD eO cB gj aN hy hu hx hs; go_wp2_with fail
          go_region_held3 (fun w' => w'.cell? ⟨g, 7, none⟩ = some (.slice (some ⟨m, 0, none⟩) n2 c2))
           ((first | exact (Blk.far bz.out.2.1 (p := ⟨m, k * 2, none⟩) iw _).cell 7 | exact bz.out.2.1.cell 7 | exact aT.out.2.1.cell 7 | go_keep))
           ((go_at_call 165; refine (V1.out _ aT.out.1).mono ?_; rintro r dI ⟨rfl, hd, hf⟩
             have bz := zmk (aT.out.call hd hf); have s0 : dI.cell? ⟨m, k * 2, none⟩ = some (.int .i32 0) := zcp bz.out.row (zcZ spc 2 (fun _ => rfl) acc _ (0, 0) k 0 _ HK.out (by omega) (by omega)); have s1 : dI.frozen? ⟨m, k * 2, none⟩ = false := zco bz.out.row _
             clear hd hf))
          obtain ⟨W9, hW9⟩ : ∃ W, dI.setCell ⟨m, k * 2, none⟩ (.int .i32 (IntKind.i32.wrap y0)) = W := ⟨_, rfl⟩; rw [hW9]; have eh := zmk ((bz.out.pt (y := (wrap32 y0, 0)) hW9 (fun _ => rfl) HK.out 0 (by omega) (by omega) (by simp [spc, IntKind.wrap_i32, wrap32])).fr0 (znq _ W9).drew); have z7' : W9.drew.cell? ⟨g, 7, none⟩ = some (.slice (some ⟨m, 0, none⟩) n2 c2) := eh.out.2.1.cell 7
          clear aT bz hW9 s0 s1 z7; go_wp2_with fail
          go_region_held3 (fun w' => w'.cell? ⟨g, 7, none⟩ = some (.slice (some ⟨m, 0, none⟩) n2 c2))
           ((first | exact (Blk.far dm.out.2.1 (p := ⟨m, k * 2 + 1, none⟩) iw _).cell 7 | exact dm.out.2.1.cell 7 | exact eh.out.2.1.cell 7 | go_keep))
           ((go_at_call 232; refine (V2.out _ eh.out.1).mono ?_; rintro r mF ⟨rfl, hd, hf⟩
             have dm := zmk (eh.out.call hd hf); have s0 : mF.cell? ⟨m, k * 2 + 1, none⟩ = some (.int .u32 0) := zcp dm.out.row (zcZ spc 2 (fun _ => rfl) acc _ (wrap32 y0, 0) k 1 _ HK.out (by omega) (by omega)); have s1 : mF.frozen? ⟨m, k * 2 + 1, none⟩ = false := zco dm.out.row _
             clear hd hf))
          obtain ⟨WA, eP⟩ : ∃ W, mF.setCell ⟨m, k * 2 + 1, none⟩ (.int .u32 (IntKind.u32.wrap y1)) = W := ⟨_, rfl⟩; rw [eP]; have dB := zmk (dm.out.pt (y := (wrap32 y0, y1 % 4294967296)) eP (fun _ => rfl) HK.out 1 (by omega) (by omega) (by simp [spc, IntKind.wrap_u32])); clear eh dm eP s0 s1; go_wp2; go_roundw
          case rel => exact ⟨k + 1, acc ++ [(wrap32 y0, y1 % 4294967296)], (gN gSp k' U2).1, U2, by go_num, by omega, HB, zmk (by have h := dB.out; rw [znm] at h; exact h)⟩
          case measure => simp [intOf]; omega
         ·have eA : k = n2 := by omega
          have HX := zmk (HD.out.fin HA.out eA LL.out.2.1); have hlt2 : ¬ (k : Int) < (n2 : Int) := by omega
          clear HA HD HC hlt eA z7
          first
           | guard_hyp ag
             go_upto_if 120 with (first
              | (go_at_call 172; refine (HQ8.out _ HX.out.1).mono ?_; rintro r9 w9 ⟨rfl, hd, hf⟩
                 have oG := zmk (HX.out.call hd hf)
                 clear hd hf HX))
           | go_upto_if 118 with (first
              | (go_at_call 172; refine (HQ8.out _ HX.out.1).mono ?_; rintro r9 w9 ⟨rfl, hd, hf⟩
                 have oG := zmk (HX.out.call hd hf)
                 clear hd hf HX))
          first | (guard_hyp ag; go_cut [] (fun wx => ∃ v, Hid (DH te pe d g0 cur g 288 w wx T3 #[(.int .u8 (b : Int)), (.int .i32 (wrap32 x1)), (.float .f64 x2), (.int .u64 (x3 : Int)), (.int .u64 (x4 : Int)), (.float .f64 x5), .slice A1 n1 c1, .slice A2 n2 c2, v, .slice none 0 0, .slice none 0 0] [⟨2, 1, v, n3, (List.replicate n3 (0 : Int)).flatMap i1⟩, rwS A2 n2 c2 neg, rwS A1 n1 c1 pos]))) | (go_cut [] (fun wx => ∃ v, Hid (DH te pe d g0 cur g 296 w wx T3 (cF b x1 x2 x3 x4 x5 (.slice A1 n1 c1) (.slice A2 n2 c2) v (.slice none 0 0) (.slice none 0 0)) [⟨135, 1, v, n3, (List.replicate n3 (0 : Nat)).flatMap f1⟩, rwS A2 n2 c2 neg, rwS A1 n1 c1 pos])))
          case first =>
           as_aux_lemma =>
            rcases zmH n3 with h0 | h0
            ·have h1 : ¬ (0 : Int) < (n3 : Int) := by omega
             have H0 := zmk h0; clear h0; go_wp2_with fail
             go_meet
             refine ⟨.slice none 0 0, zmk ?_⟩
             first | (guard_hyp ag; have h := oG.out.none_ 2 1) | (have h := oG.out.none_ 135 1)
             rw [H0.out]; exact h
            ·have h1 : (0 : Int) < (n3 : Int) := by omega
             first | (guard_hyp ag; obtain ⟨i0, aD, aA, az, aC⟩ := info_parts info2) | (obtain ⟨i0, aD, aA, az, aC⟩ := info_parts zij)
             first | (guard_hyp ag; have gy := zeO prog 189 2 #[.int .i64 0] 1 8 i0 _ zeB aD aA az aC rfl (by omega) n3 m3) | (have gy := zeO prog 286 135 #[.float .f64 0] 1 8 i0 _ zdq aD aA az aC rfl (by omega) n3 m3)
             first | (guard_hyp ag; obtain ⟨Z, hZ⟩ := exE (madeCells #[.int .i64 0] (n3 * 1))) | (obtain ⟨Z, hZ⟩ := exE (madeCells #[.float .f64 0] (n3 * 1)))
             first | (guard_hyp ag; have HM := zmk (DH.make (f := i1) (zr := 0) (Z := Z) (e := 2) (z := 1) (n := n3) oG.out (by rw [<- hZ]; exact zc8 i1 0 #[.int .i64 0] 1 rfl rfl (by omega) (fun _ => rfl) n3) (by rw [<- hZ]; exact size_madeCells _ _) (by unfold maxLen; omega))) | (have HM := zmk (DH.make (f := f1) (zr := 0) (Z := Z) (e := 135) (z := 1) (n := n3) oG.out (by rw [<- hZ]; exact zc8 f1 0 #[.float .f64 0] 1 rfl rfl (by omega) (fun _ => rfl) n3) (by rw [<- hZ]; exact size_madeCells _ _) (by unfold maxLen; omega)))
             rw [hZ] at gy
             first | (guard_hyp ag; have a0 : (w9.alloc (.cells Z 2)).cell? ⟨g, 8, none⟩ = some (.slice none 0 0) := HM.out.2.1.cell 8) | (have a0 : (w9.alloc (.cells Z 135)).cell? ⟨g, 8, none⟩ = some (.slice none 0 0) := HM.out.2.1.cell 8)
             first | (guard_hyp ag; have a1 : (w9.alloc (.cells Z 2)).frozen? ⟨g, 8, none⟩ = false := HM.out.2.1.frozen 8) | (have a1 : (w9.alloc (.cells Z 135)).frozen? ⟨g, 8, none⟩ = false := HM.out.2.1.frozen 8)
             clear hZ; go_wp2_with fail
             go_meet
             exact ⟨_, zmk (HM.out.set 8 _)⟩
          case rest =>
           as_aux_lemma =>
            obtain ⟨v, HC⟩ := hcut; obtain ⟨A3, c3, rfl⟩ := zaa HC.out.row; have HN3 : Hid (n3 = n3) := zmk rfl; have z8 : wc.cell? ⟨g, 8, none⟩ = some (.slice A3 n3 c3) := HC.out.2.1.cell 8; clear oG; go_wp2
            first | (guard_hyp ag; go_loopw [131] (fun i wr => ∃ (k : Nat) (acc rest : List Int) (ST : St), i = .int .i64 k /\ k <= n3 /\ Hid (acc.length = k /\ gN zaI (n3 - k) ST = (rest, S9) /\ acc ++ rest = ups) /\ Hid (DH te pe d g0 cur g 288 w wr ST #[(.int .u8 (b : Int)), (.int .i32 (wrap32 x1)), (.float .f64 x2), (.int .u64 (x3 : Int)), (.int .u64 (x4 : Int)), (.float .f64 x5), .slice A1 n1 c1, .slice A2 n2 c2, .slice A3 n3 c3, .slice none 0 0, .slice none 0 0] [⟨2, 1, .slice A3 n3 c3, n3, (acc ++ List.replicate (n3 - k) 0).flatMap i1⟩, rwS A2 n2 c2 neg, rwS A1 n1 c1 pos])) (fun i _ => n3 - (intOf i).toNat)) | (go_loopw [129] (fun i wr => ∃ (k : Nat) (acc rest : List Nat) (ST : St), i = .int .i64 k /\ k <= n3 /\ Hid (acc.length = k /\ gN zab (n3 - k) ST = (rest, S9) /\ acc ++ rest = fups) /\ Hid (DH te pe d g0 cur g 296 w wr ST (cF b x1 x2 x3 x4 x5 (.slice A1 n1 c1) (.slice A2 n2 c2) (.slice A3 n3 c3) (.slice none 0 0) (.slice none 0 0)) [⟨135, 1, .slice A3 n3 c3, n3, (acc ++ List.replicate (n3 - k) 0).flatMap f1⟩, rwS A2 n2 c2 neg, rwS A1 n1 c1 pos])) (fun i _ => n3 - (intOf i).toNat))
            case atStart => first | (guard_hyp ag; exact ⟨0, [], ups, T3, rfl, zmv _, zmk ⟨rfl, R3.out, rfl⟩, HC⟩) | (exact ⟨0, [], fups, T3, rfl, zmv _, zmk ⟨rfl, R3.out, rfl⟩, HC⟩)
            case round =>
             obtain ⟨k, acc, rest, ST, rfl, hk, HA, HD⟩ := hrel; by_cases hlt : k < n3
             ·clear HC z8
              obtain ⟨m, c, hv, hm0, hc⟩ := ziZ HD.out.row (by omega); injection hv with cE bI eW; subst cE eW; have iw : g ≠ m := by omega
              obtain ⟨k', jB⟩ : ∃ k', n3 - k = k' + 1 := ⟨n3 - k - 1, by omega⟩; obtain ⟨eO, cB, gj⟩ := HA.out; rw [jB] at cB
              first | (guard_hyp ag; obtain ⟨x, U1, hs⟩ : ∃ a b, zaI ST = (a, b) := ⟨_, _, rfl⟩) | (obtain ⟨x, U1, hs⟩ : ∃ a b, zab ST = (a, b) := ⟨_, _, rfl⟩)
              first | (guard_hyp ag; have V1 : Hid (DQ te pe d g0 cur 165 ST (.int .i64 x) U1) := zmk (fun W hW => by have := zdC te pe _ _ _ _ _ hW; rw [hs] at this; exact this)) | (have V1 : Hid (DQ te pe d g0 cur 234 ST (.float .f64 x) U1) := zmk (fun W hW => by have := zdU te pe _ _ _ _ _ hW; rw [hs] at this; exact this))
              first
               | guard_hyp ag
                 have aN : rest = x :: (gN zaI k' U1).1 /\ (gN zaI k' U1).2 = S9 := by
                  rw [gN, hs] at cB; exact ⟨(znb Prod.fst cB).symm, znb Prod.snd cB⟩
               | have aN : rest = x :: (gN zab k' U1).1 /\ (gN zab k' U1).2 = S9 := by
                  rw [gN, hs] at cB; exact ⟨(znb Prod.fst cB).symm, znb Prod.snd cB⟩
              first | (guard_hyp ag; have HB : Hid ((acc ++ [x]).length = k + 1 /\ gN zaI (n3 - (k + 1)) U1 = ((gN zaI k' U1).1, S9) /\ (acc ++ [x]) ++ (gN zaI k' U1).1 = ups) := zmk ⟨by rw [zml, eO]; rfl, by rw [show n3 - (k + 1) = k' by omega, <- aN.2], by rw [zmn, zm2, <- aN.1]; exact gj⟩) | (have HB : Hid ((acc ++ [x]).length = k + 1 /\ gN zab (n3 - (k + 1)) U1 = ((gN zab k' U1).1, S9) /\ (acc ++ [x]) ++ (gN zab k' U1).1 = fups) := zmk ⟨by rw [zml, eO]; rfl, by rw [show n3 - (k + 1) = k' by omega, <- aN.2], by rw [zmn, zm2, <- aN.1]; exact gj⟩)
              have HK := zmk eO; have aT := zmk (HD.out.rep hlt); have z8 : wr.drew.cell? ⟨g, 8, none⟩ = some (.slice (some ⟨m, 0, none⟩) n3 c3) := aT.out.2.1.cell 8; clear HA HD eO cB gj aN hs; go_wp2_with fail
              first
               | guard_hyp ag
                 go_region_held3 (fun w' => w'.cell? ⟨g, 8, none⟩ = some (.slice (some ⟨m, 0, none⟩) n3 c3))
                  ((first | exact (Blk.far bz.out.2.1 (p := ⟨m, k, none⟩) iw _).cell 8 | exact bz.out.2.1.cell 8 | exact aT.out.2.1.cell 8 | go_keep))
                  ((go_at_call 165; refine (V1.out _ aT.out.1).mono ?_; rintro r dI ⟨rfl, hd, hf⟩
                    have bz := zmk (aT.out.call hd hf); have s0 : dI.cell? ⟨m, k, none⟩ = some (.int .i64 0) := zcp bz.out.row (zcZ i1 1 (fun _ => rfl) acc _ 0 k 0 _ HK.out (by omega) (by omega)); have s1 : dI.frozen? ⟨m, k, none⟩ = false := zco bz.out.row _
                    clear hd hf))
               | go_region_held3 (fun w' => w'.cell? ⟨g, 8, none⟩ = some (.slice (some ⟨m, 0, none⟩) n3 c3))
                  ((first | exact (Blk.far bz.out.2.1 (p := ⟨m, k, none⟩) iw _).cell 8 | exact bz.out.2.1.cell 8 | exact aT.out.2.1.cell 8 | go_keep))
                  ((go_at_call 234; refine (V1.out _ aT.out.1).mono ?_; rintro r dI ⟨rfl, hd, hf⟩
                    have bz := zmk (aT.out.call hd hf); have s0 : dI.cell? ⟨m, k, none⟩ = some (.float .f64 0) := zcp bz.out.row (zcZ f1 1 (fun _ => rfl) acc _ 0 k 0 _ HK.out (by omega) (by omega)); have s1 : dI.frozen? ⟨m, k, none⟩ = false := zco bz.out.row _
                    clear hd hf))
              first | (guard_hyp ag; obtain ⟨WA, eP⟩ : ∃ W, dI.setCell ⟨m, k, none⟩ (.int .i64 x) = W := ⟨_, rfl⟩) | (obtain ⟨WA, eP⟩ : ∃ W, dI.setCell ⟨m, k, none⟩ (.float .f64 x) = W := ⟨_, rfl⟩)
              rw [eP]; have dB := zmk (bz.out.pt (y := x) eP (fun _ => rfl) HK.out 0 (by omega) (by omega) rfl); clear aT bz eP s0 s1 z8; go_wp2; go_roundw
              case rel => first | (guard_hyp ag; exact ⟨k + 1, acc ++ [x], (gN zaI k' U1).1, U1, by go_num, by omega, HB, zmk (by have h := dB.out; rw [znm] at h; exact h)⟩) | (exact ⟨k + 1, acc ++ [x], (gN zab k' U1).1, U1, by go_num, by omega, HB, zmk (by have h := dB.out; rw [znm] at h; exact h)⟩)
              case measure => simp [intOf]; omega
             ·have eA : k = n3 := by omega
              have HX := zmk (HD.out.fin HA.out eA LL.out.2.2.1); have hlt2 : ¬ (k : Int) < (n3 : Int) := by omega
              clear HA HD HC hlt eA z8
              first
               | guard_hyp ag
                 go_upto_if 146 with (first
                  | (go_at_call 172; refine (HQ9.out _ HX.out.1).mono ?_; rintro r10 cX ⟨rfl, hd, hf⟩
                     have iU := zmk (HX.out.call hd hf)
                     clear hd hf HX))
               | go_upto_if 144 with (first
                  | (go_at_call 172; refine (HQ9.out _ HX.out.1).mono ?_; rintro r10 cX ⟨rfl, hd, hf⟩
                     have iU := zmk (HX.out.call hd hf)
                     clear hd hf HX))
              first | (guard_hyp ag; go_cut [] (fun wx => ∃ v, Hid (DH te pe d g0 cur g 288 w wx T4 #[(.int .u8 (b : Int)), (.int .i32 (wrap32 x1)), (.float .f64 x2), (.int .u64 (x3 : Int)), (.int .u64 (x4 : Int)), (.float .f64 x5), .slice A1 n1 c1, .slice A2 n2 c2, .slice A3 n3 c3, v, .slice none 0 0] [⟨2, 1, v, n4, (List.replicate n4 (0 : Int)).flatMap i1⟩, rwI A3 n3 c3 ups, rwS A2 n2 c2 neg, rwS A1 n1 c1 pos]))) | (go_cut [] (fun wx => ∃ v, Hid (DH te pe d g0 cur g 296 w wx T4 (cF b x1 x2 x3 x4 x5 (.slice A1 n1 c1) (.slice A2 n2 c2) (.slice A3 n3 c3) v (.slice none 0 0)) [⟨135, 1, v, n4, (List.replicate n4 (0 : Nat)).flatMap f1⟩, rwF A3 n3 c3 fups, rwS A2 n2 c2 neg, rwS A1 n1 c1 pos])))
              case first =>
               as_aux_lemma =>
                rcases zmH n4 with h0 | h0
                ·have h1 : ¬ (0 : Int) < (n4 : Int) := by omega
                 have H0 := zmk h0; clear h0; go_wp2_with fail
                 go_meet
                 refine ⟨.slice none 0 0, zmk ?_⟩
                 first | (guard_hyp ag; have h := iU.out.none_ 2 1) | (have h := iU.out.none_ 135 1)
                 rw [H0.out]; exact h
                ·have h1 : (0 : Int) < (n4 : Int) := by omega
                 first | (guard_hyp ag; obtain ⟨i0, aD, aA, az, aC⟩ := info_parts info2) | (obtain ⟨i0, aD, aA, az, aC⟩ := info_parts zij)
                 first | (guard_hyp ag; have gy := zeO prog 189 2 #[.int .i64 0] 1 8 i0 _ zeB aD aA az aC rfl (by omega) n4 m4) | (have gy := zeO prog 286 135 #[.float .f64 0] 1 8 i0 _ zdq aD aA az aC rfl (by omega) n4 m4)
                 first | (guard_hyp ag; obtain ⟨Z, hZ⟩ := exE (madeCells #[.int .i64 0] (n4 * 1))) | (obtain ⟨Z, hZ⟩ := exE (madeCells #[.float .f64 0] (n4 * 1)))
                 first | (guard_hyp ag; have HM := zmk (DH.make (f := i1) (zr := 0) (Z := Z) (e := 2) (z := 1) (n := n4) iU.out (by rw [<- hZ]; exact zc8 i1 0 #[.int .i64 0] 1 rfl rfl (by omega) (fun _ => rfl) n4) (by rw [<- hZ]; exact size_madeCells _ _) (by unfold maxLen; omega))) | (have HM := zmk (DH.make (f := f1) (zr := 0) (Z := Z) (e := 135) (z := 1) (n := n4) iU.out (by rw [<- hZ]; exact zc8 f1 0 #[.float .f64 0] 1 rfl rfl (by omega) (fun _ => rfl) n4) (by rw [<- hZ]; exact size_madeCells _ _) (by unfold maxLen; omega)))
                 rw [hZ] at gy
                 first | (guard_hyp ag; have a0 : (cX.alloc (.cells Z 2)).cell? ⟨g, 9, none⟩ = some (.slice none 0 0) := HM.out.2.1.cell 9) | (have a0 : (cX.alloc (.cells Z 135)).cell? ⟨g, 9, none⟩ = some (.slice none 0 0) := HM.out.2.1.cell 9)
                 first | (guard_hyp ag; have a1 : (cX.alloc (.cells Z 2)).frozen? ⟨g, 9, none⟩ = false := HM.out.2.1.frozen 9) | (have a1 : (cX.alloc (.cells Z 135)).frozen? ⟨g, 9, none⟩ = false := HM.out.2.1.frozen 9)
                 clear hZ; go_wp2_with fail
                 go_meet
                 exact ⟨_, zmk (HM.out.set 9 _)⟩
              case rest =>
               as_aux_lemma =>
                obtain ⟨v, HC⟩ := hcut; obtain ⟨A4, c4, rfl⟩ := zaa HC.out.row; have HN4 : Hid (n4 = n4) := zmk rfl; have z9 : wc.cell? ⟨g, 9, none⟩ = some (.slice A4 n4 c4) := HC.out.2.1.cell 9; clear iU; go_wp2
                first | (guard_hyp ag; go_loopw [157] (fun i wr => ∃ (k : Nat) (acc rest : List Int) (ST : St), i = .int .i64 k /\ k <= n4 /\ Hid (acc.length = k /\ gN zaI (n4 - k) ST = (rest, gm) /\ acc ++ rest = downs) /\ Hid (DH te pe d g0 cur g 288 w wr ST #[(.int .u8 (b : Int)), (.int .i32 (wrap32 x1)), (.float .f64 x2), (.int .u64 (x3 : Int)), (.int .u64 (x4 : Int)), (.float .f64 x5), .slice A1 n1 c1, .slice A2 n2 c2, .slice A3 n3 c3, .slice A4 n4 c4, .slice none 0 0] [⟨2, 1, .slice A4 n4 c4, n4, (acc ++ List.replicate (n4 - k) 0).flatMap i1⟩, rwI A3 n3 c3 ups, rwS A2 n2 c2 neg, rwS A1 n1 c1 pos])) (fun i _ => n4 - (intOf i).toNat)) | (go_loopw [155] (fun i wr => ∃ (k : Nat) (acc rest : List Nat) (ST : St), i = .int .i64 k /\ k <= n4 /\ Hid (acc.length = k /\ gN zab (n4 - k) ST = (rest, gm) /\ acc ++ rest = fdowns) /\ Hid (DH te pe d g0 cur g 296 w wr ST (cF b x1 x2 x3 x4 x5 (.slice A1 n1 c1) (.slice A2 n2 c2) (.slice A3 n3 c3) (.slice A4 n4 c4) (.slice none 0 0)) [⟨135, 1, .slice A4 n4 c4, n4, (acc ++ List.replicate (n4 - k) 0).flatMap f1⟩, rwF A3 n3 c3 fups, rwS A2 n2 c2 neg, rwS A1 n1 c1 pos])) (fun i _ => n4 - (intOf i).toNat))
                case atStart => first | (guard_hyp ag; exact ⟨0, [], downs, T4, rfl, zmv _, zmk ⟨rfl, R4.out, rfl⟩, HC⟩) | (exact ⟨0, [], fdowns, T4, rfl, zmv _, zmk ⟨rfl, R4.out, rfl⟩, HC⟩)
                case round =>
                 obtain ⟨k, acc, rest, ST, rfl, hk, HA, HD⟩ := hrel; by_cases hlt : k < n4
                 ·clear HC z9
                  obtain ⟨m, c, hv, hm0, hc⟩ := ziZ HD.out.row (by omega); injection hv with cE bI eW; subst cE eW; have iw : g ≠ m := by omega
                  obtain ⟨k', jB⟩ : ∃ k', n4 - k = k' + 1 := ⟨n4 - k - 1, by omega⟩; obtain ⟨eO, cB, gj⟩ := HA.out; rw [jB] at cB
                  first | (guard_hyp ag; obtain ⟨x, U1, hs⟩ : ∃ a b, zaI ST = (a, b) := ⟨_, _, rfl⟩) | (obtain ⟨x, U1, hs⟩ : ∃ a b, zab ST = (a, b) := ⟨_, _, rfl⟩)
                  first | (guard_hyp ag; have V1 : Hid (DQ te pe d g0 cur 165 ST (.int .i64 x) U1) := zmk (fun W hW => by have := zdC te pe _ _ _ _ _ hW; rw [hs] at this; exact this)) | (have V1 : Hid (DQ te pe d g0 cur 234 ST (.float .f64 x) U1) := zmk (fun W hW => by have := zdU te pe _ _ _ _ _ hW; rw [hs] at this; exact this))
                  first
                   | guard_hyp ag
                     have aN : rest = x :: (gN zaI k' U1).1 /\ (gN zaI k' U1).2 = gm := by
                      rw [gN, hs] at cB; exact ⟨(znb Prod.fst cB).symm, znb Prod.snd cB⟩
                   | have aN : rest = x :: (gN zab k' U1).1 /\ (gN zab k' U1).2 = gm := by
                      rw [gN, hs] at cB; exact ⟨(znb Prod.fst cB).symm, znb Prod.snd cB⟩
                  first | (guard_hyp ag; have HB : Hid ((acc ++ [x]).length = k + 1 /\ gN zaI (n4 - (k + 1)) U1 = ((gN zaI k' U1).1, gm) /\ (acc ++ [x]) ++ (gN zaI k' U1).1 = downs) := zmk ⟨by rw [zml, eO]; rfl, by rw [show n4 - (k + 1) = k' by omega, <- aN.2], by rw [zmn, zm2, <- aN.1]; exact gj⟩) | (have HB : Hid ((acc ++ [x]).length = k + 1 /\ gN zab (n4 - (k + 1)) U1 = ((gN zab k' U1).1, gm) /\ (acc ++ [x]) ++ (gN zab k' U1).1 = fdowns) := zmk ⟨by rw [zml, eO]; rfl, by rw [show n4 - (k + 1) = k' by omega, <- aN.2], by rw [zmn, zm2, <- aN.1]; exact gj⟩)
                  have HK := zmk eO; have aT := zmk (HD.out.rep hlt); have z9 : wr.drew.cell? ⟨g, 9, none⟩ = some (.slice (some ⟨m, 0, none⟩) n4 c4) := aT.out.2.1.cell 9; clear HA HD eO cB gj aN hs; go_wp2_with fail
                  first
                   | guard_hyp ag
                     go_region_held3 (fun w' => w'.cell? ⟨g, 9, none⟩ = some (.slice (some ⟨m, 0, none⟩) n4 c4))
                      ((first | exact (Blk.far bz.out.2.1 (p := ⟨m, k, none⟩) iw _).cell 9 | exact bz.out.2.1.cell 9 | exact aT.out.2.1.cell 9 | go_keep))
                      ((go_at_call 165; refine (V1.out _ aT.out.1).mono ?_; rintro r dI ⟨rfl, hd, hf⟩
                        have bz := zmk (aT.out.call hd hf); have s0 : dI.cell? ⟨m, k, none⟩ = some (.int .i64 0) := zcp bz.out.row (zcZ i1 1 (fun _ => rfl) acc _ 0 k 0 _ HK.out (by omega) (by omega)); have s1 : dI.frozen? ⟨m, k, none⟩ = false := zco bz.out.row _
                        clear hd hf))
                   | go_region_held3 (fun w' => w'.cell? ⟨g, 9, none⟩ = some (.slice (some ⟨m, 0, none⟩) n4 c4))
                      ((first | exact (Blk.far bz.out.2.1 (p := ⟨m, k, none⟩) iw _).cell 9 | exact bz.out.2.1.cell 9 | exact aT.out.2.1.cell 9 | go_keep))
                      ((go_at_call 234; refine (V1.out _ aT.out.1).mono ?_; rintro r dI ⟨rfl, hd, hf⟩
                        have bz := zmk (aT.out.call hd hf); have s0 : dI.cell? ⟨m, k, none⟩ = some (.float .f64 0) := zcp bz.out.row (zcZ f1 1 (fun _ => rfl) acc _ 0 k 0 _ HK.out (by omega) (by omega)); have s1 : dI.frozen? ⟨m, k, none⟩ = false := zco bz.out.row _
                        clear hd hf))
                  first | (guard_hyp ag; obtain ⟨WA, eP⟩ : ∃ W, dI.setCell ⟨m, k, none⟩ (.int .i64 x) = W := ⟨_, rfl⟩) | (obtain ⟨WA, eP⟩ : ∃ W, dI.setCell ⟨m, k, none⟩ (.float .f64 x) = W := ⟨_, rfl⟩)
                  rw [eP]; have dB := zmk (bz.out.pt (y := x) eP (fun _ => rfl) HK.out 0 (by omega) (by omega) rfl); clear aT bz eP s0 s1 z9; go_wp2; go_roundw
                  case rel => first | (guard_hyp ag; exact ⟨k + 1, acc ++ [x], (gN zaI k' U1).1, U1, by go_num, by omega, HB, zmk (by have h := dB.out; rw [znm] at h; exact h)⟩) | (exact ⟨k + 1, acc ++ [x], (gN zab k' U1).1, U1, by go_num, by omega, HB, zmk (by have h := dB.out; rw [znm] at h; exact h)⟩)
                  case measure => simp [intOf]; omega
                 ·have eA : k = n4 := by omega
                  have HX := zmk (HD.out.fin HA.out eA LL.out.2.2.2); have hlt2 : ¬ (k : Int) < (n4 : Int) := by omega
                  clear HA HD HC hlt eA z9; obtain ⟨cb, kX⟩ := exE ((wrap32 x1 == -53)); have HQC : Hid (∀ W, Calls prog 233 #[.int .i32 (wrap32 x1)] W fun r w' => r = .returned (.bool cb) /\ W = w') := zmk (fun W => by rw [<- kX]; exact zch _ _); have y1c : wr.cell? ⟨g, 1, none⟩ = some (.int .i32 (wrap32 x1)) := HX.out.2.1.cell 1; rcases cb with _ | _
                  ·obtain ⟨rfl, rfl⟩ := R6.out (by simpa using kX)
                   clear kX; go_wp2_with (go_at_call 233; refine (HQC.out _).mono ?_; rintro r50 w50 ⟨rfl, rfl⟩)
                   go_end0; exact ⟨rfl, _, _, _, _, _, HX.out.none_ 135 1⟩
                  ·obtain ⟨hk5, m5, hr5⟩ := R5.out (by simpa using kX)
                   have pF : cus.length = n5 := by rw [<- zcT zab n5 T5, hr5]
                   have HQA : Hid (DQ te pe d g0 cur 172 gm (.int .i64 (n5 : Int)) T5) := zmk (fun W hW => by have := zcE te pe _ _ _ _ _ hW; rw [hk5] at this; rw [show ((n5, T5) : Nat × St).1 = n5 from rfl, zen m5] at this; exact this); have ks := zmk hr5; have HL5 := zmk pF; clear hk5 hr5 pF kX
                   first
                    | guard_hyp ag
                      go_upto_if 177 with (first
                       | (go_at_call 172; refine (HQA.out _ HX.out.1).mono ?_; rintro r11 iW ⟨rfl, hd, hf⟩
                          have lI := zmk (HX.out.call hd hf)
                          clear hd hf HX)
                       | (go_at_call 233; refine (HQC.out _).mono ?_; rintro r50 w50 ⟨rfl, rfl⟩))
                    | go_upto_if 175 with (first
                       | (go_at_call 172; refine (HQA.out _ HX.out.1).mono ?_; rintro r11 iW ⟨rfl, hd, hf⟩
                          have lI := zmk (HX.out.call hd hf)
                          clear hd hf HX)
                       | (go_at_call 233; refine (HQC.out _).mono ?_; rintro r50 w50 ⟨rfl, rfl⟩))
                   first | (guard_hyp ag; go_cut [] (fun wx => ∃ v, Hid (DH te pe d g0 cur g 288 w wx T5 #[(.int .u8 (b : Int)), (.int .i32 (wrap32 x1)), (.float .f64 x2), (.int .u64 (x3 : Int)), (.int .u64 (x4 : Int)), (.float .f64 x5), .slice A1 n1 c1, .slice A2 n2 c2, .slice A3 n3 c3, .slice A4 n4 c4, v] [⟨135, 1, v, n5, (List.replicate n5 (0 : Nat)).flatMap f1⟩, rwI A4 n4 c4 downs, rwI A3 n3 c3 ups, rwS A2 n2 c2 neg, rwS A1 n1 c1 pos]))) | (go_cut [] (fun wx => ∃ v, Hid (DH te pe d g0 cur g 296 w wx T5 (cF b x1 x2 x3 x4 x5 (.slice A1 n1 c1) (.slice A2 n2 c2) (.slice A3 n3 c3) (.slice A4 n4 c4) v) [⟨135, 1, v, n5, (List.replicate n5 (0 : Nat)).flatMap f1⟩, rwF A4 n4 c4 fdowns, rwF A3 n3 c3 fups, rwS A2 n2 c2 neg, rwS A1 n1 c1 pos])))
                   case first =>
                    as_aux_lemma =>
                     rcases zmH n5 with h0 | h0
                     ·have h1 : ¬ (0 : Int) < (n5 : Int) := by omega
                      have H0 := zmk h0; clear h0; go_wp2_with fail
                      go_meet
                      refine ⟨.slice none 0 0, zmk ?_⟩; have h := lI.out.none_ 135 1; rw [H0.out]; exact h
                     ·have h1 : (0 : Int) < (n5 : Int) := by omega
                      obtain ⟨i0, aD, aA, az, aC⟩ := info_parts zij; have gy := zeO prog 286 135 #[.float .f64 0] 1 8 i0 _ zdq aD aA az aC rfl (by omega) n5 m5; obtain ⟨Z, hZ⟩ := exE (madeCells #[.float .f64 0] (n5 * 1))
                      have HM := zmk (DH.make (f := f1) (zr := 0) (Z := Z) (e := 135) (z := 1) (n := n5) lI.out (by rw [<- hZ]; exact zc8 f1 0 #[.float .f64 0] 1 rfl rfl (by omega) (fun _ => rfl) n5) (by rw [<- hZ]; exact size_madeCells _ _) (by unfold maxLen; omega)); rw [hZ] at gy; have a0 : (iW.alloc (.cells Z 135)).cell? ⟨g, 10, none⟩ = some (.slice none 0 0) := HM.out.2.1.cell 10
                      have a1 : (iW.alloc (.cells Z 135)).frozen? ⟨g, 10, none⟩ = false := HM.out.2.1.frozen 10; clear hZ; go_wp2_with fail
                      go_meet
                      exact ⟨_, zmk (HM.out.set 10 _)⟩
                   case rest =>
                    as_aux_lemma =>
                     obtain ⟨v, HC⟩ := hcut; obtain ⟨A5, c5, rfl⟩ := zaa HC.out.row; have iR : Hid (n5 = n5) := zmk rfl; have z10 : wc.cell? ⟨g, 10, none⟩ = some (.slice A5 n5 c5) := HC.out.2.1.cell 10; clear lI; go_wp2
                     first | (guard_hyp ag; go_loopw [188] (fun i wr => ∃ (k : Nat) (acc rest : List Nat) (ST : St), i = .int .i64 k /\ k <= n5 /\ Hid (acc.length = k /\ gN zab (n5 - k) ST = (rest, g8) /\ acc ++ rest = cus) /\ Hid (DH te pe d g0 cur g 288 w wr ST #[(.int .u8 (b : Int)), (.int .i32 (wrap32 x1)), (.float .f64 x2), (.int .u64 (x3 : Int)), (.int .u64 (x4 : Int)), (.float .f64 x5), .slice A1 n1 c1, .slice A2 n2 c2, .slice A3 n3 c3, .slice A4 n4 c4, .slice A5 n5 c5] [⟨135, 1, .slice A5 n5 c5, n5, (acc ++ List.replicate (n5 - k) 0).flatMap f1⟩, rwI A4 n4 c4 downs, rwI A3 n3 c3 ups, rwS A2 n2 c2 neg, rwS A1 n1 c1 pos])) (fun i _ => n5 - (intOf i).toNat)) | (go_loopw [186] (fun i wr => ∃ (k : Nat) (acc rest : List Nat) (ST : St), i = .int .i64 k /\ k <= n5 /\ Hid (acc.length = k /\ gN zab (n5 - k) ST = (rest, g8) /\ acc ++ rest = cus) /\ Hid (DH te pe d g0 cur g 296 w wr ST (cF b x1 x2 x3 x4 x5 (.slice A1 n1 c1) (.slice A2 n2 c2) (.slice A3 n3 c3) (.slice A4 n4 c4) (.slice A5 n5 c5)) [⟨135, 1, .slice A5 n5 c5, n5, (acc ++ List.replicate (n5 - k) 0).flatMap f1⟩, rwF A4 n4 c4 fdowns, rwF A3 n3 c3 fups, rwS A2 n2 c2 neg, rwS A1 n1 c1 pos])) (fun i _ => n5 - (intOf i).toNat))
                     case atStart => exact ⟨0, [], cus, T5, rfl, zmv _, zmk ⟨rfl, ks.out, rfl⟩, HC⟩
                     case round =>
                      obtain ⟨k, acc, rest, ST, rfl, hk, HA, HD⟩ := hrel; by_cases hlt : k < n5
                      ·clear HC z10
                       obtain ⟨m, c, hv, hm0, hc⟩ := ziZ HD.out.row (by omega); injection hv with cE bI eW; subst cE eW; have iw : g ≠ m := by omega
                       obtain ⟨k', jB⟩ : ∃ k', n5 - k = k' + 1 := ⟨n5 - k - 1, by omega⟩; obtain ⟨eO, cB, gj⟩ := HA.out; rw [jB] at cB; obtain ⟨x, U1, hs⟩ : ∃ a b, zab ST = (a, b) := ⟨_, _, rfl⟩; have V1 : Hid (DQ te pe d g0 cur 234 ST (.float .f64 x) U1) := zmk (fun W hW => by have := zdU te pe _ _ _ _ _ hW; rw [hs] at this; exact this)
                       have aN : rest = x :: (gN zab k' U1).1 /\ (gN zab k' U1).2 = g8 := by
                        rw [gN, hs] at cB; exact ⟨(znb Prod.fst cB).symm, znb Prod.snd cB⟩
                       have HB : Hid ((acc ++ [x]).length = k + 1 /\ gN zab (n5 - (k + 1)) U1 = ((gN zab k' U1).1, g8) /\ (acc ++ [x]) ++ (gN zab k' U1).1 = cus) := zmk ⟨by rw [zml, eO]; rfl, by rw [show n5 - (k + 1) = k' by omega, <- aN.2], by rw [zmn, zm2, <- aN.1]; exact gj⟩; have HK := zmk eO; have aT := zmk (HD.out.rep hlt)
                       have z10 : wr.drew.cell? ⟨g, 10, none⟩ = some (.slice (some ⟨m, 0, none⟩) n5 c5) := aT.out.2.1.cell 10; clear HA HD eO cB gj aN hs; go_wp2_with fail
                       go_region_held3 (fun w' => w'.cell? ⟨g, 10, none⟩ = some (.slice (some ⟨m, 0, none⟩) n5 c5))
                        ((first | exact (Blk.far bz.out.2.1 (p := ⟨m, k, none⟩) iw _).cell 10 | exact bz.out.2.1.cell 10 | exact aT.out.2.1.cell 10 | go_keep))
                        ((go_at_call 234; refine (V1.out _ aT.out.1).mono ?_; rintro r dI ⟨rfl, hd, hf⟩
                          have bz := zmk (aT.out.call hd hf); have s0 : dI.cell? ⟨m, k, none⟩ = some (.float .f64 0) := zcp bz.out.row (zcZ f1 1 (fun _ => rfl) acc _ 0 k 0 _ HK.out (by omega) (by omega)); have s1 : dI.frozen? ⟨m, k, none⟩ = false := zco bz.out.row _
                          clear hd hf))
                       obtain ⟨WA, eP⟩ : ∃ W, dI.setCell ⟨m, k, none⟩ (.float .f64 x) = W := ⟨_, rfl⟩; rw [eP]; have dB := zmk (bz.out.pt (y := x) eP (fun _ => rfl) HK.out 0 (by omega) (by omega) rfl); clear aT bz eP s0 s1 z10; go_wp2; go_roundw
                       case rel => exact ⟨k + 1, acc ++ [x], (gN zab k' U1).1, U1, by go_num, by omega, HB, zmk (by have h := dB.out; rw [znm] at h; exact h)⟩
                       case measure => simp [intOf]; omega
                      ·have eA : k = n5 := by omega
                       have HX := zmk (HD.out.fin HA.out eA HL5.out); have hlt2 : ¬ (k : Int) < (n5 : Int) := by omega
                       clear HA HD HC hlt eA z10; go_wp2; go_end0; exact ⟨rfl, _, _, _, _, _, HX.out⟩
theorem zjv : type_of% (zct.1 trivial) := zct.1 trivial
theorem zjx : type_of% (zct.2 trivial) := zct.2 trivial
end Go.Proofs.YtbkookiigkckdaaGreatDoor
