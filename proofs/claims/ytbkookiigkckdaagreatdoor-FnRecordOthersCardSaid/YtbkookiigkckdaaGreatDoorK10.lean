/- Texts of this seat, merged and shortened: J5. -/
import Derived.Test.YtbkookiigkckdaaGreatDoorK09
import Derived.Deep.DeepCutAuto
set_option linter.unusedVariables false
set_option linter.unusedSimpArgs false
set_option maxRecDepth 100000
set_option maxHeartbeats 8000000
namespace Go.Proofs.YtbkookiigkckdaaGreatDoor
open Go.RowKit
theorem zcb {n : Nat} (h : n ≤ 1000) : i64 n = (n : Int) := by unfold i64 wrap64; omega
theorem Tryz.underlying286' : Tryz.prog.underlying 286 = some (.slice 135) := by kernel_rfl
theorem Tryz.underlying285' : Tryz.prog.underlying 285 = some (.slice 361) := by kernel_rfl
theorem Tryz.underlying189' : Tryz.prog.underlying 189 = some (.slice 2) := by kernel_rfl
theorem zdl (P : Program) (t e : TypeId) (zc : Array Value) (z bytes : Nat) (i : TypeInfo) (zv : Value) (ht : P.underlying t = some (.slice e)) (hi : P.info? e = some i) (hz : i.zero = some zv) (hs : i.size = z) (hb : i.bytes = bytes) (hc : zv.cells = zc) (hb2 : bytes ≤ 64) (n : Nat) (hn : n ≤ 1000) :
 ∀ W : World, (Instr.makeSlice t (.int .i64 (n : Int)) (.int .i64 (n : Int))).run P W = .ok (.slice (some ⟨W.heap.size, 0, none⟩) n n) (W.alloc (.cells (madeCells zc (n * z)) e)) := fun W => by
 have hle : bytes * n ≤ 64 * 1000 := Nat.mul_le_mul hb2 hn; have h8 : ((bytes * n : Nat) : Int) ≤ 64000 := by omega
 rw [Int.natCast_mul] at h8; have hr := run_make (P := P) W t e i zv ht hi hz .i64 .i64 n n (by omega) (by omega) (by rw [hb]; exact Int.le_trans h8 (by decide)) (by omega); simp only [Int.toNat_natCast] at hr; rw [hc, hs] at hr; exact hr
def HEndsW (te : TypeId) (pe : Value) (d g0 : Nat) (cur : Array Value) (g : Nat) (w : World) (b : Nat) (x1 : Int) (x2 x3 x4 x5 : Nat) (pos neg : List (Int × Nat)) (ups downs : List Int) (cus : List Nat) (S11 : St) (r : Ending) (w' : World) : Prop :=
 r = .returned (.tuple #[]) ∧ ∃ v1 v2 v3 v4 v5, DH te pe d g0 cur g 288 w w' S11 #[(.int .u8 (b : Int)), (.int .i32 (wrap32 x1)), (.float .f64 x2), (.int .u64 (x3 : Int)), (.int .u64 (x4 : Int)), (.float .f64 x5), v1, v2, v3, v4, v5] [⟨135, 1, v5, cus.length, cus.flatMap f1⟩, ⟨2, 1, v4, downs.length, downs.flatMap i1⟩, ⟨2, 1, v3, ups.length, ups.flatMap i1⟩, ⟨361, 2, v2, neg.length, neg.flatMap spc⟩, ⟨361, 2, v1, pos.length, pos.flatMap spc⟩]
theorem ziE (te : TypeId) (pe : Value) (d g0 : Nat) (cur : Array Value) (g : Nat) (w : World) (b : Nat) (x1 : Int) (x2 x3 x4 x5 n1 n2 n3 n4 n5 : Nat) (pos neg : List (Int × Nat)) (ups downs : List Int) (cus : List Nat) (S0 S1 S2 S3 S4 S5 S6 T1 S7 T2 S8 T3 S9 T4 S10 T5 S11 : St)
 (hD : DH te pe d g0 cur g 288 w w S0 #[.int .u8 0, .int .i32 0, .float .f64 0, .int .u64 0, .int .u64 0, .float .f64 0, .slice none 0 0, .slice none 0 0, .slice none 0 0, .slice none 0 0, .slice none 0 0] [])
 (e0 : zaB S0 = (b, S1)) (e1 : zaE S1 = (x1, S2)) (e2 : zac S2 = (x2, S3)) (e3 : gUv S3 = (x3, S4)) (e4 : gUv S4 = (x4, S5)) (e5 : zac S5 = (x5, S6))
 (k1 : gUv S6 = (n1, T1)) (m1 : n1 ≤ 1000) (r1 : gN gSp n1 T1 = (pos, S7)) (k2 : gUv S7 = (n2, T2)) (m2 : n2 ≤ 1000) (r2 : gN gSp n2 T2 = (neg, S8))
 (k3 : gUv S8 = (n3, T3)) (m3 : n3 ≤ 1000) (r3 : gN zaE n3 T3 = (ups, S9)) (k4 : gUv S9 = (n4, T4)) (m4 : n4 ≤ 1000) (r4 : gN zaE n4 T4 = (downs, S10))
 (k5 : wrap32 x1 = -53 → gUv S10 = (n5, T5) ∧ n5 ≤ 1000 ∧ gN zac n5 T5 = (cus, S11)) (k6 : ¬ wrap32 x1 = -53 → cus = [] ∧ S11 = S10) :
 Calls Tryz.prog 174 #[.pointer (some ⟨d, 0, none⟩), .pointer (some ⟨g, 0, none⟩)] w (HEndsW te pe d g0 cur g w b x1 x2 x3 x4 x5 pos neg ups downs cus S11) := by
 have mixed : Tryz.prog.follows .mixedOrders = true := by kernel_rfl
 have hr6 := zgJ; have hsf := zbu
 have HD0 := zk7 hD; have hgw : g < w.heap.size := hD.2.2.2.2.2.1; have l1 : pos.length = n1 := by rw [← zbX gSp n1 T1, r1]
 have l2 : neg.length = n2 := by rw [← zbX gSp n2 T2, r2]
 have l3 : ups.length = n3 := by rw [← zbX zaE n3 T3, r3]
 have l4 : downs.length = n4 := by rw [← zbX zaE n4 T4, r4]
 have HQ0 : Hid (∀ W, Dec te pe W d g0 cur S0 → Calls Tryz.prog 160 #[.pointer (some ⟨d, 0, none⟩)] W (zap te pe W d g0 cur (.int .u8 (b : Int)) S1)) := zk7 (fun W hW => by have := zbo te pe _ _ _ _ _ hW; rw [e0] at this; exact this)
 have HQ1 : Hid (∀ W, Dec te pe W d g0 cur S1 → Calls Tryz.prog 165 #[.pointer (some ⟨d, 0, none⟩)] W (zap te pe W d g0 cur (.int .i64 x1) S2)) := zk7 (fun W hW => by have := zcO te pe _ _ _ _ _ hW; rw [e1] at this; exact this)
 have HQ2 : Hid (∀ W, Dec te pe W d g0 cur S2 → Calls Tryz.prog 162 #[.pointer (some ⟨d, 0, none⟩)] W (zap te pe W d g0 cur (.int .u64 (x2 : Int)) S3)) := zk7 (fun W hW => by have := zcA te pe _ _ _ _ _ hW; rw [e2] at this; exact this)
 have HQ3 : Hid (∀ W, Dec te pe W d g0 cur S3 → Calls Tryz.prog 171 #[.pointer (some ⟨d, 0, none⟩)] W (zap te pe W d g0 cur (.int .u64 (x3 : Int)) S4)) := zk7 (fun W hW => by have := zkT te pe _ _ _ _ _ hW; rw [e3] at this; exact this)
 have HQ4 : Hid (∀ W, Dec te pe W d g0 cur S4 → Calls Tryz.prog 171 #[.pointer (some ⟨d, 0, none⟩)] W (zap te pe W d g0 cur (.int .u64 (x4 : Int)) S5)) := zk7 (fun W hW => by have := zkT te pe _ _ _ _ _ hW; rw [e4] at this; exact this)
 have HQ5 : Hid (∀ W, Dec te pe W d g0 cur S5 → Calls Tryz.prog 162 #[.pointer (some ⟨d, 0, none⟩)] W (zap te pe W d g0 cur (.int .u64 (x5 : Int)) S6)) := zk7 (fun W hW => by have := zcA te pe _ _ _ _ _ hW; rw [e5] at this; exact this)
 have HQ6 : Hid (∀ W, Dec te pe W d g0 cur S6 → Calls Tryz.prog 172 #[.pointer (some ⟨d, 0, none⟩)] W (zap te pe W d g0 cur (.int .i64 (n1 : Int)) T1)) := zk7 (fun W hW => by have := zbg te pe _ _ _ _ _ hW; rw [k1] at this; rw [show ((n1, T1) : Nat × St).1 = n1 from rfl, zcb m1] at this; exact this)
 have HQ7 : Hid (∀ W, Dec te pe W d g0 cur S7 → Calls Tryz.prog 172 #[.pointer (some ⟨d, 0, none⟩)] W (zap te pe W d g0 cur (.int .i64 (n2 : Int)) T2)) := zk7 (fun W hW => by have := zbg te pe _ _ _ _ _ hW; rw [k2] at this; rw [show ((n2, T2) : Nat × St).1 = n2 from rfl, zcb m2] at this; exact this)
 have HQ8 : Hid (∀ W, Dec te pe W d g0 cur S8 → Calls Tryz.prog 172 #[.pointer (some ⟨d, 0, none⟩)] W (zap te pe W d g0 cur (.int .i64 (n3 : Int)) T3)) := zk7 (fun W hW => by have := zbg te pe _ _ _ _ _ hW; rw [k3] at this; rw [show ((n3, T3) : Nat × St).1 = n3 from rfl, zcb m3] at this; exact this)
 have HQ9 : Hid (∀ W, Dec te pe W d g0 cur S9 → Calls Tryz.prog 172 #[.pointer (some ⟨d, 0, none⟩)] W (zap te pe W d g0 cur (.int .i64 (n4 : Int)) T4)) := zk7 (fun W hW => by have := zbg te pe _ _ _ _ _ hW; rw [k4] at this; rw [show ((n4, T4) : Nat × St).1 = n4 from rfl, zcb m4] at this; exact this); have R1 := zk7 r1; have R2 := zk7 r2; have R3 := zk7 r3
 have R4 := zk7 r4; have R5 := zk7 k5; have R6 := zk7 k6; have LL := zk7 (And.intro l1 (And.intro l2 (And.intro l3 l4))); clear hD e0 e1 e2 e3 e4 e5 k1 k2 k3 k4 k5 k6 r1 r2 r3 r4 l1 l2 l3 l4; go_enter Tryz.func174, Tryz.ntmps174
 go_upto_if 46 with (first
  | (go_at_call 172; refine (HQ6.out _ (HD6.out.set 5 (.float .f64 x5)).1).mono ?_; rintro r7 w7 ⟨rfl, hd, hf⟩
     have HD7 : Hid (DH te pe d g0 cur g 288 w w7 T1 #[(.int .u8 (b : Int)), (.int .i32 (wrap32 x1)), (.float .f64 x2), (.int .u64 (x3 : Int)), (.int .u64 (x4 : Int)), (.float .f64 x5), .slice none 0 0, .slice none 0 0, .slice none 0 0, .slice none 0 0, .slice none 0 0] []) := zk7 ((HD6.out.set 5 (.float .f64 x5)).call hd hf)
     clear hd hf z5 q5 HD6)
  | (go_at_call 162; refine (HQ5.out _ (HD5.out.set 4 (.int .u64 (x4 : Int))).1).mono ?_; rintro r6 w6 ⟨rfl, hd, hf⟩
     have HD6 : Hid (DH te pe d g0 cur g 288 w w6 S6 #[(.int .u8 (b : Int)), (.int .i32 (wrap32 x1)), (.float .f64 x2), (.int .u64 (x3 : Int)), (.int .u64 (x4 : Int)), .float .f64 0, .slice none 0 0, .slice none 0 0, .slice none 0 0, .slice none 0 0, .slice none 0 0] []) := zk7 ((HD5.out.set 4 (.int .u64 (x4 : Int))).call hd hf)
     have z5 : w6.cell? ⟨g, 5, none⟩ = some (.float .f64 0) := HD6.out.2.1.cell 5; have q5 : w6.frozen? ⟨g, 5, none⟩ = false := HD6.out.2.1.frozen 5
     clear hd hf z4 q4 HD5)
  | (go_at_call 171; refine (HQ4.out _ (HD4.out.set 3 (.int .u64 (x3 : Int))).1).mono ?_; rintro r5 w5 ⟨rfl, hd, hf⟩
     have HD5 : Hid (DH te pe d g0 cur g 288 w w5 S5 #[(.int .u8 (b : Int)), (.int .i32 (wrap32 x1)), (.float .f64 x2), (.int .u64 (x3 : Int)), .int .u64 0, .float .f64 0, .slice none 0 0, .slice none 0 0, .slice none 0 0, .slice none 0 0, .slice none 0 0] []) := zk7 ((HD4.out.set 3 (.int .u64 (x3 : Int))).call hd hf); have z4 : w5.cell? ⟨g, 4, none⟩ = some (.int .u64 0) := HD5.out.2.1.cell 4
     have q4 : w5.frozen? ⟨g, 4, none⟩ = false := HD5.out.2.1.frozen 4
     clear hd hf z3 q3 HD4)
  | (go_at_call 171; refine (HQ3.out _ (HD3.out.set 2 (.float .f64 x2)).1).mono ?_; rintro r4 w4 ⟨rfl, hd, hf⟩
     have HD4 : Hid (DH te pe d g0 cur g 288 w w4 S4 #[(.int .u8 (b : Int)), (.int .i32 (wrap32 x1)), (.float .f64 x2), .int .u64 0, .int .u64 0, .float .f64 0, .slice none 0 0, .slice none 0 0, .slice none 0 0, .slice none 0 0, .slice none 0 0] []) := zk7 ((HD3.out.set 2 (.float .f64 x2)).call hd hf); have z3 : w4.cell? ⟨g, 3, none⟩ = some (.int .u64 0) := HD4.out.2.1.cell 3
     have q3 : w4.frozen? ⟨g, 3, none⟩ = false := HD4.out.2.1.frozen 3
     clear hd hf z2 q2 HD3)
  | (go_at_call 162; refine (HQ2.out _ (HD2.out.set 1 (.int .i32 (wrap32 x1))).1).mono ?_; rintro r3 w3 ⟨rfl, hd, hf⟩
     have HD3 : Hid (DH te pe d g0 cur g 288 w w3 S3 #[(.int .u8 (b : Int)), (.int .i32 (wrap32 x1)), .float .f64 0, .int .u64 0, .int .u64 0, .float .f64 0, .slice none 0 0, .slice none 0 0, .slice none 0 0, .slice none 0 0, .slice none 0 0] []) := zk7 ((HD2.out.set 1 (.int .i32 (wrap32 x1))).call hd hf); have z2 : w3.cell? ⟨g, 2, none⟩ = some (.float .f64 0) := HD3.out.2.1.cell 2
     have q2 : w3.frozen? ⟨g, 2, none⟩ = false := HD3.out.2.1.frozen 2
     clear hd hf z1 q1 HD2)
  | (go_at_call 165; refine (HQ1.out _ (HD1.out.set 0 (.int .u8 (b : Int))).1).mono ?_; rintro r2 w2 ⟨rfl, hd, hf⟩
     have HD2 : Hid (DH te pe d g0 cur g 288 w w2 S2 #[(.int .u8 (b : Int)), .int .i32 0, .float .f64 0, .int .u64 0, .int .u64 0, .float .f64 0, .slice none 0 0, .slice none 0 0, .slice none 0 0, .slice none 0 0, .slice none 0 0] []) := zk7 ((HD1.out.set 0 (.int .u8 (b : Int))).call hd hf); have z1 : w2.cell? ⟨g, 1, none⟩ = some (.int .i32 0) := HD2.out.2.1.cell 1
     have q1 : w2.frozen? ⟨g, 1, none⟩ = false := HD2.out.2.1.frozen 1
     clear hd hf z0 q0 HD1)
  | (go_at_call 160; refine (HQ0.out _ HD0.out.1).mono ?_; rintro r1 w1 ⟨rfl, hd, hf⟩
     have HD1 : Hid (DH te pe d g0 cur g 288 w w1 S1 #[.int .u8 0, .int .i32 0, .float .f64 0, .int .u64 0, .int .u64 0, .float .f64 0, .slice none 0 0, .slice none 0 0, .slice none 0 0, .slice none 0 0, .slice none 0 0] []) := zk7 (HD0.out.call hd hf); have z0 : w1.cell? ⟨g, 0, none⟩ = some (.int .u8 0) := HD1.out.2.1.cell 0; have q0 : w1.frozen? ⟨g, 0, none⟩ = false := HD1.out.2.1.frozen 0
     clear hd hf))
 go_cut [] (fun wx => ∃ v, Hid (DH te pe d g0 cur g 288 w wx T1 #[(.int .u8 (b : Int)), (.int .i32 (wrap32 x1)), (.float .f64 x2), (.int .u64 (x3 : Int)), (.int .u64 (x4 : Int)), (.float .f64 x5), v, .slice none 0 0, .slice none 0 0, .slice none 0 0, .slice none 0 0] [⟨361, 2, v, n1, (List.replicate n1 ((0, 0) : Int × Nat)).flatMap spc⟩]))
 case first =>
  as_aux_lemma =>
   rcases zlu n1 with h0 | h0
   ·have h1 : ¬ (0 : Int) < (n1 : Int) := by omega
    have H0 := zk7 h0; clear h0; go_wp2_with fail
    go_meet
    refine ⟨.slice none 0 0, zk7 ?_⟩; have h := HD7.out.none_ 361 2; rw [H0.out]; exact h
   ·have h1 : (0 : Int) < (n1 : Int) := by omega
    obtain ⟨i0, hi0, hz0, hz1, hz2⟩ := info_parts Tryz.info361; have hmk := zdl Tryz.prog 285 361 #[.int .i32 0, .int .u32 0] 2 8 i0 _ Tryz.underlying285' hi0 hz0 hz1 hz2 rfl (by omega) n1 m1; obtain ⟨Z, hZ⟩ : ∃ Z, madeCells #[.int .i32 0, .int .u32 0] (n1 * 2) = Z := ⟨_, rfl⟩
    have HM := zk7 (DH.make (f := spc) (zr := (0, 0)) (Z := Z) (e := 361) (z := 2) (n := n1) HD7.out (by rw [← hZ]; exact zb9 spc (0, 0) #[.int .i32 0, .int .u32 0] 2 rfl rfl (by omega) (fun _ => rfl) n1) (by rw [← hZ]; exact size_madeCells _ _) (by unfold maxLen; omega)); rw [hZ] at hmk; have a0 : (w7.alloc (.cells Z 361)).cell? ⟨g, 6, none⟩ = some (.slice none 0 0) := HM.out.2.1.cell 6
    have a1 : (w7.alloc (.cells Z 361)).frozen? ⟨g, 6, none⟩ = false := HM.out.2.1.frozen 6; clear hZ; go_wp2_with fail
    go_meet
    exact ⟨_, zk7 (HM.out.set 6 _)⟩
 case rest =>
  as_aux_lemma =>
   obtain ⟨v, HC⟩ := hcut; obtain ⟨A1, c1, rfl⟩ := zaa (show wc.ownsRow w.heap.size 361 2 v n1 _ from HC.out.2.2.1.1); have HN1 : Hid (n1 = n1) := zk7 rfl; have z6 : wc.cell? ⟨g, 6, none⟩ = some (.slice A1 n1 c1) := HC.out.2.1.cell 6; clear HD7; go_wp2
   go_loopw [57] (fun i wr => ∃ (k : Nat) (acc rest : List (Int × Nat)) (ST : St), i = .int .i64 k ∧ k ≤ n1 ∧ Hid (acc.length = k ∧ gN gSp (n1 - k) ST = (rest, S7) ∧ acc ++ rest = pos) ∧ Hid (DH te pe d g0 cur g 288 w wr ST #[(.int .u8 (b : Int)), (.int .i32 (wrap32 x1)), (.float .f64 x2), (.int .u64 (x3 : Int)), (.int .u64 (x4 : Int)), (.float .f64 x5), .slice A1 n1 c1, .slice none 0 0, .slice none 0 0, .slice none 0 0, .slice none 0 0] [⟨361, 2, .slice A1 n1 c1, n1, (acc ++ List.replicate (n1 - k) (0, 0)).flatMap spc⟩])) (fun i _ => n1 - (intOf i).toNat)
   case atStart => exact ⟨0, [], pos, T1, rfl, zli _, zk7 ⟨rfl, R1.out, rfl⟩, HC⟩
   case round =>
    obtain ⟨k, acc, rest, ST, rfl, hk, HA, HD⟩ := hrel; by_cases hlt : k < n1
    ·clear HC z6
     obtain ⟨m, c, hv, hm0, hc⟩ := zen (show wr.ownsRow w.heap.size 361 2 (.slice A1 n1 c1) n1 _ from HD.out.2.2.1.1) (by omega); injection hv with hv1 hv2 hv3; subst hv1 hv3; have hgm : g ≠ m := by omega
     obtain ⟨k', hk'⟩ : ∃ k', n1 - k = k' + 1 := ⟨n1 - k - 1, by omega⟩; obtain ⟨ha1, ha2, ha3⟩ := HA.out; rw [hk'] at ha2; obtain ⟨y0, U1, hy⟩ : ∃ a b, zaE ST = (a, b) := ⟨_, _, rfl⟩; obtain ⟨y1, U2, hu⟩ : ∃ a b, gUv U1 = (a, b) := ⟨_, _, rfl⟩; have hs : gSp ST = ((wrap32 y0, y1 % 4294967296), U2) := by unfold gSp; rw [hy]; simp only []; rw [hu]
     obtain ⟨x, hx⟩ : ∃ x, ((wrap32 y0, y1 % 4294967296) : Int × Nat) = x := ⟨_, rfl⟩; have V1 : Hid (∀ W, Dec te pe W d g0 cur ST → Calls Tryz.prog 165 #[.pointer (some ⟨d, 0, none⟩)] W (zap te pe W d g0 cur (.int .i64 y0) U1)) := zk7 (fun W hW => by have := zcO te pe _ _ _ _ _ hW; rw [hy] at this; exact this)
     have V2 : Hid (∀ W, Dec te pe W d g0 cur U1 → Calls Tryz.prog 232 #[.pointer (some ⟨d, 0, none⟩)] W (zap te pe W d g0 cur (.int .u32 (IntKind.u32.wrap y1)) U2)) := zk7 (fun W hW => by have := zdh te pe _ _ _ _ _ hW; rw [hu] at this; exact this); have hrest : rest = (wrap32 y0, y1 % 4294967296) :: (gN gSp k' U2).1 ∧ (gN gSp k' U2).2 = S7 := by
      rw [gN, hs] at ha2; exact ⟨(congrArg Prod.fst ha2).symm, congrArg Prod.snd ha2⟩
     have HB : Hid ((acc ++ [(wrap32 y0, y1 % 4294967296)]).length = k + 1 ∧ gN gSp (n1 - (k + 1)) U2 = ((gN gSp k' U2).1, S7) ∧ (acc ++ [(wrap32 y0, y1 % 4294967296)]) ++ (gN gSp k' U2).1 = pos) := zk7 ⟨by rw [zk8, ha1]; rfl, by rw [show n1 - (k + 1) = k' by omega, ← hrest.2], by rw [zla, zlP, ← hrest.1]; exact ha3⟩; have HK := zk7 ha1
     have HD1 : Hid (DH te pe d g0 cur g 288 w wr.drew ST #[(.int .u8 (b : Int)), (.int .i32 (wrap32 x1)), (.float .f64 x2), (.int .u64 (x3 : Int)), (.int .u64 (x4 : Int)), (.float .f64 x5), .slice (some ⟨m, 0, none⟩) n1 c1, .slice none 0 0, .slice none 0 0, .slice none 0 0, .slice none 0 0] [⟨361, 2, .slice (some ⟨m, 0, none⟩) n1 c1, n1, (acc ++ (0, 0) :: List.replicate (n1 - (k + 1)) (0, 0)).flatMap spc⟩]) := zk7 (by have h := HD.out.fr0 ((zlW (fun _ => False) wr).drew); rw [zcB acc ((0, 0) : (Int × Nat)) n1 k hlt] at h; exact h)
     have z6 : wr.drew.cell? ⟨g, 6, none⟩ = some (.slice (some ⟨m, 0, none⟩) n1 c1) := HD1.out.2.1.cell 6; clear HA HD ha1 ha2 ha3 hrest hy hu hx hs; go_wp2_with fail
     go_region_held3 (fun w' => w'.cell? ⟨g, 6, none⟩ = some (.slice (some ⟨m, 0, none⟩) n1 c1))
      ((first | exact (Blk.far HD2.out.2.1 (p := ⟨m, k * 2, none⟩) hgm _).cell 6 | exact HD2.out.2.1.cell 6 | exact HD1.out.2.1.cell 6 | go_keep))
      ((go_at_call 165; refine (V1.out _ HD1.out.1).mono ?_; rintro r w91 ⟨rfl, hd, hf⟩
        have HD2 : Hid (DH te pe d g0 cur g 288 w w91 U1 #[(.int .u8 (b : Int)), (.int .i32 (wrap32 x1)), (.float .f64 x2), (.int .u64 (x3 : Int)), (.int .u64 (x4 : Int)), (.float .f64 x5), .slice (some ⟨m, 0, none⟩) n1 c1, .slice none 0 0, .slice none 0 0, .slice none 0 0, .slice none 0 0] [⟨361, 2, .slice (some ⟨m, 0, none⟩) n1 c1, n1, (acc ++ (0, 0) :: List.replicate (n1 - (k + 1)) (0, 0)).flatMap spc⟩]) := zk7 (HD1.out.call hd hf)
        have s0 : w91.cell? ⟨m, k * 2, none⟩ = some (.int .i32 0) := zbj HD2.out.2.2.1.1 (zbQ spc 2 (fun _ => rfl) acc _ (0, 0) k 0 _ HK.out (by omega) (by omega)); have s1 : w91.frozen? ⟨m, k * 2, none⟩ = false := zbi HD2.out.2.2.1.1 _
        clear hd hf))
     obtain ⟨W9, hW9⟩ : ∃ W, w91.setCell ⟨m, k * 2, none⟩ (.int .i32 (IntKind.i32.wrap y0)) = W := ⟨_, rfl⟩; rw [hW9]
     have HD3 : Hid (DH te pe d g0 cur g 288 w W9.drew U1 #[(.int .u8 (b : Int)), (.int .i32 (wrap32 x1)), (.float .f64 x2), (.int .u64 (x3 : Int)), (.int .u64 (x4 : Int)), (.float .f64 x5), .slice (some ⟨m, 0, none⟩) n1 c1, .slice none 0 0, .slice none 0 0, .slice none 0 0, .slice none 0 0] [⟨361, 2, .slice (some ⟨m, 0, none⟩) n1 c1, n1, (acc ++ (wrap32 y0, 0) :: List.replicate (n1 - (k + 1)) (0, 0)).flatMap spc⟩]) := zk7 (by refine DH.fr0 ?_ ((zlW (fun _ => False) W9).drew); have h := HD2.out.put (o := k * 2) (.int .i32 (IntKind.i32.wrap y0)); rw [hW9, zbP spc 2 (fun _ => rfl) acc _ (0, 0) (wrap32 y0, 0) k 0 _ HK.out (by omega) (by omega) _ (by simp [spc, IntKind.wrap_i32, wrap32])] at h; exact h)
     have z6' : W9.drew.cell? ⟨g, 6, none⟩ = some (.slice (some ⟨m, 0, none⟩) n1 c1) := HD3.out.2.1.cell 6; clear HD1 HD2 hW9 s0 s1 z6; go_wp2_with fail
     go_region_held3 (fun w' => w'.cell? ⟨g, 6, none⟩ = some (.slice (some ⟨m, 0, none⟩) n1 c1))
      ((first | exact (Blk.far HD4.out.2.1 (p := ⟨m, k * 2 + 1, none⟩) hgm _).cell 6 | exact HD4.out.2.1.cell 6 | exact HD3.out.2.1.cell 6 | go_keep))
      ((go_at_call 232; refine (V2.out _ HD3.out.1).mono ?_; rintro r w92 ⟨rfl, hd, hf⟩
        have HD4 : Hid (DH te pe d g0 cur g 288 w w92 U2 #[(.int .u8 (b : Int)), (.int .i32 (wrap32 x1)), (.float .f64 x2), (.int .u64 (x3 : Int)), (.int .u64 (x4 : Int)), (.float .f64 x5), .slice (some ⟨m, 0, none⟩) n1 c1, .slice none 0 0, .slice none 0 0, .slice none 0 0, .slice none 0 0] [⟨361, 2, .slice (some ⟨m, 0, none⟩) n1 c1, n1, (acc ++ (wrap32 y0, 0) :: List.replicate (n1 - (k + 1)) (0, 0)).flatMap spc⟩]) := zk7 (HD3.out.call hd hf)
        have s0 : w92.cell? ⟨m, k * 2 + 1, none⟩ = some (.int .u32 0) := zbj HD4.out.2.2.1.1 (zbQ spc 2 (fun _ => rfl) acc _ (wrap32 y0, 0) k 1 _ HK.out (by omega) (by omega)); have s1 : w92.frozen? ⟨m, k * 2 + 1, none⟩ = false := zbi HD4.out.2.2.1.1 _
        clear hd hf))
     obtain ⟨WA, hWA⟩ : ∃ W, w92.setCell ⟨m, k * 2 + 1, none⟩ (.int .u32 (IntKind.u32.wrap y1)) = W := ⟨_, rfl⟩; rw [hWA]
     have HD5 : Hid (DH te pe d g0 cur g 288 w WA U2 #[(.int .u8 (b : Int)), (.int .i32 (wrap32 x1)), (.float .f64 x2), (.int .u64 (x3 : Int)), (.int .u64 (x4 : Int)), (.float .f64 x5), .slice (some ⟨m, 0, none⟩) n1 c1, .slice none 0 0, .slice none 0 0, .slice none 0 0, .slice none 0 0] [⟨361, 2, .slice (some ⟨m, 0, none⟩) n1 c1, n1, (acc ++ (wrap32 y0, y1 % 4294967296) :: List.replicate (n1 - (k + 1)) (0, 0)).flatMap spc⟩]) := zk7 (by have h := HD4.out.put (o := k * 2 + 1) (.int .u32 (IntKind.u32.wrap y1)); rw [hWA, zbP spc 2 (fun _ => rfl) acc _ (wrap32 y0, 0) (wrap32 y0, y1 % 4294967296) k 1 _ HK.out (by omega) (by omega) _ (by simp [spc, IntKind.wrap_u32])] at h; exact h)
     clear HD3 HD4 hWA s0 s1; go_wp2; go_roundw
     case rel => exact ⟨k + 1, acc ++ [(wrap32 y0, y1 % 4294967296)], (gN gSp k' U2).1, U2, by go_num, by omega, HB, zk7 (by have h := HD5.out; rw [List.append_cons] at h; exact h)⟩
     case measure => simp [intOf]; omega
    ·have hkn : k = n1 := by omega
     have HX : Hid (DH te pe d g0 cur g 288 w wr S7 #[(.int .u8 (b : Int)), (.int .i32 (wrap32 x1)), (.float .f64 x2), (.int .u64 (x3 : Int)), (.int .u64 (x4 : Int)), (.float .f64 x5), .slice A1 n1 c1, .slice none 0 0, .slice none 0 0, .slice none 0 0, .slice none 0 0] [⟨361, 2, .slice A1 n1 c1, pos.length, pos.flatMap spc⟩]) := zk7 (by
      obtain ⟨ha1, ha2, ha3⟩ := HA.out; rw [hkn, Nat.sub_self] at ha2; have e1 : ST = S7 := congrArg Prod.snd ha2; have e2 : acc = pos := by rw [← ha3, ← show ([] : List (Int × Nat)) = rest from congrArg Prod.fst ha2, zlt]
      have h := HD.out; rw [e1, e2, hkn, Nat.sub_self, List.replicate_zero, zlt] at h; rw [LL.out.1]
      exact h)
     have hlt2 : ¬ (k : Int) < (n1 : Int) := by omega
     clear HA HD HC hlt hkn z6
     go_upto_if 83 with (first
      | (go_at_call 172; refine (HQ7.out _ HX.out.1).mono ?_; rintro r8 w8 ⟨rfl, hd, hf⟩
         have HD8 : Hid (DH te pe d g0 cur g 288 w w8 T2 #[(.int .u8 (b : Int)), (.int .i32 (wrap32 x1)), (.float .f64 x2), (.int .u64 (x3 : Int)), (.int .u64 (x4 : Int)), (.float .f64 x5), .slice A1 n1 c1, .slice none 0 0, .slice none 0 0, .slice none 0 0, .slice none 0 0] [⟨361, 2, .slice A1 n1 c1, pos.length, pos.flatMap spc⟩]) := zk7 (HX.out.call hd hf)
         clear hd hf HX))
     go_cut [] (fun wx => ∃ v, Hid (DH te pe d g0 cur g 288 w wx T2 #[(.int .u8 (b : Int)), (.int .i32 (wrap32 x1)), (.float .f64 x2), (.int .u64 (x3 : Int)), (.int .u64 (x4 : Int)), (.float .f64 x5), .slice A1 n1 c1, v, .slice none 0 0, .slice none 0 0, .slice none 0 0] [⟨361, 2, v, n2, (List.replicate n2 ((0, 0) : Int × Nat)).flatMap spc⟩, ⟨361, 2, .slice A1 n1 c1, pos.length, pos.flatMap spc⟩]))
     case first =>
      as_aux_lemma =>
       rcases zlu n2 with h0 | h0
       ·have h1 : ¬ (0 : Int) < (n2 : Int) := by omega
        have H0 := zk7 h0; clear h0; go_wp2_with fail
        go_meet
        refine ⟨.slice none 0 0, zk7 ?_⟩; have h := HD8.out.none_ 361 2; rw [H0.out]; exact h
       ·have h1 : (0 : Int) < (n2 : Int) := by omega
        obtain ⟨i0, hi0, hz0, hz1, hz2⟩ := info_parts Tryz.info361; have hmk := zdl Tryz.prog 285 361 #[.int .i32 0, .int .u32 0] 2 8 i0 _ Tryz.underlying285' hi0 hz0 hz1 hz2 rfl (by omega) n2 m2; obtain ⟨Z, hZ⟩ : ∃ Z, madeCells #[.int .i32 0, .int .u32 0] (n2 * 2) = Z := ⟨_, rfl⟩
        have HM := zk7 (DH.make (f := spc) (zr := (0, 0)) (Z := Z) (e := 361) (z := 2) (n := n2) HD8.out (by rw [← hZ]; exact zb9 spc (0, 0) #[.int .i32 0, .int .u32 0] 2 rfl rfl (by omega) (fun _ => rfl) n2) (by rw [← hZ]; exact size_madeCells _ _) (by unfold maxLen; omega)); rw [hZ] at hmk; have a0 : (w8.alloc (.cells Z 361)).cell? ⟨g, 7, none⟩ = some (.slice none 0 0) := HM.out.2.1.cell 7
        have a1 : (w8.alloc (.cells Z 361)).frozen? ⟨g, 7, none⟩ = false := HM.out.2.1.frozen 7; clear hZ; go_wp2_with fail
        go_meet
        exact ⟨_, zk7 (HM.out.set 7 _)⟩
     case rest =>
      as_aux_lemma =>
       obtain ⟨v, HC⟩ := hcut; obtain ⟨A2, c2, rfl⟩ := zaa (show wc.ownsRow w.heap.size 361 2 v n2 _ from HC.out.2.2.1.1); have HN2 : Hid (n2 = n2) := zk7 rfl; have z7 : wc.cell? ⟨g, 7, none⟩ = some (.slice A2 n2 c2) := HC.out.2.1.cell 7; clear HD8; go_wp2
       go_loopw [94] (fun i wr => ∃ (k : Nat) (acc rest : List (Int × Nat)) (ST : St), i = .int .i64 k ∧ k ≤ n2 ∧ Hid (acc.length = k ∧ gN gSp (n2 - k) ST = (rest, S8) ∧ acc ++ rest = neg) ∧ Hid (DH te pe d g0 cur g 288 w wr ST #[(.int .u8 (b : Int)), (.int .i32 (wrap32 x1)), (.float .f64 x2), (.int .u64 (x3 : Int)), (.int .u64 (x4 : Int)), (.float .f64 x5), .slice A1 n1 c1, .slice A2 n2 c2, .slice none 0 0, .slice none 0 0, .slice none 0 0] [⟨361, 2, .slice A2 n2 c2, n2, (acc ++ List.replicate (n2 - k) (0, 0)).flatMap spc⟩, ⟨361, 2, .slice A1 n1 c1, pos.length, pos.flatMap spc⟩])) (fun i _ => n2 - (intOf i).toNat)
       case atStart => exact ⟨0, [], neg, T2, rfl, zli _, zk7 ⟨rfl, R2.out, rfl⟩, HC⟩
       case round =>
        obtain ⟨k, acc, rest, ST, rfl, hk, HA, HD⟩ := hrel; by_cases hlt : k < n2
        ·clear HC z7
         obtain ⟨m, c, hv, hm0, hc⟩ := zen (show wr.ownsRow w.heap.size 361 2 (.slice A2 n2 c2) n2 _ from HD.out.2.2.1.1) (by omega); injection hv with hv1 hv2 hv3; subst hv1 hv3; have hgm : g ≠ m := by omega
         obtain ⟨k', hk'⟩ : ∃ k', n2 - k = k' + 1 := ⟨n2 - k - 1, by omega⟩; obtain ⟨ha1, ha2, ha3⟩ := HA.out; rw [hk'] at ha2; obtain ⟨y0, U1, hy⟩ : ∃ a b, zaE ST = (a, b) := ⟨_, _, rfl⟩; obtain ⟨y1, U2, hu⟩ : ∃ a b, gUv U1 = (a, b) := ⟨_, _, rfl⟩; have hs : gSp ST = ((wrap32 y0, y1 % 4294967296), U2) := by unfold gSp; rw [hy]; simp only []; rw [hu]
         obtain ⟨x, hx⟩ : ∃ x, ((wrap32 y0, y1 % 4294967296) : Int × Nat) = x := ⟨_, rfl⟩; have V1 : Hid (∀ W, Dec te pe W d g0 cur ST → Calls Tryz.prog 165 #[.pointer (some ⟨d, 0, none⟩)] W (zap te pe W d g0 cur (.int .i64 y0) U1)) := zk7 (fun W hW => by have := zcO te pe _ _ _ _ _ hW; rw [hy] at this; exact this)
         have V2 : Hid (∀ W, Dec te pe W d g0 cur U1 → Calls Tryz.prog 232 #[.pointer (some ⟨d, 0, none⟩)] W (zap te pe W d g0 cur (.int .u32 (IntKind.u32.wrap y1)) U2)) := zk7 (fun W hW => by have := zdh te pe _ _ _ _ _ hW; rw [hu] at this; exact this); have hrest : rest = (wrap32 y0, y1 % 4294967296) :: (gN gSp k' U2).1 ∧ (gN gSp k' U2).2 = S8 := by
          rw [gN, hs] at ha2; exact ⟨(congrArg Prod.fst ha2).symm, congrArg Prod.snd ha2⟩
         have HB : Hid ((acc ++ [(wrap32 y0, y1 % 4294967296)]).length = k + 1 ∧ gN gSp (n2 - (k + 1)) U2 = ((gN gSp k' U2).1, S8) ∧ (acc ++ [(wrap32 y0, y1 % 4294967296)]) ++ (gN gSp k' U2).1 = neg) := zk7 ⟨by rw [zk8, ha1]; rfl, by rw [show n2 - (k + 1) = k' by omega, ← hrest.2], by rw [zla, zlP, ← hrest.1]; exact ha3⟩; have HK := zk7 ha1
         have HD1 : Hid (DH te pe d g0 cur g 288 w wr.drew ST #[(.int .u8 (b : Int)), (.int .i32 (wrap32 x1)), (.float .f64 x2), (.int .u64 (x3 : Int)), (.int .u64 (x4 : Int)), (.float .f64 x5), .slice A1 n1 c1, .slice (some ⟨m, 0, none⟩) n2 c2, .slice none 0 0, .slice none 0 0, .slice none 0 0] [⟨361, 2, .slice (some ⟨m, 0, none⟩) n2 c2, n2, (acc ++ (0, 0) :: List.replicate (n2 - (k + 1)) (0, 0)).flatMap spc⟩, ⟨361, 2, .slice A1 n1 c1, pos.length, pos.flatMap spc⟩]) := zk7 (by have h := HD.out.fr0 ((zlW (fun _ => False) wr).drew); rw [zcB acc ((0, 0) : (Int × Nat)) n2 k hlt] at h; exact h)
         have z7 : wr.drew.cell? ⟨g, 7, none⟩ = some (.slice (some ⟨m, 0, none⟩) n2 c2) := HD1.out.2.1.cell 7; clear HA HD ha1 ha2 ha3 hrest hy hu hx hs; go_wp2_with fail
         go_region_held3 (fun w' => w'.cell? ⟨g, 7, none⟩ = some (.slice (some ⟨m, 0, none⟩) n2 c2))
          ((first | exact (Blk.far HD2.out.2.1 (p := ⟨m, k * 2, none⟩) hgm _).cell 7 | exact HD2.out.2.1.cell 7 | exact HD1.out.2.1.cell 7 | go_keep))
          ((go_at_call 165; refine (V1.out _ HD1.out.1).mono ?_; rintro r w91 ⟨rfl, hd, hf⟩
            have HD2 : Hid (DH te pe d g0 cur g 288 w w91 U1 #[(.int .u8 (b : Int)), (.int .i32 (wrap32 x1)), (.float .f64 x2), (.int .u64 (x3 : Int)), (.int .u64 (x4 : Int)), (.float .f64 x5), .slice A1 n1 c1, .slice (some ⟨m, 0, none⟩) n2 c2, .slice none 0 0, .slice none 0 0, .slice none 0 0] [⟨361, 2, .slice (some ⟨m, 0, none⟩) n2 c2, n2, (acc ++ (0, 0) :: List.replicate (n2 - (k + 1)) (0, 0)).flatMap spc⟩, ⟨361, 2, .slice A1 n1 c1, pos.length, pos.flatMap spc⟩]) := zk7 (HD1.out.call hd hf)
            have s0 : w91.cell? ⟨m, k * 2, none⟩ = some (.int .i32 0) := zbj HD2.out.2.2.1.1 (zbQ spc 2 (fun _ => rfl) acc _ (0, 0) k 0 _ HK.out (by omega) (by omega)); have s1 : w91.frozen? ⟨m, k * 2, none⟩ = false := zbi HD2.out.2.2.1.1 _
            clear hd hf))
         obtain ⟨W9, hW9⟩ : ∃ W, w91.setCell ⟨m, k * 2, none⟩ (.int .i32 (IntKind.i32.wrap y0)) = W := ⟨_, rfl⟩; rw [hW9]
         have HD3 : Hid (DH te pe d g0 cur g 288 w W9.drew U1 #[(.int .u8 (b : Int)), (.int .i32 (wrap32 x1)), (.float .f64 x2), (.int .u64 (x3 : Int)), (.int .u64 (x4 : Int)), (.float .f64 x5), .slice A1 n1 c1, .slice (some ⟨m, 0, none⟩) n2 c2, .slice none 0 0, .slice none 0 0, .slice none 0 0] [⟨361, 2, .slice (some ⟨m, 0, none⟩) n2 c2, n2, (acc ++ (wrap32 y0, 0) :: List.replicate (n2 - (k + 1)) (0, 0)).flatMap spc⟩, ⟨361, 2, .slice A1 n1 c1, pos.length, pos.flatMap spc⟩]) := zk7 (by refine DH.fr0 ?_ ((zlW (fun _ => False) W9).drew); have h := HD2.out.put (o := k * 2) (.int .i32 (IntKind.i32.wrap y0)); rw [hW9, zbP spc 2 (fun _ => rfl) acc _ (0, 0) (wrap32 y0, 0) k 0 _ HK.out (by omega) (by omega) _ (by simp [spc, IntKind.wrap_i32, wrap32])] at h; exact h)
         have z7' : W9.drew.cell? ⟨g, 7, none⟩ = some (.slice (some ⟨m, 0, none⟩) n2 c2) := HD3.out.2.1.cell 7; clear HD1 HD2 hW9 s0 s1 z7; go_wp2_with fail
         go_region_held3 (fun w' => w'.cell? ⟨g, 7, none⟩ = some (.slice (some ⟨m, 0, none⟩) n2 c2))
          ((first | exact (Blk.far HD4.out.2.1 (p := ⟨m, k * 2 + 1, none⟩) hgm _).cell 7 | exact HD4.out.2.1.cell 7 | exact HD3.out.2.1.cell 7 | go_keep))
          ((go_at_call 232; refine (V2.out _ HD3.out.1).mono ?_; rintro r w92 ⟨rfl, hd, hf⟩
            have HD4 : Hid (DH te pe d g0 cur g 288 w w92 U2 #[(.int .u8 (b : Int)), (.int .i32 (wrap32 x1)), (.float .f64 x2), (.int .u64 (x3 : Int)), (.int .u64 (x4 : Int)), (.float .f64 x5), .slice A1 n1 c1, .slice (some ⟨m, 0, none⟩) n2 c2, .slice none 0 0, .slice none 0 0, .slice none 0 0] [⟨361, 2, .slice (some ⟨m, 0, none⟩) n2 c2, n2, (acc ++ (wrap32 y0, 0) :: List.replicate (n2 - (k + 1)) (0, 0)).flatMap spc⟩, ⟨361, 2, .slice A1 n1 c1, pos.length, pos.flatMap spc⟩]) := zk7 (HD3.out.call hd hf)
            have s0 : w92.cell? ⟨m, k * 2 + 1, none⟩ = some (.int .u32 0) := zbj HD4.out.2.2.1.1 (zbQ spc 2 (fun _ => rfl) acc _ (wrap32 y0, 0) k 1 _ HK.out (by omega) (by omega)); have s1 : w92.frozen? ⟨m, k * 2 + 1, none⟩ = false := zbi HD4.out.2.2.1.1 _
            clear hd hf))
         obtain ⟨WA, hWA⟩ : ∃ W, w92.setCell ⟨m, k * 2 + 1, none⟩ (.int .u32 (IntKind.u32.wrap y1)) = W := ⟨_, rfl⟩; rw [hWA]
         have HD5 : Hid (DH te pe d g0 cur g 288 w WA U2 #[(.int .u8 (b : Int)), (.int .i32 (wrap32 x1)), (.float .f64 x2), (.int .u64 (x3 : Int)), (.int .u64 (x4 : Int)), (.float .f64 x5), .slice A1 n1 c1, .slice (some ⟨m, 0, none⟩) n2 c2, .slice none 0 0, .slice none 0 0, .slice none 0 0] [⟨361, 2, .slice (some ⟨m, 0, none⟩) n2 c2, n2, (acc ++ (wrap32 y0, y1 % 4294967296) :: List.replicate (n2 - (k + 1)) (0, 0)).flatMap spc⟩, ⟨361, 2, .slice A1 n1 c1, pos.length, pos.flatMap spc⟩]) := zk7 (by have h := HD4.out.put (o := k * 2 + 1) (.int .u32 (IntKind.u32.wrap y1)); rw [hWA, zbP spc 2 (fun _ => rfl) acc _ (wrap32 y0, 0) (wrap32 y0, y1 % 4294967296) k 1 _ HK.out (by omega) (by omega) _ (by simp [spc, IntKind.wrap_u32])] at h; exact h)
         clear HD3 HD4 hWA s0 s1; go_wp2; go_roundw
         case rel => exact ⟨k + 1, acc ++ [(wrap32 y0, y1 % 4294967296)], (gN gSp k' U2).1, U2, by go_num, by omega, HB, zk7 (by have h := HD5.out; rw [List.append_cons] at h; exact h)⟩
         case measure => simp [intOf]; omega
        ·have hkn : k = n2 := by omega
         have HX : Hid (DH te pe d g0 cur g 288 w wr S8 #[(.int .u8 (b : Int)), (.int .i32 (wrap32 x1)), (.float .f64 x2), (.int .u64 (x3 : Int)), (.int .u64 (x4 : Int)), (.float .f64 x5), .slice A1 n1 c1, .slice A2 n2 c2, .slice none 0 0, .slice none 0 0, .slice none 0 0] [⟨361, 2, .slice A2 n2 c2, neg.length, neg.flatMap spc⟩, ⟨361, 2, .slice A1 n1 c1, pos.length, pos.flatMap spc⟩]) := zk7 (by
          obtain ⟨ha1, ha2, ha3⟩ := HA.out; rw [hkn, Nat.sub_self] at ha2; have e1 : ST = S8 := congrArg Prod.snd ha2; have e2 : acc = neg := by rw [← ha3, ← show ([] : List (Int × Nat)) = rest from congrArg Prod.fst ha2, zlt]
          have h := HD.out; rw [e1, e2, hkn, Nat.sub_self, List.replicate_zero, zlt] at h; rw [LL.out.2.1]
          exact h)
         have hlt2 : ¬ (k : Int) < (n2 : Int) := by omega
         clear HA HD HC hlt hkn z7
         go_upto_if 120 with (first
          | (go_at_call 172; refine (HQ8.out _ HX.out.1).mono ?_; rintro r9 w9 ⟨rfl, hd, hf⟩
             have HD9 : Hid (DH te pe d g0 cur g 288 w w9 T3 #[(.int .u8 (b : Int)), (.int .i32 (wrap32 x1)), (.float .f64 x2), (.int .u64 (x3 : Int)), (.int .u64 (x4 : Int)), (.float .f64 x5), .slice A1 n1 c1, .slice A2 n2 c2, .slice none 0 0, .slice none 0 0, .slice none 0 0] [⟨361, 2, .slice A2 n2 c2, neg.length, neg.flatMap spc⟩, ⟨361, 2, .slice A1 n1 c1, pos.length, pos.flatMap spc⟩]) := zk7 (HX.out.call hd hf)
             clear hd hf HX))
         go_cut [] (fun wx => ∃ v, Hid (DH te pe d g0 cur g 288 w wx T3 #[(.int .u8 (b : Int)), (.int .i32 (wrap32 x1)), (.float .f64 x2), (.int .u64 (x3 : Int)), (.int .u64 (x4 : Int)), (.float .f64 x5), .slice A1 n1 c1, .slice A2 n2 c2, v, .slice none 0 0, .slice none 0 0] [⟨2, 1, v, n3, (List.replicate n3 (0 : Int)).flatMap i1⟩, ⟨361, 2, .slice A2 n2 c2, neg.length, neg.flatMap spc⟩, ⟨361, 2, .slice A1 n1 c1, pos.length, pos.flatMap spc⟩]))
         case first =>
          as_aux_lemma =>
           rcases zlu n3 with h0 | h0
           ·have h1 : ¬ (0 : Int) < (n3 : Int) := by omega
            have H0 := zk7 h0; clear h0; go_wp2_with fail
            go_meet
            refine ⟨.slice none 0 0, zk7 ?_⟩; have h := HD9.out.none_ 2 1; rw [H0.out]; exact h
           ·have h1 : (0 : Int) < (n3 : Int) := by omega
            obtain ⟨i0, hi0, hz0, hz1, hz2⟩ := info_parts Tryz.info2; have hmk := zdl Tryz.prog 189 2 #[.int .i64 0] 1 8 i0 _ Tryz.underlying189' hi0 hz0 hz1 hz2 rfl (by omega) n3 m3; obtain ⟨Z, hZ⟩ : ∃ Z, madeCells #[.int .i64 0] (n3 * 1) = Z := ⟨_, rfl⟩
            have HM := zk7 (DH.make (f := i1) (zr := 0) (Z := Z) (e := 2) (z := 1) (n := n3) HD9.out (by rw [← hZ]; exact zb9 i1 0 #[.int .i64 0] 1 rfl rfl (by omega) (fun _ => rfl) n3) (by rw [← hZ]; exact size_madeCells _ _) (by unfold maxLen; omega)); rw [hZ] at hmk; have a0 : (w9.alloc (.cells Z 2)).cell? ⟨g, 8, none⟩ = some (.slice none 0 0) := HM.out.2.1.cell 8
            have a1 : (w9.alloc (.cells Z 2)).frozen? ⟨g, 8, none⟩ = false := HM.out.2.1.frozen 8; clear hZ; go_wp2_with fail
            go_meet
            exact ⟨_, zk7 (HM.out.set 8 _)⟩
         case rest =>
          as_aux_lemma =>
           obtain ⟨v, HC⟩ := hcut; obtain ⟨A3, c3, rfl⟩ := zaa (show wc.ownsRow w.heap.size 2 1 v n3 _ from HC.out.2.2.1.1); have HN3 : Hid (n3 = n3) := zk7 rfl; have z8 : wc.cell? ⟨g, 8, none⟩ = some (.slice A3 n3 c3) := HC.out.2.1.cell 8; clear HD9; go_wp2
           go_loopw [131] (fun i wr => ∃ (k : Nat) (acc rest : List Int) (ST : St), i = .int .i64 k ∧ k ≤ n3 ∧ Hid (acc.length = k ∧ gN zaE (n3 - k) ST = (rest, S9) ∧ acc ++ rest = ups) ∧ Hid (DH te pe d g0 cur g 288 w wr ST #[(.int .u8 (b : Int)), (.int .i32 (wrap32 x1)), (.float .f64 x2), (.int .u64 (x3 : Int)), (.int .u64 (x4 : Int)), (.float .f64 x5), .slice A1 n1 c1, .slice A2 n2 c2, .slice A3 n3 c3, .slice none 0 0, .slice none 0 0] [⟨2, 1, .slice A3 n3 c3, n3, (acc ++ List.replicate (n3 - k) 0).flatMap i1⟩, ⟨361, 2, .slice A2 n2 c2, neg.length, neg.flatMap spc⟩, ⟨361, 2, .slice A1 n1 c1, pos.length, pos.flatMap spc⟩])) (fun i _ => n3 - (intOf i).toNat)
           case atStart => exact ⟨0, [], ups, T3, rfl, zli _, zk7 ⟨rfl, R3.out, rfl⟩, HC⟩
           case round =>
            obtain ⟨k, acc, rest, ST, rfl, hk, HA, HD⟩ := hrel; by_cases hlt : k < n3
            ·clear HC z8
             obtain ⟨m, c, hv, hm0, hc⟩ := zen (show wr.ownsRow w.heap.size 2 1 (.slice A3 n3 c3) n3 _ from HD.out.2.2.1.1) (by omega); injection hv with hv1 hv2 hv3; subst hv1 hv3; have hgm : g ≠ m := by omega
             obtain ⟨k', hk'⟩ : ∃ k', n3 - k = k' + 1 := ⟨n3 - k - 1, by omega⟩; obtain ⟨ha1, ha2, ha3⟩ := HA.out; rw [hk'] at ha2; obtain ⟨x, U1, hs⟩ : ∃ a b, zaE ST = (a, b) := ⟨_, _, rfl⟩
             have V1 : Hid (∀ W, Dec te pe W d g0 cur ST → Calls Tryz.prog 165 #[.pointer (some ⟨d, 0, none⟩)] W (zap te pe W d g0 cur (.int .i64 x) U1)) := zk7 (fun W hW => by have := zcO te pe _ _ _ _ _ hW; rw [hs] at this; exact this); have hrest : rest = x :: (gN zaE k' U1).1 ∧ (gN zaE k' U1).2 = S9 := by
              rw [gN, hs] at ha2; exact ⟨(congrArg Prod.fst ha2).symm, congrArg Prod.snd ha2⟩
             have HB : Hid ((acc ++ [x]).length = k + 1 ∧ gN zaE (n3 - (k + 1)) U1 = ((gN zaE k' U1).1, S9) ∧ (acc ++ [x]) ++ (gN zaE k' U1).1 = ups) := zk7 ⟨by rw [zk8, ha1]; rfl, by rw [show n3 - (k + 1) = k' by omega, ← hrest.2], by rw [zla, zlP, ← hrest.1]; exact ha3⟩; have HK := zk7 ha1
             have HD1 : Hid (DH te pe d g0 cur g 288 w wr.drew ST #[(.int .u8 (b : Int)), (.int .i32 (wrap32 x1)), (.float .f64 x2), (.int .u64 (x3 : Int)), (.int .u64 (x4 : Int)), (.float .f64 x5), .slice A1 n1 c1, .slice A2 n2 c2, .slice (some ⟨m, 0, none⟩) n3 c3, .slice none 0 0, .slice none 0 0] [⟨2, 1, .slice (some ⟨m, 0, none⟩) n3 c3, n3, (acc ++ 0 :: List.replicate (n3 - (k + 1)) 0).flatMap i1⟩, ⟨361, 2, .slice A2 n2 c2, neg.length, neg.flatMap spc⟩, ⟨361, 2, .slice A1 n1 c1, pos.length, pos.flatMap spc⟩]) := zk7 (by have h := HD.out.fr0 ((zlW (fun _ => False) wr).drew); rw [zcB acc (0 : Int) n3 k hlt] at h; exact h)
             have z8 : wr.drew.cell? ⟨g, 8, none⟩ = some (.slice (some ⟨m, 0, none⟩) n3 c3) := HD1.out.2.1.cell 8; clear HA HD ha1 ha2 ha3 hrest hs; go_wp2_with fail
             go_region_held3 (fun w' => w'.cell? ⟨g, 8, none⟩ = some (.slice (some ⟨m, 0, none⟩) n3 c3))
              ((first | exact (Blk.far HD2.out.2.1 (p := ⟨m, k, none⟩) hgm _).cell 8 | exact HD2.out.2.1.cell 8 | exact HD1.out.2.1.cell 8 | go_keep))
              ((go_at_call 165; refine (V1.out _ HD1.out.1).mono ?_; rintro r w91 ⟨rfl, hd, hf⟩
                have HD2 : Hid (DH te pe d g0 cur g 288 w w91 U1 #[(.int .u8 (b : Int)), (.int .i32 (wrap32 x1)), (.float .f64 x2), (.int .u64 (x3 : Int)), (.int .u64 (x4 : Int)), (.float .f64 x5), .slice A1 n1 c1, .slice A2 n2 c2, .slice (some ⟨m, 0, none⟩) n3 c3, .slice none 0 0, .slice none 0 0] [⟨2, 1, .slice (some ⟨m, 0, none⟩) n3 c3, n3, (acc ++ 0 :: List.replicate (n3 - (k + 1)) 0).flatMap i1⟩, ⟨361, 2, .slice A2 n2 c2, neg.length, neg.flatMap spc⟩, ⟨361, 2, .slice A1 n1 c1, pos.length, pos.flatMap spc⟩]) := zk7 (HD1.out.call hd hf)
                have s0 : w91.cell? ⟨m, k, none⟩ = some (.int .i64 0) := zbj HD2.out.2.2.1.1 (zbQ i1 1 (fun _ => rfl) acc _ 0 k 0 _ HK.out (by omega) (by omega)); have s1 : w91.frozen? ⟨m, k, none⟩ = false := zbi HD2.out.2.2.1.1 _
                clear hd hf))
             obtain ⟨WA, hWA⟩ : ∃ W, w91.setCell ⟨m, k, none⟩ (.int .i64 x) = W := ⟨_, rfl⟩; rw [hWA]
             have HD5 : Hid (DH te pe d g0 cur g 288 w WA U1 #[(.int .u8 (b : Int)), (.int .i32 (wrap32 x1)), (.float .f64 x2), (.int .u64 (x3 : Int)), (.int .u64 (x4 : Int)), (.float .f64 x5), .slice A1 n1 c1, .slice A2 n2 c2, .slice (some ⟨m, 0, none⟩) n3 c3, .slice none 0 0, .slice none 0 0] [⟨2, 1, .slice (some ⟨m, 0, none⟩) n3 c3, n3, (acc ++ x :: List.replicate (n3 - (k + 1)) 0).flatMap i1⟩, ⟨361, 2, .slice A2 n2 c2, neg.length, neg.flatMap spc⟩, ⟨361, 2, .slice A1 n1 c1, pos.length, pos.flatMap spc⟩]) := zk7 (by have h := HD2.out.put (o := k) (.int .i64 x); rw [hWA, zbP i1 1 (fun _ => rfl) acc _ 0 x k 0 _ HK.out (by omega) (by omega) _ rfl] at h; exact h)
             clear HD1 HD2 hWA s0 s1 z8; go_wp2; go_roundw
             case rel => exact ⟨k + 1, acc ++ [x], (gN zaE k' U1).1, U1, by go_num, by omega, HB, zk7 (by have h := HD5.out; rw [List.append_cons] at h; exact h)⟩
             case measure => simp [intOf]; omega
            ·have hkn : k = n3 := by omega
             have HX : Hid (DH te pe d g0 cur g 288 w wr S9 #[(.int .u8 (b : Int)), (.int .i32 (wrap32 x1)), (.float .f64 x2), (.int .u64 (x3 : Int)), (.int .u64 (x4 : Int)), (.float .f64 x5), .slice A1 n1 c1, .slice A2 n2 c2, .slice A3 n3 c3, .slice none 0 0, .slice none 0 0] [⟨2, 1, .slice A3 n3 c3, ups.length, ups.flatMap i1⟩, ⟨361, 2, .slice A2 n2 c2, neg.length, neg.flatMap spc⟩, ⟨361, 2, .slice A1 n1 c1, pos.length, pos.flatMap spc⟩]) := zk7 (by
              obtain ⟨ha1, ha2, ha3⟩ := HA.out; rw [hkn, Nat.sub_self] at ha2; have e1 : ST = S9 := congrArg Prod.snd ha2; have e2 : acc = ups := by rw [← ha3, ← show ([] : List Int) = rest from congrArg Prod.fst ha2, zlt]
              have h := HD.out; rw [e1, e2, hkn, Nat.sub_self, List.replicate_zero, zlt] at h; rw [LL.out.2.2.1]
              exact h)
             have hlt2 : ¬ (k : Int) < (n3 : Int) := by omega
             clear HA HD HC hlt hkn z8
             go_upto_if 146 with (first
              | (go_at_call 172; refine (HQ9.out _ HX.out.1).mono ?_; rintro r10 w10 ⟨rfl, hd, hf⟩
                 have HD10 : Hid (DH te pe d g0 cur g 288 w w10 T4 #[(.int .u8 (b : Int)), (.int .i32 (wrap32 x1)), (.float .f64 x2), (.int .u64 (x3 : Int)), (.int .u64 (x4 : Int)), (.float .f64 x5), .slice A1 n1 c1, .slice A2 n2 c2, .slice A3 n3 c3, .slice none 0 0, .slice none 0 0] [⟨2, 1, .slice A3 n3 c3, ups.length, ups.flatMap i1⟩, ⟨361, 2, .slice A2 n2 c2, neg.length, neg.flatMap spc⟩, ⟨361, 2, .slice A1 n1 c1, pos.length, pos.flatMap spc⟩]) := zk7 (HX.out.call hd hf)
                 clear hd hf HX))
             go_cut [] (fun wx => ∃ v, Hid (DH te pe d g0 cur g 288 w wx T4 #[(.int .u8 (b : Int)), (.int .i32 (wrap32 x1)), (.float .f64 x2), (.int .u64 (x3 : Int)), (.int .u64 (x4 : Int)), (.float .f64 x5), .slice A1 n1 c1, .slice A2 n2 c2, .slice A3 n3 c3, v, .slice none 0 0] [⟨2, 1, v, n4, (List.replicate n4 (0 : Int)).flatMap i1⟩, ⟨2, 1, .slice A3 n3 c3, ups.length, ups.flatMap i1⟩, ⟨361, 2, .slice A2 n2 c2, neg.length, neg.flatMap spc⟩, ⟨361, 2, .slice A1 n1 c1, pos.length, pos.flatMap spc⟩]))
             case first =>
              as_aux_lemma =>
               rcases zlu n4 with h0 | h0
               ·have h1 : ¬ (0 : Int) < (n4 : Int) := by omega
                have H0 := zk7 h0; clear h0; go_wp2_with fail
                go_meet
                refine ⟨.slice none 0 0, zk7 ?_⟩; have h := HD10.out.none_ 2 1; rw [H0.out]; exact h
               ·have h1 : (0 : Int) < (n4 : Int) := by omega
                obtain ⟨i0, hi0, hz0, hz1, hz2⟩ := info_parts Tryz.info2; have hmk := zdl Tryz.prog 189 2 #[.int .i64 0] 1 8 i0 _ Tryz.underlying189' hi0 hz0 hz1 hz2 rfl (by omega) n4 m4; obtain ⟨Z, hZ⟩ : ∃ Z, madeCells #[.int .i64 0] (n4 * 1) = Z := ⟨_, rfl⟩
                have HM := zk7 (DH.make (f := i1) (zr := 0) (Z := Z) (e := 2) (z := 1) (n := n4) HD10.out (by rw [← hZ]; exact zb9 i1 0 #[.int .i64 0] 1 rfl rfl (by omega) (fun _ => rfl) n4) (by rw [← hZ]; exact size_madeCells _ _) (by unfold maxLen; omega)); rw [hZ] at hmk; have a0 : (w10.alloc (.cells Z 2)).cell? ⟨g, 9, none⟩ = some (.slice none 0 0) := HM.out.2.1.cell 9
                have a1 : (w10.alloc (.cells Z 2)).frozen? ⟨g, 9, none⟩ = false := HM.out.2.1.frozen 9; clear hZ; go_wp2_with fail
                go_meet
                exact ⟨_, zk7 (HM.out.set 9 _)⟩
             case rest =>
              as_aux_lemma =>
               obtain ⟨v, HC⟩ := hcut; obtain ⟨A4, c4, rfl⟩ := zaa (show wc.ownsRow w.heap.size 2 1 v n4 _ from HC.out.2.2.1.1); have HN4 : Hid (n4 = n4) := zk7 rfl; have z9 : wc.cell? ⟨g, 9, none⟩ = some (.slice A4 n4 c4) := HC.out.2.1.cell 9; clear HD10; go_wp2
               go_loopw [157] (fun i wr => ∃ (k : Nat) (acc rest : List Int) (ST : St), i = .int .i64 k ∧ k ≤ n4 ∧ Hid (acc.length = k ∧ gN zaE (n4 - k) ST = (rest, S10) ∧ acc ++ rest = downs) ∧ Hid (DH te pe d g0 cur g 288 w wr ST #[(.int .u8 (b : Int)), (.int .i32 (wrap32 x1)), (.float .f64 x2), (.int .u64 (x3 : Int)), (.int .u64 (x4 : Int)), (.float .f64 x5), .slice A1 n1 c1, .slice A2 n2 c2, .slice A3 n3 c3, .slice A4 n4 c4, .slice none 0 0] [⟨2, 1, .slice A4 n4 c4, n4, (acc ++ List.replicate (n4 - k) 0).flatMap i1⟩, ⟨2, 1, .slice A3 n3 c3, ups.length, ups.flatMap i1⟩, ⟨361, 2, .slice A2 n2 c2, neg.length, neg.flatMap spc⟩, ⟨361, 2, .slice A1 n1 c1, pos.length, pos.flatMap spc⟩])) (fun i _ => n4 - (intOf i).toNat)
               case atStart => exact ⟨0, [], downs, T4, rfl, zli _, zk7 ⟨rfl, R4.out, rfl⟩, HC⟩
               case round =>
                obtain ⟨k, acc, rest, ST, rfl, hk, HA, HD⟩ := hrel; by_cases hlt : k < n4
                ·clear HC z9
                 obtain ⟨m, c, hv, hm0, hc⟩ := zen (show wr.ownsRow w.heap.size 2 1 (.slice A4 n4 c4) n4 _ from HD.out.2.2.1.1) (by omega); injection hv with hv1 hv2 hv3; subst hv1 hv3; have hgm : g ≠ m := by omega
                 obtain ⟨k', hk'⟩ : ∃ k', n4 - k = k' + 1 := ⟨n4 - k - 1, by omega⟩; obtain ⟨ha1, ha2, ha3⟩ := HA.out; rw [hk'] at ha2; obtain ⟨x, U1, hs⟩ : ∃ a b, zaE ST = (a, b) := ⟨_, _, rfl⟩
                 have V1 : Hid (∀ W, Dec te pe W d g0 cur ST → Calls Tryz.prog 165 #[.pointer (some ⟨d, 0, none⟩)] W (zap te pe W d g0 cur (.int .i64 x) U1)) := zk7 (fun W hW => by have := zcO te pe _ _ _ _ _ hW; rw [hs] at this; exact this); have hrest : rest = x :: (gN zaE k' U1).1 ∧ (gN zaE k' U1).2 = S10 := by
                  rw [gN, hs] at ha2; exact ⟨(congrArg Prod.fst ha2).symm, congrArg Prod.snd ha2⟩
                 have HB : Hid ((acc ++ [x]).length = k + 1 ∧ gN zaE (n4 - (k + 1)) U1 = ((gN zaE k' U1).1, S10) ∧ (acc ++ [x]) ++ (gN zaE k' U1).1 = downs) := zk7 ⟨by rw [zk8, ha1]; rfl, by rw [show n4 - (k + 1) = k' by omega, ← hrest.2], by rw [zla, zlP, ← hrest.1]; exact ha3⟩; have HK := zk7 ha1
                 have HD1 : Hid (DH te pe d g0 cur g 288 w wr.drew ST #[(.int .u8 (b : Int)), (.int .i32 (wrap32 x1)), (.float .f64 x2), (.int .u64 (x3 : Int)), (.int .u64 (x4 : Int)), (.float .f64 x5), .slice A1 n1 c1, .slice A2 n2 c2, .slice A3 n3 c3, .slice (some ⟨m, 0, none⟩) n4 c4, .slice none 0 0] [⟨2, 1, .slice (some ⟨m, 0, none⟩) n4 c4, n4, (acc ++ 0 :: List.replicate (n4 - (k + 1)) 0).flatMap i1⟩, ⟨2, 1, .slice A3 n3 c3, ups.length, ups.flatMap i1⟩, ⟨361, 2, .slice A2 n2 c2, neg.length, neg.flatMap spc⟩, ⟨361, 2, .slice A1 n1 c1, pos.length, pos.flatMap spc⟩]) := zk7 (by have h := HD.out.fr0 ((zlW (fun _ => False) wr).drew); rw [zcB acc (0 : Int) n4 k hlt] at h; exact h)
                 have z9 : wr.drew.cell? ⟨g, 9, none⟩ = some (.slice (some ⟨m, 0, none⟩) n4 c4) := HD1.out.2.1.cell 9; clear HA HD ha1 ha2 ha3 hrest hs; go_wp2_with fail
                 go_region_held3 (fun w' => w'.cell? ⟨g, 9, none⟩ = some (.slice (some ⟨m, 0, none⟩) n4 c4))
                  ((first | exact (Blk.far HD2.out.2.1 (p := ⟨m, k, none⟩) hgm _).cell 9 | exact HD2.out.2.1.cell 9 | exact HD1.out.2.1.cell 9 | go_keep))
                  ((go_at_call 165; refine (V1.out _ HD1.out.1).mono ?_; rintro r w91 ⟨rfl, hd, hf⟩
                    have HD2 : Hid (DH te pe d g0 cur g 288 w w91 U1 #[(.int .u8 (b : Int)), (.int .i32 (wrap32 x1)), (.float .f64 x2), (.int .u64 (x3 : Int)), (.int .u64 (x4 : Int)), (.float .f64 x5), .slice A1 n1 c1, .slice A2 n2 c2, .slice A3 n3 c3, .slice (some ⟨m, 0, none⟩) n4 c4, .slice none 0 0] [⟨2, 1, .slice (some ⟨m, 0, none⟩) n4 c4, n4, (acc ++ 0 :: List.replicate (n4 - (k + 1)) 0).flatMap i1⟩, ⟨2, 1, .slice A3 n3 c3, ups.length, ups.flatMap i1⟩, ⟨361, 2, .slice A2 n2 c2, neg.length, neg.flatMap spc⟩, ⟨361, 2, .slice A1 n1 c1, pos.length, pos.flatMap spc⟩]) := zk7 (HD1.out.call hd hf)
                    have s0 : w91.cell? ⟨m, k, none⟩ = some (.int .i64 0) := zbj HD2.out.2.2.1.1 (zbQ i1 1 (fun _ => rfl) acc _ 0 k 0 _ HK.out (by omega) (by omega)); have s1 : w91.frozen? ⟨m, k, none⟩ = false := zbi HD2.out.2.2.1.1 _
                    clear hd hf))
                 obtain ⟨WA, hWA⟩ : ∃ W, w91.setCell ⟨m, k, none⟩ (.int .i64 x) = W := ⟨_, rfl⟩; rw [hWA]
                 have HD5 : Hid (DH te pe d g0 cur g 288 w WA U1 #[(.int .u8 (b : Int)), (.int .i32 (wrap32 x1)), (.float .f64 x2), (.int .u64 (x3 : Int)), (.int .u64 (x4 : Int)), (.float .f64 x5), .slice A1 n1 c1, .slice A2 n2 c2, .slice A3 n3 c3, .slice (some ⟨m, 0, none⟩) n4 c4, .slice none 0 0] [⟨2, 1, .slice (some ⟨m, 0, none⟩) n4 c4, n4, (acc ++ x :: List.replicate (n4 - (k + 1)) 0).flatMap i1⟩, ⟨2, 1, .slice A3 n3 c3, ups.length, ups.flatMap i1⟩, ⟨361, 2, .slice A2 n2 c2, neg.length, neg.flatMap spc⟩, ⟨361, 2, .slice A1 n1 c1, pos.length, pos.flatMap spc⟩]) := zk7 (by have h := HD2.out.put (o := k) (.int .i64 x); rw [hWA, zbP i1 1 (fun _ => rfl) acc _ 0 x k 0 _ HK.out (by omega) (by omega) _ rfl] at h; exact h)
                 clear HD1 HD2 hWA s0 s1 z9; go_wp2; go_roundw
                 case rel => exact ⟨k + 1, acc ++ [x], (gN zaE k' U1).1, U1, by go_num, by omega, HB, zk7 (by have h := HD5.out; rw [List.append_cons] at h; exact h)⟩
                 case measure => simp [intOf]; omega
                ·have hkn : k = n4 := by omega
                 have HX : Hid (DH te pe d g0 cur g 288 w wr S10 #[(.int .u8 (b : Int)), (.int .i32 (wrap32 x1)), (.float .f64 x2), (.int .u64 (x3 : Int)), (.int .u64 (x4 : Int)), (.float .f64 x5), .slice A1 n1 c1, .slice A2 n2 c2, .slice A3 n3 c3, .slice A4 n4 c4, .slice none 0 0] [⟨2, 1, .slice A4 n4 c4, downs.length, downs.flatMap i1⟩, ⟨2, 1, .slice A3 n3 c3, ups.length, ups.flatMap i1⟩, ⟨361, 2, .slice A2 n2 c2, neg.length, neg.flatMap spc⟩, ⟨361, 2, .slice A1 n1 c1, pos.length, pos.flatMap spc⟩]) := zk7 (by
                  obtain ⟨ha1, ha2, ha3⟩ := HA.out; rw [hkn, Nat.sub_self] at ha2; have e1 : ST = S10 := congrArg Prod.snd ha2; have e2 : acc = downs := by rw [← ha3, ← show ([] : List Int) = rest from congrArg Prod.fst ha2, zlt]
                  have h := HD.out; rw [e1, e2, hkn, Nat.sub_self, List.replicate_zero, zlt] at h; rw [LL.out.2.2.2]
                  exact h)
                 have hlt2 : ¬ (k : Int) < (n4 : Int) := by omega
                 clear HA HD HC hlt hkn z9; obtain ⟨cb, hcb⟩ : ∃ cb, (wrap32 x1 == -53) = cb := ⟨_, rfl⟩; have HQC : Hid (∀ W, Calls Tryz.prog 233 #[.int .i32 (wrap32 x1)] W fun r w' => r = .returned (.bool cb) ∧ W = w') := zk7 (fun W => by rw [← hcb]; exact zbW _ _); have y1c : wr.cell? ⟨g, 1, none⟩ = some (.int .i32 (wrap32 x1)) := HX.out.2.1.cell 1; rcases cb with _ | _
                 ·obtain ⟨rfl, rfl⟩ := R6.out (by simpa using hcb)
                  clear hcb; go_wp2_with (go_at_call 233; refine (HQC.out _).mono ?_; rintro r50 w50 ⟨rfl, rfl⟩)
                  go_end0; exact ⟨rfl, _, _, _, _, _, HX.out.none_ 135 1⟩
                 ·obtain ⟨hk5, m5, hr5⟩ := R5.out (by simpa using hcb)
                  have hl5 : cus.length = n5 := by rw [← zbX zac n5 T5, hr5]
                  have HQA : Hid (∀ W, Dec te pe W d g0 cur S10 → Calls Tryz.prog 172 #[.pointer (some ⟨d, 0, none⟩)] W (zap te pe W d g0 cur (.int .i64 (n5 : Int)) T5)) := zk7 (fun W hW => by have := zbg te pe _ _ _ _ _ hW; rw [hk5] at this; rw [show ((n5, T5) : Nat × St).1 = n5 from rfl, zcb m5] at this; exact this); have HR5 := zk7 hr5; have HL5 := zk7 hl5; clear hk5 hr5 hl5 hcb
                  go_upto_if 177 with (first
                   | (go_at_call 172; refine (HQA.out _ HX.out.1).mono ?_; rintro r11 w11 ⟨rfl, hd, hf⟩
                      have HD11 : Hid (DH te pe d g0 cur g 288 w w11 T5 #[(.int .u8 (b : Int)), (.int .i32 (wrap32 x1)), (.float .f64 x2), (.int .u64 (x3 : Int)), (.int .u64 (x4 : Int)), (.float .f64 x5), .slice A1 n1 c1, .slice A2 n2 c2, .slice A3 n3 c3, .slice A4 n4 c4, .slice none 0 0] [⟨2, 1, .slice A4 n4 c4, downs.length, downs.flatMap i1⟩, ⟨2, 1, .slice A3 n3 c3, ups.length, ups.flatMap i1⟩, ⟨361, 2, .slice A2 n2 c2, neg.length, neg.flatMap spc⟩, ⟨361, 2, .slice A1 n1 c1, pos.length, pos.flatMap spc⟩]) := zk7 (HX.out.call hd hf)
                      clear hd hf HX)
                   | (go_at_call 233; refine (HQC.out _).mono ?_; rintro r50 w50 ⟨rfl, rfl⟩))
                  go_cut [] (fun wx => ∃ v, Hid (DH te pe d g0 cur g 288 w wx T5 #[(.int .u8 (b : Int)), (.int .i32 (wrap32 x1)), (.float .f64 x2), (.int .u64 (x3 : Int)), (.int .u64 (x4 : Int)), (.float .f64 x5), .slice A1 n1 c1, .slice A2 n2 c2, .slice A3 n3 c3, .slice A4 n4 c4, v] [⟨135, 1, v, n5, (List.replicate n5 (0 : Nat)).flatMap f1⟩, ⟨2, 1, .slice A4 n4 c4, downs.length, downs.flatMap i1⟩, ⟨2, 1, .slice A3 n3 c3, ups.length, ups.flatMap i1⟩, ⟨361, 2, .slice A2 n2 c2, neg.length, neg.flatMap spc⟩, ⟨361, 2, .slice A1 n1 c1, pos.length, pos.flatMap spc⟩]))
                  case first =>
                   as_aux_lemma =>
                    rcases zlu n5 with h0 | h0
                    ·have h1 : ¬ (0 : Int) < (n5 : Int) := by omega
                     have H0 := zk7 h0; clear h0; go_wp2_with fail
                     go_meet
                     refine ⟨.slice none 0 0, zk7 ?_⟩; have h := HD11.out.none_ 135 1; rw [H0.out]; exact h
                    ·have h1 : (0 : Int) < (n5 : Int) := by omega
                     obtain ⟨i0, hi0, hz0, hz1, hz2⟩ := info_parts Tryz.info135; have hmk := zdl Tryz.prog 286 135 #[.float .f64 0] 1 8 i0 _ Tryz.underlying286' hi0 hz0 hz1 hz2 rfl (by omega) n5 m5; obtain ⟨Z, hZ⟩ : ∃ Z, madeCells #[.float .f64 0] (n5 * 1) = Z := ⟨_, rfl⟩
                     have HM := zk7 (DH.make (f := f1) (zr := 0) (Z := Z) (e := 135) (z := 1) (n := n5) HD11.out (by rw [← hZ]; exact zb9 f1 0 #[.float .f64 0] 1 rfl rfl (by omega) (fun _ => rfl) n5) (by rw [← hZ]; exact size_madeCells _ _) (by unfold maxLen; omega)); rw [hZ] at hmk; have a0 : (w11.alloc (.cells Z 135)).cell? ⟨g, 10, none⟩ = some (.slice none 0 0) := HM.out.2.1.cell 10
                     have a1 : (w11.alloc (.cells Z 135)).frozen? ⟨g, 10, none⟩ = false := HM.out.2.1.frozen 10; clear hZ; go_wp2_with fail
                     go_meet
                     exact ⟨_, zk7 (HM.out.set 10 _)⟩
                  case rest =>
                   as_aux_lemma =>
                    obtain ⟨v, HC⟩ := hcut; obtain ⟨A5, c5, rfl⟩ := zaa (show wc.ownsRow w.heap.size 135 1 v n5 _ from HC.out.2.2.1.1); have HN5 : Hid (n5 = n5) := zk7 rfl; have z10 : wc.cell? ⟨g, 10, none⟩ = some (.slice A5 n5 c5) := HC.out.2.1.cell 10; clear HD11; go_wp2
                    go_loopw [188] (fun i wr => ∃ (k : Nat) (acc rest : List Nat) (ST : St), i = .int .i64 k ∧ k ≤ n5 ∧ Hid (acc.length = k ∧ gN zac (n5 - k) ST = (rest, S11) ∧ acc ++ rest = cus) ∧ Hid (DH te pe d g0 cur g 288 w wr ST #[(.int .u8 (b : Int)), (.int .i32 (wrap32 x1)), (.float .f64 x2), (.int .u64 (x3 : Int)), (.int .u64 (x4 : Int)), (.float .f64 x5), .slice A1 n1 c1, .slice A2 n2 c2, .slice A3 n3 c3, .slice A4 n4 c4, .slice A5 n5 c5] [⟨135, 1, .slice A5 n5 c5, n5, (acc ++ List.replicate (n5 - k) 0).flatMap f1⟩, ⟨2, 1, .slice A4 n4 c4, downs.length, downs.flatMap i1⟩, ⟨2, 1, .slice A3 n3 c3, ups.length, ups.flatMap i1⟩, ⟨361, 2, .slice A2 n2 c2, neg.length, neg.flatMap spc⟩, ⟨361, 2, .slice A1 n1 c1, pos.length, pos.flatMap spc⟩])) (fun i _ => n5 - (intOf i).toNat)
                    case atStart => exact ⟨0, [], cus, T5, rfl, zli _, zk7 ⟨rfl, HR5.out, rfl⟩, HC⟩
                    case round =>
                     obtain ⟨k, acc, rest, ST, rfl, hk, HA, HD⟩ := hrel; by_cases hlt : k < n5
                     ·clear HC z10
                      obtain ⟨m, c, hv, hm0, hc⟩ := zen (show wr.ownsRow w.heap.size 135 1 (.slice A5 n5 c5) n5 _ from HD.out.2.2.1.1) (by omega); injection hv with hv1 hv2 hv3; subst hv1 hv3; have hgm : g ≠ m := by omega
                      obtain ⟨k', hk'⟩ : ∃ k', n5 - k = k' + 1 := ⟨n5 - k - 1, by omega⟩; obtain ⟨ha1, ha2, ha3⟩ := HA.out; rw [hk'] at ha2; obtain ⟨x, U1, hs⟩ : ∃ a b, zac ST = (a, b) := ⟨_, _, rfl⟩
                      have V1 : Hid (∀ W, Dec te pe W d g0 cur ST → Calls Tryz.prog 234 #[.pointer (some ⟨d, 0, none⟩)] W (zap te pe W d g0 cur (.float .f64 x) U1)) := zk7 (fun W hW => by have := zdj te pe _ _ _ _ _ hW; rw [hs] at this; exact this); have hrest : rest = x :: (gN zac k' U1).1 ∧ (gN zac k' U1).2 = S11 := by
                       rw [gN, hs] at ha2; exact ⟨(congrArg Prod.fst ha2).symm, congrArg Prod.snd ha2⟩
                      have HB : Hid ((acc ++ [x]).length = k + 1 ∧ gN zac (n5 - (k + 1)) U1 = ((gN zac k' U1).1, S11) ∧ (acc ++ [x]) ++ (gN zac k' U1).1 = cus) := zk7 ⟨by rw [zk8, ha1]; rfl, by rw [show n5 - (k + 1) = k' by omega, ← hrest.2], by rw [zla, zlP, ← hrest.1]; exact ha3⟩; have HK := zk7 ha1
                      have HD1 : Hid (DH te pe d g0 cur g 288 w wr.drew ST #[(.int .u8 (b : Int)), (.int .i32 (wrap32 x1)), (.float .f64 x2), (.int .u64 (x3 : Int)), (.int .u64 (x4 : Int)), (.float .f64 x5), .slice A1 n1 c1, .slice A2 n2 c2, .slice A3 n3 c3, .slice A4 n4 c4, .slice (some ⟨m, 0, none⟩) n5 c5] [⟨135, 1, .slice (some ⟨m, 0, none⟩) n5 c5, n5, (acc ++ 0 :: List.replicate (n5 - (k + 1)) 0).flatMap f1⟩, ⟨2, 1, .slice A4 n4 c4, downs.length, downs.flatMap i1⟩, ⟨2, 1, .slice A3 n3 c3, ups.length, ups.flatMap i1⟩, ⟨361, 2, .slice A2 n2 c2, neg.length, neg.flatMap spc⟩, ⟨361, 2, .slice A1 n1 c1, pos.length, pos.flatMap spc⟩]) := zk7 (by have h := HD.out.fr0 ((zlW (fun _ => False) wr).drew); rw [zcB acc (0 : Nat) n5 k hlt] at h; exact h)
                      have z10 : wr.drew.cell? ⟨g, 10, none⟩ = some (.slice (some ⟨m, 0, none⟩) n5 c5) := HD1.out.2.1.cell 10; clear HA HD ha1 ha2 ha3 hrest hs; go_wp2_with fail
                      go_region_held3 (fun w' => w'.cell? ⟨g, 10, none⟩ = some (.slice (some ⟨m, 0, none⟩) n5 c5))
                       ((first | exact (Blk.far HD2.out.2.1 (p := ⟨m, k, none⟩) hgm _).cell 10 | exact HD2.out.2.1.cell 10 | exact HD1.out.2.1.cell 10 | go_keep))
                       ((go_at_call 234; refine (V1.out _ HD1.out.1).mono ?_; rintro r w91 ⟨rfl, hd, hf⟩
                         have HD2 : Hid (DH te pe d g0 cur g 288 w w91 U1 #[(.int .u8 (b : Int)), (.int .i32 (wrap32 x1)), (.float .f64 x2), (.int .u64 (x3 : Int)), (.int .u64 (x4 : Int)), (.float .f64 x5), .slice A1 n1 c1, .slice A2 n2 c2, .slice A3 n3 c3, .slice A4 n4 c4, .slice (some ⟨m, 0, none⟩) n5 c5] [⟨135, 1, .slice (some ⟨m, 0, none⟩) n5 c5, n5, (acc ++ 0 :: List.replicate (n5 - (k + 1)) 0).flatMap f1⟩, ⟨2, 1, .slice A4 n4 c4, downs.length, downs.flatMap i1⟩, ⟨2, 1, .slice A3 n3 c3, ups.length, ups.flatMap i1⟩, ⟨361, 2, .slice A2 n2 c2, neg.length, neg.flatMap spc⟩, ⟨361, 2, .slice A1 n1 c1, pos.length, pos.flatMap spc⟩]) := zk7 (HD1.out.call hd hf)
                         have s0 : w91.cell? ⟨m, k, none⟩ = some (.float .f64 0) := zbj HD2.out.2.2.1.1 (zbQ f1 1 (fun _ => rfl) acc _ 0 k 0 _ HK.out (by omega) (by omega)); have s1 : w91.frozen? ⟨m, k, none⟩ = false := zbi HD2.out.2.2.1.1 _
                         clear hd hf))
                      obtain ⟨WA, hWA⟩ : ∃ W, w91.setCell ⟨m, k, none⟩ (.float .f64 x) = W := ⟨_, rfl⟩; rw [hWA]
                      have HD5 : Hid (DH te pe d g0 cur g 288 w WA U1 #[(.int .u8 (b : Int)), (.int .i32 (wrap32 x1)), (.float .f64 x2), (.int .u64 (x3 : Int)), (.int .u64 (x4 : Int)), (.float .f64 x5), .slice A1 n1 c1, .slice A2 n2 c2, .slice A3 n3 c3, .slice A4 n4 c4, .slice (some ⟨m, 0, none⟩) n5 c5] [⟨135, 1, .slice (some ⟨m, 0, none⟩) n5 c5, n5, (acc ++ x :: List.replicate (n5 - (k + 1)) 0).flatMap f1⟩, ⟨2, 1, .slice A4 n4 c4, downs.length, downs.flatMap i1⟩, ⟨2, 1, .slice A3 n3 c3, ups.length, ups.flatMap i1⟩, ⟨361, 2, .slice A2 n2 c2, neg.length, neg.flatMap spc⟩, ⟨361, 2, .slice A1 n1 c1, pos.length, pos.flatMap spc⟩]) := zk7 (by have h := HD2.out.put (o := k) (.float .f64 x); rw [hWA, zbP f1 1 (fun _ => rfl) acc _ 0 x k 0 _ HK.out (by omega) (by omega) _ rfl] at h; exact h)
                      clear HD1 HD2 hWA s0 s1 z10; go_wp2; go_roundw
                      case rel => exact ⟨k + 1, acc ++ [x], (gN zac k' U1).1, U1, by go_num, by omega, HB, zk7 (by have h := HD5.out; rw [List.append_cons] at h; exact h)⟩
                      case measure => simp [intOf]; omega
                     ·have hkn : k = n5 := by omega
                      have HX : Hid (DH te pe d g0 cur g 288 w wr S11 #[(.int .u8 (b : Int)), (.int .i32 (wrap32 x1)), (.float .f64 x2), (.int .u64 (x3 : Int)), (.int .u64 (x4 : Int)), (.float .f64 x5), .slice A1 n1 c1, .slice A2 n2 c2, .slice A3 n3 c3, .slice A4 n4 c4, .slice A5 n5 c5] [⟨135, 1, .slice A5 n5 c5, cus.length, cus.flatMap f1⟩, ⟨2, 1, .slice A4 n4 c4, downs.length, downs.flatMap i1⟩, ⟨2, 1, .slice A3 n3 c3, ups.length, ups.flatMap i1⟩, ⟨361, 2, .slice A2 n2 c2, neg.length, neg.flatMap spc⟩, ⟨361, 2, .slice A1 n1 c1, pos.length, pos.flatMap spc⟩]) := zk7 (by
                       obtain ⟨ha1, ha2, ha3⟩ := HA.out; rw [hkn, Nat.sub_self] at ha2; have e1 : ST = S11 := congrArg Prod.snd ha2; have e2 : acc = cus := by rw [← ha3, ← show ([] : List Nat) = rest from congrArg Prod.fst ha2, zlt]
                       have h := HD.out; rw [e1, e2, hkn, Nat.sub_self, List.replicate_zero, zlt] at h; rw [HL5.out]
                       exact h)
                      have hlt2 : ¬ (k : Int) < (n5 : Int) := by omega
                      clear HA HD HC hlt hkn z10; go_wp2; go_end0; exact ⟨rfl, _, _, _, _, _, HX.out⟩
end Go.Proofs.YtbkookiigkckdaaGreatDoor
