/- Texts of this seat, merged and shortened: H4, Lq, Sort, Ls, Ln, Lr, Lu, Lx, Le, Sa, Lt, Lv, Zf. -/
import Derived.Test.YtbkookiigkckdaaGreatDoorK01
import Derived.Test.YtbkookiigkckdaaGreatDoorK04
import Derived.Test.YtbkookiigkckdaaGreatDoorK05
import Derived.Lib.LazyBuf
import Derived.Lib.BufferWrite
import Derived.Shelf.SlSortCmp.SmallK
import Derived.Shelf.SlSortCmp.NoneTotal
import Derived.Ground.SlsfProg
import Derived.Test.YtbkookiigkckdaaGreatDoorProg
import Derived.Laws.IdiomStrings
import Derived.Deep.OwnRows
import Derived.BigRegion
set_option linter.unusedVariables false
set_option linter.unusedSimpArgs false
set_option maxRecDepth 100000
set_option maxHeartbeats 8000000
namespace Go.Proofs.YtbkookiigkckdaaGreatDoor
open Go.RowKit
def zzu (x : Int) : List UInt8 := Lib.uvarint (Lib.zigzag x)
def zaJ (p : Int × Nat) : List UInt8 := zzu p.1 ++ Lib.uvarint p.2
def zbR (l : List (Int × Nat)) : List UInt8 := Lib.uvarint l.length ++ l.flatMap zaJ
def zdn (l : List Int) : List UInt8 := Lib.uvarint l.length ++ l.flatMap zzu
def zc4 (l : List Nat) : List UInt8 := Lib.uvarint l.length ++ l.flatMap (Lib.beBytes 8)
def zcw (h : Hst) : List UInt8 := if h.schema = -53 then zc4 h.cus else []
def zaS (h : Hst) : List UInt8 := [h.hint] ++ zzu h.schema ++ Lib.beBytes 8 h.thr ++ Lib.uvarint h.zc ++ Lib.uvarint h.cnt ++ Lib.beBytes 8 h.sum ++ zbR h.pos ++ zbR h.neg ++ zdn h.ups ++ zdn h.downs ++ zcw h
def zaT (h : Hst) : List UInt8 := [h.hint] ++ zzu h.schema ++ Lib.beBytes 8 h.thr ++ Lib.beBytes 8 h.zc ++ Lib.beBytes 8 h.cnt ++ Lib.beBytes 8 h.sum ++ zbR h.pos ++ zbR h.neg ++ zc4 h.fups ++ zc4 h.fdowns ++ zcw h
structure Hst.ok (h : Hst) : Prop where
 few : h.few 60
 s0 : -2147483648 ≤ h.schema
 s1 : h.schema ≤ 2147483647
 thr : h.thr < 18446744073709551616
 sum : h.sum < 18446744073709551616
 zc : h.zc < 18446744073709551616
 cnt : h.cnt < 18446744073709551616
 pos : ∀ p ∈ h.pos, -2147483648 ≤ p.1 ∧ p.1 ≤ 2147483647 ∧ p.2 < 4294967296
 neg : ∀ p ∈ h.neg, -2147483648 ≤ p.1 ∧ p.1 ≤ 2147483647 ∧ p.2 < 4294967296
 ups : ∀ x ∈ h.ups, -9223372036854775808 ≤ x ∧ x ≤ 9223372036854775807
 downs : ∀ x ∈ h.downs, -9223372036854775808 ≤ x ∧ x ≤ 9223372036854775807
 fups : ∀ x ∈ h.fups, x < 18446744073709551616
 fdowns : ∀ x ∈ h.fdowns, x < 18446744073709551616
 cus : ∀ x ∈ h.cus, x < 18446744073709551616
theorem Sl.at {P : Nat → Prop} {w : World} {A : Option Addr} {m c size n : Nat} {xs : List Value} (h : Sl P w (.slice A m c) size n xs) (hn : 0 < n) : ∃ g off, A = some ⟨g, off, none⟩ ∧ P g ∧ ∀ j u, xs[j]? = some u → w.cell? ⟨g, off + j, none⟩ = some u := by
 obtain ⟨A', c', e, _, _, hr⟩ := h; injection e with e1 e2 e3; subst e1; exact hr hn
theorem zbs (x : Int) (h0 : -9223372036854775808 ≤ x) (h1 : x ≤ 9223372036854775807) : (zzu x).length ≤ 10 := zdQ x h0 h1
theorem zc3 (p : Int × Nat) (h : -2147483648 ≤ p.1 ∧ p.1 ≤ 2147483647 ∧ p.2 < 4294967296) : (zaJ p).length ≤ 20 := by
 have h1 := zbs p.1 (by omega) (by omega); have h2 := zln (x := p.2) (by omega); rw [zaJ, zk8]; omega
theorem zbW (s : Int) (w : World) : Calls Tryz.prog 233 #[.int .i32 s] w fun r w' => r = .returned (.bool (s == -53)) ∧ w = w' := by
 go_enter Tryz.func233, Tryz.ntmps233; go_wp2; go_ret; exact ⟨rfl, rfl⟩
theorem zaH {α : Type} (f : α → List UInt8) (m : Nat) (l : List α) (k : Nat) (h : ∀ x ∈ l, (f x).length ≤ m) : ((l.take k).flatMap f).length ≤ k * m := by
 have h1 := zby f m (l.take k) (fun y hy => h y (List.mem_of_mem_take hy)); have h2 : (l.take k).length ≤ k := List.length_take_le _ _; have h3 : (l.take k).length * m ≤ k * m := zlk _ h2; omega
theorem zcq : (∀ (_ : True) (P : Nat → Prop) (e : Nat) (o : Option Nat) (xs : List UInt8) (h : Hst) (v : Value) (w : World) (hr : RdW P w h v) (hE : Enc w e o xs) (hl : xs.length ≤ 549755813888) (hok : h.ok) (hP : ∀ g, P g → ¬ (g = e ∨ some g = o)),
 Calls Tryz.prog 189 #[.pointer (some ⟨e, 0, none⟩), v] w (zbZ w e o xs (zaS h))) ∧ (∀ (_ : True) (P : Nat → Prop) (e : Nat) (o : Option Nat) (xs : List UInt8) (h : Hst) (v : Value) (w : World) (hr : RdF P w h v) (hE : Enc w e o xs) (hl : xs.length ≤ 549755813888) (hok : h.ok) (hP : ∀ g, P g → ¬ (g = e ∨ some g = o)),
 Calls Tryz.prog 192 #[.pointer (some ⟨e, 0, none⟩), v] w (zbZ w e o xs (zaT h))) := by
 refine ⟨fun isW P e o xs h v w hr hE hl hok hP => ?_, fun _ P e o xs h v w hr hE hl hok hP => ?_⟩; all_goals
  obtain ⟨g, s, rfl, hPg, hb, z1, z2, z3, z4, z5⟩ := hr; obtain ⟨⟨l1, l2, l3, l4, l5, l6, l7⟩, hs0, hs1, ht, hsu, hz, hcn, hpos, hneg, hups, hdowns, hfups, hfdowns, hcus⟩ := hok; obtain ⟨hint, schema, thr, sum, zc, cnt, pos, neg, ups, downs, fups, fdowns, cus⟩ := h; obtain ⟨sp, sn, su, sd, sc⟩ := s
  first | (guard_hyp isW; simp only [hcW] at hb z1 z2 z3 z4 z5 l1 l2 l3 l4 l5 l6 l7 hs0 hs1 ht hsu hz hcn hpos hneg hups hdowns hfups hfdowns hcus) | (simp only [hcF] at hb z1 z2 z3 z4 z5 l1 l2 l3 l4 l5 l6 l7 hs0 hs1 ht hsu hz hcn hpos hneg hups hdowns hfups hfdowns hcus)
  obtain ⟨A1, c1, rfl⟩ := z1.shape; obtain ⟨A2, c2, rfl⟩ := z2.shape; obtain ⟨A3, c3, rfl⟩ := z3.shape; obtain ⟨A4, c4, rfl⟩ := z4.shape; obtain ⟨A5, c5, rfl⟩ := z5.shape; obtain ⟨n1, e1⟩ : ∃ n, pos.length = n := ⟨_, rfl⟩; obtain ⟨n2, e2⟩ : ∃ n, neg.length = n := ⟨_, rfl⟩
  first | (guard_hyp isW; obtain ⟨n3, e3⟩ : ∃ n, ups.length = n := ⟨_, rfl⟩) | (obtain ⟨n3, e3⟩ : ∃ n, fups.length = n := ⟨_, rfl⟩)
  first | (guard_hyp isW; obtain ⟨n4, e4⟩ : ∃ n, downs.length = n := ⟨_, rfl⟩) | (obtain ⟨n4, e4⟩ : ∃ n, fdowns.length = n := ⟨_, rfl⟩)
  obtain ⟨n5, e5⟩ : ∃ n, cus.length = n := ⟨_, rfl⟩; rw [e1] at hb z1 l1; rw [e2] at hb z2 l2
  first | (guard_hyp isW; rw [e3] at hb z3 l3) | (rw [e3] at hb z3 l5)
  first | (guard_hyp isW; rw [e4] at hb z4 l4) | (rw [e4] at hb z4 l6)
  rw [e5] at hb z5 l7; have HE1 := zk7 e1; have HE2 := zk7 e2; have HE3 := zk7 e3; have HE4 := zk7 e4; have HE5 := zk7 e5; have Z1 := zk7 z1; have Z2 := zk7 z2; have Z3 := zk7 z3; have Z4 := zk7 z4; have Z5 := zk7 z5; have V1 := zk7 hpos; have V2 := zk7 hneg
  first | (guard_hyp isW; have V3 := zk7 hups) | (have V3 := zk7 hfups)
  first | (guard_hyp isW; have V4 := zk7 hdowns) | (have V4 := zk7 hfdowns)
  have V5 := zk7 hcus; have HPP := zk7 hP; have HK0 := zk7 hb; have HB := zk7 hb; have HE := zk7 hE; obtain ⟨Y0, hY0⟩ : ∃ Y : List UInt8, [] = Y := ⟨_, rfl⟩; have HR0 : Hid (Put w e o xs Y0 w) := zk7 (by rw [← hY0]; exact Put.refl hE); have hv0 : Y0.length ≤ 0 := by rw [← hY0]; exact zlj _
  have HY0 := zk7 hY0; have p0 : w.cell? ⟨g, 0, none⟩ = some (.int .u8 hint.toNat) := hb.cell 0; have hr8 := zhW; clear e1 e2 e3 e4 e5 z1 z2 z3 z4 z5 hpos hneg hups hdowns hfups hfdowns hcus hP hb hE hY0
  first | (guard_hyp isW; go_enter Tryz.func189, Tryz.ntmps189) | (go_enter Tryz.func192, Tryz.ntmps192)
  first
   | guard_hyp isW
     go_wp2_with (first
      | (go_at_call 180; refine (zag HR0.out (f := 180) (args := #[.pointer (some ⟨e, 0, none⟩), .int .u8 hint.toNat]) (zs := [hint]) (fun o2 he => zcn _ o2 _ hint _ he (by rw [zk8]; omega))).mono ?_; rintro r1 w1 ⟨rfl, R, K⟩
         have hB := K.out _ _ _ (by decide) (by decide) HK0.out; have p1 : w1.cell? ⟨g, 1, none⟩ = some (.int .i32 schema) := hB.cell 1; have HK1 := zk7 hB; obtain ⟨Y1, hY⟩ : ∃ Y, Y0 ++ [hint] = Y := ⟨_, rfl⟩; rw [hY] at R; have hv1 : Y1.length ≤ 1 := by have hq : ([hint]).length ≤ 1 := (by simp); rw [← hY, zk8]; omega
         have HY1 := zk7 hY; have HR1 := zk7 R
         clear R K hB hY HR0 HK0 hv0 p0)
      | (go_at_call 183; refine (zag HR1.out (f := 183) (args := #[.pointer (some ⟨e, 0, none⟩), .int .i64 schema]) (zs := zzu schema) (fun o2 he => zay _ o2 _ schema (by omega) (by omega) _ he (by rw [zk8]; omega))).mono ?_; rintro r2 w2 ⟨rfl, R, K⟩
         have hB := K.out _ _ _ (by decide) (by decide) HK1.out; have p2 : w2.cell? ⟨g, 2, none⟩ = some (.float .f64 thr) := hB.cell 2; have HK2 := zk7 hB; obtain ⟨Y2, hY⟩ : ∃ Y, Y1 ++ zzu schema = Y := ⟨_, rfl⟩; rw [hY] at R; have hv2 : Y2.length ≤ 11 := by have hq : (zzu schema).length ≤ 10 := zbs schema (by omega) (by omega); rw [← hY, zk8]; omega
         have HY2 := zk7 hY; have HR2 := zk7 R
         clear R K hB hY HR1 HK1 hv1 p1)
      | (go_at_call 181; refine (zag HR2.out (f := 181) (args := #[.pointer (some ⟨e, 0, none⟩), .int .u64 thr]) (zs := Lib.beBytes 8 thr) (fun o2 he => zco _ o2 _ thr ht _ he (by rw [zk8]; omega))).mono ?_; rintro r3 w3 ⟨rfl, R, K⟩
         have hB := K.out _ _ _ (by decide) (by decide) HK2.out; have p3 : w3.cell? ⟨g, 3, none⟩ = some (.int .u64 zc) := hB.cell 3; have HK3 := zk7 hB; obtain ⟨Y3, hY⟩ : ∃ Y, Y2 ++ Lib.beBytes 8 thr = Y := ⟨_, rfl⟩; rw [hY] at R; have hv3 : Y3.length ≤ 19 := by have hq : (Lib.beBytes 8 thr).length ≤ 8 := (by simp [zlh]); rw [← hY, zk8]; omega
         have HY3 := zk7 hY; have HR3 := zk7 R
         clear R K hB hY HR2 HK2 hv2 p2)
      | (go_at_call 185; refine (zag HR3.out (f := 185) (args := #[.pointer (some ⟨e, 0, none⟩), .int .u64 zc]) (zs := Lib.uvarint zc) (fun o2 he => zcH _ o2 _ zc hz _ he (by rw [zk8]; omega))).mono ?_; rintro r4 w4 ⟨rfl, R, K⟩
         have hB := K.out _ _ _ (by decide) (by decide) HK3.out; have p4 : w4.cell? ⟨g, 4, none⟩ = some (.int .u64 cnt) := hB.cell 4; have HK4 := zk7 hB; obtain ⟨Y4, hY⟩ : ∃ Y, Y3 ++ Lib.uvarint zc = Y := ⟨_, rfl⟩; rw [hY] at R; have hv4 : Y4.length ≤ 29 := by have hq : (Lib.uvarint zc).length ≤ 10 := zln hz; rw [← hY, zk8]; omega
         have HY4 := zk7 hY; have HR4 := zk7 R
         clear R K hB hY HR3 HK3 hv3 p3)
      | (go_at_call 185; refine (zag HR4.out (f := 185) (args := #[.pointer (some ⟨e, 0, none⟩), .int .u64 cnt]) (zs := Lib.uvarint cnt) (fun o2 he => zcH _ o2 _ cnt hcn _ he (by rw [zk8]; omega))).mono ?_; rintro r5 w5 ⟨rfl, R, K⟩
         have hB := K.out _ _ _ (by decide) (by decide) HK4.out; have p5 : w5.cell? ⟨g, 5, none⟩ = some (.float .f64 sum) := hB.cell 5; have HK5 := zk7 hB; obtain ⟨Y5, hY⟩ : ∃ Y, Y4 ++ Lib.uvarint cnt = Y := ⟨_, rfl⟩; rw [hY] at R; have hv5 : Y5.length ≤ 39 := by have hq : (Lib.uvarint cnt).length ≤ 10 := zln hcn; rw [← hY, zk8]; omega
         have HY5 := zk7 hY; have HR5 := zk7 R
         clear R K hB hY HR4 HK4 hv4 p4)
      | (go_at_call 181; refine (zag HR5.out (f := 181) (args := #[.pointer (some ⟨e, 0, none⟩), .int .u64 sum]) (zs := Lib.beBytes 8 sum) (fun o2 he => zco _ o2 _ sum hsu _ he (by rw [zk8]; omega))).mono ?_; rintro r6 w6 ⟨rfl, R, K⟩
         have hB := K.out _ _ _ (by decide) (by decide) HK5.out; have p6 : w6.cell? ⟨g, 6, none⟩ = some (.slice A1 n1 c1) := hB.cell 6; have HK6 := zk7 hB; obtain ⟨Y6, hY⟩ : ∃ Y, Y5 ++ Lib.beBytes 8 sum = Y := ⟨_, rfl⟩; rw [hY] at R; have hv6 : Y6.length ≤ 47 := by have hq : (Lib.beBytes 8 sum).length ≤ 8 := (by simp [zlh]); rw [← hY, zk8]; omega
         have HY6 := zk7 hY; have HR6 := zk7 R
         clear R K hB hY HR5 HK5 hv5 p5)
      | (go_at_call 186; refine (zag HR6.out (f := 186) (args := #[.pointer (some ⟨e, 0, none⟩), .int .i64 n1]) (zs := Lib.uvarint n1) (fun o2 he => za8 _ o2 _ n1 (by omega) _ he (by rw [zk8]; omega))).mono ?_; rintro r7 w7 ⟨rfl, R, K⟩
         clear p6; have hB := K.out _ _ _ (by decide) (by decide) HK6.out; have p6 : w7.cell? ⟨g, 6, none⟩ = some (.slice A1 n1 c1) := hB.cell 6; have HK7 := zk7 hB; obtain ⟨Y7, hY⟩ : ∃ Y, Y6 ++ Lib.uvarint n1 = Y := ⟨_, rfl⟩; rw [hY] at R; have hv7 : Y7.length ≤ 57 := by have hq : (Lib.uvarint n1).length ≤ 10 := zln (by omega); rw [← hY, zk8]; omega
         have HY7 := zk7 hY; have HR7 := zk7 R
         clear R K hB hY HR6 HK6 hv6))
   | go_wp2_with (first
      | (go_at_call 180; refine (zag HR0.out (f := 180) (args := #[.pointer (some ⟨e, 0, none⟩), .int .u8 hint.toNat]) (zs := [hint]) (fun o2 he => zcn _ o2 _ hint _ he (by rw [zk8]; omega))).mono ?_; rintro r1 w1 ⟨rfl, R, K⟩
         have hB := K.out _ _ _ (by decide) (by decide) HK0.out; have p1 : w1.cell? ⟨g, 1, none⟩ = some (.int .i32 schema) := hB.cell 1; have HK1 := zk7 hB; obtain ⟨Y1, hY⟩ : ∃ Y, Y0 ++ [hint] = Y := ⟨_, rfl⟩; rw [hY] at R; have hv1 : Y1.length ≤ 1 := by have hq : ([hint]).length ≤ 1 := (by simp); rw [← hY, zk8]; omega
         have HY1 := zk7 hY; have HR1 := zk7 R
         clear R K hB hY HR0 HK0 hv0 p0)
      | (go_at_call 183; refine (zag HR1.out (f := 183) (args := #[.pointer (some ⟨e, 0, none⟩), .int .i64 schema]) (zs := zzu schema) (fun o2 he => zay _ o2 _ schema (by omega) (by omega) _ he (by rw [zk8]; omega))).mono ?_; rintro r2 w2 ⟨rfl, R, K⟩
         have hB := K.out _ _ _ (by decide) (by decide) HK1.out; have p2 : w2.cell? ⟨g, 2, none⟩ = some (.float .f64 thr) := hB.cell 2; have HK2 := zk7 hB; obtain ⟨Y2, hY⟩ : ∃ Y, Y1 ++ zzu schema = Y := ⟨_, rfl⟩; rw [hY] at R; have hv2 : Y2.length ≤ 11 := by have hq : (zzu schema).length ≤ 10 := zbs schema (by omega) (by omega); rw [← hY, zk8]; omega
         have HY2 := zk7 hY; have HR2 := zk7 R
         clear R K hB hY HR1 HK1 hv1 p1)
      | (go_at_call 244; refine (zag HR2.out (f := 244) (args := #[.pointer (some ⟨e, 0, none⟩), .float .f64 thr]) (zs := Lib.beBytes 8 thr) (fun o2 he => zbT _ o2 _ thr ht _ he (by rw [zk8]; omega))).mono ?_; rintro r3 w3 ⟨rfl, R, K⟩
         have hB := K.out _ _ _ (by decide) (by decide) HK2.out; have p3 : w3.cell? ⟨g, 3, none⟩ = some (.float .f64 zc) := hB.cell 3; have HK3 := zk7 hB; obtain ⟨Y3, hY⟩ : ∃ Y, Y2 ++ Lib.beBytes 8 thr = Y := ⟨_, rfl⟩; rw [hY] at R; have hv3 : Y3.length ≤ 19 := by have hq : (Lib.beBytes 8 thr).length ≤ 8 := (by simp [zlh]); rw [← hY, zk8]; omega
         have HY3 := zk7 hY; have HR3 := zk7 R
         clear R K hB hY HR2 HK2 hv2 p2)
      | (go_at_call 244; refine (zag HR3.out (f := 244) (args := #[.pointer (some ⟨e, 0, none⟩), .float .f64 zc]) (zs := Lib.beBytes 8 zc) (fun o2 he => zbT _ o2 _ zc hz _ he (by rw [zk8]; omega))).mono ?_; rintro r4 w4 ⟨rfl, R, K⟩
         have hB := K.out _ _ _ (by decide) (by decide) HK3.out; have p4 : w4.cell? ⟨g, 4, none⟩ = some (.float .f64 cnt) := hB.cell 4; have HK4 := zk7 hB; obtain ⟨Y4, hY⟩ : ∃ Y, Y3 ++ Lib.beBytes 8 zc = Y := ⟨_, rfl⟩; rw [hY] at R; have hv4 : Y4.length ≤ 27 := by have hq : (Lib.beBytes 8 zc).length ≤ 8 := (by simp [zlh]); rw [← hY, zk8]; omega
         have HY4 := zk7 hY; have HR4 := zk7 R
         clear R K hB hY HR3 HK3 hv3 p3)
      | (go_at_call 244; refine (zag HR4.out (f := 244) (args := #[.pointer (some ⟨e, 0, none⟩), .float .f64 cnt]) (zs := Lib.beBytes 8 cnt) (fun o2 he => zbT _ o2 _ cnt hcn _ he (by rw [zk8]; omega))).mono ?_; rintro r5 w5 ⟨rfl, R, K⟩
         have hB := K.out _ _ _ (by decide) (by decide) HK4.out; have p5 : w5.cell? ⟨g, 5, none⟩ = some (.float .f64 sum) := hB.cell 5; have HK5 := zk7 hB; obtain ⟨Y5, hY⟩ : ∃ Y, Y4 ++ Lib.beBytes 8 cnt = Y := ⟨_, rfl⟩; rw [hY] at R; have hv5 : Y5.length ≤ 35 := by have hq : (Lib.beBytes 8 cnt).length ≤ 8 := (by simp [zlh]); rw [← hY, zk8]; omega
         have HY5 := zk7 hY; have HR5 := zk7 R
         clear R K hB hY HR4 HK4 hv4 p4)
      | (go_at_call 244; refine (zag HR5.out (f := 244) (args := #[.pointer (some ⟨e, 0, none⟩), .float .f64 sum]) (zs := Lib.beBytes 8 sum) (fun o2 he => zbT _ o2 _ sum hsu _ he (by rw [zk8]; omega))).mono ?_; rintro r6 w6 ⟨rfl, R, K⟩
         have hB := K.out _ _ _ (by decide) (by decide) HK5.out; have p6 : w6.cell? ⟨g, 6, none⟩ = some (.slice A1 n1 c1) := hB.cell 6; have HK6 := zk7 hB; obtain ⟨Y6, hY⟩ : ∃ Y, Y5 ++ Lib.beBytes 8 sum = Y := ⟨_, rfl⟩; rw [hY] at R; have hv6 : Y6.length ≤ 43 := by have hq : (Lib.beBytes 8 sum).length ≤ 8 := (by simp [zlh]); rw [← hY, zk8]; omega
         have HY6 := zk7 hY; have HR6 := zk7 R
         clear R K hB hY HR5 HK5 hv5 p5)
      | (go_at_call 186; refine (zag HR6.out (f := 186) (args := #[.pointer (some ⟨e, 0, none⟩), .int .i64 n1]) (zs := Lib.uvarint n1) (fun o2 he => za8 _ o2 _ n1 (by omega) _ he (by rw [zk8]; omega))).mono ?_; rintro r7 w7 ⟨rfl, R, K⟩
         clear p6; have hB := K.out _ _ _ (by decide) (by decide) HK6.out; have p6 : w7.cell? ⟨g, 6, none⟩ = some (.slice A1 n1 c1) := hB.cell 6; have HK7 := zk7 hB; obtain ⟨Y7, hY⟩ : ∃ Y, Y6 ++ Lib.uvarint n1 = Y := ⟨_, rfl⟩; rw [hY] at R; have hv7 : Y7.length ≤ 53 := by have hq : (Lib.uvarint n1).length ≤ 10 := zln (by omega); rw [← hY, zk8]; omega
         have HY7 := zk7 hY; have HR7 := zk7 R
         clear R K hB hY HR6 HK6 hv6))
  first | (guard_hyp isW; go_loopw [65] (fun i wr => ∃ k : Nat, k ≤ n1 ∧ i = .int .i64 k ∧ Hid (Put w e o xs (Y7 ++ (pos.take k).flatMap zaJ) wr)) (fun i _ => n1 - (intOf i).toNat)) | (go_loopw [63] (fun i wr => ∃ k : Nat, k ≤ n1 ∧ i = .int .i64 k ∧ Hid (Put w e o xs (Y7 ++ (pos.take k).flatMap zaJ) wr)) (fun i _ => n1 - (intOf i).toNat))
  case atStart => exact ⟨0, zli _, rfl, zk7 (by simpa using HR7.out)⟩
  case round =>
   obtain ⟨k, hk, rfl, HRk⟩ := hrel; by_cases hlt : k < n1
   ·have hzz := Z1.out.fr (HRk.out).fr HPP.out
    obtain ⟨g1, off, rfl, _, hcell⟩ := hzz.at (by omega); obtain ⟨x, hx⟩ : ∃ x, pos[k]? = some x := ⟨_, zk9 (by rw [HE1.out]; exact hlt)⟩; obtain ⟨hx0, hx1, hx2⟩ := V1.out x (zlf hx); have d0 : wr.cell? ⟨g1, off + k * 2, none⟩ = some (.int .i32 x.1) := hcell (k * 2) _ (by rw [show k * 2 = k * 2 + 0 by rfl, zci spc (fun _ => rfl) pos k x hx 0 (by omega)]; rfl)
    have d1 : wr.cell? ⟨g1, off + k * 2 + 1, none⟩ = some (.int .u32 x.2) := hcell (k * 2 + 1) _ (by rw [zci spc (fun _ => rfl) pos k x hx 1 (by omega)]; rfl); have hyl := zaH zaJ 20 pos k (fun x hx => zc3 x (V1.out x hx)); have hk9 : k * 20 ≤ 60 * 20 := zlk _ (by omega); have HX := zk7 hx; obtain ⟨x1, x2⟩ := x; simp only [] at hx0 hx1 hx2 d0 d1
    have RA := (HRk.out).alloc (.cells #[.int .i32 x1, .int .u32 x2] 361); obtain ⟨Y, hY⟩ : ∃ Y, Y7 ++ (pos.take k).flatMap zaJ = Y := ⟨_, rfl⟩; rw [hY] at RA
    first | (guard_hyp isW; have hv : Y.length ≤ 57 + 1200 := by rw [← hY, zk8]; omega) | (have hv : Y.length ≤ 53 + 1200 := by rw [← hY, zk8]; omega)
    have HY := zk7 hY; have HBX := zk7 (Blk.new wr 361 #[.int .i32 x1, .int .u32 x2]); have HRA := zk7 RA; have hw1 := zbs x1 (by omega) (by omega); clear hzz hcell hx hyl hk9 RA hY HRk
    first
     | guard_hyp isW
       go_wp2_with (first
        | (go_at_call 183; refine (zag HRA.out (f := 183) (args := #[.pointer (some ⟨e, 0, none⟩), .int .i64 x1]) (zs := zzu x1) (fun o2 he => zay _ o2 _ x1 (by omega) (by omega) _ he (by rw [zk8]; omega))).mono ?_; rintro rA wA ⟨rfl, R1, K1⟩
           have p1 : wA.cell? ⟨wr.heap.size, 1, none⟩ = some (.int .u32 x2) := (K1.out _ _ _ (by decide) (by decide) HBX.out).cell 1; have HR2 := zk7 R1; have hv2 : (Y ++ zzu x1).length ≤ 57 + 1210 := by rw [zk8]; omega
           clear R1 K1 HRA)
        | (go_at_call 243; refine (zag HR2.out (f := 243) (args := #[.pointer (some ⟨e, 0, none⟩), .int .u32 x2]) (zs := Lib.uvarint x2) (fun o2 he => zdd _ o2 _ x2 hx2 _ he (by rw [zk8]; omega))).mono ?_; rintro rB wB ⟨rfl, R1, K1⟩
           have HR8 := zk7 R1
           clear R1 K1 HR2))
     | go_wp2_with (first
        | (go_at_call 183; refine (zag HRA.out (f := 183) (args := #[.pointer (some ⟨e, 0, none⟩), .int .i64 x1]) (zs := zzu x1) (fun o2 he => zay _ o2 _ x1 (by omega) (by omega) _ he (by rw [zk8]; omega))).mono ?_; rintro rA wA ⟨rfl, R1, K1⟩
           have p1 : wA.cell? ⟨wr.heap.size, 1, none⟩ = some (.int .u32 x2) := (K1.out _ _ _ (by decide) (by decide) HBX.out).cell 1; have HR2 := zk7 R1; have hv2 : (Y ++ zzu x1).length ≤ 53 + 1210 := by rw [zk8]; omega
           clear R1 K1 HRA)
        | (go_at_call 243; refine (zag HR2.out (f := 243) (args := #[.pointer (some ⟨e, 0, none⟩), .int .u32 x2]) (zs := Lib.uvarint x2) (fun o2 he => zdd _ o2 _ x2 hx2 _ he (by rw [zk8]; omega))).mono ?_; rintro rB wB ⟨rfl, R1, K1⟩
           have HR8 := zk7 R1
           clear R1 K1 HR2))
    have HRE : Hid (Put w e o xs (Y7 ++ (pos.take (k + 1)).flatMap zaJ) wB) := zk7 (by
     rw [zan zaJ pos k _ HX.out, ← zla, HY.out]
     simpa [zaJ, zla] using HR8.out)
    clear HR8; go_wp2; go_roundw
    case rel => exact ⟨k + 1, by omega, by go_num, HRE⟩
    case measure => simp [intOf]; omega
   ·obtain rfl : k = n1 := by omega
    have R := HRk.out; rw [zlg (by rw [HE1.out]; exact zlj _)] at R; have hyl := zaH zaJ 20 pos k (fun x hx => zc3 x (V1.out x hx)); rw [zlg (by rw [HE1.out]; exact zlj _)] at hyl; have hk9 : k * 20 ≤ 60 * 20 := zlk _ (by omega); obtain ⟨Y8, hY⟩ : ∃ Y, Y7 ++ pos.flatMap zaJ = Y := ⟨_, rfl⟩; rw [hY] at R
    first | (guard_hyp isW; have hv8 : Y8.length ≤ 1257 := by rw [← hY, zk8]; omega) | (have hv8 : Y8.length ≤ 1253 := by rw [← hY, zk8]; omega)
    have HY8 := zk7 hY; have hB := R.blk HE.out HB.out (by decide) (by decide); have HK8 := zk7 hB; have HR8 := zk7 R; have p7 : wr.cell? ⟨g, 7, none⟩ = some (.slice A2 n2 c2) := hB.cell 7; clear R hyl hk9 hY hB HRk HR7 HK7 hv7 hlt hk
    first
     | guard_hyp isW
       go_wp2_with (go_at_call 186; refine (zag HR8.out (f := 186) (args := #[.pointer (some ⟨e, 0, none⟩), .int .i64 n2]) (zs := Lib.uvarint n2) (fun o2 he => za8 _ o2 _ n2 (by omega) _ he (by rw [zk8]; omega))).mono ?_; rintro r9 w9 ⟨rfl, R, K⟩
                    clear p7; have hB := K.out _ _ _ (by decide) (by decide) HK8.out; have p7 : w9.cell? ⟨g, 7, none⟩ = some (.slice A2 n2 c2) := hB.cell 7; have HK9 := zk7 hB; obtain ⟨Y9, hY⟩ : ∃ Y, Y8 ++ Lib.uvarint n2 = Y := ⟨_, rfl⟩; rw [hY] at R; have hv9 : Y9.length ≤ 1267 := by have hq : (Lib.uvarint n2).length ≤ 10 := zln (by omega); rw [← hY, zk8]; omega
                    have HY9 := zk7 hY; have HR9 := zk7 R
                    clear R K hB hY HR8 HK8 hv8)
     | go_wp2_with (go_at_call 186; refine (zag HR8.out (f := 186) (args := #[.pointer (some ⟨e, 0, none⟩), .int .i64 n2]) (zs := Lib.uvarint n2) (fun o2 he => za8 _ o2 _ n2 (by omega) _ he (by rw [zk8]; omega))).mono ?_; rintro r9 w9 ⟨rfl, R, K⟩
                    clear p7; have hB := K.out _ _ _ (by decide) (by decide) HK8.out; have p7 : w9.cell? ⟨g, 7, none⟩ = some (.slice A2 n2 c2) := hB.cell 7; have HK9 := zk7 hB; obtain ⟨Y9, hY⟩ : ∃ Y, Y8 ++ Lib.uvarint n2 = Y := ⟨_, rfl⟩; rw [hY] at R; have hv9 : Y9.length ≤ 1263 := by have hq : (Lib.uvarint n2).length ≤ 10 := zln (by omega); rw [← hY, zk8]; omega
                    have HY9 := zk7 hY; have HR9 := zk7 R
                    clear R K hB hY HR8 HK8 hv8)
    first | (guard_hyp isW; go_loopw [91] (fun i wr => ∃ k : Nat, k ≤ n2 ∧ i = .int .i64 k ∧ Hid (Put w e o xs (Y9 ++ (neg.take k).flatMap zaJ) wr)) (fun i _ => n2 - (intOf i).toNat)) | (go_loopw [89] (fun i wr => ∃ k : Nat, k ≤ n2 ∧ i = .int .i64 k ∧ Hid (Put w e o xs (Y9 ++ (neg.take k).flatMap zaJ) wr)) (fun i _ => n2 - (intOf i).toNat))
    case atStart => exact ⟨0, zli _, rfl, zk7 (by simpa using HR9.out)⟩
    case round =>
     obtain ⟨k, hk, rfl, HRk⟩ := hrel; by_cases hlt : k < n2
     ·have hzz := Z2.out.fr (HRk.out).fr HPP.out
      obtain ⟨g1, off, rfl, _, hcell⟩ := hzz.at (by omega); obtain ⟨x, hx⟩ : ∃ x, neg[k]? = some x := ⟨_, zk9 (by rw [HE2.out]; exact hlt)⟩; obtain ⟨hx0, hx1, hx2⟩ := V2.out x (zlf hx); have d0 : wr.cell? ⟨g1, off + k * 2, none⟩ = some (.int .i32 x.1) := hcell (k * 2) _ (by rw [show k * 2 = k * 2 + 0 by rfl, zci spc (fun _ => rfl) neg k x hx 0 (by omega)]; rfl)
      have d1 : wr.cell? ⟨g1, off + k * 2 + 1, none⟩ = some (.int .u32 x.2) := hcell (k * 2 + 1) _ (by rw [zci spc (fun _ => rfl) neg k x hx 1 (by omega)]; rfl); have hyl := zaH zaJ 20 neg k (fun x hx => zc3 x (V2.out x hx)); have hk9 : k * 20 ≤ 60 * 20 := zlk _ (by omega); have HX := zk7 hx; obtain ⟨x1, x2⟩ := x; simp only [] at hx0 hx1 hx2 d0 d1
      have RA := (HRk.out).alloc (.cells #[.int .i32 x1, .int .u32 x2] 361); obtain ⟨Y, hY⟩ : ∃ Y, Y9 ++ (neg.take k).flatMap zaJ = Y := ⟨_, rfl⟩; rw [hY] at RA
      first | (guard_hyp isW; have hv : Y.length ≤ 1267 + 1200 := by rw [← hY, zk8]; omega) | (have hv : Y.length ≤ 1263 + 1200 := by rw [← hY, zk8]; omega)
      have HY := zk7 hY; have HBX := zk7 (Blk.new wr 361 #[.int .i32 x1, .int .u32 x2]); have HRA := zk7 RA; have hw1 := zbs x1 (by omega) (by omega); clear hzz hcell hx hyl hk9 RA hY HRk
      first
       | guard_hyp isW
         go_wp2_with (first
          | (go_at_call 183; refine (zag HRA.out (f := 183) (args := #[.pointer (some ⟨e, 0, none⟩), .int .i64 x1]) (zs := zzu x1) (fun o2 he => zay _ o2 _ x1 (by omega) (by omega) _ he (by rw [zk8]; omega))).mono ?_; rintro rA wA ⟨rfl, R1, K1⟩
             have p1 : wA.cell? ⟨wr.heap.size, 1, none⟩ = some (.int .u32 x2) := (K1.out _ _ _ (by decide) (by decide) HBX.out).cell 1; have HR2 := zk7 R1; have hv2 : (Y ++ zzu x1).length ≤ 1267 + 1210 := by rw [zk8]; omega
             clear R1 K1 HRA)
          | (go_at_call 243; refine (zag HR2.out (f := 243) (args := #[.pointer (some ⟨e, 0, none⟩), .int .u32 x2]) (zs := Lib.uvarint x2) (fun o2 he => zdd _ o2 _ x2 hx2 _ he (by rw [zk8]; omega))).mono ?_; rintro rB wB ⟨rfl, R1, K1⟩
             have HR8 := zk7 R1
             clear R1 K1 HR2))
       | go_wp2_with (first
          | (go_at_call 183; refine (zag HRA.out (f := 183) (args := #[.pointer (some ⟨e, 0, none⟩), .int .i64 x1]) (zs := zzu x1) (fun o2 he => zay _ o2 _ x1 (by omega) (by omega) _ he (by rw [zk8]; omega))).mono ?_; rintro rA wA ⟨rfl, R1, K1⟩
             have p1 : wA.cell? ⟨wr.heap.size, 1, none⟩ = some (.int .u32 x2) := (K1.out _ _ _ (by decide) (by decide) HBX.out).cell 1; have HR2 := zk7 R1; have hv2 : (Y ++ zzu x1).length ≤ 1263 + 1210 := by rw [zk8]; omega
             clear R1 K1 HRA)
          | (go_at_call 243; refine (zag HR2.out (f := 243) (args := #[.pointer (some ⟨e, 0, none⟩), .int .u32 x2]) (zs := Lib.uvarint x2) (fun o2 he => zdd _ o2 _ x2 hx2 _ he (by rw [zk8]; omega))).mono ?_; rintro rB wB ⟨rfl, R1, K1⟩
             have HR8 := zk7 R1
             clear R1 K1 HR2))
      have HRE : Hid (Put w e o xs (Y9 ++ (neg.take (k + 1)).flatMap zaJ) wB) := zk7 (by
       rw [zan zaJ neg k _ HX.out, ← zla, HY.out]
       simpa [zaJ, zla] using HR8.out)
      clear HR8; go_wp2; go_roundw
      case rel => exact ⟨k + 1, by omega, by go_num, HRE⟩
      case measure => simp [intOf]; omega
     ·obtain rfl : k = n2 := by omega
      have R := HRk.out; rw [zlg (by rw [HE2.out]; exact zlj _)] at R; have hyl := zaH zaJ 20 neg k (fun x hx => zc3 x (V2.out x hx)); rw [zlg (by rw [HE2.out]; exact zlj _)] at hyl; have hk9 : k * 20 ≤ 60 * 20 := zlk _ (by omega); obtain ⟨Y10, hY⟩ : ∃ Y, Y9 ++ neg.flatMap zaJ = Y := ⟨_, rfl⟩; rw [hY] at R
      first | (guard_hyp isW; have hv10 : Y10.length ≤ 2467 := by rw [← hY, zk8]; omega) | (have hv10 : Y10.length ≤ 2463 := by rw [← hY, zk8]; omega)
      have HY10 := zk7 hY; have hB := R.blk HE.out HB.out (by decide) (by decide); have HK10 := zk7 hB; have HR10 := zk7 R; have p8 : wr.cell? ⟨g, 8, none⟩ = some (.slice A3 n3 c3) := hB.cell 8; clear R hyl hk9 hY hB HRk HR9 HK9 hv9 hlt hk
      first
       | guard_hyp isW
         go_wp2_with (go_at_call 186; refine (zag HR10.out (f := 186) (args := #[.pointer (some ⟨e, 0, none⟩), .int .i64 n3]) (zs := Lib.uvarint n3) (fun o2 he => za8 _ o2 _ n3 (by omega) _ he (by rw [zk8]; omega))).mono ?_; rintro r11 w11 ⟨rfl, R, K⟩
                      clear p8; have hB := K.out _ _ _ (by decide) (by decide) HK10.out; have p8 : w11.cell? ⟨g, 8, none⟩ = some (.slice A3 n3 c3) := hB.cell 8; have HK11 := zk7 hB; obtain ⟨Y11, hY⟩ : ∃ Y, Y10 ++ Lib.uvarint n3 = Y := ⟨_, rfl⟩; rw [hY] at R; have hv11 : Y11.length ≤ 2477 := by have hq : (Lib.uvarint n3).length ≤ 10 := zln (by omega); rw [← hY, zk8]; omega
                      have HY11 := zk7 hY; have HR11 := zk7 R
                      clear R K hB hY HR10 HK10 hv10)
       | go_wp2_with (go_at_call 186; refine (zag HR10.out (f := 186) (args := #[.pointer (some ⟨e, 0, none⟩), .int .i64 n3]) (zs := Lib.uvarint n3) (fun o2 he => za8 _ o2 _ n3 (by omega) _ he (by rw [zk8]; omega))).mono ?_; rintro r11 w11 ⟨rfl, R, K⟩
                      clear p8; have hB := K.out _ _ _ (by decide) (by decide) HK10.out; have p8 : w11.cell? ⟨g, 8, none⟩ = some (.slice A3 n3 c3) := hB.cell 8; have HK11 := zk7 hB; obtain ⟨Y11, hY⟩ : ∃ Y, Y10 ++ Lib.uvarint n3 = Y := ⟨_, rfl⟩; rw [hY] at R; have hv11 : Y11.length ≤ 2473 := by have hq : (Lib.uvarint n3).length ≤ 10 := zln (by omega); rw [← hY, zk8]; omega
                      have HY11 := zk7 hY; have HR11 := zk7 R
                      clear R K hB hY HR10 HK10 hv10)
      first | (guard_hyp isW; go_loopw [117] (fun i wr => ∃ k : Nat, k ≤ n3 ∧ i = .int .i64 k ∧ Hid (Put w e o xs (Y11 ++ (ups.take k).flatMap zzu) wr)) (fun i _ => n3 - (intOf i).toNat)) | (go_loopw [115] (fun i wr => ∃ k : Nat, k ≤ n3 ∧ i = .int .i64 k ∧ Hid (Put w e o xs (Y11 ++ (fups.take k).flatMap (Lib.beBytes 8)) wr)) (fun i _ => n3 - (intOf i).toNat))
      case atStart => exact ⟨0, zli _, rfl, zk7 (by simpa using HR11.out)⟩
      case round =>
       obtain ⟨k, hk, rfl, HRk⟩ := hrel; by_cases hlt : k < n3
       ·have hzz := Z3.out.fr (HRk.out).fr HPP.out
        obtain ⟨g1, off, rfl, _, hcell⟩ := hzz.at (by omega)
        first | (guard_hyp isW; obtain ⟨x, hx⟩ : ∃ x, ups[k]? = some x := ⟨_, zk9 (by rw [HE3.out]; exact hlt)⟩) | (obtain ⟨x, hx⟩ : ∃ x, fups[k]? = some x := ⟨_, zk9 (by rw [HE3.out]; exact hlt)⟩)
        first | (guard_hyp isW; obtain ⟨hx0, hx1⟩ := V3.out x (zlf hx)) | (have hx0 := V3.out x (zlf hx))
        first | (guard_hyp isW; have d0 : wr.cell? ⟨g1, off + k, none⟩ = some (.int .i64 x) := hcell k _ (by rw [zii i1 (fun _ => rfl) ups k x hx]; rfl)) | (have d0 : wr.cell? ⟨g1, off + k, none⟩ = some (.float .f64 x) := hcell k _ (by rw [zii f1 (fun _ => rfl) fups k x hx]; rfl))
        first | (guard_hyp isW; have hyl := zaH zzu 10 ups k (fun x hx => zbs x (V3.out x hx).1 (V3.out x hx).2)) | (have hyl := zaH (Lib.beBytes 8) 8 fups k (fun x hx => by simp [zlh]))
        first | (guard_hyp isW; have hk9 : k * 10 ≤ 60 * 10 := zlk _ (by omega)) | (have hk9 : k * 8 ≤ 60 * 8 := zlk _ (by omega))
        have HX := zk7 hx; have RA := HRk.out
        first | (guard_hyp isW; obtain ⟨Y, hY⟩ : ∃ Y, Y11 ++ (ups.take k).flatMap zzu = Y := ⟨_, rfl⟩) | (obtain ⟨Y, hY⟩ : ∃ Y, Y11 ++ (fups.take k).flatMap (Lib.beBytes 8) = Y := ⟨_, rfl⟩)
        rw [hY] at RA
        first | (guard_hyp isW; have hv : Y.length ≤ 2477 + 600 := by rw [← hY, zk8]; omega) | (have hv : Y.length ≤ 2473 + 480 := by rw [← hY, zk8]; omega)
        have HY := zk7 hY; have HRA := zk7 RA; clear hzz hcell hx hyl hk9 RA hY HRk
        first
         | guard_hyp isW
           go_wp2_with (go_at_call 183; refine (zag HRA.out (f := 183) (args := #[.pointer (some ⟨e, 0, none⟩), .int .i64 x]) (zs := zzu x) (fun o2 he => zay _ o2 _ x hx0 hx1 _ he (by rw [zk8]; omega))).mono ?_; rintro rA wA ⟨rfl, R1, K1⟩
                        have HR8 := zk7 R1
                        clear R1 K1 HRA)
         | go_wp2_with (go_at_call 244; refine (zag HRA.out (f := 244) (args := #[.pointer (some ⟨e, 0, none⟩), .float .f64 x]) (zs := Lib.beBytes 8 x) (fun o2 he => zbT _ o2 _ x hx0 _ he (by rw [zk8]; omega))).mono ?_; rintro rA wA ⟨rfl, R1, K1⟩
                        have HR8 := zk7 R1
                        clear R1 K1 HRA)
        first
         | guard_hyp isW
           have HRE : Hid (Put w e o xs (Y11 ++ (ups.take (k + 1)).flatMap zzu) wA) := zk7 (by
            rw [zan zzu ups k _ HX.out, ← zla, HY.out]
            exact HR8.out)
         | have HRE : Hid (Put w e o xs (Y11 ++ (fups.take (k + 1)).flatMap (Lib.beBytes 8)) wA) := zk7 (by
            rw [zan (Lib.beBytes 8) fups k _ HX.out, ← zla, HY.out]
            exact HR8.out)
        clear HR8; go_wp2; go_roundw
        case rel => exact ⟨k + 1, by omega, by go_num, HRE⟩
        case measure => simp [intOf]; omega
       ·obtain rfl : k = n3 := by omega
        have R := HRk.out; rw [zlg (by rw [HE3.out]; exact zlj _)] at R
        first | (guard_hyp isW; have hyl := zaH zzu 10 ups k (fun x hx => zbs x (V3.out x hx).1 (V3.out x hx).2)) | (have hyl := zaH (Lib.beBytes 8) 8 fups k (fun x hx => by simp [zlh]))
        rw [zlg (by rw [HE3.out]; exact zlj _)] at hyl
        first | (guard_hyp isW; have hk9 : k * 10 ≤ 60 * 10 := zlk _ (by omega)) | (have hk9 : k * 8 ≤ 60 * 8 := zlk _ (by omega))
        first | (guard_hyp isW; obtain ⟨Y12, hY⟩ : ∃ Y, Y11 ++ ups.flatMap zzu = Y := ⟨_, rfl⟩) | (obtain ⟨Y12, hY⟩ : ∃ Y, Y11 ++ fups.flatMap (Lib.beBytes 8) = Y := ⟨_, rfl⟩)
        rw [hY] at R
        first | (guard_hyp isW; have hv12 : Y12.length ≤ 3077 := by rw [← hY, zk8]; omega) | (have hv12 : Y12.length ≤ 2953 := by rw [← hY, zk8]; omega)
        have HY12 := zk7 hY; have hB := R.blk HE.out HB.out (by decide) (by decide); have HK12 := zk7 hB; have HR12 := zk7 R; have p9 : wr.cell? ⟨g, 9, none⟩ = some (.slice A4 n4 c4) := hB.cell 9; clear R hyl hk9 hY hB HRk HR11 HK11 hv11 hlt hk
        first
         | guard_hyp isW
           go_wp2_with (go_at_call 186; refine (zag HR12.out (f := 186) (args := #[.pointer (some ⟨e, 0, none⟩), .int .i64 n4]) (zs := Lib.uvarint n4) (fun o2 he => za8 _ o2 _ n4 (by omega) _ he (by rw [zk8]; omega))).mono ?_; rintro r13 w13 ⟨rfl, R, K⟩
                        clear p9; have hB := K.out _ _ _ (by decide) (by decide) HK12.out; have p9 : w13.cell? ⟨g, 9, none⟩ = some (.slice A4 n4 c4) := hB.cell 9; have HK13 := zk7 hB; obtain ⟨Y13, hY⟩ : ∃ Y, Y12 ++ Lib.uvarint n4 = Y := ⟨_, rfl⟩; rw [hY] at R; have hv13 : Y13.length ≤ 3087 := by have hq : (Lib.uvarint n4).length ≤ 10 := zln (by omega); rw [← hY, zk8]; omega
                        have HY13 := zk7 hY; have HR13 := zk7 R
                        clear R K hB hY HR12 HK12 hv12)
         | go_wp2_with (go_at_call 186; refine (zag HR12.out (f := 186) (args := #[.pointer (some ⟨e, 0, none⟩), .int .i64 n4]) (zs := Lib.uvarint n4) (fun o2 he => za8 _ o2 _ n4 (by omega) _ he (by rw [zk8]; omega))).mono ?_; rintro r13 w13 ⟨rfl, R, K⟩
                        clear p9; have hB := K.out _ _ _ (by decide) (by decide) HK12.out; have p9 : w13.cell? ⟨g, 9, none⟩ = some (.slice A4 n4 c4) := hB.cell 9; have HK13 := zk7 hB; obtain ⟨Y13, hY⟩ : ∃ Y, Y12 ++ Lib.uvarint n4 = Y := ⟨_, rfl⟩; rw [hY] at R; have hv13 : Y13.length ≤ 2963 := by have hq : (Lib.uvarint n4).length ≤ 10 := zln (by omega); rw [← hY, zk8]; omega
                        have HY13 := zk7 hY; have HR13 := zk7 R
                        clear R K hB hY HR12 HK12 hv12)
        first | (guard_hyp isW; go_loopw [137] (fun i wr => ∃ k : Nat, k ≤ n4 ∧ i = .int .i64 k ∧ Hid (Put w e o xs (Y13 ++ (downs.take k).flatMap zzu) wr)) (fun i _ => n4 - (intOf i).toNat)) | (go_loopw [135] (fun i wr => ∃ k : Nat, k ≤ n4 ∧ i = .int .i64 k ∧ Hid (Put w e o xs (Y13 ++ (fdowns.take k).flatMap (Lib.beBytes 8)) wr)) (fun i _ => n4 - (intOf i).toNat))
        case atStart => exact ⟨0, zli _, rfl, zk7 (by simpa using HR13.out)⟩
        case round =>
         obtain ⟨k, hk, rfl, HRk⟩ := hrel; by_cases hlt : k < n4
         ·have hzz := Z4.out.fr (HRk.out).fr HPP.out
          obtain ⟨g1, off, rfl, _, hcell⟩ := hzz.at (by omega)
          first | (guard_hyp isW; obtain ⟨x, hx⟩ : ∃ x, downs[k]? = some x := ⟨_, zk9 (by rw [HE4.out]; exact hlt)⟩) | (obtain ⟨x, hx⟩ : ∃ x, fdowns[k]? = some x := ⟨_, zk9 (by rw [HE4.out]; exact hlt)⟩)
          first | (guard_hyp isW; obtain ⟨hx0, hx1⟩ := V4.out x (zlf hx)) | (have hx0 := V4.out x (zlf hx))
          first | (guard_hyp isW; have d0 : wr.cell? ⟨g1, off + k, none⟩ = some (.int .i64 x) := hcell k _ (by rw [zii i1 (fun _ => rfl) downs k x hx]; rfl)) | (have d0 : wr.cell? ⟨g1, off + k, none⟩ = some (.float .f64 x) := hcell k _ (by rw [zii f1 (fun _ => rfl) fdowns k x hx]; rfl))
          first | (guard_hyp isW; have hyl := zaH zzu 10 downs k (fun x hx => zbs x (V4.out x hx).1 (V4.out x hx).2)) | (have hyl := zaH (Lib.beBytes 8) 8 fdowns k (fun x hx => by simp [zlh]))
          first | (guard_hyp isW; have hk9 : k * 10 ≤ 60 * 10 := zlk _ (by omega)) | (have hk9 : k * 8 ≤ 60 * 8 := zlk _ (by omega))
          have HX := zk7 hx; have RA := HRk.out
          first | (guard_hyp isW; obtain ⟨Y, hY⟩ : ∃ Y, Y13 ++ (downs.take k).flatMap zzu = Y := ⟨_, rfl⟩) | (obtain ⟨Y, hY⟩ : ∃ Y, Y13 ++ (fdowns.take k).flatMap (Lib.beBytes 8) = Y := ⟨_, rfl⟩)
          rw [hY] at RA
          first | (guard_hyp isW; have hv : Y.length ≤ 3087 + 600 := by rw [← hY, zk8]; omega) | (have hv : Y.length ≤ 2963 + 480 := by rw [← hY, zk8]; omega)
          have HY := zk7 hY; have HRA := zk7 RA; clear hzz hcell hx hyl hk9 RA hY HRk
          first
           | guard_hyp isW
             go_wp2_with (go_at_call 183; refine (zag HRA.out (f := 183) (args := #[.pointer (some ⟨e, 0, none⟩), .int .i64 x]) (zs := zzu x) (fun o2 he => zay _ o2 _ x hx0 hx1 _ he (by rw [zk8]; omega))).mono ?_; rintro rA wA ⟨rfl, R1, K1⟩
                          have HR8 := zk7 R1
                          clear R1 K1 HRA)
           | go_wp2_with (go_at_call 244; refine (zag HRA.out (f := 244) (args := #[.pointer (some ⟨e, 0, none⟩), .float .f64 x]) (zs := Lib.beBytes 8 x) (fun o2 he => zbT _ o2 _ x hx0 _ he (by rw [zk8]; omega))).mono ?_; rintro rA wA ⟨rfl, R1, K1⟩
                          have HR8 := zk7 R1
                          clear R1 K1 HRA)
          first
           | guard_hyp isW
             have HRE : Hid (Put w e o xs (Y13 ++ (downs.take (k + 1)).flatMap zzu) wA) := zk7 (by
              rw [zan zzu downs k _ HX.out, ← zla, HY.out]
              exact HR8.out)
           | have HRE : Hid (Put w e o xs (Y13 ++ (fdowns.take (k + 1)).flatMap (Lib.beBytes 8)) wA) := zk7 (by
              rw [zan (Lib.beBytes 8) fdowns k _ HX.out, ← zla, HY.out]
              exact HR8.out)
          clear HR8; go_wp2; go_roundw
          case rel => exact ⟨k + 1, by omega, by go_num, HRE⟩
          case measure => simp [intOf]; omega
         ·obtain rfl : k = n4 := by omega
          have R := HRk.out; rw [zlg (by rw [HE4.out]; exact zlj _)] at R
          first | (guard_hyp isW; have hyl := zaH zzu 10 downs k (fun x hx => zbs x (V4.out x hx).1 (V4.out x hx).2)) | (have hyl := zaH (Lib.beBytes 8) 8 fdowns k (fun x hx => by simp [zlh]))
          rw [zlg (by rw [HE4.out]; exact zlj _)] at hyl
          first | (guard_hyp isW; have hk9 : k * 10 ≤ 60 * 10 := zlk _ (by omega)) | (have hk9 : k * 8 ≤ 60 * 8 := zlk _ (by omega))
          first | (guard_hyp isW; obtain ⟨Y14, hY⟩ : ∃ Y, Y13 ++ downs.flatMap zzu = Y := ⟨_, rfl⟩) | (obtain ⟨Y14, hY⟩ : ∃ Y, Y13 ++ fdowns.flatMap (Lib.beBytes 8) = Y := ⟨_, rfl⟩)
          rw [hY] at R
          first | (guard_hyp isW; have hv14 : Y14.length ≤ 3687 := by rw [← hY, zk8]; omega) | (have hv14 : Y14.length ≤ 3443 := by rw [← hY, zk8]; omega)
          have HY14 := zk7 hY; have hB := R.blk HE.out HB.out (by decide) (by decide); have HK14 := zk7 hB; have HR14 := zk7 R; have p1 : wr.cell? ⟨g, 1, none⟩ = some (.int .i32 schema) := hB.cell 1; clear R hyl hk9 hY hB HRk HR13 HK13 hv13 hlt hk; rcases hcu : (schema == -53) with _ | _
          ·go_wp2_with (go_at_call 233; refine (zbW schema _).mono ?_; rintro rc wc ⟨rfl, rfl⟩)
           go_end0; refine ⟨rfl, ?_⟩; have hR := HR14.out; have hne : ¬ schema = -53 := by simpa using hcu
           rw [← HY14.out, ← HY13.out, ← HY12.out, ← HY11.out, ← HY10.out, ← HY9.out, ← HY8.out, ← HY7.out, ← HY6.out, ← HY5.out, ← HY4.out, ← HY3.out, ← HY2.out, ← HY1.out, ← HY0.out] at hR
           first | (guard_hyp isW; simpa [zaS, zbR, zdn, zc4, zcw, hne, HE1.out, HE2.out, HE3.out, HE4.out, zla] using hR) | (simpa [zaT, zbR, zdn, zc4, zcw, hne, HE1.out, HE2.out, HE3.out, HE4.out, zla] using hR)
          ·have p10 : wr.cell? ⟨g, 10, none⟩ = some (.slice A5 n5 c5) := HK14.out.cell 10
           first
            | guard_hyp isW
              go_wp2_with (first
               | (go_at_call 233; refine (zbW schema _).mono ?_; rintro rc wc ⟨rfl, rfl⟩)
               | (go_at_call 186; refine (zag HR14.out (f := 186) (args := #[.pointer (some ⟨e, 0, none⟩), .int .i64 n5]) (zs := Lib.uvarint n5) (fun o2 he => za8 _ o2 _ n5 (by omega) _ he (by rw [zk8]; omega))).mono ?_; rintro r15 w15 ⟨rfl, R, K⟩
                  clear p10 p1; have hB := K.out _ _ _ (by decide) (by decide) HK14.out; have p10 : w15.cell? ⟨g, 10, none⟩ = some (.slice A5 n5 c5) := hB.cell 10; have HK15 := zk7 hB; obtain ⟨Y15, hY⟩ : ∃ Y, Y14 ++ Lib.uvarint n5 = Y := ⟨_, rfl⟩; rw [hY] at R; have hv15 : Y15.length ≤ 3697 := by have hq : (Lib.uvarint n5).length ≤ 10 := zln (by omega); rw [← hY, zk8]; omega
                  have HY15 := zk7 hY; have HR15 := zk7 R
                  clear R K hB hY HR14 HK14 hv14))
            | go_wp2_with (first
               | (go_at_call 233; refine (zbW schema _).mono ?_; rintro rc wc ⟨rfl, rfl⟩)
               | (go_at_call 186; refine (zag HR14.out (f := 186) (args := #[.pointer (some ⟨e, 0, none⟩), .int .i64 n5]) (zs := Lib.uvarint n5) (fun o2 he => za8 _ o2 _ n5 (by omega) _ he (by rw [zk8]; omega))).mono ?_; rintro r15 w15 ⟨rfl, R, K⟩
                  clear p10 p1; have hB := K.out _ _ _ (by decide) (by decide) HK14.out; have p10 : w15.cell? ⟨g, 10, none⟩ = some (.slice A5 n5 c5) := hB.cell 10; have HK15 := zk7 hB; obtain ⟨Y15, hY⟩ : ∃ Y, Y14 ++ Lib.uvarint n5 = Y := ⟨_, rfl⟩; rw [hY] at R; have hv15 : Y15.length ≤ 3453 := by have hq : (Lib.uvarint n5).length ≤ 10 := zln (by omega); rw [← hY, zk8]; omega
                  have HY15 := zk7 hY; have HR15 := zk7 R
                  clear R K hB hY HR14 HK14 hv14))
           first | (guard_hyp isW; go_loopw [162] (fun i wr => ∃ k : Nat, k ≤ n5 ∧ i = .int .i64 k ∧ Hid (Put w e o xs (Y15 ++ (cus.take k).flatMap (Lib.beBytes 8)) wr)) (fun i _ => n5 - (intOf i).toNat)) | (go_loopw [160] (fun i wr => ∃ k : Nat, k ≤ n5 ∧ i = .int .i64 k ∧ Hid (Put w e o xs (Y15 ++ (cus.take k).flatMap (Lib.beBytes 8)) wr)) (fun i _ => n5 - (intOf i).toNat))
           case atStart => exact ⟨0, zli _, rfl, zk7 (by simpa using HR15.out)⟩
           case round =>
            obtain ⟨k, hk, rfl, HRk⟩ := hrel; by_cases hlt : k < n5
            ·have hzz := Z5.out.fr (HRk.out).fr HPP.out
             obtain ⟨g1, off, rfl, _, hcell⟩ := hzz.at (by omega); obtain ⟨x, hx⟩ : ∃ x, cus[k]? = some x := ⟨_, zk9 (by rw [HE5.out]; exact hlt)⟩; have hx0 := V5.out x (zlf hx); have d0 : wr.cell? ⟨g1, off + k, none⟩ = some (.float .f64 x) := hcell k _ (by rw [zii f1 (fun _ => rfl) cus k x hx]; rfl)
             have hyl := zaH (Lib.beBytes 8) 8 cus k (fun x hx => by simp [zlh]); have hk9 : k * 8 ≤ 60 * 8 := zlk _ (by omega); have HX := zk7 hx; have RA := HRk.out; obtain ⟨Y, hY⟩ : ∃ Y, Y15 ++ (cus.take k).flatMap (Lib.beBytes 8) = Y := ⟨_, rfl⟩; rw [hY] at RA
             first | (guard_hyp isW; have hv : Y.length ≤ 3697 + 480 := by rw [← hY, zk8]; omega) | (have hv : Y.length ≤ 3453 + 480 := by rw [← hY, zk8]; omega)
             have HY := zk7 hY; have HRA := zk7 RA; clear hzz hcell hx hyl hk9 RA hY HRk
             go_wp2_with (go_at_call 244; refine (zag HRA.out (f := 244) (args := #[.pointer (some ⟨e, 0, none⟩), .float .f64 x]) (zs := Lib.beBytes 8 x) (fun o2 he => zbT _ o2 _ x hx0 _ he (by rw [zk8]; omega))).mono ?_; rintro rA wA ⟨rfl, R1, K1⟩
                          have HR8 := zk7 R1
                          clear R1 K1 HRA)
             have HRE : Hid (Put w e o xs (Y15 ++ (cus.take (k + 1)).flatMap (Lib.beBytes 8)) wA) := zk7 (by
              rw [zan (Lib.beBytes 8) cus k _ HX.out, ← zla, HY.out]
              exact HR8.out)
             clear HR8; go_wp2; go_roundw
             case rel => exact ⟨k + 1, by omega, by go_num, HRE⟩
             case measure => simp [intOf]; omega
            ·obtain rfl : k = n5 := by omega
             have R := HRk.out; rw [zlg (by rw [HE5.out]; exact zlj _)] at R; have hyl := zaH (Lib.beBytes 8) 8 cus k (fun x hx => by simp [zlh]); rw [zlg (by rw [HE5.out]; exact zlj _)] at hyl; have hk9 : k * 8 ≤ 60 * 8 := zlk _ (by omega); obtain ⟨Y16, hY⟩ : ∃ Y, Y15 ++ cus.flatMap (Lib.beBytes 8) = Y := ⟨_, rfl⟩
             rw [hY] at R
             first | (guard_hyp isW; have hv16 : Y16.length ≤ 4177 := by rw [← hY, zk8]; omega) | (have hv16 : Y16.length ≤ 3933 := by rw [← hY, zk8]; omega)
             have HY16 := zk7 hY; have hB := R.blk HE.out HB.out (by decide) (by decide); have HK16 := zk7 hB; have HR16 := zk7 R; clear hyl hk9 hY hB HRk HR15 HK15 hv15 hlt hk; go_wp2; go_end0; refine ⟨rfl, ?_⟩; have hR := R; have hne : schema = -53 := by simpa using hcu
             rw [← HY16.out, ← HY15.out, ← HY14.out, ← HY13.out, ← HY12.out, ← HY11.out, ← HY10.out, ← HY9.out, ← HY8.out, ← HY7.out, ← HY6.out, ← HY5.out, ← HY4.out, ← HY3.out, ← HY2.out, ← HY1.out, ← HY0.out] at hR
             first | (guard_hyp isW; simpa [zaS, zbR, zdn, zc4, zcw, hne, HE1.out, HE2.out, HE3.out, HE4.out, HE5.out, zla] using hR) | (simpa [zaT, zbR, zdn, zc4, zcw, hne, HE1.out, HE2.out, HE3.out, HE4.out, HE5.out, zla] using hR)
theorem zff : type_of% (zcq.1 trivial) := zcq.1 trivial
theorem zfg : type_of% (zcq.2 trivial) := zcq.2 trivial
def Buf (w : World) (g n i : Nat) (t : List UInt8) : Prop := i ≤ n ∧ ∃ cs : Array Value, Blk w g 5 cs ∧ cs.size = n ∧ cs.toList.drop i = bc t
theorem Buf.put {w : World} {g n i : Nat} {t : List UInt8} (h : Buf w g n i t) (o : Nat) (vs : List UInt8) (hi : o + vs.length = i) : Buf (w.setCells g o (bc vs)) g n o (vs ++ t) := by
 obtain ⟨hin, cs, hb, hs, hd⟩ := h; refine ⟨by omega, _, zc9 (bc vs) o w cs hb, by rw [zdB]; exact hs, ?_⟩; have hl : (bc vs).length = vs.length := zc6 vs; rw [zcm _ _ _ (by rw [hl]; omega), hl, hi, hd, zla, List.drop_left' (by simp; omega), ziJ]
def zbr (n : Nat) : List UInt8 := if n < 255 then [UInt8.ofNat n] else [255, UInt8.ofNat n, UInt8.ofNat (n / 256), UInt8.ofNat (n / 65536)]
theorem zkw (w : World) (g o v : Nat) : w.setCells g o (bc [255, UInt8.ofNat v, UInt8.ofNat (v / 256), UInt8.ofNat (v / 65536)]) =
 ((((w.setCell ⟨g, o, none⟩ (.int .u8 255)).setCell ⟨g, o + 1, none⟩ (.int .u8 ((v : Int) % 256))).setCell ⟨g, o + 2, none⟩ (.int .u8 ((v : Int) / 256 % 256))).setCell ⟨g, o + 3, none⟩ (.int .u8 ((v : Int) / 65536 % 256))) := by
 have e (x : Nat) : ((UInt8.ofNat x).toNat : Int) = (x : Int) % 256 := by simp
 have e1 := e v; have e2 : ((UInt8.ofNat (v / 256)).toNat : Int) = (v : Int) / 256 % 256 := by rw [e]; simp
 have e3 : ((UInt8.ofNat (v / 65536)).toNat : Int) = (v : Int) / 65536 % 256 := by rw [e]; simp
 rw [← e1, ← e2, ← e3]; rfl
theorem zbV (n : Nat) : (zbr n).length = zaz n := by
 unfold zbr zaz; split <;> rfl
def zcP (p : Lab) : List UInt8 := zbr p.1.size ++ (p.1.data.toList ++ (zbr p.2.size ++ p.2.data.toList))
theorem zh6 (p : Lab) : (zcP p).length = za2 p := by
 have h1 : p.1.data.toList.length = p.1.size := by rw [← Lib.size_eq]
 have h2 : p.2.data.toList.length = p.2.size := by rw [← Lib.size_eq]
 simp only [zcP, zk8, zbV, za2, h1, h2]; omega
def zax (l : List Lab) : List UInt8 := l.flatMap zcP
def SizeEnds (g n o : Nat) (t : List UInt8) (w : World) (r : Ending) (w' : World) : Prop :=
 r = .returned (.int .i64 o) ∧ Buf w' g n o t ∧ Fr (fun k => k = g) w w'
theorem zes (g n i m c v o : Nat) (t : List UInt8) (w : World) (h : Buf w g n i t) (him : i ≤ m) (hmn : m ≤ n) (hm : m ≤ 1099511627776) (hv : v ≤ 16777216) (ho : o + zaz v = i) :
 Calls Tryz.prog 272 #[.slice (some ⟨g, 0, none⟩) m c, .int .i64 i, .int .i64 v] w (SizeEnds g n o (zbr v ++ t) w) := by
 obtain ⟨hin, cs, hb, hs, hd⟩ := h; have B0 : Buf w g n i t := ⟨hin, cs, hb, hs, hd⟩; by_cases hlt : v < 255
 ·have e1 : zaz v = 1 := if_pos hlt
  rw [e1] at ho; subst ho; have e2 : zbr v = [UInt8.ofNat v] := if_pos hlt; rw [e2]; have h1 : (v : Int) < 255 := by omega
  have hwr : (v : Int) % 256 = v := by omega
  have hc : (w.cell? ⟨g, o, none⟩).isSome = true := by rw [hb.cell]; simp; omega
  obtain ⟨cv, hcv⟩ := Option.isSome_iff_exists.mp hc; have hf := hb.frozen o; have HB := B0.put o [UInt8.ofNat v] rfl; have hF : Fr (fun k => k = g) w (w.setCell ⟨g, o, none⟩ (.int .u8 (UInt8.ofNat v).toNat)) := Fr.at_ w g o _; have e3 : ((UInt8.ofNat v).toNat : Int) = v := by simp; omega
  have HB2 : Buf (w.setCell ⟨g, o, none⟩ (.int .u8 (UInt8.ofNat v).toNat)) g n o ([UInt8.ofNat v] ++ t) := HB; rw [e3] at HB2 hF; clear HB B0 hd hs; go_enter Tryz.func272, Tryz.ntmps272; go_wp2; go_ret; exact ⟨rfl, HB2, hF⟩
 ·have e1 : zaz v = 4 := if_neg hlt
  rw [e1] at ho; subst ho; have e2 : zbr v = [255, UInt8.ofNat v, UInt8.ofNat (v / 256), UInt8.ofNat (v / 65536)] := if_neg hlt; rw [e2]; have h1 : ¬ (v : Int) < 255 := by omega
  have hcell : ∀ j, j < 4 → (w.cell? ⟨g, o + j, none⟩).isSome = true := fun j hj => by rw [hb.cell]; simp; omega
  obtain ⟨c0, hc0⟩ := Option.isSome_iff_exists.mp (show (w.cell? ⟨g, o, none⟩).isSome = true from hcell 0 (by omega)); obtain ⟨c1, hc1⟩ := Option.isSome_iff_exists.mp (hcell 1 (by omega)); obtain ⟨c2, hc2⟩ := Option.isSome_iff_exists.mp (hcell 2 (by omega)); obtain ⟨c3, hc3⟩ := Option.isSome_iff_exists.mp (hcell 3 (by omega)); have hf0 := hb.frozen o; have hf1 := hb.frozen (o + 1)
  have hf2 := hb.frozen (o + 2); have hf3 := hb.frozen (o + 3); have HB := zk7 (B0.put o [255, UInt8.ofNat v, UInt8.ofNat (v / 256), UInt8.ofNat (v / 65536)] rfl); have HF := zk7 ((zlW (fun k => k = g) w).setCells (b := g) (.inl rfl) o (bc [255, UInt8.ofNat v, UInt8.ofNat (v / 256), UInt8.ofNat (v / 65536)])); clear B0 hd hs hcell; go_enter Tryz.func272, Tryz.ntmps272; go_wp2; go_ret
  rw [← zkw]; exact ⟨rfl, HB.out, HF.out⟩
theorem zhH {w : World} {g n o : Nat} {t : List UInt8} (s : ByteArray) (h : Buf w g n (o + s.size) t) :
 Buf (w.setCells g o (s.data.toList.map fun x => Value.int .u8 (x.toNat : Int))) g n o (s.data.toList ++ t) ∧ Fr (fun k => k = g) w (w.setCells g o (s.data.toList.map fun x => Value.int .u8 (x.toNat : Int))) :=
 ⟨h.put o s.data.toList (by rw [← Lib.size_eq]), (zlW (fun k => k = g) w).setCells (b := g) (.inl rfl) o _⟩
theorem zj6 {w : World} {g n i : Nat} {t : List UInt8} (h : Buf w g n i t) (j : Nat) (hj : j < i) : (w.cell? ⟨g, j, none⟩).isSome = true ∧ w.frozen? ⟨g, j, none⟩ = false := by
 obtain ⟨hin, cs, hb, hs, hd⟩ := h; exact ⟨by rw [hb.cell]; simp; omega, hb.frozen j⟩
theorem zhV (w : World) (g o off' dl cc : Nat) (s : ByteArray) (hle : s.size ≤ dl) (hs : off' = o ∨ s.size = 0)
 (hc : ∀ j, j < o + s.size → (w.cell? ⟨g, j, none⟩).isSome = true ∧ w.frozen? ⟨g, j, none⟩ = false) :
 (Builtin.copy_ #[44, 9] 3 #[.slice (some ⟨g, off', none⟩) dl cc, .string s]).run Tryz.prog w = .ok (goInt s.size) (w.setCells g o (s.data.toList.map fun x => Value.int .u8 (x.toNat : Int))) := by
 by_cases h0 : s.size = 0
 ·have h := Lib.run_copy_empty_string (P := Tryz.prog) w 44 9 3 5 (some ⟨g, off', none⟩) dl cc s Tryz.underlying44 (by kernel_rfl) h0
  rw [h]; have e : s.data.toList = [] := zlz (by rw [← Lib.size_eq]; exact h0); rw [e, h0]; rfl
 ·obtain rfl : off' = o := by omega
  exact run_copy_string w 44 9 3 5 g off' dl cc s Tryz.underlying44 Tryz.size5 hle (fun j hj => (hc (off' + j) (by omega)).1) (fun j hj => (hc (off' + j) (by omega)).2)
theorem zeD {ops : Array Oper} {o : Oper} {a : Act} {w : World} {K : Act → World → Prop} {Q : Exit → Act → World → Prop} {E : Prop}
 (hg : o.guard = none) (d x : Operand) (hty : o.type = 3) (hop : o.op = Op.call { callee := Callee.builtin Builtin.copy, args := #[d, x], argTypes := #[44, 9] })
 (g off' p dl cc : Nat) (s : ByteArray) (hd : a.eval d = .slice (some ⟨g, off', none⟩) dl cc) (hle : s.size ≤ dl) (hx : a.eval x = .string s) (hs : off' = p ∨ s.size = 0)
 (hc : ∀ j, j < p + s.size → (w.cell? ⟨g, j, none⟩).isSome = true ∧ w.frozen? ⟨g, j, none⟩ = false)
 (hK : K (a.put o.dst (goInt s.size)) (w.setCells g p (s.data.toList.map fun x => Value.int .u8 (x.toNat : Int)))) :
 if Region.wanted o (yielded ops a.tmps) = true then Oper.wp Tryz.prog o a w K Q else E := by
 have hw : Region.wanted o (yielded ops a.tmps) = true := by simp [Region.wanted, hg]
 rw [if_pos hw]; have hrun := zhV w g p off' dl cc s hle hs hc; unfold Oper.wp; simp [execOp, hop, resolve, invoke, builtin, hd, hx, hty, hrun, Result.andThen]; exact hK
theorem zfn (b off : Nat) (p : Lab) (g n i c o : Nat) (t : List UInt8) (w : World) (c0 : w.cell? ⟨b, off, none⟩ = some (.string p.1)) (c1 : w.cell? ⟨b, off + 1, none⟩ = some (.string p.2)) (hbg : b ≠ g) (hbw : b < w.heap.size)
 (h : Buf w g n i t) (hn : n ≤ 1099511627776) (hic : i ≤ c) (h1 : p.1.size ≤ 1048576) (h2 : p.2.size ≤ 1048576) (ho : o + za2 p = i) :
 Calls Tryz.prog 249 #[.pointer (some ⟨b, off, none⟩), .slice (some ⟨g, 0, none⟩) i c] w fun r w' => r = .returned (.int .i64 (za2 p)) ∧ Buf w' g n o (zcP p ++ t) ∧ Fr (fun k => k = g) w w' := by
 obtain ⟨x, y⟩ := p; simp only [za2] at *
 have hin := h.1; have lx : zaz x.size ≤ 4 := by unfold zaz; split <;> omega
 have ly : zaz y.size ≤ 4 := by unfold zaz; split <;> omega
 have hy := zj6 h; obtain ⟨p1, hp1⟩ : ∃ p1, p1 + y.size = i := ⟨i - y.size, by omega⟩; subst hp1; obtain ⟨off1, ho1, hoff1⟩ := zk0 g 0 (p1 + y.size) c p1 .i64 p1 rfl (by omega); rw [Nat.add_sub_cancel_left] at hoff1; have ho1' : off1 = p1 ∨ y.size = 0 := by omega
 have HB := zk7 h; clear h; go_enter Tryz.func249, Tryz.ntmps249; go_wp2; go_region_law (refine zeD rfl (.tmp 17) (.tmp 21) rfl rfl g off1 p1 y.size (c - p1) y (by simp [Act.eval, Act.put]) (zlj _) (by simp [Act.eval, Act.put]) ho1' (fun j hj => hy j hj) ?_)
 have HB1 : Buf w g n (p1 + y.size) t := HB.out; obtain ⟨HC1, HF1⟩ := zhH y HB1; have HC1' : Buf (w.drew.setCells g p1 (y.data.toList.map fun x => Value.int .u8 (x.toNat : Int))) g n p1 (y.data.toList ++ t) := (zhH y (w := w.drew) HB1).1
 have HF1' : Fr (fun k => k = g) w (w.drew.setCells g p1 (y.data.toList.map fun x => Value.int .u8 (x.toNat : Int))) := (Fr.drew (zlW (fun k => k = g) w)).setCells (b := g) (.inl rfl) _ _; generalize w.drew.setCells g p1 (y.data.toList.map fun x => Value.int .u8 (x.toNat : Int)) = w1 at HC1' HF1' ⊢; clear HC1 HF1 HB1
 obtain ⟨p3, hp2⟩ : ∃ p3, (p3 + x.size) + zaz y.size = p1 := ⟨p1 - zaz y.size - x.size, by omega⟩; obtain ⟨off2, ho2, hoff2⟩ := zk0 g 0 (p1 + y.size) c p3 .i64 p3 rfl (by omega); have hE1 := zes g n p1 (p1 + y.size) c y.size (p3 + x.size) (y.data.toList ++ t) w1 HC1' (by omega) (by omega) (by omega) (by omega) hp2
 have c01 : w1.cell? ⟨b, off, none⟩ = some (.string x) := (HF1'.cell (p := ⟨b, off, none⟩) hbw hbg).trans c0; have c11 : w1.cell? ⟨b, off + 1, none⟩ = some (.string y) := (HF1'.cell (p := ⟨b, off + 1, none⟩) hbw hbg).trans c1; have HFh := zk7 HF1'; clear HC1' HF1' c0 c1 hy hoff1; have hbw1 : b < w1.heap.size := zlw hbw HFh.out.size
 go_wp2_with (go_at_call 272; refine hE1.mono ?_; rintro r w2 ⟨rfl, hB2, hF2⟩; have c02 : w2.cell? ⟨b, off, none⟩ = some (.string x) := (hF2.cell (p := ⟨b, off, none⟩) hbw1 hbg).trans c01)
 have hz2 := zj6 hB2; have ho2' : off2 = p3 ∨ x.size = 0 := by omega
 have hlx : x.size ≤ p1 + y.size - p3 := by omega
 have HB2 := zk7 hB2; have HF2 := zk7 hF2; clear hE1 ho2 ho1 c01 c11 hB2 hF2; go_region_law (refine zeD rfl (.tmp 40) (.tmp 44) rfl rfl g off2 p3 (p1 + y.size - p3) (c - p3) x (by simp [Act.eval, Act.put]) hlx (by simp [Act.eval, Act.put]) ho2' (fun j hj => hz2 j hj) ?_)
 have HC3 : Buf (w2.drew.setCells g p3 (x.data.toList.map fun x => Value.int .u8 (x.toNat : Int))) g n p3 (x.data.toList ++ (zbr y.size ++ (y.data.toList ++ t))) := (zhH x (w := w2.drew) HB2.out).1; have HF3 : Fr (fun k => k = g) w2 (w2.drew.setCells g p3 (x.data.toList.map fun x => Value.int .u8 (x.toNat : Int))) := (Fr.drew (zlW (fun k => k = g) w2)).setCells (b := g) (.inl rfl) _ _
 generalize w2.drew.setCells g p3 (x.data.toList.map fun x => Value.int .u8 (x.toNat : Int)) = w3 at HC3 HF3 ⊢; have hoo : o + zaz x.size = p3 := by omega
 have hE3 := zes g n p3 (p1 + y.size) c x.size o _ w3 HC3 (by omega) (by omega) (by omega) (by omega) hoo; have hbw3 : b < w3.heap.size := zlw (zlw hbw1 HF2.out.size) HF3.size; have c03 : w3.cell? ⟨b, off, none⟩ = some (.string x) := (HF3.cell (p := ⟨b, off, none⟩) (zlw hbw1 HF2.out.size) hbg).trans c02; have HF3h := zk7 HF3
 have HO := zk7 ho; clear HC3 HF3 c02 hz2 hoff2; go_wp2_with (go_at_call 272; refine hE3.mono ?_; rintro r w4 ⟨rfl, hB4, hF4⟩)
 go_ret; refine ⟨?_, ?_, ((HFh.out.same HF2.out).same HF3h.out).same hF4⟩
 ·have h := HO.out
  show Ending.returned (Value.int .i64 ((p1 : Int) + y.size - o)) = _; congr 2; omega
 ·simp only [zcP, zla]
  exact hB4
theorem zhn (l : List Lab) (k : Nat) (x : Lab) (h : l[k]? = some x) : zaA (l.drop k) = za2 x + zaA (l.drop (k + 1)) := by
 obtain ⟨hk, rfl⟩ := List.getElem?_eq_some_iff.mp h; rw [List.drop_eq_getElem_cons hk]; rfl
theorem zdm (l : List Lab) (k : Nat) (x : Lab) (h : l[k]? = some x) : zax (l.drop k) = zcP x ++ zax (l.drop (k + 1)) := by
 obtain ⟨hk, rfl⟩ := List.getElem?_eq_some_iff.mp h; rw [List.drop_eq_getElem_cons hk]; rfl
theorem zho (l : List Lab) : (zax l).length = zaA l := by
 induction l with
 | nil => rfl
 | cons x l ih =>
   show (zcP x ++ zax l).length = za2 x + zaA l; rw [zk8, zh6, ih]
theorem zdv (P : Nat → Prop) (v : Value) (l : List Lab) (g n c : Nat) (w : World) (h : Sl P w v 2 l.length (l.flatMap zbv)) (hg : ¬ P g) (hl : l.length ≤ 4096) (hs : ∀ p ∈ l, p.1.size ≤ 1048576 ∧ p.2.size ≤ 1048576)
 (hB : Buf w g n n []) (hn : n = zaA l) (hnc : n ≤ c) (hcm : c ≤ 1099511627776) :
 Calls Tryz.prog 209 #[v, .slice (some ⟨g, 0, none⟩) n c] w fun r w' => r = .returned (.int .i64 n) ∧ Buf w' g n 0 (zax l) ∧ Fr (fun k => k = g) w w' := by
 obtain ⟨A, cc, rfl, hlen, hnc', hr⟩ := h; obtain ⟨m, hm⟩ : ∃ m, l.length = m := ⟨_, rfl⟩; rw [hm] at hr hnc' hl ⊢; have HN := zk7 hm; have HR := zk7 hr; have HS := zk7 hs; have HT := zk7 hn; have HBB := zk7 hB; clear hm hr hlen hs hn hB; go_enter Tryz.func209, Tryz.ntmps209; go_wp2
 go_loopw [5, 6] (fun vi vk wr => ∃ (i k : Nat), k ≤ m ∧ vk = .int .i64 ((k : Int) - 1) ∧ vi = .int .i64 i ∧ Hid (zaA (l.drop k) + i = n) ∧ i ≤ n ∧ Hid (Buf wr g n i (zax (l.drop k))) ∧ Hid (Fr (fun k => k = g) w wr)) (fun _ vk _ => (intOf vk + 1).toNat)
 case atStart =>
  refine ⟨n, m, zlj _, rfl, rfl, ?_, zlj _, ?_, zk7 (zlW _ _)⟩
  ·have e : l.drop m = [] := List.drop_of_length_le (by rw [HN.out]; exact zlj _)
   rw [e]; exact zk7 (zlC _)
  ·have e : l.drop m = [] := List.drop_of_length_le (by rw [HN.out]; exact zlj _)
   rw [e]; exact HBB
 case round =>
  obtain ⟨i, k, hk, rfl, rfl, HM, hin, HB, HF⟩ := hrel; rcases k with _ | k
  ·go_wp2
   go_ret; have h0 : i = 0 ∧ zax (l.drop 0) = zax l := by
    have h := HM.out; have h2 := HT.out; have e : l.drop 0 = l := rfl; rw [e] at h; exact ⟨by omega, by rw [e]⟩
   obtain ⟨rfl, e⟩ := h0; have hB := HB.out; rw [e] at hB; exact ⟨by simp, hB, HF.out⟩
  ·obtain ⟨x, hx⟩ : ∃ x, l[k]? = some x := ⟨_, zk9 (by rw [HN.out]; omega)⟩
   obtain ⟨b, off, rfl, hPb, hcell⟩ := HR.out (by omega); have e1 : ((k + 1 : Nat) : Int) - 1 = k := by omega
   rw [e1]; have cc0 : ∀ j, j < 2 → ∀ u, (zbv x)[j]? = some u → wr.cell? ⟨b, off + (k * 2 + j), none⟩ = some u ∧ b < w.heap.size := fun j hj u hu => by
    have := hcell (k * 2 + j) u (by rw [zci zbv (fun _ => rfl) l k x hx j hj]; exact hu); have hlt := zle w _ this; rw [HF.out.cell (p := ⟨b, off + (k * 2 + j), none⟩) hlt (fun e => hg (by have : b = g := e; rw [← this]; exact hPb))]; exact ⟨this, hlt⟩
   have c0 : wr.cell? ⟨b, off + k * 2, none⟩ = some (.string x.1) := (cc0 0 (by omega) _ rfl).1; have c1 : wr.cell? ⟨b, off + k * 2 + 1, none⟩ = some (.string x.2) := (cc0 1 (by omega) _ rfl).1; have hbw : b < wr.heap.size := zlw (cc0 0 (by omega) _ rfl).2 HF.out.size; have hbg : b ≠ g := fun e => hg (by rw [← e]; exact hPb); have hxs := HS.out x (zlf hx)
   have hd1 := zhn l k x hx; have hd2 := zdm l k x hx; have hM := HM.out; obtain ⟨o, ho⟩ : ∃ o, o + za2 x = i := by
    have h1 : zaA (l.drop k) ≤ zaA l := by
     have : ∀ (l : List Lab) (k : Nat), zaA (l.drop k) ≤ zaA l := by
      intro l; induction l with
      | nil => intro k; simp
      | cons a l ih =>
        intro k; cases k with
        | zero => exact zlj _
        | succ k => exact zlQ (ih k) (by show zaA l ≤ za2 a + zaA l; omega)
     exact this l k
    have h2 := HT.out; exact ⟨i - za2 x, by omega⟩
   have hC := zfn b (off + k * 2) x g n i c o (zax (l.drop (k + 1))) wr.drew c0 c1 hbg hbw HB.out (by omega) (by omega) hxs.1 hxs.2 ho; rw [← hd2] at hC; have HO := zk7 (show zaA (l.drop k) + o = n by omega); have HK := zk7 ho; have hz : za2 x ≤ i := by omega
   have hzm := zeZ x hxs.1 hxs.2; generalize za2 x = z at hC ho hz hzm; have ho2 : (i : Int) - z = o := by omega
   clear c0 c1 cc0 hcell hx hd1 hd2 hM hxs HM ho HK; go_wp2; go_region_with (go_at_call 249; refine hC.mono ?_; rintro r w1 ⟨rfl, hB1, hF1⟩)
   all_goals go_wp2
   all_goals go_roundw
   all_goals first
    | exact ⟨o, k, by omega, rfl, by first | rfl | go_num | (congr 1; omega), HO, by omega, zk7 hB1, zk7 (HF.out.same ((Fr.drew (zlW _ _)).same hF1))⟩
    | (show ((k : Int) - 1 + 1).toNat < ((k : Int) + 1).toNat; omega)
end Go.Proofs.YtbkookiigkckdaaGreatDoor
namespace Go.Proofs
open Go.Shelf
def Tryz.sortLab_ren : Go.Shelf.Ren := ⟨fun | 6 => 205 | 15 => 157 | 14 => 246 | 28 => 228 | 29 => 229 | 20 => 262 | 21 => 263 | 22 => 264 | 23 => 265 | 24 => 266 | 25 => 267 | 26 => 268 | 27 => 269 | 46 => 289 | 47 => 258 | 48 => 259 | 49 => 290 | 50 => 291 | 57 => 299 | n => n, fun | 22 => 115 | 24 => 108 | 25 => 326 | 3 => 3 | 39 => 268 | 0 => 0 | 53 => 317 | 55 => 111 | 4 => 4 | 46 => 347 | 45 => 346 | 50 => 86 | 5 => 5 | 9 => 9 | 66 => 383 | 70 => 386 | 76 => 401 | 77 => 261 | n => n, fun | n => n⟩
theorem Tryz.sortLab : Go.Proofs.SlLaysF0.n6 Tryz.prog Tryz.sortLab_ren := {
 mixed := by kernel_rfl
 f6 := ⟨Tryz.f205.name, by decide, Tryz.func205.trans (congrArg some (by kernel_rfl))⟩
 f14 := ⟨Tryz.f246.name, by decide, Tryz.func246.trans (congrArg some (by kernel_rfl))⟩
 f15 := Tryz.func157.trans (congrArg some (by kernel_rfl))
 f20 := ⟨Tryz.f262.name, by decide, Tryz.func262.trans (congrArg some (by kernel_rfl))⟩
 f21 := ⟨Tryz.f263.name, by decide, Tryz.func263.trans (congrArg some (by kernel_rfl))⟩
 f22 := ⟨Tryz.f264.name, by decide, Tryz.func264.trans (congrArg some (by kernel_rfl))⟩
 f23 := ⟨Tryz.f265.name, by decide, Tryz.func265.trans (congrArg some (by kernel_rfl))⟩
 f24 := ⟨Tryz.f266.name, by decide, Tryz.func266.trans (congrArg some (by kernel_rfl))⟩
 f25 := ⟨Tryz.f267.name, by decide, Tryz.func267.trans (congrArg some (by kernel_rfl))⟩
 f26 := ⟨Tryz.f268.name, by decide, Tryz.func268.trans (congrArg some (by kernel_rfl))⟩
 f27 := ⟨Tryz.f269.name, by decide, Tryz.func269.trans (congrArg some (by kernel_rfl))⟩
 f28 := Tryz.func228.trans (congrArg some (by kernel_rfl))
 f29 := Tryz.func229.trans (congrArg some (by kernel_rfl))
 f46 := ⟨Tryz.f289.name, by decide, Tryz.func289.trans (congrArg some (by kernel_rfl))⟩
 f47 := Tryz.func258.trans (congrArg some (by kernel_rfl))
 f48 := Tryz.func259.trans (congrArg some (by kernel_rfl))
 f49 := ⟨Tryz.f290.name, by decide, Tryz.func290.trans (congrArg some (by kernel_rfl))⟩
 f50 := ⟨Tryz.f291.name, by decide, Tryz.func291.trans (congrArg some (by kernel_rfl))⟩
 f57 := ⟨Tryz.f299.name, by decide, Tryz.func299.trans (congrArg some (by kernel_rfl))⟩
 t0 := Tryz.underlying0
 a0 := Tryz.isAgg0
 z0 := Tryz.sizeOf0
 v0 := Tryz.zeroValue0
 t3 := Tryz.underlying3
 a3 := Tryz.isAgg3
 z3 := Tryz.sizeOf3
 v3 := Tryz.zeroValue3
 t4 := Tryz.underlying4
 a4 := Tryz.isAgg4
 z4 := Tryz.sizeOf4
 v4 := Tryz.zeroValue4
 t5 := Tryz.underlying5
 a5 := Tryz.isAgg5
 z5 := Tryz.sizeOf5
 v5 := Tryz.zeroValue5
 t9 := Tryz.underlying9
 a9 := Tryz.isAgg9
 z9 := Tryz.sizeOf9
 v9 := Tryz.zeroValue9
 t22 := Tryz.underlying115
 a22 := Tryz.isAgg115
 z22 := Tryz.sizeOf115
 v22 := Tryz.zeroValue115
 t25 := Tryz.underlying326
 a25 := Tryz.isAgg326
 z25 := Tryz.sizeOf326
 v25 := Tryz.zeroValue326
 t39 := Tryz.underlying268
 a39 := Tryz.isAgg268
 z39 := Tryz.sizeOf268
 v39 := Tryz.zeroValue268
 t45 := Tryz.underlying346
 a45 := Tryz.isAgg346
 z45 := Tryz.sizeOf346
 v45 := Tryz.zeroValue346
 t46 := Tryz.underlying347
 a46 := Tryz.isAgg347
 z46 := Tryz.sizeOf347
 v46 := Tryz.zeroValue347
 t50 := Tryz.underlying86
 a50 := Tryz.isAgg86
 z50 := Tryz.sizeOf86
 v50 := Tryz.zeroValue86
 t53 := Tryz.underlying317
 a53 := Tryz.isAgg317
 z53 := Tryz.sizeOf317
 v53 := Tryz.zeroValue317
 t55 := Tryz.underlying111
 a55 := Tryz.isAgg111
 z55 := Tryz.sizeOf111
 v55 := Tryz.zeroValue111
 t66 := Tryz.underlying383
 a66 := Tryz.isAgg383
 z66 := Tryz.sizeOf383
 v66 := Tryz.zeroValue383
 t70 := Tryz.underlying386
 a70 := Tryz.isAgg386
 z70 := Tryz.sizeOf386
 v70 := Tryz.zeroValue386
 t76 := Tryz.underlying401
 a76 := Tryz.isAgg401
 z76 := Tryz.sizeOf401
 v76 := Tryz.zeroValue401
 t77 := Tryz.underlying261
 a77 := Tryz.isAgg261
 z77 := Tryz.sizeOf261
 v77 := Tryz.zeroValue261 }
end Go.Proofs
namespace Go.Proofs.YtbkookiigkckdaaGreatDoor
open Go.RowKit Go.Sort
theorem cmp_lt : ∀ (a b : List UInt8), Lib.compareBytes a b < 0 ↔ a < b
 | [], [] => by simp [Lib.compareBytes]
 | [], _ :: _ => by simp [Lib.compareBytes]
 | _ :: _, [] => by simp [Lib.compareBytes]
 | a :: xs, b :: ys => by
   simp only [Lib.compareBytes, List.cons_lt_cons_iff]; by_cases h1 : a < b
   ·simp [h1]
   ·by_cases h2 : b < a
    ·simp only [if_neg h1, if_pos h2]
     constructor
     ·intro h; exact absurd h (by decide)
     ·rintro (h | ⟨rfl, _⟩)
      ·exact absurd h h1
      ·exact absurd h2 h1
    ·rw [if_neg h1, if_neg h2, cmp_lt xs ys]
     have e : a = b := UInt8.le_antisymm (UInt8.not_lt.mp h2) (UInt8.not_lt.mp h1); simp [e]
def nlt (a b : ByteArray) : Bool := decide (a.data.toList < b.data.toList)
def zgM (x y : Lab) : Int := Lib.compareBytes x.1.data.toList y.1.data.toList
theorem zjY (x y : Lab) : ltOf zgM x y = nlt x.1 y.1 := by
 unfold ltOf zgM nlt; exact decide_eq_decide.mpr (cmp_lt _ _)
theorem swoLab : SWO (ltOf zgM) where
 irrefl x := by rw [zjY]; simp [nlt, List.lt_irrefl]
 trans x y z h1 h2 := by simp only [zjY, nlt, decide_eq_true_eq] at *; exact List.lt_trans h1 h2
 ntrans x y z h1 h2 := by
  simp only [zjY, nlt, decide_eq_false_iff_not, List.not_lt] at *
  exact List.le_trans h2 h1
theorem zih (l : List Lab) : (l.flatMap zbv).length = l.length * 2 := by
 induction l with
 | nil => rfl
 | cons x l ih => rw [zlm, zk8, ih, zlp, Nat.add_mul]; show 2 + _ = _; omega
theorem zgU (l : List Lab) : flatK zbv 2 l.toArray = (l.flatMap zbv).toArray := by
 have hl : (l.flatMap zbv).length = l.length * 2 := zih l; refine ext_get! (by simp [hl]) fun t ht => ?_; have ht' : t < l.length * 2 := by simpa using ht
 rw [get_flatK _ _ _ t (by simpa using ht')]; have hk : t / 2 < l.length := by omega
 have h2 := zci zbv (fun _ => rfl) l (t / 2) l[t / 2] (zk9 hk) (t % 2) (by omega); rw [show t / 2 * 2 + t % 2 = t by omega] at h2; rw [getElem!_pos l.toArray (t / 2) (by simpa using hk)]; have ht2 : t < (l.flatMap zbv).length := by omega
 rw [getElem!_pos (l.flatMap zbv).toArray t (by simpa using ht2)]; rw [zk9 ht2] at h2; have h3 : t % 2 < (zbv l[t / 2]).length := by show t % 2 < 2; omega
 rw [zk9 h3] at h2; injection h2 with h2; rw [show l.toArray[t / 2] = l[t / 2] from by simp, getElem!_pos (zbv l[t / 2]) (t % 2) h3]; simpa using h2.symm
theorem new1_any (x y : Lab) (W : World) : Calls Tryz.prog 219 #[.agg #[.string x.1, .string x.2], .agg #[.string y.1, .string y.2]] W fun e w' => e = .returned (.int .i64 (zgM x y)) ∧ ∃ q os', w' = grow (W.drewN q) os' := by
 have hcon := fun W' => Tryz.strings_Compare x.1 y.1 W'; unfold zgM; generalize Lib.compareBytes x.1.data.toList y.1.data.toList = r at hcon ⊢; go_enter Tryz.func219, Tryz.ntmps219; go_wp2_with (go_at_call 207; refine (hcon _).mono ?_; rintro e w' ⟨rfl, rfl⟩)
 go_ret; exact ⟨rfl, 0, _, by rw [alloc_eq_grow, alloc_eq_grow, grow_grow]; rfl⟩
theorem len157 (n : Nat) (W : World) (h : n ≤ 12) : Calls Tryz.prog 157 #[.int .u64 n] W fun e w' => (∃ l : Int, e = .returned (.int .i64 l)) ∧ w' = W :=
 (Tryz.bits_Len n W (by omega) (by omega)).mono fun _ _ ⟨he, hw⟩ => ⟨⟨_, he⟩, hw⟩
theorem Fr.sortWorldK {w : World} (n blk off : Nat) (d : Array Lab) (os : Array Obj) (hb : blk < w.heap.size) : Fr (fun k => k = blk) w (sortWorldK zbv 2 w blk off n d os) := by
 unfold Go.Proofs.sortWorldK; refine ⟨rfl, rfl, rfl, ?_, ?_⟩
 ·rw [size_grow, size_putRowK]
  exact Nat.le_add_right _ _
 ·intro k hk hn
  rw [heap_grow_old _ _ (by rw [size_putRowK]; exact hk)]; unfold putRowK putRow mapBlock; show (Array.modify w.heap blk _)[k]? = _; rw [Array.getElem?_modify, if_neg (fun e => hn e.symm)]
def SortEnds (v : Value) (l : List Lab) (w : World) (r : Ending) (w' : World) : Prop :=
 r = .returned (.tuple #[]) ∧ ∃ l' : List Lab, l'.Perm l ∧ l'.Pairwise (fun a b => nlt b.1 a.1 = false) ∧ Sl (fun g => v.ownBlock = some g) w' v 2 l'.length (l'.flatMap zbv) ∧ Fr (fun g => v.ownBlock = some g) w w'
theorem sort_any (base : Nat) (v : Value) (l : List Lab) (w : World) (h : w.ownsRow base 108 2 v l.length (l.flatMap zbv)) (hl : l.length ≤ 12) :
 Calls Tryz.prog 205 #[v, .func (.func 219) #[] #[]] w (SortEnds v l w) := by
 rcases h with ⟨hlen, ⟨rfl, hn⟩ | ⟨g, c, cur, rfl, hb, hh, hc, hm, hcs, ht⟩⟩
 ·have e : l = [] := zlz hn
  subst e; have hcon := AnyF.slices_SortFunc_none Tryz.sortLab none 0 (.func (.func 219) #[] #[]) w; refine hcon.mono ?_; rintro r w' ⟨rfl, rfl⟩; refine ⟨rfl, [], List.Perm.refl _, List.Pairwise.nil, ?_, zlW _ _⟩; exact Sl.ofOwn (zll (base := base) (e := 108) (size := 2) (w := w'))
 ·have eg : ∀ args w, (callFunc 219 args).run Tryz.prog w = .ok (.enter 219 args) w := enters_of Tryz.func219 (by kernel_rfl) rfl
  have hblk : g < w.heap.size := Blk.lt (t := 108) hh; have hH : HoldsK zbv 2 w g 0 l.toArray := by
   unfold HoldsK; rw [zgU]; intro j hj; have hj2 : j < (l.flatMap zbv).length := by simpa using hj
   rw [zlC, Blk.cell (t := 108) hh, getElem!_pos _ j hj]; refine ⟨?_, Blk.frozen (t := 108) hh j⟩; have e : (l.flatMap zbv)[j]? = cur[j]? := by
    rw [← ht, List.getElem?_take, if_pos (by omega)]; simp
   rw [← e, zk9 hj2]; simp
  have hcon := AnyQ.slices_SortFunc_small_sorted Tryz.sortLab 2 Tryz.isAgg108 Tryz.sizeOf108 zbv (fun _ => rfl) (fun x v hv => by simp [zbv] at hv; rcases hv with rfl | rfl <;> rfl) zgM 219 #[] swoLab g 0 c l.toArray w eg (fun _ _ _ _ x y => new1_any x y _) hH hblk (by simpa using hl) len157; change Calls Tryz.prog 205 #[.slice (some ⟨g, 0, none⟩) l.toArray.size c, _] _ _ at hcon
  rw [List.size_toArray] at hcon; refine hcon.mono ?_; rintro r w' ⟨rfl, d', n, os, hp, hs, rfl⟩; obtain ⟨hsz, _, hperm⟩ := hp; have hsz' : d'.size = l.length := by simpa using hsz
  have ed : d'.toList.toArray = d' := by simp
  refine ⟨rfl, d'.toList, ?_, ?_, ?_, (Fr.sortWorldK n g 0 d' os hblk).mono fun k _ e => by subst e; rfl⟩
  ·have e1 : d'.extract 0 l.length = d' := by rw [← hsz']; simp
   have e2 : l.toArray.extract 0 l.length = l.toArray := by simp
   rw [e1, e2] at hperm; exact hperm
  ·rw [List.pairwise_iff_getElem]
   intro i j hi hj hij; have hi' : i < d'.size := by simpa using hi
   have hj' : j < d'.size := by simpa using hj
   have := hs i j (zli _) hij (by omega); rw [getElem!_pos d' j hj', getElem!_pos d' i hi', zjY] at this; simpa using this
  ·have hH2 : HoldsK zbv 2 (sortWorldK zbv 2 w g 0 n d' os) g 0 d' := holdsK_sortWorldK_c zbv 2 w g 0 l.toArray d' n os hH hblk (by simpa using hsz')
   have e9 : d'.toList.length = l.length := by simpa using hsz'
   show Sl (fun k => (Value.slice (some ⟨g, 0, none⟩) l.length c).ownBlock = some k) _ (.slice (some ⟨g, 0, none⟩) l.length c) 2 _ _; rw [e9]; refine ⟨some ⟨g, 0, none⟩, c, rfl, ?_, hc, fun _ => ⟨g, 0, rfl, rfl, ?_⟩⟩
   ·rw [zih, e9]
   ·intro j u hu
    have hj : j < (d'.toList.flatMap zbv).length := by
     rcases zlA j (d'.toList.flatMap zbv).length with h | h
     ·exact h
     ·rw [zlB h] at hu; cases hu
    unfold HoldsK at hH2; rw [← ed, zgU, ed] at hH2; have := (hH2 j (by simpa using hj)).1; rw [this, getElem!_pos _ j (by simpa using hj)]; rw [zk9 hj] at hu; simpa using hu
end Go.Proofs.YtbkookiigkckdaaGreatDoor
namespace Go.Proofs.YtbkookiigkckdaaGreatDoor
open Go.RowKit
theorem zjP (g n c : Nat) (bs : List UInt8) (w : World) (h : Buf w g n 0 bs) : Calls Tryz.prog 210 #[.slice (some ⟨g, 0, none⟩) n c] w fun r w' => r = .returned (.string ⟨bs.toArray⟩) ∧ w = w' := by
 obtain ⟨_, cs, hb, hs, hd⟩ := h; rw [List.drop_zero] at hd; have hn : bs.length = n := by rw [← hs, ← zc6 bs, ← hd]; simp
 subst hn
 have hc := run_convert_bytes_back (P := Tryz.prog) w 44 9 5 ⟨g, 0, none⟩ c bs Tryz.underlying44 Tryz.underlying5 Tryz.underlying9 (fun j hj => by
  have e1 : (⟨g, 0, none⟩ : Addr).add j = ⟨g, 0 + j, none⟩ := by unfold Addr.add; split <;> simp_all
  rw [e1, zlC, hb.cell]; have e2 : cs[j]? = (bc bs)[j]? := by rw [← hd]; simp
  rw [e2, zeu, zk9 hj]
  rfl)
 go_enter Tryz.func210, Tryz.ntmps210; go_wp2; go_ret; exact ⟨rfl, rfl⟩
def zas (l : List Lab) : ByteArray := ⟨(zax l).toArray⟩
def LabMade (l : List Lab) (S : Nat → Prop) (w : World) (r : Ending) (w' : World) : Prop :=
 ∃ l' : List Lab, l'.Perm l ∧ l'.Pairwise (fun a b => nlt b.1 a.1 = false) ∧ r = .returned (.agg #[.string (zas l')]) ∧ Fr S w w'
theorem buf_new (w : World) (n : Nat) : Buf (w.alloc (.cells (madeCells #[.int .u8 0] n) 5)) w.heap.size n n [] := by
 refine ⟨zlj _, _, Blk.new w 5 _, size_madeCells _ _, ?_⟩; rw [List.drop_of_length_le (by rw [Array.length_toList, size_madeCells]; exact zlj _)]; rfl
theorem zki {l l' : List Lab} (h : l'.Perm l) (hs : ∀ p ∈ l, p.1.size ≤ 1048576 ∧ p.2.size ≤ 1048576) : ∀ p ∈ l', p.1.size ≤ 1048576 ∧ p.2.size ≤ 1048576 := fun p hp => hs p (h.mem_iff.mp hp)
theorem new_any (base : Nat) (v : Value) (l : List Lab) (w : World) (h : w.ownsRow base 108 2 v l.length (l.flatMap zbv)) (hl : l.length ≤ 12) (hs : ∀ p ∈ l, p.1.size ≤ 1048576 ∧ p.2.size ≤ 1048576) :
 Calls Tryz.prog 148 #[v] w (LabMade l (fun k => v.ownBlock = some k) w) := by
 have hA : w.alloc (.cells #[.string ⟨#[]⟩] 99) = w.alloc (.cells #[.string ⟨#[]⟩] 99) := rfl; have hown : (w.alloc (.cells #[.string ⟨#[]⟩] 99)).ownsRow base 108 2 v l.length (l.flatMap zbv) := h.alloc _; have hSort := sort_any base v l _ hown hl; have HO := zk7 h; have HS := zk7 hs; have hlt : ∀ k, v.ownBlock = some k → k < w.heap.size := fun k hk => zav h hk; clear h hs hown hA
 go_enter Tryz.func148, Tryz.ntmps148; go_wp2_with (go_at_call 205; refine hSort.mono ?_; rintro r w1 ⟨rfl, l', hperm, hsort, hsl, hf⟩)
 have hb0 : Blk w1 w.heap.size 99 #[.string ⟨#[]⟩] := (Blk.new w 99 _).fr hf (fun e => zlR _ (hlt _ e)); have hs' := zki hperm HS.out; have hl' : l'.length ≤ 12 := by rw [hperm.length_eq]; exact hl
 have hF1 : Fr (fun k => v.ownBlock = some k) w w1 := ((zlW _ w).alloc _).same hf; refine (zeq _ v l' w1 hsl (by omega) hs').mono ?_; rintro r w2 ⟨rfl, hf2⟩; have hsl2 := hsl.fr hf2 (fun _ _ e => e); have hb2 := hb0.fr hf2 (fun e => e); have hle := zdF l' hs'; obtain ⟨n, hn⟩ : ∃ n, zaA l' = n := ⟨_, rfl⟩; rw [hn] at hle ⊢; have hnb : n ≤ 25165920 := by
  have : l'.length * 2097160 ≤ 12 * 2097160 := zlk _ hl'; exact zlQ hle this
 have hmk : ∀ W : World, (Instr.makeSlice 44 (.int .i64 (n : Int)) (.int .i64 (n : Int))).run Tryz.prog W = .ok (.slice (some ⟨W.heap.size, 0, none⟩) n n) (W.alloc (.cells (madeCells #[.int .u8 0] n) 5)) := fun W =>
  run_make_row' (P := Tryz.prog) 44 5 (.int .u8 0) 1 Tryz.underlying44 Tryz.info5 rfl .i64 .i64 n (by omega) (by omega) W
 have hF2 : Fr (fun k => v.ownBlock = some k) w w2 := hF1.trans hf2 (fun _ _ e => e.elim); have hM := zdv _ v l' w2.heap.size n n (w2.alloc (.cells (madeCells #[.int .u8 0] n) 5)) (hsl2.fr ((zlW (fun _ => False) w2).alloc _) (fun _ _ e => e))
  (fun e => zlR _ (zlw (hlt _ e) hF2.size)) (by omega) hs' (buf_new w2 n) hn.symm (zlj _) (by omega)
 have hbne : w.heap.size ≠ w2.heap.size := Nat.ne_of_lt hb2.lt; have hF3 : Fr (fun k => v.ownBlock = some k) w (w2.alloc (.cells (madeCells #[.int .u8 0] n) 5)) := hF2.alloc _; have hb3 := hb2.alloc (.cells (madeCells #[.int .u8 0] n) 5); have H := zk7 (And.intro hperm (And.intro hsort (And.intro hF3 (And.intro hb3 (And.intro hlt hF2.size)))))
 clear HO HS hsl hsl2 hF1 hF2 hb0 hb2 hf hf2 hs' hle hn hlt hperm hsort hF3 hb3 hSort hl'; go_wp2_with (first | (go_at_call 209; refine hM.mono ?_; rintro r w3 ⟨rfl, hB3, hf3⟩; have hY := zjP w2.heap.size n n (zax l') w3 hB3) | (go_at_call 210; refine hY.mono ?_; rintro r w4 ⟨rfl, rfl⟩; have hb4 := H.out.2.2.2.1.fr hf3 hbne; have c4 := hb4.cell 0; have f4 := hb4.frozen 0))
 have hb5 := hb4.set_ 0 (.string ⟨(zax l').toArray⟩); obtain ⟨h1, h2, h3, _, hlt, hsz⟩ := H.out; have hF4 : Fr (fun k => v.ownBlock = some k) w w3 := h3.trans (S' := fun k => k = w2.heap.size) hf3 (fun k hk e => by subst e; omega)
 have hF5 : Fr (fun k => v.ownBlock = some k) w (w3.setCell ⟨w.heap.size, 0, none⟩ (.string ⟨(zax l').toArray⟩)) := hF4.setCell (p := ⟨w.heap.size, 0, none⟩) (.inr (zlj _)) _; have hb6 : Blk (w3.setCell ⟨w.heap.size, 0, none⟩ (.string ⟨(zax l').toArray⟩)) w.heap.size 99 #[.string (zas l')] := hb5; clear hb5
 generalize w3.setCell ⟨w.heap.size, 0, none⟩ (.string ⟨(zax l').toArray⟩) = w5 at hb6 hF5 ⊢; refine bodyPost_ret (results_cell_row (P := Tryz.prog) rfl _ _ w.heap.size 99 #[.string (zas l')] (0, 0) _ rfl hb6 Tryz.underlying99 rfl (by kernel_rfl)) rfl ?_; exact ⟨l', h1, h2, rfl, hF5⟩
theorem made_any (P : Nat → Prop) (v : Value) (l : List Lab) (w : World) (h : Sl P w v 2 l.length (l.flatMap zbv)) (hl : l.length ≤ 12) (hs : ∀ p ∈ l, p.1.size ≤ 1048576 ∧ p.2.size ≤ 1048576) :
 Calls Tryz.prog 54 #[v] w (LabMade l (fun _ => False) w) := by
 have hw : ∀ o, Sl P (w.alloc o) v 2 l.length (l.flatMap zbv) := fun o => h.fr ((zlW (fun _ => False) w).alloc o) (fun _ _ e => e); have hP := pairs_any P v l _ (hw (.cells #[.string ⟨#[]⟩] 99)) (by omega); clear h hw; go_enter Tryz.func54, Tryz.ntmps54; go_wp2_with (go_at_call 149; refine hP.mono ?_; rintro r w1 ⟨v1, rfl, hown, hf⟩)
 refine (new_any _ v1 l w1 hown hl hs).mono ?_; rintro r w2 ⟨l', h1, h2, rfl, hf2⟩; have hb0 : Blk w1 w.heap.size 99 #[.string ⟨#[]⟩] := (Blk.new w 99 _).fr hf (fun e => e); have hlo : ∀ k, v1.ownBlock = some k → w.heap.size < k := fun k hk => by
  have := (hown.lt k hk).1; rw [World.size_alloc] at this; exact this
 have hb1 : Blk w2 w.heap.size 99 #[.string ⟨#[]⟩] := hb0.fr hf2 (fun e => zlR _ (hlo _ e)); have c1 := hb1.cell 0; have f1 := hb1.frozen 0; have hF : Fr (fun _ => False) w w2 := ((zlW _ w).alloc _).same hf |>.trans hf2 (fun k hk e => Nat.lt_asymm hk (hlo k e)); go_wp2; have hb5 := hb1.set_ 0 (.string (zas l'))
 have hF5 : Fr (fun _ => False) w (w2.setCell ⟨w.heap.size, 0, none⟩ (.string (zas l'))) := hF.setCell (p := ⟨w.heap.size, 0, none⟩) (.inr (zlj _)) _; have hb6 : Blk (w2.setCell ⟨w.heap.size, 0, none⟩ (.string (zas l'))) w.heap.size 99 #[.string (zas l')] := hb5; clear hb5; generalize w2.setCell ⟨w.heap.size, 0, none⟩ (.string (zas l')) = w5 at hb6 hF5 ⊢
 refine bodyPost_ret (results_cell_row (P := Tryz.prog) rfl _ _ w.heap.size 99 #[.string (zas l')] (0, 0) _ rfl hb6 Tryz.underlying99 rfl (by kernel_rfl)) rfl ?_; exact ⟨l', h1, h2, rfl, hF5⟩
theorem zgj {s : ByteArray} {i : Nat} {r : List UInt8} (h : s.data.toList.drop i = r) (j : Nat) (c : UInt8) (hj : r[j]? = some c) : ∃ h : i + j < s.size, s[i + j] = c := by
 subst h; rw [List.getElem?_drop] at hj; have hlt : i + j < s.data.toList.length := by
  rcases zlA (i + j) s.data.toList.length with h | h
  ·exact h
  ·rw [zlB h] at hj; cases hj
 have hlt2 : i + j < s.size := by rw [← Lib.size_eq] at hlt; exact hlt
 refine ⟨hlt2, ?_⟩; rw [zk9 hlt] at hj; injection hj
theorem zdp (s : ByteArray) (i v : Nat) (r : List UInt8) (hv : v < 16777216) (hi : i ≤ 1099511627776) (h : s.data.toList.drop i = zbr v ++ r) (w : World) :
 Calls Tryz.prog 150 #[.string s, .int .i64 i] w fun e w' => e = .returned (.tuple #[.int .i64 v, .int .i64 (i + zaz v : Nat)]) ∧ Fr (fun _ => False) w w' := by
 by_cases hlt : v < 255
 ·have e1 : zaz v = 1 := if_pos hlt
  rw [e1]; have e2 : zbr v = [UInt8.ofNat v] := if_pos hlt; rw [e2] at h; obtain ⟨h0, hs0⟩ := zgj h 0 (UInt8.ofNat v) rfl; rw [Nat.add_zero] at h0; have hs0' : s[i] = UInt8.ofNat v := hs0; have e3 : ((UInt8.ofNat v).toNat : Int) = v := by simp; omega
  have h1 : ¬ (v : Int) = 255 := by omega
  clear h hs0; go_enter Tryz.func150, Tryz.ntmps150; go_wp2; refine bodyPost_ret (results_tmp2 rfl _ _ _) rfl ?_; refine ⟨?_, zlW _ _⟩; have e4 : (v : Int) % 256 = v := by omega
  simp [e4]
 ·have e1 : zaz v = 4 := if_neg hlt
  rw [e1]; have e2 : zbr v = [255, UInt8.ofNat v, UInt8.ofNat (v / 256), UInt8.ofNat (v / 65536)] := if_neg hlt; rw [e2] at h; obtain ⟨h0, hs0⟩ := zgj h 0 255 rfl; obtain ⟨h1, hs1⟩ := zgj h 1 (UInt8.ofNat v) rfl; obtain ⟨h2, hs2⟩ := zgj h 2 (UInt8.ofNat (v / 256)) rfl; obtain ⟨h3, hs3⟩ := zgj h 3 (UInt8.ofNat (v / 65536)) rfl; rw [Nat.add_zero] at h0
  have hs0' : s[i] = 255 := hs0; have ix : ∀ (a : Int) (j : Nat) (c : UInt8) (hj : j < s.size) (hc : s[j] = c) (ha : a = j) (W : World), (Instr.index 9 (.string s) (.int .i64 a)).run Tryz.prog W = .ok (.int .u8 c.toNat) W := by
   intro a j c hj hc ha W; subst ha; rw [run_index_string W 9 s .i64 j Tryz.underlying9]; simp [hj, hc]
  have x1 := ix (i + 1) (i + 1) _ h1 hs1 (by omega); have x2 := ix (i + 1 + 1) (i + 2) _ h2 hs2 (by omega); have x3 := ix (i + 1 + 2) (i + 3) _ h3 hs3 (by omega); clear h hs0 ix; go_enter Tryz.func150, Tryz.ntmps150; go_wp2; go_big_region
  all_goals go_wp2
  refine bodyPost_ret (results_tmp2 rfl _ _ _) rfl ?_; refine ⟨?_, (zlW _ _).drew⟩; have e5 : (v : Int) % 256 + (v : Int) / 256 % 256 * 256 + (v : Int) / 65536 % 256 * 65536 = v := by omega
  have e6 : (i : Int) + 1 + 3 = ((i + 4 : Nat) : Int) := by omega
  simp [e5, e6]
theorem zkL {s : ByteArray} {i : Nat} {a : ByteArray} {r : List UInt8} (h : s.data.toList.drop i = a.data.toList ++ r) : s.extract i (i + a.size) = a := by
 apply ByteArray.ext; apply Array.toList_inj.1; rw [Lib.extract_data, h, Nat.add_sub_cancel_left, Lib.size_eq, List.take_left']; rfl
theorem zcr {s : ByteArray} {i : Nat} {a r : List UInt8} (h : s.data.toList.drop i = a ++ r) : s.data.toList.drop (i + a.length) = r := by
 rw [← List.drop_drop, h, List.drop_left]
theorem zdo {s : ByteArray} {i : Nat} {a r : List UInt8} (h : s.data.toList.drop i = a ++ r) (hi : i ≤ s.size) : i + a.length ≤ s.size := by
 have h2 : (s.data.toList.drop i).length = (a ++ r).length := by rw [h]
 rw [List.length_drop, zk8, ← Lib.size_eq] at h2; omega
theorem zdZ (s a : ByteArray) (i : Nat) (r : List UInt8) (hv : a.size < 16777216) (hi : i ≤ s.size) (hs : s.size ≤ 1099511627776) (h : s.data.toList.drop i = zbr a.size ++ (a.data.toList ++ r)) (w : World) :
 Calls Tryz.prog 158 #[.string s, .int .i64 i] w fun e w' => e = .returned (.tuple #[.string a, .int .i64 (i + zaz a.size + a.size : Nat)]) ∧ Fr (fun _ => False) w w' := by
 have hD := zdp s i a.size _ hv (by omega) h w; have h2 := zcr h; have hl := zdo h hi; rw [zbV] at h2 hl; have hE := zkL h2; have hl2 := zdo h2 hl; have e1 : a.data.toList.length = a.size := by rw [← Lib.size_eq]
 rw [e1] at hl2; clear h h2 e1; generalize i + zaz a.size = j at hD hE hl hl2 ⊢; have hsl : ∀ W : World, (Instr.slice 9 (.string s) (some (.int .i64 (j : Int))) (some (.int .i64 ((j : Int) + a.size))) none).run Tryz.prog W = .ok (.string a) W := fun W => by
  rw [run_slice_string W 9 s .i64 .i64 j (j + a.size) Tryz.underlying9 (by omega) (by omega) (by omega)]; have e2 : ((j : Int) + a.size).toNat = j + a.size := by omega
  rw [e2, Int.toNat_natCast, hE]
 go_enter Tryz.func158, Tryz.ntmps158; go_wp2_with (go_at_call 150; refine hD.mono ?_; rintro e w1 ⟨rfl, hf⟩)
 refine bodyPost_ret (results_tmp2 rfl _ _ _) rfl ?_; exact ⟨by simp, hf⟩
theorem zey (l : List Lab) : (zas l).size = zaA l := by
 rw [← zho]; rfl
theorem zh1 (l : List Lab) (g : FuncId) (cb : Array Value) (eg : ∀ args w, (callFunc g args).run Tryz.prog w = .ok (.enter g args) w) (J : Nat → World → Prop) (w : World)
 (hs : ∀ p ∈ l, p.1.size < 16777216 ∧ p.2.size < 16777216) (hsz : zaA l ≤ 1099511627776)
 (hJ : ∀ k W W', J k W → Fr (fun _ => False) W W' → J k W') (h0 : J 0 w)
 (step : ∀ k x W, l[k]? = some x → J k W → Blk W w.heap.size 99 #[.string (zas l)] → Calls Tryz.prog g (#[.agg #[.string x.1, .string x.2]] ++ cb) W fun r w' => r = .returned (.tuple #[]) ∧ J (k + 1) w' ∧ Blk w' w.heap.size 99 #[.string (zas l)]) :
 Calls Tryz.prog 152 #[.agg #[.string (zas l)], .func (.func g) #[] cb] w fun r w' => r = .returned (.tuple #[]) ∧ J l.length w' := by
 have hss : (zas l).size ≤ 1099511627776 := by rw [zey]; exact hsz
 have hd0 : (zas l).data.toList.drop 0 = zax (l.drop 0) := by simp [zas]
 have J1 : J 0 (w.alloc (.cells #[.string (zas l)] 99)) := hJ 0 w _ h0 ((zlW _ w).alloc _); have B1 : Blk (w.alloc (.cells #[.string (zas l)] 99)) w.heap.size 99 #[.string (zas l)] := Blk.new w 99 _; generalize hS : zas l = s at *
 have STEP := zk7 step; have HJ := zk7 hJ; have HS := zk7 hs; have HJ1 := zk7 J1; have HB1 := zk7 B1; have HD0 := zk7 hd0; clear step hJ hs J1 B1 hd0 h0 hS; go_enter Tryz.func152, Tryz.ntmps152; go_wp2
 go_loopw [4] (fun vi wr => ∃ (i k : Nat), vi = .int .i64 i ∧ k ≤ l.length ∧ i ≤ s.size ∧ Hid (s.data.toList.drop i = zax (l.drop k)) ∧ Hid (J k wr) ∧ Hid (Blk wr w.heap.size 99 #[.string s])) (fun vi _ => s.size - (intOf vi).toNat)
 case atStart => exact ⟨0, 0, rfl, zli _, zli _, HD0, HJ1, HB1⟩
 case round =>
  obtain ⟨i, k, rfl, hk, hi, HD, HJk, HB⟩ := hrel; have c0 : wr.cell? ⟨w.heap.size, 0, none⟩ = some (.string s) := HB.out.cell 0; by_cases hlt : k < l.length
  ·obtain ⟨x, hx⟩ : ∃ x, l[k]? = some x := ⟨_, zk9 hlt⟩
   have hxs := HS.out x (zlf hx); have hD : s.data.toList.drop i = zbr x.1.size ++ (x.1.data.toList ++ (zbr x.2.size ++ (x.2.data.toList ++ zax (l.drop (k + 1))))) := by
    rw [HD.out, zdm l k x hx]; simp [zcP]
   have q1 := fun W => zdZ s x.1 i _ hxs.1 hi hss hD W; have d1 := zdo hD hi; have h2 := zcr hD; have d2 := zdo h2 d1; have h3 := zcr h2; have e1 : x.1.data.toList.length = x.1.size := by rw [← Lib.size_eq]
   rw [zbV, e1] at h3 d2; obtain ⟨i2, hi2⟩ : ∃ i2, i + zaz x.1.size + x.1.size = i2 := ⟨_, rfl⟩; rw [hi2] at h3 d2; have q2 := fun W => zdZ s x.2 i2 _ hxs.2 d2 hss h3 W; have d3 := zdo h3 d2; have h4 := zcr h3; have d4 := zdo h4 d3; have h5 := zcr h4; have e2 : x.2.data.toList.length = x.2.size := by rw [← Lib.size_eq]
   rw [zbV, e2] at h5 d4; obtain ⟨i3, hi3⟩ : ∃ i3, i2 + zaz x.2.size + x.2.size = i3 := ⟨_, rfl⟩; rw [hi3] at h5 d4; simp only [hi2] at q1; simp only [hi3] at q2; have hpos : 0 < zaz x.1.size := by unfold zaz; split <;> omega
   have hlt1 : i < s.size := by omega
   have hgo : i < i3 := by omega
   have H5 := zk7 h5; have HX := zk7 hx; clear hD d1 h2 h3 d2 d3 h4 h5 e1 e2 hx hi2 hi3 hxs hpos
   go_wp2_with (first
    | (go_at_call_of 158 (Value.int .i64 (i : Int)); refine (q1 _).mono ?_; rintro r w1 ⟨rfl, hf1⟩; have HB2 := zk7 (HB.out.fr hf1 (fun e => e)); have HJ2 := zk7 (HJ.out _ _ _ HJk.out hf1); have c1 := HB2.out.cell 0)
    | (go_at_call_of 158 (Value.int .i64 (i2 : Int)); refine (q2 _).mono ?_; rintro r w2 ⟨rfl, hf2⟩; have HB3 := zk7 (HB2.out.fr hf2 (fun e => e)); have HJ3 := zk7 (HJ.out _ _ _ HJ2.out hf2))
    | (go_at_fn g; refine (STEP.out k x _ HX.out HJ3.out HB3.out).mono ?_; rintro r w3 ⟨rfl, hj4, hb4⟩))
   exact ⟨⟨i3, k + 1, rfl, hlt, d4, H5, zk7 hj4, zk7 hb4⟩, by show s.size - ((i3 : Int)).toNat < s.size - ((i : Int)).toNat; omega⟩
  ·obtain rfl : k = l.length := by omega
   have hD := HD.out; rw [List.drop_length] at hD; have hi2 : i = s.size := by
    have h := congrArg List.length hD; rw [List.length_drop, ← Lib.size_eq] at h; simp [zax] at h; omega
   subst hi2; have hlt1 : ¬ ((s.size : Int) < s.size) := by omega
   go_wp2; go_end0; exact ⟨rfl, HJk.out⟩
theorem cv_fr {S : Nat → Prop} {w w' : World} (h : Fr S w w') (s : ByteArray) : Fr S w (Lib.bytesWorld w' 5 s) := by
 refine h.trans (S' := fun _ => False) ⟨?_, ?_, ?_, by rw [Lib.bytesWorld_size]; omega, fun k hk _ => Lib.bytesWorld_at_old w' 5 s k hk⟩ (fun _ _ e => e.elim); all_goals rfl
theorem cv_go (w : World) (s : ByteArray) : (convert 9 44 (.string s)).run Tryz.prog w = .ok (.slice (some ⟨w.heap.size, 0, none⟩) s.size (grownCap w s.size 0 5)) (Lib.bytesWorld w 5 s) :=
 Lib.run_convert_string_bytes w 9 44 5 s Tryz.underlying9 Tryz.underlying44 Tryz.underlying5
theorem cv_back (w : World) (s : ByteArray) (c : Nat) : (convert 44 9 (.slice (some ⟨w.heap.size, 0, none⟩) s.size c)).run Tryz.prog (Lib.bytesWorld w 5 s) = .ok (.string s) (Lib.bytesWorld w 5 s) := by
 have h := run_convert_bytes_back (P := Tryz.prog) (Lib.bytesWorld w 5 s) 44 9 5 ⟨w.heap.size, 0, none⟩ c s.data.toList Tryz.underlying44 Tryz.underlying5 Tryz.underlying9 (fun j hj => by
  have e1 : (⟨w.heap.size, 0, none⟩ : Addr).add j = ⟨w.heap.size, 0 + j, none⟩ := by unfold Addr.add; split <;> simp_all
  have hj2 : j < s.size := by rw [Lib.size_eq]; exact hj
  rw [e1, zlC, Lib.bytesWorld_cell w 5 s j hj2]
  simp [List.getD, zk9 hj])
 rw [← Lib.size_eq] at h; rw [h]
def UJ (w0 : World) (c : Nat) (l : List Lab) (k : Nat) (W : World) : Prop :=
 ∃ v, Blk W c 31 #[v] ∧ W.ownsRow w0.heap.size 40 2 v k ((l.take k).flatMap zbv) ∧ Fr (fun _ => False) w0 W
theorem ziZ (w0 : World) (c b : Nat) (hc : w0.heap.size ≤ c) (cs : Array Value) (l : List Lab) (k : Nat) (x : Lab) (hx : l[k]? = some x) (hl : l.length ≤ 1099511627776) (W : World) (h : UJ w0 c l k W) (hb : Blk W b 99 cs) :
 Calls Tryz.prog 163 #[.agg #[.string x.1, .string x.2], .pointer (some ⟨c, 0, none⟩)] W fun r w' => r = .returned (.tuple #[]) ∧ UJ w0 c l (k + 1) w' ∧ Blk w' b 99 cs := by
 obtain ⟨v, hcb, hown, hf⟩ := h; obtain ⟨i0, hi0, hz0, hz1, hz2⟩ := info_parts Tryz.info40; have hk : k < l.length := (List.getElem?_eq_some_iff.mp hx).1; obtain ⟨n, y⟩ := x; obtain ⟨W1, hW1⟩ : ∃ W1, W.alloc (.cells #[.string n, .string y] 108) = W1 := ⟨_, rfl⟩; have hB1 : Blk W1 W.heap.size 108 #[.string n, .string y] := by rw [← hW1]; exact Blk.new W 108 _
 have F1 : Fr (fun _ => False) W W1 := by rw [← hW1]; exact (zlW _ W).alloc _
 obtain ⟨W2, hW2⟩ : ∃ W2, Lib.bytesWorld W1 5 n = W2 := ⟨_, rfl⟩; have F2 : Fr (fun _ => False) W1 W2 := by rw [← hW2]; exact cv_fr (zlW _ W1) n
 obtain ⟨W3, hW3⟩ : ∃ W3, Lib.bytesWorld W2 5 y = W3 := ⟨_, rfl⟩; have F3 : Fr (fun _ => False) W2 W3 := by rw [← hW3]; exact cv_fr (zlW _ W2) y
 have a1 := cv_go W1 n; have a2 := cv_back W1 n (grownCap W1 n.size 0 5); have a3 := cv_go W2 y; have a4 := cv_back W2 y (grownCap W2 y.size 0 5); rw [hW2] at a1 a2; rw [hW3] at a3 a4; have c1 : W1.cell? ⟨c, 0, none⟩ = some v := (hcb.fr F1 (fun e => e)).cell 0; have c2 : W1.cell? ⟨W.heap.size, 0, none⟩ = some (.string n) := hB1.cell 0
 have c3 : W2.cell? ⟨W.heap.size, 1, none⟩ = some (.string y) := (hB1.fr F2 (fun e => e)).cell 1; obtain ⟨a', n', k', rfl⟩ := zae hown; have FF : Fr (fun _ => False) W W3 := (F1.same F2).same F3; have HO := zk7 (zah hown FF (fun _ _ e => e)); have HC := zk7 (hcb.fr FF (fun e => e)); have HBb := zk7 (hb.fr FF (fun e => e)); have HF := zk7 (hf.same FF); have HX := zk7 hx
 have hsz0 : w0.heap.size ≤ W3.heap.size := (hf.same FF).size; clear hown hcb hb hf FF F1 F2 F3 hB1; go_enter Tryz.func163, Tryz.ntmps163; go_wp2_with (at_builtin; refine Hid.out ?_)
 refine zk7 ?_; refine zad _ rfl _ _ 31 31 rfl w0.heap.size 40 i0 _ 2 32 Tryz.underlying31 hi0 hz0 hz1 hz2 rfl (by decide) _ k ((l.take k).flatMap zbv) rfl (HO.out.alloc _) _ 1 (zbv (n, y)) rfl (zaF Tryz.underlying31 (Blk.new W3 40 (zbv (n, y)).toArray) rfl (by simp [zbv, Value.oneCell'])) (by unfold maxLen; omega) (by omega) (by simp; omega) ?_; intro v' w2 hown' hgrow hat
 have hg : (W3.alloc (.cells (zbv (n, y)).toArray 40)).grownBy w2 (Value.slice a' n' k').ownBlock := hgrow; have n1 := zak HO.out HC.out (by decide); have n2 := zak HO.out HBb.out (by decide); have hC2 : Blk w2 c 31 #[.slice a' n' k'] := (HC.out.alloc _).grown hg (fun e => n1 e.symm); have hB2 : Blk w2 b 99 cs := (HBb.out.alloc _).grown hg (fun e => n2 e.symm)
 have hF2 : Fr (fun _ => False) w0 w2 := (HF.out.alloc _).grown hg (fun k hk => .inr ((HO.out.lt k hk).1)); have hown2 : w2.ownsRow w0.heap.size 40 2 v' (k + 1) ((l.take (k + 1)).flatMap zbv) := by rw [zao zbv l k _ HX.out]; exact hown'
 obtain ⟨a5, n5, k5, rfl⟩ := zae hown2; have c4 := hC2.cell 0; have f4 := hC2.frozen 0; have hne : b ≠ c := Blk.ne_ hB2 hC2 (by decide); have HH := zk7 (And.intro hC2 (And.intro hB2 (And.intro hF2 (And.intro hown2 hne)))); clear hgrow hat hg hown' n1 n2 hC2 hB2 hF2 hown2 hne a1 a2 a3 a4 c1 c2 c3 hW1 hW2 hW3; go_wp2; go_end0; obtain ⟨hC2, hB2, hF2, hown2, hne⟩ := HH.out
 refine ⟨rfl, ⟨_, hC2.set_ 0 _, ?_, hF2.setCell (p := ⟨c, 0, none⟩) (.inr hc) _⟩, hB2.far hne _⟩; exact zah (S := fun k => k = c) hown2 (Fr.at_ w2 c 0 _) (fun g hg e => zak hown2 hC2 (by decide) (by rw [hg]; exact congrArg some e))
theorem UJ.fr {w0 : World} {c : Nat} {l : List Lab} {k : Nat} {W W' : World} (h : UJ w0 c l k W) (hf : Fr (fun _ => False) W W') : UJ w0 c l k W' := by
 obtain ⟨v, h1, h2, h3⟩ := h; exact ⟨v, h1.fr hf (fun e => e), zah h2 hf (fun _ _ e => e), h3.same hf⟩
theorem zgH (l : List Lab) (w : World) (hl : l.length ≤ 1099511627776) (hs : ∀ p ∈ l, p.1.size < 16777216 ∧ p.2.size < 16777216) (hsz : zaA l ≤ 1099511627776) :
 Calls Tryz.prog 70 #[.agg #[.string (zas l)]] w (LabEnds 40 w l) := by
 have eg : ∀ args w, (callFunc 163 args).run Tryz.prog w = .ok (.enter 163 args) w := enters_of Tryz.func163 (by kernel_rfl) rfl; obtain ⟨W, hW⟩ : ∃ W, (w.alloc (.cells #[.string (zas l)] 99)).alloc (.cells #[.slice none 0 0] 31) = W := ⟨_, rfl⟩; have hb1 : Blk W (w.heap.size + 1) 31 #[.slice none 0 0] := by rw [← hW]; exact za6 w _ 31 _
 have hF : Fr (fun _ => False) w W := by rw [← hW]; exact ((zlW _ w).alloc _).alloc _
 have hJ0 : UJ w (w.heap.size + 1) l 0 W := ⟨_, hb1, zll _ _ _ _, hF⟩; have hR := zh1 l 163 #[.pointer (some ⟨w.heap.size + 1, 0, none⟩)] eg (UJ w (w.heap.size + 1) l) W hs hsz (fun _ _ _ h hf => h.fr hf) hJ0
  (fun k x W' hx hj hb => ziZ w (w.heap.size + 1) W.heap.size (by omega) _ l k x hx hl W' hj hb)
 have c0 : W.cell? ⟨w.heap.size, 0, none⟩ = some (.string (zas l)) := by rw [← hW]; exact ((Blk.new w 99 #[.string (zas l)]).alloc _).cell 0
 generalize zas l = s at hR hW c0 ⊢; clear hJ0 hF hb1 hs hsz; have hmf : ∀ (fn : Fn) (first cap : Array Value) (w : World), (Instr.makeFunc fn first cap).run Tryz.prog w = .ok (.func fn first cap) w := fun _ _ _ _ => rfl; go_enter Tryz.func70, Tryz.ntmps70; go_wp2_with (go_at_call 152; refine hR.mono ?_; rintro r w1 ⟨rfl, v, h1, h2, h3⟩; have c1 := h1.cell 0)
 go_ret; rw [zly] at h2; exact ⟨v, rfl, h2, h3⟩
end Go.Proofs.YtbkookiigkckdaaGreatDoor
namespace Go.Proofs.YtbkookiigkckdaaGreatDoor
def lpos {α} (lt : α → α → Bool) (x : α) (out : List α) : Nat → Nat
 | 0 => 0
 | k + 1 => match out[k]? with
   | some y => if lt x y = true then lpos lt x out k else k + 1
   | none => k + 1
def lins {α} (lt : α → α → Bool) (out : List α) (x : α) : List α := out.take (lpos lt x out out.length) ++ x :: out.drop (lpos lt x out out.length)
def lsort {α} (lt : α → α → Bool) (l : List α) : List α := l.foldl (lins lt) []
theorem lpos_le {α} (lt : α → α → Bool) (x : α) (out : List α) : ∀ k, lpos lt x out k ≤ k
 | 0 => zlj _
 | k + 1 => by
   unfold lpos; split
   ·split
    ·exact Nat.le_succ_of_le (lpos_le lt x out k)
    ·exact zlj _
   ·exact zlj _
theorem zfW {α} (lt : α → α → Bool) (x : α) (out : List α) : ∀ k j y, lpos lt x out k ≤ j → j < k → out[j]? = some y → lt x y = true
 | 0, j, y, _, h, _ => by omega
 | k + 1, j, y, h1, h2, hy => by
   unfold lpos at h1; split at h1
   ·rename_i z hz
    split at h1
    ·rename_i hlt
     by_cases e : j = k
     ·subst e; rw [hy] at hz; injection hz with hz; subst hz; exact hlt
     ·exact zfW lt x out k j y h1 (by omega) hy
    ·omega
   ·omega
theorem zfX {α} (lt : α → α → Bool) (x : α) (out : List α) : ∀ k p, k ≤ out.length → lpos lt x out k = p + 1 → ∃ y, out[p]? = some y ∧ lt x y = false
 | 0, p, _, h => by simp [lpos] at h
 | k + 1, p, hk, h => by
   unfold lpos at h; split at h
   ·rename_i z hz
    split at h
    ·exact zfX lt x out k p (by omega) h
    ·rename_i hlt
     injection h with h; subst h; exact ⟨z, hz, by simpa using hlt⟩
   ·rename_i hz
    rw [List.getElem?_eq_none_iff] at hz; omega
theorem zh5 {α} (lt : α → α → Bool) (out : List α) (x : α) : (lins lt out x).Perm (x :: out) := by
 unfold lins; refine List.perm_middle.trans ?_; rw [List.take_append_drop]
theorem zjj {α} (lt : α → α → Bool) (ht : ∀ a b c, lt a b = true → lt b c = true → lt a c = true) (hi : ∀ a, lt a a = false) (hn : ∀ a b c, lt a b = false → lt b c = false → lt a c = false)
 (out : List α) (x : α) (h : out.Pairwise (fun a b => lt b a = false)) : (lins lt out x).Pairwise (fun a b => lt b a = false) := by
 have hasym : ∀ a b, lt a b = true → lt b a = false := fun a b hab => by
  cases e : lt b a with
  | false => rfl
  | true => have := ht a b a hab e; rw [hi] at this; cases this
 unfold lins; obtain ⟨p, hp⟩ : ∃ p, lpos lt x out out.length = p := ⟨_, rfl⟩; rw [hp]; have hle := lpos_le lt x out out.length; rw [hp] at hle; have hbehind : ∀ y ∈ out.drop p, lt x y = true := fun y hy => by
  obtain ⟨j, hj⟩ := List.mem_iff_getElem?.mp hy; rw [List.getElem?_drop] at hj; have hlt := (List.getElem?_eq_some_iff.mp hj).1; exact zfW lt x out out.length (p + j) y (by omega) hlt hj
 have hbefore : ∀ y ∈ out.take p, lt x y = false := fun y hy => by
  obtain ⟨j, hj⟩ := List.mem_iff_getElem?.mp hy; rw [List.getElem?_take] at hj; split at hj
  ·rename_i hjp
   obtain ⟨q, rfl⟩ : ∃ q, p = q + 1 := ⟨p - 1, by omega⟩; obtain ⟨z, hz, hxz⟩ := zfX lt x out out.length q (zlj _) hp; by_cases e : j = q
   ·subst e; rw [hj] at hz; injection hz with hz; subst hz; exact hxz
   ·have hq := (List.getElem?_eq_some_iff.mp hz)
    have hjj := (List.getElem?_eq_some_iff.mp hj); obtain ⟨hq1, hq2⟩ := hq; obtain ⟨hj1, hj2⟩ := hjj; have := List.pairwise_iff_getElem.mp h j q hj1 hq1 (by omega); rw [hq2, hj2] at this; exact hn x z y hxz this
  ·cases hj
 have hsplit := h; rw [← List.take_append_drop p out, List.pairwise_append] at hsplit; obtain ⟨h1, h2, h3⟩ := hsplit; rw [List.pairwise_append]; refine ⟨h1, List.pairwise_cons.mpr ⟨fun y hy => hasym _ _ (hbehind y hy), h2⟩, ?_⟩; intro a ha b hb; rcases List.mem_cons.mp hb with rfl | hb
 ·exact hbefore a ha
 ·exact h3 a ha b hb
theorem zf3 {α} (lt : α → α → Bool) (ht : ∀ a b c, lt a b = true → lt b c = true → lt a c = true) (hi : ∀ a, lt a a = false) (hn : ∀ a b c, lt a b = false → lt b c = false → lt a c = false) :
 ∀ (l out : List α), out.Pairwise (fun a b => lt b a = false) → (l.foldl (lins lt) out).Pairwise (fun a b => lt b a = false) ∧ (l.foldl (lins lt) out).Perm (l ++ out)
 | [], out, h => ⟨h, List.Perm.refl _⟩
 | x :: l, out, h => by
   have ⟨h1, h2⟩ := zf3 lt ht hi hn l (lins lt out x) (zjj lt ht hi hn out x h); refine ⟨h1, h2.trans ?_⟩; refine (List.Perm.append_left l (zh5 lt out x)).trans ?_; exact List.perm_middle
theorem zck {α} (lt : α → α → Bool) (ht : ∀ a b c, lt a b = true → lt b c = true → lt a c = true) (hi : ∀ a, lt a a = false) (hn : ∀ a b c, lt a b = false → lt b c = false → lt a c = false) (l : List α) :
 (lsort lt l).Pairwise (fun a b => lt b a = false) ∧ (lsort lt l).Perm l := by
 have h := zf3 lt ht hi hn l [] List.Pairwise.nil; rw [zlt] at h; exact h
theorem zgI {α} (lt : α → α → Bool) : ∀ (l l' : List α), l'.Perm l → l.Pairwise (fun a b => lt b a = false) → l'.Pairwise (fun a b => lt b a = false) →
 (∀ a ∈ l, ∀ b ∈ l, lt a b = false → lt b a = false → a = b) → l' = l
 | [], l', hp, _, _, _ => List.Perm.eq_nil hp
 | x :: l, [], hp, _, _, _ => by have := hp.length_eq; simp at this
 | x :: l, y :: l', hp, h, h', ha => by
   have ey : y = x := by
    have hy : y ∈ x :: l := hp.mem_iff.mp (List.mem_cons_self); have hx : x ∈ y :: l' := hp.mem_iff.mpr (List.mem_cons_self); rcases List.mem_cons.mp hy with e | hy'
    ·exact e
    rcases List.mem_cons.mp hx with e | hx'
    ·exact e.symm
    exact ha y hy x List.mem_cons_self ((List.pairwise_cons.mp h).1 y hy') ((List.pairwise_cons.mp h').1 x hx')
   subst ey; have hp' := (List.perm_cons y).mp hp; rw [zgI lt l l' hp' (List.pairwise_cons.mp h).2 (List.pairwise_cons.mp h').2 (fun a h1 b h2 => ha a (List.mem_cons_of_mem _ h1) b (List.mem_cons_of_mem _ h2))]
theorem zjk {α} (lt : α → α → Bool) (out : List α) (x : α) : (lins lt out x).length = out.length + 1 := by
 rw [(zh5 lt out x).length_eq]; rfl
theorem zcI {α} (lt : α → α → Bool) (l : List α) : (lsort lt l).length = l.length := by
 unfold lsort; have : ∀ (l out : List α), (l.foldl (lins lt) out).length = l.length + out.length := by
  intro l; induction l with
  | nil => intro out; simp
  | cons x l ih => intro out; rw [List.foldl_cons, ih, zjk, zlp]; omega
 rw [this]; simp
end Go.Proofs.YtbkookiigkckdaaGreatDoor
namespace Go.Proofs.YtbkookiigkckdaaGreatDoor
open Go.RowKit Go.Sort
def ltL (a b : Lab) : Bool := nlt a.1 b.1
theorem zcW (a : Lab) : ltL a a = false := by simp [ltL, nlt, List.lt_irrefl]
theorem zdw (a b c : Lab) (h1 : ltL a b = true) (h2 : ltL b c = true) : ltL a c = true := by
 simp only [ltL, nlt, decide_eq_true_eq] at *; exact List.lt_trans h1 h2
theorem zcV (a b c : Lab) (h1 : ltL a b = false) (h2 : ltL b c = false) : ltL a c = false := by
 simp only [ltL, nlt, decide_eq_false_iff_not, List.not_lt] at *
 exact List.le_trans h2 h1
abbrev zbH (l : List Lab) : List Lab := lsort ltL l
theorem zh3 : ∀ (l : List Lab), l.Pairwise (fun a b => a.1 ≠ b.1) → ∀ a ∈ l, ∀ b ∈ l, a.1 = b.1 → a = b
 | [], _, a, ha, _, _, _ => by cases ha
 | x :: l, h, a, ha, b, hb, e => by
   obtain ⟨h1, h2⟩ := List.pairwise_cons.mp h; rcases List.mem_cons.mp ha with ea | ha2
   ·subst ea
    rcases List.mem_cons.mp hb with eb | hb2
    ·exact eb.symm
    ·exact absurd e (h1 b hb2)
   ·rcases List.mem_cons.mp hb with eb | hb2
    ·subst eb
     exact absurd e.symm (h1 a ha2)
    ·exact zh3 l h2 a ha2 b hb2 e
theorem zi3 (l l' : List Lab) (hp : l'.Perm l) (hs : l'.Pairwise (fun a b => nlt b.1 a.1 = false)) (hu : l.Pairwise (fun a b => a.1 ≠ b.1)) : l' = zbH l := by
 obtain ⟨h1, h2⟩ := zck ltL zdw zcW zcV l; refine zgI ltL (zbH l) l' (hp.trans h2.symm) h1 hs ?_; intro a ha b hb h3 h4; refine zh3 l hu a (h2.mem_iff.mp ha) b (h2.mem_iff.mp hb) ?_; simp only [ltL, nlt, decide_eq_false_iff_not, List.not_lt] at h3 h4; have h5 : a.1.data.toList = b.1.data.toList := List.le_antisymm h4 h3
 exact ByteArray.ext (Array.toList_inj.1 h5)
end Go.Proofs.YtbkookiigkckdaaGreatDoor
namespace Go.Proofs.YtbkookiigkckdaaGreatDoor
open Go.RowKit
def zbE (w : World) (r : Ending) (w' : World) : Prop := r = .returned (.bool true) ∧ Fr (fun _ => False) w w'
theorem zjb (A B : Option Addr) (c d : Nat) (w : World) : Calls Tryz.prog 103 #[.slice A 0 c, .slice B 0 d] w (zbE w) := by
 go_enter Tryz.func103, Tryz.ntmps103; go_wp2; go_loopw [5] (fun i wr => i = .int .i64 0 ∧ wr = w) (fun i _ => 0)
 case atStart => exact ⟨rfl, rfl⟩
 case round =>
  obtain ⟨rfl, rfl⟩ := hrel; go_wp2; go_ret; exact ⟨rfl, zlW _ _⟩
theorem zja (A B : Option Addr) (c d : Nat) (w : World) : Calls Tryz.prog 104 #[.slice A 0 c, .slice B 0 d] w (zbE w) := by
 go_enter Tryz.func104, Tryz.ntmps104; go_wp2; go_loopw [5] (fun i wr => i = .int .i64 0 ∧ wr = w) (fun i _ => 0)
 case atStart => exact ⟨rfl, rfl⟩
 case round =>
  obtain ⟨rfl, rfl⟩ := hrel; go_wp2; go_ret; exact ⟨rfl, zlW _ _⟩
theorem zjc (A B : Option Addr) (c d : Nat) (w : World) : Calls Tryz.prog 102 #[.slice A 0 c, .slice B 0 d] w (zbE w) := by
 go_enter Tryz.func102, Tryz.ntmps102; go_wp2; go_loopw [5] (fun i wr => i = .int .i64 0 ∧ wr = w) (fun i _ => 0)
 case atStart => exact ⟨rfl, rfl⟩
 case round =>
  obtain ⟨rfl, rfl⟩ := hrel; go_wp2; go_ret; exact ⟨rfl, zlW _ _⟩
theorem zkg (A B : Option Addr) (c d : Nat) (w : World) : Calls Tryz.prog 37 #[.slice A 0 c, .slice B 0 d] w (zbE w) := by
 go_enter Tryz.func37, Tryz.ntmps37; go_wp2; go_loopw [5] (fun i wr => i = .int .i64 0 ∧ wr = w) (fun i _ => 0)
 case atStart => exact ⟨rfl, rfl⟩
 case round =>
  obtain ⟨rfl, rfl⟩ := hrel; go_wp2; go_ret; exact ⟨rfl, zlW _ _⟩
theorem zjd (P Q : Nat → Prop) (u v : Value) (l : List Smp) (w : World) (hu : Sl P w u 3 l.length (l.flatMap Smp.a)) (hv : Sl Q w v 3 l.length (l.flatMap Smp.a)) (hl : l.length ≤ 1099511627776) : Calls Tryz.prog 101 #[u, v] w (zbE w) := by
 obtain ⟨A, c, rfl, _, hc, hr⟩ := hu; obtain ⟨B, d, rfl, _, hd, hs⟩ := hv; obtain ⟨n, hn⟩ : ∃ n, l.length = n := ⟨_, rfl⟩; rw [hn] at hr hs hc hd hl ⊢; have HN := zk7 hn; have HR := zk7 hr; have HS := zk7 hs; clear hn hr hs; go_enter Tryz.func101, Tryz.ntmps101; go_wp2
 go_loopw [5] (fun i wr => ∃ k : Nat, k ≤ n ∧ i = .int .i64 k ∧ Fr (fun _ => False) w wr) (fun i _ => n - (intOf i).toNat)
 case atStart => exact ⟨0, zli _, rfl, zlW _ _⟩
 case round =>
  obtain ⟨k, hk, rfl, hf⟩ := hrel; by_cases hlt : k < n
  ·obtain ⟨g, off, rfl, _, hcell⟩ := HR.out (by omega)
   obtain ⟨g2, off2, rfl, _, hcell2⟩ := HS.out (by omega); obtain ⟨x, hx⟩ : ∃ x, l[k]? = some x := ⟨_, zk9 (by rw [HN.out]; exact hlt)⟩; have key : ∀ {g off : Nat}, (∀ j u, (l.flatMap Smp.a)[j]? = some u → w.cell? ⟨g, off + j, none⟩ = some u) → ∀ j, j < 3 → ∀ u, (Smp.a x)[j]? = some u → wr.drew.cell? ⟨g, off + (k * 3 + j), none⟩ = some u := fun {g off} hcell j hj u hu => by
    have := hcell (k * 3 + j) u (by rw [zeA Smp.a (fun _ => rfl) l k x hx j hj]; exact hu); rw [hf.drew.cell (p := ⟨g, off + (k * 3 + j), none⟩) (zle w _ this) (fun e => e)]; exact this
   have c0 : wr.drew.cell? ⟨g, off + k * 3, none⟩ = some (.int .u64 x.ref) := key hcell 0 (by omega) _ rfl; have c1 : wr.drew.cell? ⟨g, off + k * 3 + 1, none⟩ = some (.int .i64 x.t) := key hcell 1 (by omega) _ rfl; have c2 : wr.drew.cell? ⟨g, off + k * 3 + 2, none⟩ = some (.int .u64 x.v) := key hcell 2 (by omega) _ rfl
   have d0 : wr.drew.cell? ⟨g2, off2 + k * 3, none⟩ = some (.int .u64 x.ref) := key hcell2 0 (by omega) _ rfl; have d1 : wr.drew.cell? ⟨g2, off2 + k * 3 + 1, none⟩ = some (.int .i64 x.t) := key hcell2 1 (by omega) _ rfl; have d2 : wr.drew.cell? ⟨g2, off2 + k * 3 + 2, none⟩ = some (.int .u64 x.v) := key hcell2 2 (by omega) _ rfl; have hf2 := zk7 hf.drew; clear hcell hcell2 key hf hx; go_wp2
   go_region; go_wp2; go_roundw
   case rel => exact ⟨k + 1, by omega, by go_num, hf2.out⟩
   case measure => simp [intOf]; omega
  ·obtain rfl : k = n := by omega
   go_wp2; go_ret; exact ⟨rfl, hf⟩
theorem zhU (A0 B0 A3 B3 : Option Addr) (c0 d0 c3 d3 : Nat) (p1 p2 p4 p5 p6 q1 q2 q4 q5 q6 : Value) (w : World)
 (hsl : ∀ s ∈ [p1, p2, p4, p5, p6, q1, q2, q4, q5, q6], ∃ A m c, s = .slice A m c)
 (h1 : ∀ W, Fr (fun _ => False) w W → Calls Tryz.prog 101 #[p1, q1] W (zbE W)) (h2 : ∀ W, Fr (fun _ => False) w W → Calls Tryz.prog 102 #[p2, q2] W (zbE W)) (h4 : ∀ W, Fr (fun _ => False) w W → Calls Tryz.prog 103 #[p4, q4] W (zbE W))
 (h5 : ∀ W, Fr (fun _ => False) w W → Calls Tryz.prog 104 #[p5, q5] W (zbE W)) (h6 : ∀ W, Fr (fun _ => False) w W → Calls Tryz.prog 37 #[p6, q6] W (zbE W)) :
 Calls Tryz.prog 32 #[.agg #[.slice A0 0 c0, p1, p2, .slice A3 0 c3, p4, p5, p6], .agg #[.slice B0 0 d0, q1, q2, .slice B3 0 d3, q4, q5, q6]] w (zbE w) := by
 obtain ⟨a1, m1, k1, rfl⟩ := hsl p1 (by simp); obtain ⟨a2, m2, k2, rfl⟩ := hsl p2 (by simp); obtain ⟨a4, m4, k4, rfl⟩ := hsl p4 (by simp); obtain ⟨a5, m5, k5, rfl⟩ := hsl p5 (by simp); obtain ⟨a6, m6, k6, rfl⟩ := hsl p6 (by simp); obtain ⟨b1, n1, j1, rfl⟩ := hsl q1 (by simp); obtain ⟨b2, n2, j2, rfl⟩ := hsl q2 (by simp); obtain ⟨b4, n4, j4, rfl⟩ := hsl q4 (by simp)
 obtain ⟨b5, n5, j5, rfl⟩ := hsl q5 (by simp); obtain ⟨b6, n6, j6, rfl⟩ := hsl q6 (by simp); have H1 := zk7 h1; have H2 := zk7 h2; have H4 := zk7 h4; have H5 := zk7 h5; have H6 := zk7 h6; clear hsl h1 h2 h4 h5 h6; go_enter Tryz.func32, Tryz.ntmps32; go_wp2_with fail
 have hP := (Blk.new w 54 #[.slice A0 0 c0, .slice a1 m1 k1, .slice a2 m2 k2, .slice A3 0 c3, .slice a4 m4 k4, .slice a5 m5 k5, .slice a6 m6 k6]).alloc (.cells #[.slice B0 0 d0, .slice b1 n1 j1, .slice b2 n2 j2, .slice B3 0 d3, .slice b4 n4 j4, .slice b5 n5 j5, .slice b6 n6 j6] 54)
 have hQ := Blk.new (w.alloc (.cells #[.slice A0 0 c0, .slice a1 m1 k1, .slice a2 m2 k2, .slice A3 0 c3, .slice a4 m4 k4, .slice a5 m5 k5, .slice a6 m6 k6] 54)) 54 #[.slice B0 0 d0, .slice b1 n1 j1, .slice b2 n2 j2, .slice B3 0 d3, .slice b4 n4 j4, .slice b5 n5 j5, .slice b6 n6 j6]
 obtain ⟨W, hW⟩ : ∃ W, (w.alloc (.cells #[.slice A0 0 c0, .slice a1 m1 k1, .slice a2 m2 k2, .slice A3 0 c3, .slice a4 m4 k4, .slice a5 m5 k5, .slice a6 m6 k6] 54)).alloc (.cells #[.slice B0 0 d0, .slice b1 n1 j1, .slice b2 n2 j2, .slice B3 0 d3, .slice b4 n4 j4, .slice b5 n5 j5, .slice b6 n6 j6] 54) = W := ⟨_, rfl⟩; have hF : Fr (fun _ => False) w W := hW ▸ ((zlW _ w).alloc _).alloc _
 rw [hW] at hP hQ ⊢; have e1 : ∀ (w : World) (o : Obj), (w.alloc o).heap.size = w.heap.size + 1 := fun w o => by simp
 rw [e1] at hQ; have x0 := hP.cell 0; have x1 := hP.cell 1; have x2 := hP.cell 2; have x3 := hP.cell 3; have x4 := hP.cell 4; have x5 := hP.cell 5; have x6 := hP.cell 6; have y0 := hQ.cell 0; have y1 := hQ.cell 1; have y2 := hQ.cell 2; have y3 := hQ.cell 3; have y4 := hQ.cell 4; have y5 := hQ.cell 5; have y6 := hQ.cell 6
 simp only [zls, zlq, zlr] at x0 x1 x2 x3 x4 x5 x6 y0 y1 y2 y3 y4 y5 y6; have HP := zk7 hP; have HQ := zk7 hQ; have HF := zk7 hF; clear hW hP hQ hF e1; go_loopw [5] (fun i wr => i = .int .i64 0 ∧ wr = W) (fun i _ => 0)
 case atStart => exact ⟨rfl, rfl⟩
 case round =>
  obtain ⟨rfl, rfl⟩ := hrel; go_wp2_with fail
  go_loopw [6] (fun i w' => i = .int .i64 0 ∧ w' = wr) (fun i _ => 0)
  case atStart => exact ⟨rfl, rfl⟩
  case round =>
   obtain ⟨rfl, rfl⟩ := hrel; go_wp2_with (go_at_call 101; refine (H1.out _ HF.out).mono ?_; rintro r W1 ⟨rfl, hf1⟩; refine Hid.out ?_)
   have F1 := zk7 (HF.out.same hf1); have hP1 := HP.out.fr hf1 (fun e => e); have hQ1 := HQ.out.fr hf1 (fun e => e); have P1 := zk7 hP1; have Q1 := zk7 hQ1; have u1 := hP1.cell 2; have v1 := hQ1.cell 2; simp only [zls, zlq, zlr] at u1 v1; clear hf1 hP1 hQ1; refine zk7 ?_
   go_wp2_with (go_at_call 102; refine (H2.out _ F1.out).mono ?_; rintro r W2 ⟨rfl, hf2⟩; refine Hid.out ?_)
   have F2 := zk7 (F1.out.same hf2); have hP2 := P1.out.fr hf2 (fun e => e); have hQ2 := Q1.out.fr hf2 (fun e => e); have P2 := zk7 hP2; have Q2 := zk7 hQ2; have u2 := hP2.cell 4; have v2 := hQ2.cell 4; simp only [zls, zlq, zlr] at u2 v2; clear hf2 hP2 hQ2; refine zk7 ?_
   go_wp2_with (go_at_call 103; refine (H4.out _ F2.out).mono ?_; rintro r W3 ⟨rfl, hf3⟩; refine Hid.out ?_)
   have F3 := zk7 (F2.out.same hf3); have hP3 := P2.out.fr hf3 (fun e => e); have hQ3 := Q2.out.fr hf3 (fun e => e); have P3 := zk7 hP3; have Q3 := zk7 hQ3; have u3 := hP3.cell 5; have v3 := hQ3.cell 5; simp only [zls, zlq, zlr] at u3 v3; clear hf3 hP3 hQ3; refine zk7 ?_
   go_wp2_with (go_at_call 104; refine (H5.out _ F3.out).mono ?_; rintro r W4 ⟨rfl, hf4⟩; refine Hid.out ?_)
   have F4 := zk7 (F3.out.same hf4); have hP4 := P3.out.fr hf4 (fun e => e); have hQ4 := Q3.out.fr hf4 (fun e => e); have P4 := zk7 hP4; have Q4 := zk7 hQ4; have u4 := hP4.cell 6; have v4 := hQ4.cell 6; simp only [zls, zlq, zlr] at u4 v4; clear hf4 hP4 hQ4; refine zk7 ?_
   go_wp2_with (go_at_call 37; refine (H6.out _ F4.out).mono ?_; rintro r W5 ⟨rfl, hf5⟩; refine Hid.out ?_)
   have F5 := zk7 (F4.out.same hf5); have hP5 := P4.out.fr hf5 (fun e => e); have hQ5 := Q4.out.fr hf5 (fun e => e); have P5 := zk7 hP5; have Q5 := zk7 hQ5; clear hf5 hP5 hQ5; refine zk7 ?_; go_wp2; go_ret; exact ⟨rfl, F5.out⟩
def LabOk (l : List Lab) (most bytes : Nat) : Prop := l.length ≤ most ∧ (∀ p ∈ l, p.1.size ≠ 0 ∧ p.1.size ≤ bytes ∧ p.2.size ≤ bytes) ∧ l.Pairwise (fun a b => a.1 ≠ b.1)
def RightEnds (l : List Lab) (most bytes : Nat) (w : World) (r : Ending) (w' : World) : Prop := ∃ b : Bool, r = .returned (.bool b) ∧ (b = true ↔ LabOk l most bytes) ∧ Fr (fun _ => False) w w'
def LabPre (l : List Lab) (bytes k : Nat) : Prop :=
 (∀ (i : Nat) (x : Lab), i < k → l[i]? = some x → x.1.size ≠ 0 ∧ x.1.size ≤ bytes ∧ x.2.size ≤ bytes) ∧ ∀ (i j : Nat) (x y : Lab), j < i → i < k → l[i]? = some x → l[j]? = some y → y.1 ≠ x.1
theorem LabPre.ok {l : List Lab} {most bytes : Nat} (h : LabPre l bytes l.length) (hl : l.length ≤ most) : LabOk l most bytes := by
 refine ⟨hl, fun p hp => ?_, ?_⟩
 ·obtain ⟨i, hi⟩ := List.mem_iff_getElem?.mp hp
  exact h.1 i p (List.getElem?_eq_some_iff.mp hi).1 hi
 ·rw [List.pairwise_iff_getElem]
  intro i j hi hj hij; exact h.2 j i _ _ hij hj (zk9 hj) (zk9 hi)
theorem LabOk.at {l : List Lab} {most bytes : Nat} (h : LabOk l most bytes) (k : Nat) (x : Lab) (hx : l[k]? = some x) : x.1.size ≠ 0 ∧ x.1.size ≤ bytes ∧ x.2.size ≤ bytes := h.2.1 x (zlf hx)
theorem LabOk.ne {l : List Lab} {most bytes : Nat} (h : LabOk l most bytes) (k j : Nat) (x y : Lab) (hx : l[k]? = some x) (hy : l[j]? = some y) (hj : j < k) : y.1 ≠ x.1 := by
 obtain ⟨hk, rfl⟩ := List.getElem?_eq_some_iff.mp hx; obtain ⟨hj', rfl⟩ := List.getElem?_eq_some_iff.mp hy; exact List.pairwise_iff_getElem.mp h.2.2 j k hj' hk hj
theorem zit (s : ByteArray) : s.toList.isEmpty = decide (s.size = 0) := by
 rw [Lib.toList_data, Lib.size_eq]; cases s.data.toList <;> simp
theorem zd9 (P : Nat → Prop) (v : Value) (l : List Lab) (most bytes : Nat) (w : World) (h : Sl P w v 2 l.length (l.flatMap zbv)) (hl : l.length ≤ 1099511627776) (hm : most ≤ 1099511627776) (hb : bytes ≤ 1099511627776) :
 Calls Tryz.prog 53 #[v, .int .i64 most, .int .i64 bytes] w (RightEnds l most bytes w) := by
 obtain ⟨A, c, rfl, _, hc, hr⟩ := h; obtain ⟨n, hn⟩ : ∃ n, l.length = n := ⟨_, rfl⟩; rw [hn] at hr hc hl ⊢; have HN := zk7 hn; have HR := zk7 hr; clear hn hr; by_cases hmn : most < n
 ·have hmn' : (most : Int) < n := by omega
  go_enter Tryz.func53, Tryz.ntmps53; go_wp2; go_ret; exact ⟨false, rfl, ⟨fun h => (by cases h), fun h => absurd h.1 (by rw [HN.out]; omega)⟩, zlW _ _⟩
 ·have hmn' : ¬ (most : Int) < n := by omega
  go_enter Tryz.func53, Tryz.ntmps53; go_wp2; go_loopw [7] (fun i wr => ∃ k : Nat, k ≤ n ∧ i = .int .i64 k ∧ Hid (LabPre l bytes k) ∧ Hid (Fr (fun _ => False) w wr)) (fun i _ => n - (intOf i).toNat)
  case atStart => exact ⟨0, zli _, rfl, zk7 ⟨fun i x h => absurd h (zlS _), fun i j x y _ h => absurd h (zlS _)⟩, zk7 (zlW _ _)⟩
  case round =>
   obtain ⟨k, hk, rfl, HP, HF⟩ := hrel; by_cases hlt : k < n
   ·obtain ⟨g, off, rfl, _, hcell⟩ := HR.out (by omega)
    obtain ⟨x, hx⟩ : ∃ x, l[k]? = some x := ⟨_, zk9 (by rw [HN.out]; exact hlt)⟩; have key : ∀ (i : Nat) (z : Lab), l[i]? = some z → ∀ W, Fr (fun _ => False) w W → W.cell? ⟨g, off + i * 2, none⟩ = some (.string z.1) ∧ W.cell? ⟨g, off + i * 2 + 1, none⟩ = some (.string z.2) := fun i z hz W hF => by
     have cc : ∀ j, j < 2 → ∀ u, (zbv z)[j]? = some u → W.cell? ⟨g, off + (i * 2 + j), none⟩ = some u := fun j hj u hu => by
      have := hcell (i * 2 + j) u (by rw [zci zbv (fun _ => rfl) l i z hz j hj]; exact hu); rw [hF.cell (p := ⟨g, off + (i * 2 + j), none⟩) (zle w _ this) (fun e => e)]; exact this
     exact ⟨cc 0 (by omega) _ rfl, cc 1 (by omega) _ rfl⟩
    obtain ⟨c0, c1⟩ := key k x hx wr HF.out; have HK := zk7 key; have HX := zk7 hx; clear key hcell hx; by_cases e0 : x.1.size = 0
    ·have e0' : x.1.toList.isEmpty = true := by rw [zit]; exact decide_eq_true e0
     go_wp2; go_ret; exact ⟨false, rfl, ⟨fun h => (by cases h), fun h => absurd e0 (h.at k x HX.out).1⟩, HF.out⟩
    ·have e0' : x.1.toList.isEmpty = false := by rw [zit]; exact decide_eq_false e0
     by_cases h1 : bytes < x.1.size
     ·have h1' : (bytes : Int) < x.1.size := by omega
      go_wp2; go_ret; exact ⟨false, rfl, ⟨fun h => (by cases h), fun h => absurd h1 (by have := (h.at k x HX.out).2.1; omega)⟩, HF.out⟩
     ·have h1' : ¬ (bytes : Int) < x.1.size := by omega
      by_cases h2 : bytes < x.2.size
      ·have h2' : (bytes : Int) < x.2.size := by omega
       go_wp2; go_ret; exact ⟨false, rfl, ⟨fun h => (by cases h), fun h => absurd h2 (by have := (h.at k x HX.out).2.2; omega)⟩, HF.out⟩
      ·have h2' : ¬ (bytes : Int) < x.2.size := by omega
       go_wp2; clear c0 c1; go_loopw [8] (fun i w' => ∃ j : Nat, j ≤ k ∧ i = .int .i64 j ∧ Hid (∀ (i : Nat) (y : Lab), i < j → l[i]? = some y → y.1 ≠ x.1) ∧ Hid (Fr (fun _ => False) w w')) (fun i _ => k - (intOf i).toNat)
       case atStart => exact ⟨0, zli _, rfl, zk7 (fun i y h => absurd h (zlS _)), HF⟩
       case round =>
        obtain ⟨j, hj, rfl, HJ, HF2⟩ := hrel; by_cases hlt2 : j < k
        ·obtain ⟨y, hy⟩ : ∃ y, l[j]? = some y := ⟨_, zk9 (by rw [HN.out]; omega)⟩
         obtain ⟨c0, _⟩ := HK.out k x HX.out wr HF2.out; obtain ⟨b0, _⟩ := HK.out j y hy wr HF2.out; obtain ⟨d0, _⟩ := HK.out k x HX.out wr.drew HF2.out.drew; obtain ⟨d1, _⟩ := HK.out j y hy wr.drew HF2.out.drew; have HY := zk7 hy; have HF3 := zk7 HF2.out.drew; clear hy; by_cases he : y.1 = x.1
         ·have HE := zk7 he
          go_wp2; go_region; all_goals go_wp2
          go_ret; exact ⟨false, rfl, ⟨fun h => (by cases h), fun h => absurd HE.out (h.ne k j x y HX.out HY.out hlt2)⟩, HF3.out⟩
         ·have he1 : (y.1.toList == x.1.toList) = false := by rw [beq_eq_false_iff_ne, Lib.toList_data, Lib.toList_data]; exact fun e => he (ByteArray.ext (Array.toList_inj.1 e))
          have HE := zk7 he; go_wp2; go_region; all_goals go_wp2
          refine ⟨⟨j + 1, hlt2, rfl, zk7 ?_, HF3⟩, ?_⟩
          ·intro i z hi hz
           by_cases e : i = j
           ·subst e
            have := HY.out; rw [hz] at this; injection this with this; rw [this]; exact HE.out
           ·exact HJ.out i z (by omega) hz
          ·show k - ((j : Int) + 1).toNat < k - (j : Int).toNat; omega
        ·obtain rfl : j = k := by omega
         go_wp2; go_roundw
         case rel =>
          refine ⟨j + 1, by omega, by go_num, zk7 ?_, HF2⟩; have hp := HP.out; refine ⟨fun i z hi hz => ?_, fun i j' z y hji hi hz hy => ?_⟩
          ·by_cases e : i = j
           ·subst e
            have := HX.out; rw [hz] at this; injection this with this; rw [this]; exact ⟨e0, by omega, by omega⟩
           ·exact hp.1 i z (by omega) hz
          ·by_cases e : i = j
           ·subst e
            have := HX.out; rw [hz] at this; injection this with this; rw [this]; exact HJ.out j' y hji hy
           ·exact hp.2 i j' z y hji (by omega) hz hy
         case measure => simp [intOf]; omega
   ·obtain rfl : k = n := by omega
    go_wp2; go_ret; refine ⟨true, rfl, ⟨fun _ => ?_, fun _ => rfl⟩, HF.out⟩; have hp := HP.out; rw [← HN.out] at hp; exact hp.ok (by rw [HN.out]; omega)
theorem cutTo {t e : TypeId} {sz : Nat} (he : Tryz.prog.elem t = e) (ht : Tryz.prog.underlying t = some (.slice e)) (hs : ∀ W, (sizeOf e).run Tryz.prog W = .ok sz W) (A : Option Addr) (n c k : Nat) (kd : IntKind) (x : Int) (hx : x = k) (hk : k ≤ c) (W : World) :
 (Instr.slice t (.slice A n c) none (some (.int kd x)) none).run Tryz.prog W = .ok (.slice A k c) W := by
 subst hx; subst he; rw [run_slice_h (P := Tryz.prog) W t A n c ht kd k (by omega) (by omega), hs]; have e0 : ∀ a : Addr, a.add 0 = a := fun a => by unfold Addr.add; split <;> simp_all
 cases A <;> simp [Result.andThen, sliced, e0]
theorem yolo_at (g off c : Nat) (bs : List UInt8) (w : World) (h : ∀ j b, bs[j]? = some b → w.cell? ⟨g, off + j, none⟩ = some (.int .u8 b.toNat)) : Calls Tryz.prog 210 #[.slice (some ⟨g, off, none⟩) bs.length c] w fun r w' => r = .returned (.string ⟨bs.toArray⟩) ∧ w = w' := by
 have hc := run_convert_bytes_back (P := Tryz.prog) w 44 9 5 ⟨g, off, none⟩ c bs Tryz.underlying44 Tryz.underlying5 Tryz.underlying9 (fun j hj => by
  have e1 : (⟨g, off, none⟩ : Addr).add j = ⟨g, off + j, none⟩ := by unfold Addr.add; split <;> simp_all
  rw [e1, h j _ (zk9 hj)])
 generalize bs.length = n at hc ⊢; clear h; go_enter Tryz.func210, Tryz.ntmps210; go_wp2; go_ret; exact ⟨rfl, rfl⟩
def ziO (te : TypeId) (pe : Value) (w : World) (d g : Nat) (cur : Array Value) (s : ByteArray) (st : St) (r : Ending) (w' : World) : Prop :=
 ∃ g' off c : Nat, r = .returned (.slice (some ⟨g', off, none⟩) s.data.toList.length c) ∧ g' ≠ d ∧ (∀ j b, s.data.toList[j]? = some b → w'.cell? ⟨g', off + j, none⟩ = some (.int .u8 b.toNat)) ∧ Dec te pe w' d g cur st ∧ Fr (fun k => k = d) w w'
theorem gStr_none {st : St} (h : (gUv st).2 = none) : zch st = (⟨#[]⟩, none) := by unfold zch; rw [h]
theorem zkt {st : St} {r : List UInt8} (h : (gUv st).2 = some r) (hn : r.length < (gUv st).1) : zch st = (⟨#[]⟩, none) := by unfold zch; rw [h]; simp only []; rw [if_pos hn]
theorem gStr_long {st : St} {r : List UInt8} (h : (gUv st).2 = some r) (hn : ¬ r.length < (gUv st).1) : zch st = (⟨(r.take (gUv st).1).toArray⟩, some (r.drop (gUv st).1)) := by unfold zch; rw [h]; simp only []; rw [if_neg hn]
theorem zhF (te : TypeId) (pe : Value) (d g : Nat) (cur : Array Value) (st : St) (w : World) (h : Dec te pe w d g cur st) (hn : (gUv st).1 < 9223372036854775808) :
 Calls Tryz.prog 203 #[.pointer (some ⟨d, 0, none⟩)] w (ziO te pe w d g cur (zch st).1 (zch st).2) := by
 have hU := zkT te pe d g cur st w h; clear h; rcases hst : (gUv st).2 with _ | r
 ·rw [gStr_none hst]
  rw [hst] at hU; generalize (gUv st).1 = n at hn hU; clear hst; go_enter Tryz.func203, Tryz.ntmps203; go_wp2_with (go_at_call 171; refine hU.mono ?_; rintro e w1 ⟨rfl, ⟨rest, HD⟩, hf⟩; have H := zk7 HD; obtain ⟨off, c, hb, hg, hl, hm, hr, hE⟩ := HD; have hc1 := hb.cell 1; simp at hc1; have HB := zk7 hb; have HF := zk7 hf; clear hb hg hr hf)
  go_ret; refine ⟨w1.heap.size, 0, _, rfl, fun e => ?_, fun j b hj => by simp at hj, ⟨rest, ?_⟩, HF.out.alloc _⟩
  ·have := HB.out.lt; omega
  ·obtain ⟨off, c, hb, hg, hl, hm, hr, hE⟩ := H.out
   exact ⟨off, c, hb.alloc _, hg.alloc _, hl, hm, hr, by rw [((zlW (fun _ => False) w1).alloc _).cell (p := ⟨2, 0, none⟩) (zle w1 _ hE) (fun e => e)]; exact hE⟩
 ·by_cases hlt : r.length < (gUv st).1
  ·rw [zkt hst hlt]
   rw [hst] at hU; generalize (gUv st).1 = n at hn hlt hU; clear hst; obtain ⟨m, hm0⟩ : ∃ m, r.length = m := ⟨_, rfl⟩; rw [hm0] at hlt; have hlt' : (m : Int) < n := by omega
   have hwr : wrap64 (n : Int) = n := by unfold wrap64; omega
   go_enter Tryz.func203, Tryz.ntmps203
   go_wp2_with (go_at_call 171; refine hU.mono ?_; rintro e w1 ⟨rfl, HD, hf⟩; have HD : DecOk (.iface te pe) w1 d g cur r .nilIface := HD; have H := zk7 HD; obtain ⟨off, c, hb, hg, hl, hm, hr, hE⟩ := HD; rw [hm0] at hb hl hm; have hc0 := hb.cell 0; have hc1 := hb.cell 1; simp at hc0 hc1; have hz1 := hb.frozen 1; have HB := zk7 hb; have HF := zk7 hf; have HR := zk7 hr; clear hb hg hr hf)
   go_ret; refine ⟨w1.heap.size, 0, 0, by simp [World.setCell], fun e => ?_, fun j b hj => by simp at hj, ⟨r, ?_⟩, (HF.out.setCell (p := ⟨d, 1, none⟩) (.inl rfl) _).alloc _⟩
   ·have := HB.out.lt; omega
   ·have hm2 := H.out.move (Fr.at_ w1 d 1 (.iface te pe)) (E' := .iface te pe) (rest' := r) (off' := off) (c' := c) (by rw [hm0]; simpa using HB.out.set_ 1 (Value.iface te pe)) (by rw [hm0]; exact hl) (by rw [hm0]; exact hm) HR.out
    obtain ⟨off, c, hb, hg, hl, hm, hr, hE⟩ := hm2; exact ⟨off, c, hb.alloc _, hg.alloc _, hl, hm, hr, by rw [((zlW (fun _ => False) _).alloc _).cell (p := ⟨2, 0, none⟩) (zle _ _ hE) (fun e => e)]; exact hE⟩
  ·rw [gStr_long hst hlt]
   rw [hst] at hU; generalize (gUv st).1 = n at hn hlt hU ⊢; clear hst; obtain ⟨m, hm0⟩ : ∃ m, r.length = m := ⟨_, rfl⟩; rw [hm0] at hlt; have hle : n ≤ m := Nat.le_of_not_lt hlt; have hlt' : ¬ (m : Int) < n := by omega
   have hwr : wrap64 (n : Int) = n := by unfold wrap64; omega
   go_enter Tryz.func203, Tryz.ntmps203
   go_wp2_with (go_at_call 171; refine hU.mono ?_; rintro e w1 ⟨rfl, HD, hf⟩; have HD : DecOk (.iface te pe) w1 d g cur r .nilIface := HD; have H := zk7 HD; obtain ⟨off, c, hb, hg, hl, hm, hr, hE⟩ := HD; rw [hm0] at hb hl hm; have hc0 := hb.cell 0; have hc1 := hb.cell 1; simp at hc0 hc1; have hz0 := hb.frozen 0; have HB := zk7 hb; have HF := zk7 hf; have HR := zk7 hr; have hdg := Blk.ne_ hg hb (by decide); have HG := zk7 hg; obtain ⟨off', ho, hoff⟩ := zk0 g off m c n .u64 n rfl hle; have HO := zk7 ho; have hto := cutTo Tryz.elem44' Tryz.underlying44 Tryz.size5 (some ⟨g, off, none⟩) m c n .u64 n rfl (zlQ hle hl); clear hb hg hr hf ho)
   go_ret; have hcut := DecOk.cut H.out (zlW _ _) HB.out HR.out hm0 hl hm hle HO.out; refine ⟨g, off, c, ?_, hdg, fun j b hj => ?_, hcut, HF.out.setCell (p := ⟨d, 0, none⟩) (.inl rfl) _⟩
   ·have e1 : (⟨(r.take n).toArray⟩ : ByteArray).data.toList.length = n := by simp; omega
    rw [e1]; rfl
   ·have e1 : (⟨(r.take n).toArray⟩ : ByteArray).data.toList = r.take n := by simp
    rw [e1, List.getElem?_take] at hj; split at hj
    ·have h2 := HR.out j (.int .u8 b.toNat) (by rw [zeu, hj]; rfl)
     rw [((HG.out).far (p := ⟨d, 0, none⟩) hdg _).cell, h2]
    ·cases hj
def Bld (w : World) (b0 d : Nat) (l : List Lab) (o : ByteArray) : Prop := ∃ v x, Blk w d 119 #[v, .string o, x] ∧ w.ownsRow b0 108 2 v l.length (l.flatMap zbv)
theorem Bld.fr {w w' : World} {b0 d : Nat} {l : List Lab} {o : ByteArray} {S : Nat → Prop} (h : Bld w b0 d l o) (hf : Fr S w w') (hd : ¬ S d) (hs : ∀ g, w.heap[g]?.isSome → (∃ cs, Blk w g 108 cs) → ¬ S g) : Bld w' b0 d l o := by
 obtain ⟨v, x, hb, ho⟩ := h; refine ⟨v, x, hb.fr hf hd, zah ho hf (fun g hg e => ?_)⟩; rcases ho.2 with ⟨rfl, _⟩ | ⟨g', c, cur, rfl, _, hh, _⟩
 ·simp [Value.ownBlock] at hg
 ·obtain rfl : g' = g := by simpa [Value.ownBlock] using hg
  exact hs g' (by rw [hh]; rfl) ⟨cur, hh⟩ e
theorem own_none {w : World} {base : Nat} {e : TypeId} {size n c : Nat} {A : Option Addr} {xs : List Value} (h : w.ownsRow base e size (.slice A n c) n xs) : w.ownsRow base e size (.slice A 0 c) 0 [] := by
 rcases h.2 with ⟨hv, _⟩ | ⟨g, cap, cur, hv, hb, hh, hn, hm, hcs, ht⟩
 ·injection hv with h1 h2 h3
  subst h1 h3; exact zll _ _ _ _
 ·injection hv with h1 h2 h3
  subst h1 h3; exact ⟨by simp, .inr ⟨g, c, cur, rfl, hb, hh, zli _, hm, hcs, by simp⟩⟩
theorem Tryz.elem115' : Tryz.prog.elem 115 = 108 := by kernel_rfl
theorem Tryz.size108 (w : World) : (sizeOf 108).run Tryz.prog w = .ok 2 w := by kernel_rfl
theorem zgc (w : World) : Calls Tryz.prog 134 #[] w fun r w' => r = .returned (.agg #[.string ⟨#[]⟩]) ∧ Fr (fun _ => False) w w' := by
 have hB := Blk.new w 99 #[.string ⟨#[]⟩]; have c0 := hB.cell 0; have f0 := hB.frozen 0; have hb6 := hB; go_enter Tryz.func134, Tryz.ntmps134; go_wp2; refine bodyPost_ret (results_cell_row (P := Tryz.prog) rfl _ _ w.heap.size 99 #[.string ⟨#[]⟩] (0, 0) _ rfl hb6 Tryz.underlying99 rfl (by kernel_rfl)) rfl ?_; exact ⟨rfl, (zlW _ w).alloc _⟩
theorem reset_any (b0 d : Nat) (l : List Lab) (o : ByteArray) (w : World) (h : Bld w b0 d l o) :
 Calls Tryz.prog 202 #[.pointer (some ⟨d, 0, none⟩)] w fun r w' => r = .returned (.tuple #[]) ∧ Bld w' b0 d [] ⟨#[]⟩ ∧ Fr (fun k => k = d) w w' := by
 obtain ⟨v, x, hb, ho⟩ := h; obtain ⟨A, c, rfl⟩ := zaa ho; have hto := fun n : Nat => cutTo Tryz.elem115' Tryz.underlying115 Tryz.size108 A l.length c 0 .i64 0 rfl (zli _); have hcut := own_none ho; have c0 := hb.cell 0; have f0 := hb.frozen 0; simp at c0
 have hb1 : Blk (w.setCell ⟨d, 0, none⟩ (.slice A 0 c)) d 119 #[.slice A 0 c, .string o, x] := by simpa using hb.set_ 0 (.slice A 0 c)
 have ho1 : (w.setCell ⟨d, 0, none⟩ (.slice A 0 c)).ownsRow b0 108 2 (.slice A 0 c) 0 [] := zah (S := fun k => k = d) hcut (Fr.at_ w d 0 _) (fun g hg e => zak hcut hb (by decide) (by rw [hg]; exact congrArg some e)); have hE := zgc (w.setCell ⟨d, 0, none⟩ (.slice A 0 c)); have HB := zk7 hb1; have HO := zk7 ho1; have hto0 := hto 0; generalize l.length = n at c0 hto0
 clear hb ho hcut hb1 ho1 hto; go_enter Tryz.func202, Tryz.ntmps202; go_wp2_with (go_at_call 134; refine hE.mono ?_; rintro r w1 ⟨rfl, hf⟩; have hb2 := HB.out.fr hf (fun e => e); have f1 := hb2.frozen 1; have c1 := hb2.cell 1; simp at c1)
 go_end0; refine ⟨rfl, ⟨_, _, by simpa using hb2.set_ 1 (.string ⟨#[]⟩), ?_⟩, ?_⟩
 ·have ho2 := zah HO.out hf (fun _ _ e => e)
  exact zah (S := fun k => k = d) ho2 (Fr.at_ w1 d 1 _) (fun g hg e => zak ho2 hb2 (by decide) (by rw [hg]; exact congrArg some e))
 ·exact ((Fr.at_ w d 0 _).trans hf (fun _ _ e => e.elim)).setCell (p := ⟨d, 1, none⟩) (.inl rfl) _
def zdr (w : World) (b0 d k : Nat) : Prop := k = d ∨ (b0 ≤ k ∧ ∃ cs, Blk w k 108 cs)
theorem zk1 (s : ByteArray) : (⟨s.data.toList.toArray⟩ : ByteArray) = s := by cases s; simp
theorem bld_push {w w1 w2 : World} {b0 d : Nat} {l : List Lab} {o : ByteArray} {v v' z : Value} {x : Lab} (hb : Blk w d 119 #[v, .string o, z]) (ho : w.ownsRow b0 108 2 v l.length (l.flatMap zbv)) (hf : Fr (fun _ => False) w w1) (hb0 : b0 ≤ w.heap.size)
 (hown : w2.ownsRow b0 108 2 v' (l.length + 1) (l.flatMap zbv ++ zbv x)) (hgrow : w1.grownBy w2 v.ownBlock) :
 Blk w2 d 119 #[v, .string o, z] ∧ Bld (w2.setCell ⟨d, 0, none⟩ v') b0 d (l ++ [x]) o ∧ Fr (zdr w b0 d) w (w2.setCell ⟨d, 0, none⟩ v') := by
 have hne := zak ho hb (by decide); have hb2 : Blk w2 d 119 #[v, .string o, z] := (hb.fr hf (fun e => e)).grown hgrow (fun e => hne e.symm); have e1 : (l ++ [x]).length = l.length + 1 := by simp
 have e2 : (l ++ [x]).flatMap zbv = l.flatMap zbv ++ zbv x := by simp
 refine ⟨hb2, ⟨v', z, by simpa using hb2.set_ 0 v', ?_⟩, ?_⟩
 ·rw [e1, e2]
  exact zah (S := fun k => k = d) hown (Fr.at_ w2 d 0 _) (fun g hg e => zak hown hb2 (by decide) (by rw [hg]; exact congrArg some e))
 ·refine ((hf.mono (S' := zdr w b0 d) (fun _ _ e => e.elim)).grown hgrow (fun k hk => .inl (.inr ?_))).setCell (p := ⟨d, 0, none⟩) (.inl (.inl rfl)) _
  rcases ho.2 with ⟨rfl, _⟩ | ⟨g', c, cur, rfl, hb', hh, _⟩
  ·simp [Value.ownBlock] at hk
  ·obtain rfl : g' = k := by simpa [Value.ownBlock] using hk
   exact ⟨hb', cur, hh⟩
theorem zhe (b0 d : Nat) (l : List Lab) (o : ByteArray) (x : Lab) (g1 o1 c1 g2 o2 c2 : Nat) (w : World) (h : Bld w b0 d l o) (hb0 : b0 ≤ w.heap.size) (hl : l.length ≤ 1099511627776)
 (h1 : ∀ j b, x.1.data.toList[j]? = some b → w.cell? ⟨g1, o1 + j, none⟩ = some (.int .u8 b.toNat)) (h2 : ∀ j b, x.2.data.toList[j]? = some b → w.cell? ⟨g2, o2 + j, none⟩ = some (.int .u8 b.toNat)) :
 Calls Tryz.prog 204 #[.pointer (some ⟨d, 0, none⟩), .slice (some ⟨g1, o1, none⟩) x.1.data.toList.length c1, .slice (some ⟨g2, o2, none⟩) x.2.data.toList.length c2] w fun r w' => r = .returned (.tuple #[]) ∧ Bld w' b0 d (l ++ [x]) o ∧ Fr (zdr w b0 d) w w' := by
 obtain ⟨v, z, hb, ho⟩ := h; obtain ⟨A, c, rfl⟩ := zaa ho; obtain ⟨i0, hi0, hz0, hz1, hz2⟩ := info_parts Tryz.info108; have q1 := yolo_at g1 o1 c1 x.1.data.toList w.drew h1; have q2 := yolo_at g2 o2 c2 x.2.data.toList w.drew h2; rw [zk1] at q1 q2; obtain ⟨a, b⟩ := x; simp only [] at q1 q2
 have k0 : w.drew.cell? ⟨d, 0, none⟩ = some (.slice A l.length c) := by have := hb.drew.cell 0; simpa using this
 have HB := zk7 hb; have HO := zk7 ho; clear hb ho h1 h2; generalize a.data.toList.length = n1 at q1 ⊢; generalize b.data.toList.length = n2 at q2 ⊢; go_enter Tryz.func204, Tryz.ntmps204; go_wp2_with fail
 refine zcl (fun w' => w'.cell? ⟨d, 0, none⟩ = some (.slice A l.length c)) 11 (by kernel_rfl) k0 ?_; intro hS; refine zaw 0 (.pointer (some ⟨d, 0, none⟩)) rfl (by kernel_rfl) (by kernel_rfl) (by kernel_rfl) (by kernel_rfl) (fun _ _ _ h => h) (by rfl) (by intro w; go_simp) hS ?_; try simp only [Act.put, zlb, zlc, zld]
 refine zaw 1 (.pointer (some ⟨d, 0, none⟩)) rfl (by kernel_rfl) (by kernel_rfl) (by kernel_rfl) (by kernel_rfl) (fun _ _ _ h => h) (by rfl) (by intro w; go_simp) hS ?_; try simp only [Act.put, zlb, zlc, zld]
 refine zaw 2 (.pointer (some ⟨d, 0, none⟩)) rfl (by kernel_rfl) (by kernel_rfl) (by kernel_rfl) (by kernel_rfl) (fun _ _ _ h => h) (by rfl) (by intro w; go_simp) hS ?_; try simp only [Act.put, zlb, zlc, zld]
 refine zaw 3 (.pointer (some ⟨d, 0, none⟩)) rfl (by kernel_rfl) (by kernel_rfl) (by kernel_rfl) (by kernel_rfl) (fun _ _ _ h => h) (by rfl) (by intro w; go_simp) hS ?_; try simp only [Act.put, zlb, zlc, zld]
 refine zaO 4 [11, 14] (.slice A l.length c) rfl (by kernel_rfl) (by kernel_rfl) (by kernel_rfl) (by kernel_rfl) (by kernel_rfl) (by kernel_rfl) (by kernel_rfl) (fun _ _ _ h => h) (by rfl) (by rintro w h1; go_simp) hS ?_; try simp only [Act.put, zlb, zlc, zld]
 refine zaw 5 (.slice (some ⟨g1, o1, none⟩) n1 c1) rfl (by kernel_rfl) (by kernel_rfl) (by kernel_rfl) (by kernel_rfl) (fun _ _ _ h => h) (by rfl) (by intro w; go_simp) hS ?_; try simp only [Act.put, zlb, zlc, zld]
 refine zaw 7 (.slice (some ⟨g2, o2, none⟩) n2 c2) rfl (by kernel_rfl) (by kernel_rfl) (by kernel_rfl) (by kernel_rfl) (fun _ _ _ h => h) (by rfl) (by intro w; go_simp) hS ?_; try simp only [Act.put, zlb, zlc, zld]
 refine zbF 6 (by kernel_rfl) rfl (by rfl) (fun K hK => ?_); go_simp; go_at_call 210
 refine q1.mono ?_; rintro r w' ⟨rfl, rfl⟩; refine hK.out _ _ hS ?_; clear hK K; try simp only [Act.put, zlb, zlc, zld]
 refine zbF 8 (by kernel_rfl) rfl (by rfl) (fun K hK => ?_); go_simp; go_at_call 210
 refine q2.mono ?_; rintro r w' ⟨rfl, rfl⟩; refine hK.out _ _ hS ?_; clear hK K; try simp only [Act.put, zlb, zlc, zld]
 refine zaw 9 (.agg #[.string a, .string b]) rfl (by kernel_rfl) (by kernel_rfl) (by kernel_rfl) (by kernel_rfl) (fun _ _ _ h => h) (by rfl) (by intro w; go_simp) hS ?_; try simp only [Act.put, zlb, zlc, zld]
 refine zbF 10 (by kernel_rfl) rfl (by rfl) (fun K hK => ?_); go_simp; refine hK.out _ _ ((HB.out.drew.alloc _).cell 0) ?_; clear hK K; try simp only [Act.put, zlb, zlc, zld]
 refine zaP 11 (by kernel_rfl) rfl (by kernel_rfl) (by rfl) (fun K hK => ?_)
 refine zbz _ _ _ 115 115 (by rfl) b0 108 i0 _ 2 32 Tryz.underlying115 hi0 hz0 hz1 hz2 rfl (by decide) (.slice A l.length c) l.length (l.flatMap zbv) (by rfl) (World.ownsRow.alloc (w := w.drew) HO.out (.cells (zbv (a, b)).toArray 108)) _ 1 (zbv (a, b)) (by rfl) (zaF Tryz.underlying115 (Blk.new w.drew 108 (zbv (a, b)).toArray) rfl (by simp [zbv, Value.oneCell'])) (by unfold maxLen; omega) (by omega) (by simp; omega) ?_
 intro v' w2 hown' hgrow hat
 obtain ⟨KB, KD, KF⟩ := bld_push (x := (a, b)) HB.out HO.out ((zlW (fun _ => False) w).drew.alloc (.cells (zbv (a, b)).toArray 108)) hb0 hown' hgrow; obtain ⟨a5, n5, k5, rfl⟩ := zae hown'; have q0 := KB.cell 0; simp at q0; have z0 := KB.frozen 0; have HD := zk7 (And.intro KD KF); clear KB KD KF hown' hgrow hat
 refine hK.out _ _ ?_; clear hK K hS; try simp only [Act.put, zlb, zlc, zld]
 refine zaP 12 (by kernel_rfl) rfl (by kernel_rfl) (by rfl) (fun K hK => ?_); go_simp; refine hK.out _ _ ?_; clear hK K; refine zaP 13 (by kernel_rfl) rfl (by kernel_rfl) (by rfl) (fun K hK => ?_); go_simp; refine hK.out _ _ ?_; clear hK K; refine zaP 14 (by kernel_rfl) rfl (by kernel_rfl) (by rfl) (fun K hK => ?_); go_simp; refine hK.out _ _ ?_; clear hK K
 refine zds (by kernel_rfl) ?_ _; go_end0; exact ⟨rfl, HD.out.1, HD.out.2⟩
def Fit (p : Lab) : Prop := p.1.size ≤ 2147483647 ∧ p.2.size ≤ 2147483647
def zau (p : Prop) (w : World) (r : Ending) (w' : World) : Prop := ∃ b : Bool, r = .returned (.bool b) ∧ (b = true ↔ p) ∧ Fr (fun _ => False) w w'
theorem bool_yes {p : Prop} (h : p) {w : World} {f : FuncId} {args : Array Value} (hc : Calls Tryz.prog f args w (zau p w)) : Calls Tryz.prog f args w fun r w' => r = .returned (.bool true) ∧ Fr (fun _ => False) w w' :=
 hc.mono fun r w' ⟨b, hr, hb, hf⟩ => ⟨by rw [hr, hb.2 h], hf⟩
theorem bool_no {p : Prop} (h : ¬ p) {w : World} {f : FuncId} {args : Array Value} (hc : Calls Tryz.prog f args w (zau p w)) : Calls Tryz.prog f args w fun r w' => r = .returned (.bool false) ∧ Fr (fun _ => False) w w' :=
 hc.mono fun r w' ⟨b, hr, hb, hf⟩ => ⟨by rw [hr, Bool.eq_false_iff.2 (fun e => h (hb.1 e))], hf⟩
theorem zkK (x : Lab) (h1 : x.1.size ≤ 9223372036854775807) (h2 : x.2.size ≤ 9223372036854775807) (w : World) : Calls Tryz.prog 52 #[.agg #[.string x.1, .string x.2]] w (zau (Fit x) w) := by
 obtain ⟨a, b⟩ := x; dsimp only at h1 h2; unfold Fit; by_cases ha : 2147483647 < a.size
 ·have ha' : (2147483647 : Int) < a.size := by omega
  go_enter Tryz.func52, Tryz.ntmps52; go_wp2; go_ret; exact ⟨false, rfl, ⟨fun h => (by cases h), fun h => absurd h.1 (by show ¬ a.size ≤ _; omega)⟩, (zlW _ w).alloc _⟩
 ·have ha' : ¬ (2147483647 : Int) < a.size := by omega
  by_cases hb : 2147483647 < b.size
  ·have hb' : (2147483647 : Int) < b.size := by omega
   go_enter Tryz.func52, Tryz.ntmps52; go_wp2; go_ret; exact ⟨false, rfl, ⟨fun h => (by cases h), fun h => absurd h.2 (by show ¬ b.size ≤ _; omega)⟩, (zlW _ w).alloc _⟩
  ·have hb' : ¬ (2147483647 : Int) < b.size := by omega
   go_enter Tryz.func52, Tryz.ntmps52; go_wp2; go_ret; exact ⟨true, rfl, ⟨fun _ => ⟨by show a.size ≤ _; omega, by show b.size ≤ _; omega⟩, fun _ => rfl⟩, (zlW _ w).alloc _⟩
theorem zgV (P : Nat → Prop) (v : Value) (l : List Lab) (w : World) (h : Sl P w v 2 l.length (l.flatMap zbv)) (hl : l.length ≤ 9223372036854775807) (hs : ∀ p ∈ l, p.1.size ≤ 9223372036854775807 ∧ p.2.size ≤ 9223372036854775807) :
 Calls Tryz.prog 21 #[v] w (zau (l.length ≤ 2147483647 ∧ ∀ p ∈ l, Fit p) w) := by
 obtain ⟨A, c, rfl, _, hc, hr⟩ := h; obtain ⟨n, hn⟩ : ∃ n, l.length = n := ⟨_, rfl⟩; rw [hn] at hr hc hl ⊢; have HN := zk7 hn; have HR := zk7 hr; have HS := zk7 hs; clear hn hr hs; by_cases hbig : 2147483647 < n
 ·have hbig' : (2147483647 : Int) < n := by omega
  go_enter Tryz.func21, Tryz.ntmps21; go_wp2; go_ret; exact ⟨false, rfl, ⟨fun h => (by cases h), fun h => absurd h.1 (by omega)⟩, zlW _ _⟩
 ·have hbig' : ¬ (2147483647 : Int) < n := by omega
  go_enter Tryz.func21, Tryz.ntmps21; go_wp2; go_loopw [10] (fun vi wr => ∃ k : Nat, k ≤ n ∧ vi = .int .i64 k ∧ Hid (∀ p ∈ l.take k, Fit p) ∧ Hid (Fr (fun _ => False) w wr)) (fun vi _ => n - (intOf vi).toNat)
  case atStart => exact ⟨0, zli _, rfl, zk7 (fun p hp => by simp at hp), zk7 (zlW _ _)⟩
  case round =>
   obtain ⟨k, hk, rfl, HP, HF⟩ := hrel; by_cases hlt : k < n
   ·obtain ⟨g, off, rfl, _, hcell⟩ := HR.out (by omega)
    obtain ⟨x, hx⟩ : ∃ x, l[k]? = some x := ⟨_, zk9 (by rw [HN.out]; exact hlt)⟩; have cc : ∀ j, j < 2 → ∀ u, (zbv x)[j]? = some u → wr.cell? ⟨g, off + (k * 2 + j), none⟩ = some u := fun j hj u hu => by
     have := hcell (k * 2 + j) u (by rw [zci zbv (fun _ => rfl) l k x hx j hj]; exact hu); rw [HF.out.cell (p := ⟨g, off + (k * 2 + j), none⟩) (zle w _ this) (fun e => e)]; exact this
    have c0 : wr.cell? ⟨g, off + k * 2, none⟩ = some (.string x.1) := cc 0 (by omega) _ rfl; have c1 : wr.cell? ⟨g, off + k * 2 + 1, none⟩ = some (.string x.2) := cc 1 (by omega) _ rfl; have hxm := zlf hx; have hq := fun W => zkK x (HS.out x hxm).1 (HS.out x hxm).2 W; have HX := zk7 hx; clear hcell cc hx; by_cases hfit : Fit x
    ·have HFT := zk7 hfit
     clear hfit; go_wp2_with (go_at_call 52; refine (bool_yes HFT.out (hq _)).mono ?_; rintro r w1 ⟨rfl, hf1⟩)
     go_roundw
     case rel =>
      refine ⟨k + 1, by omega, by go_num, zk7 ?_, zk7 ((HF.out.alloc _).same hf1)⟩; intro p hp; rw [zlI, HX.out, zlN] at hp; rcases hp with hp | hp
      ·exact HP.out p hp
      ·simp at hp; rw [hp]; exact HFT.out
     case measure => simp [intOf]; omega
    ·have HFT := zk7 hfit
     clear hfit; go_wp2_with (go_at_call 52; refine (bool_no HFT.out (hq _)).mono ?_; rintro r w1 ⟨rfl, hf1⟩)
     go_ret; exact ⟨false, rfl, ⟨fun h => (by cases h), fun h => absurd (h.2 x hxm) HFT.out⟩, (HF.out.alloc _).same hf1⟩
   ·obtain rfl : k = n := by omega
    go_wp2; go_ret; have e : l.take k = l := zlg (by rw [HN.out]; exact zlj _); have hp := HP.out; rw [e] at hp; exact ⟨true, rfl, ⟨fun _ => ⟨by omega, hp⟩, fun _ => rfl⟩, HF.out⟩
end Go.Proofs.YtbkookiigkckdaaGreatDoor
