/- Merged. -/
import Derived.Test.YtbkookiigkckdaaGreatDoorKD11
import Derived.Test.YtbkookiigkckdaaGreatDoorKD12
import Derived.Test.YtbkookiigkckdaaGreatDoorKD13
set_option linter.unusedVariables false
set_option linter.unusedSimpArgs false
set_option maxRecDepth 100000
set_option maxHeartbeats 8000000
namespace Go.Proofs.YtbkookiigkckdaaGreatDoor
open Go.RowKit Go.Proofs.Tryz
def zzu (x : Int) : List UInt8 := Lib.uvarint (Lib.zigzag x)
def zaO (p : Int × Nat) : List UInt8 := zzu p.1 ++ Lib.uvarint p.2
def zbS (l : List (Int × Nat)) : List UInt8 := Lib.uvarint l.length ++ l.flatMap zaO
def zdr (l : List Int) : List UInt8 := Lib.uvarint l.length ++ l.flatMap zzu
def zc6 (l : List Nat) : List UInt8 := Lib.uvarint l.length ++ l.flatMap (Lib.beBytes 8)
def zcu (h : Hst) : List UInt8 := if h.schema = -53 then zc6 h.cus else []
def zaX (h : Hst) : List UInt8 := [h.hint] ++ zzu h.schema ++ Lib.beBytes 8 h.thr ++ Lib.uvarint h.zc ++ Lib.uvarint h.cnt ++ Lib.beBytes 8 h.sum ++ zbS h.pos ++ zbS h.neg ++ zdr h.ups ++ zdr h.downs ++ zcu h
def zaY (h : Hst) : List UInt8 := [h.hint] ++ zzu h.schema ++ Lib.beBytes 8 h.thr ++ Lib.beBytes 8 h.zc ++ Lib.beBytes 8 h.cnt ++ Lib.beBytes 8 h.sum ++ zbS h.pos ++ zbS h.neg ++ zc6 h.fups ++ zc6 h.fdowns ++ zcu h
structure Hst.ok (h : Hst) : Prop where
 few : h.few 60
 s0 : -2147483648 <= h.schema
 s1 : h.schema <= 2147483647
 thr : h.thr < 18446744073709551616
 sum : h.sum < 18446744073709551616
 zc : h.zc < 18446744073709551616
 cnt : h.cnt < 18446744073709551616
 pos : ∀ p ∈ h.pos, -2147483648 <= p.1 /\ p.1 <= 2147483647 /\ p.2 < 4294967296
 neg : ∀ p ∈ h.neg, -2147483648 <= p.1 /\ p.1 <= 2147483647 /\ p.2 < 4294967296
 ups : ∀ x ∈ h.ups, -9223372036854775808 <= x /\ x <= 9223372036854775807
 downs : ∀ x ∈ h.downs, -9223372036854775808 <= x /\ x <= 9223372036854775807
 fups : ∀ x ∈ h.fups, x < 18446744073709551616
 fdowns : ∀ x ∈ h.fdowns, x < 18446744073709551616
 cus : ∀ x ∈ h.cus, x < 18446744073709551616
theorem Sl.at {P : Nat -> Prop} {w : World} {A : Option Addr} {m c size n : Nat} {xs : List Value} (h : Sl P w (.slice A m c) size n xs) (hn : 0 < n) : ∃ g off, A = some ⟨g, off, none⟩ /\ P g /\ ∀ j u, xs[j]? = some u -> w.cell? ⟨g, off + j, none⟩ = some u := by
 obtain ⟨A', c', e, _, _, hr⟩ := h; injection e with e1 e2 e3; subst e1; exact hr hn
theorem zbu (x : Int) (h0 : -9223372036854775808 <= x) (h1 : x <= 9223372036854775807) : (zzu x).length <= 10 := zdV x h0 h1
theorem zc5 (p : Int × Nat) (h : -2147483648 <= p.1 /\ p.1 <= 2147483647 /\ p.2 < 4294967296) : (zaO p).length <= 20 := by
 have h1 := zbu p.1 (by omega) (by omega); have h2 := zmx (x := p.2) (by omega); rw [zaO, zmi]; omega
theorem zch (s : Int) (w : World) : Calls prog 233 #[.int .i32 s] w fun r w' => r = .returned (.bool (s == -53)) /\ w = w' := by
 go_enter func233, ntmps233; go_wp2; go_ret; exact ⟨rfl, rfl⟩
theorem zaM {α : Type} (f : α -> List UInt8) (m : Nat) (l : List α) (k : Nat) (h : ∀ x ∈ l, (f x).length <= m) : ((l.take k).flatMap f).length <= k * m := by
 have h1 := zbE f m (l.take k) (fun y hy => h y (zne hy)); have h2 : (l.take k).length <= k := znh _ _; have h3 : (l.take k).length * m <= k * m := zmu _ h2; omega
theorem zcp : (∀ (_ : True) (P : Nat -> Prop) (e : Nat) (o : Option Nat) (xs : List UInt8) (h : Hst) (v : Value) (w : World) (hr : RdW P w h v) (hE : Enc w e o xs) (hl : xs.length <= 549755813888) (bE : h.ok) (hP : ∀ g, P g -> ¬ (g = e ∨ some g = o)),
 Calls prog 189 #[.pointer (some ⟨e, 0, none⟩), v] w (zbZ w e o xs (zaX h))) /\ (∀ (_ : True) (P : Nat -> Prop) (e : Nat) (o : Option Nat) (xs : List UInt8) (h : Hst) (v : Value) (w : World) (hr : RdF P w h v) (hE : Enc w e o xs) (hl : xs.length <= 549755813888) (bE : h.ok) (hP : ∀ g, P g -> ¬ (g = e ∨ some g = o)),
 Calls prog 192 #[.pointer (some ⟨e, 0, none⟩), v] w (zbZ w e o xs (zaY h))) := by
 refine ⟨fun ag P e o xs h v w hr hE hl bE hP => ?_, fun bU P e o xs h v w hr hE hl bE hP => ?_⟩; all_goals
  obtain ⟨g, s, rfl, ga, hb, z1, z2, z3, z4, z5⟩ := hr; obtain ⟨⟨l1, l2, l3, l4, l5, l6, l7⟩, jy, bh, ht, hsu, hz, qk, fP, kX, kQ, fp, il, en, lj⟩ := bE; obtain ⟨hint, schema, thr, sum, zc, cnt, pos, neg, ups, downs, fups, fdowns, cus⟩ := h; obtain ⟨sp, sn, su, sd, sc⟩ := s
  first | (guard_hyp ag; simp only [hcW] at hb z1 z2 z3 z4 z5 l1 l2 l3 l4 l5 l6 l7 jy bh ht hsu hz qk fP kX kQ fp il en lj) | (simp only [hcF] at hb z1 z2 z3 z4 z5 l1 l2 l3 l4 l5 l6 l7 jy bh ht hsu hz qk fP kX kQ fp il en lj)
  obtain ⟨A1, c1, rfl⟩ := z1.shape; obtain ⟨A2, c2, rfl⟩ := z2.shape; obtain ⟨A3, c3, rfl⟩ := z3.shape; obtain ⟨A4, c4, rfl⟩ := z4.shape; obtain ⟨A5, c5, rfl⟩ := z5.shape; obtain ⟨n1, e1⟩ := exE pos.length; obtain ⟨n2, e2⟩ := exE neg.length
  first | (guard_hyp ag; obtain ⟨n3, e3⟩ := exE ups.length) | (obtain ⟨n3, e3⟩ := exE fups.length)
  first | (guard_hyp ag; obtain ⟨n4, e4⟩ := exE downs.length) | (obtain ⟨n4, e4⟩ := exE fdowns.length)
  obtain ⟨n5, e5⟩ := exE cus.length; rw [e1] at hb z1 l1; rw [e2] at hb z2 l2
  first | (guard_hyp ag; rw [e3] at hb z3 l3) | (rw [e3] at hb z3 l5)
  first | (guard_hyp ag; rw [e4] at hb z4 l4) | (rw [e4] at hb z4 l6)
  rw [e5] at hb z5 l7; have ke := zmh e1; have dk := zmh e2; have dF := zmh e3; have mS := zmh e4; have sm := zmh e5; have Z1 := zmh z1; have Z2 := zmh z2; have Z3 := zmh z3; have Z4 := zmh z4; have Z5 := zmh z5; have V1 := zmh fP; have V2 := zmh kX
  first | (guard_hyp ag; have V3 := zmh kQ) | (have V3 := zmh il)
  first | (guard_hyp ag; have V4 := zmh fp) | (have V4 := zmh en)
  have V5 := zmh lj; have gi := zmh hP; have HK0 := zmh hb; have HB := zmh hb; have HE := zmh hE; obtain ⟨Y0, hY0⟩ : ∃ Y : List UInt8, [] = Y := ⟨_, rfl⟩; have og : Hid (Put w e o xs Y0 w) := zmh (by rw [<- hY0]; exact Put.refl hE); have eY : Y0.length <= 0 := by rw [<- hY0]; exact zmt _
  have HY0 := zmh hY0; have p0 : w.cell? ⟨g, 0, none⟩ = some (.int .u8 hint.toNat) := hb.cell 0; have hr8 := ziD; clear e1 e2 e3 e4 e5 z1 z2 z3 z4 z5 fP kX kQ fp il en lj hP hb hE hY0
  first | (guard_hyp ag; go_enter func189, ntmps189) | (go_enter func192, ntmps192)
  first
   | guard_hyp ag
     go_wp2_with (first
      | (go_at_call 180; refine (zag og.out (f := 180) (args := #[.pointer (some ⟨e, 0, none⟩), .int .u8 hint.toNat]) (zs := [hint]) (fun o2 he => zck _ o2 _ hint _ he (by rw [zmi]; omega))).mono ?_; rintro r1 w1 ⟨rfl, R, K⟩
         have hB := K.out _ _ _ (by decide) (by decide) HK0.out; have p1 : w1.cell? ⟨g, 1, none⟩ = some (.int .i32 schema) := hB.cell 1; have sb := zmh hB; obtain ⟨Y1, hY⟩ := exE (Y0 ++ [hint]); rw [hY] at R; have cA : Y1.length <= 1 := by have hq : ([hint]).length <= 1 := (by simp); rw [<- hY, zmi]; omega
         have rt := zmh hY; have cR := zmh R
         clear R K hB hY og HK0 eY p0)
      | (go_at_call 183; refine (zag cR.out (f := 183) (args := #[.pointer (some ⟨e, 0, none⟩), .int .i64 schema]) (zs := zzu schema) (fun o2 he => zaz _ o2 _ schema (by omega) (by omega) _ he (by rw [zmi]; omega))).mono ?_; rintro r2 w2 ⟨rfl, R, K⟩
         have hB := K.out _ _ _ (by decide) (by decide) sb.out; have p2 : w2.cell? ⟨g, 2, none⟩ = some (.float .f64 thr) := hB.cell 2; have lN := zmh hB; obtain ⟨Y2, hY⟩ := exE (Y1 ++ zzu schema); rw [hY] at R; have bd : Y2.length <= 11 := by have hq : (zzu schema).length <= 10 := zbu schema (by omega) (by omega); rw [<- hY, zmi]; omega
         have rl := zmh hY; have bj := zmh R
         clear R K hB hY cR sb cA p1)
      | (go_at_call 181; refine (zag bj.out (f := 181) (args := #[.pointer (some ⟨e, 0, none⟩), .int .u64 thr]) (zs := Lib.beBytes 8 thr) (fun o2 he => zcl _ o2 _ thr ht _ he (by rw [zmi]; omega))).mono ?_; rintro r3 w3 ⟨rfl, R, K⟩
         have hB := K.out _ _ _ (by decide) (by decide) lN.out; have p3 : w3.cell? ⟨g, 3, none⟩ = some (.int .u64 zc) := hB.cell 3; have rX := zmh hB; obtain ⟨Y3, hY⟩ := exE (Y2 ++ Lib.beBytes 8 thr); rw [hY] at R; have eX : Y3.length <= 19 := by have hq : (Lib.beBytes 8 thr).length <= 8 := (by simp [zmr]); rw [<- hY, zmi]; omega
         have HY3 := zmh hY; have bG := zmh R
         clear R K hB hY bj lN bd p2)
      | (go_at_call 185; refine (zag bG.out (f := 185) (args := #[.pointer (some ⟨e, 0, none⟩), .int .u64 zc]) (zs := Lib.uvarint zc) (fun o2 he => zcK _ o2 _ zc hz _ he (by rw [zmi]; omega))).mono ?_; rintro r4 w4 ⟨rfl, R, K⟩
         have hB := K.out _ _ _ (by decide) (by decide) rX.out; have p4 : w4.cell? ⟨g, 4, none⟩ = some (.int .u64 cnt) := hB.cell 4; have rW := zmh hB; obtain ⟨Y4, hY⟩ := exE (Y3 ++ Lib.uvarint zc); rw [hY] at R; have pz : Y4.length <= 29 := by have hq : (Lib.uvarint zc).length <= 10 := zmx hz; rw [<- hY, zmi]; omega
         have oU := zmh hY; have jZ := zmh R
         clear R K hB hY bG rX eX p3)
      | (go_at_call 185; refine (zag jZ.out (f := 185) (args := #[.pointer (some ⟨e, 0, none⟩), .int .u64 cnt]) (zs := Lib.uvarint cnt) (fun o2 he => zcK _ o2 _ cnt qk _ he (by rw [zmi]; omega))).mono ?_; rintro r5 w5 ⟨rfl, R, K⟩
         have hB := K.out _ _ _ (by decide) (by decide) rW.out; have p5 : w5.cell? ⟨g, 5, none⟩ = some (.float .f64 sum) := hB.cell 5; have rV := zmh hB; obtain ⟨Y5, hY⟩ := exE (Y4 ++ Lib.uvarint cnt); rw [hY] at R; have hv5 : Y5.length <= 39 := by have hq : (Lib.uvarint cnt).length <= 10 := zmx qk; rw [<- hY, zmi]; omega
         have HY5 := zmh hY; have ky := zmh R
         clear R K hB hY jZ rW pz p4)
      | (go_at_call 181; refine (zag ky.out (f := 181) (args := #[.pointer (some ⟨e, 0, none⟩), .int .u64 sum]) (zs := Lib.beBytes 8 sum) (fun o2 he => zcl _ o2 _ sum hsu _ he (by rw [zmi]; omega))).mono ?_; rintro r6 w6 ⟨rfl, R, K⟩
         have hB := K.out _ _ _ (by decide) (by decide) rV.out; have p6 : w6.cell? ⟨g, 6, none⟩ = some (.slice A1 n1 c1) := hB.cell 6; have rU := zmh hB; obtain ⟨Y6, hY⟩ := exE (Y5 ++ Lib.beBytes 8 sum); rw [hY] at R; have hv6 : Y6.length <= 47 := by have hq : (Lib.beBytes 8 sum).length <= 8 := (by simp [zmr]); rw [<- hY, zmi]; omega
         have HY6 := zmh hY; have mN := zmh R
         clear R K hB hY ky rV hv5 p5)
      | (go_at_call 186; refine (zag mN.out (f := 186) (args := #[.pointer (some ⟨e, 0, none⟩), .int .i64 n1]) (zs := Lib.uvarint n1) (fun o2 he => za8 _ o2 _ n1 (by omega) _ he (by rw [zmi]; omega))).mono ?_; rintro r7 w7 ⟨rfl, R, K⟩
         clear p6; have hB := K.out _ _ _ (by decide) (by decide) rU.out; have p6 : w7.cell? ⟨g, 6, none⟩ = some (.slice A1 n1 c1) := hB.cell 6; have HK7 := zmh hB; obtain ⟨Y7, hY⟩ := exE (Y6 ++ Lib.uvarint n1); rw [hY] at R; have hv7 : Y7.length <= 57 := by have hq : (Lib.uvarint n1).length <= 10 := zmx (by omega); rw [<- hY, zmi]; omega
         have HY7 := zmh hY; have oV := zmh R
         clear R K hB hY mN rU hv6))
   | go_wp2_with (first
      | (go_at_call 180; refine (zag og.out (f := 180) (args := #[.pointer (some ⟨e, 0, none⟩), .int .u8 hint.toNat]) (zs := [hint]) (fun o2 he => zck _ o2 _ hint _ he (by rw [zmi]; omega))).mono ?_; rintro r1 w1 ⟨rfl, R, K⟩
         have hB := K.out _ _ _ (by decide) (by decide) HK0.out; have p1 : w1.cell? ⟨g, 1, none⟩ = some (.int .i32 schema) := hB.cell 1; have sb := zmh hB; obtain ⟨Y1, hY⟩ := exE (Y0 ++ [hint]); rw [hY] at R; have cA : Y1.length <= 1 := by have hq : ([hint]).length <= 1 := (by simp); rw [<- hY, zmi]; omega
         have rt := zmh hY; have cR := zmh R
         clear R K hB hY og HK0 eY p0)
      | (go_at_call 183; refine (zag cR.out (f := 183) (args := #[.pointer (some ⟨e, 0, none⟩), .int .i64 schema]) (zs := zzu schema) (fun o2 he => zaz _ o2 _ schema (by omega) (by omega) _ he (by rw [zmi]; omega))).mono ?_; rintro r2 w2 ⟨rfl, R, K⟩
         have hB := K.out _ _ _ (by decide) (by decide) sb.out; have p2 : w2.cell? ⟨g, 2, none⟩ = some (.float .f64 thr) := hB.cell 2; have lN := zmh hB; obtain ⟨Y2, hY⟩ := exE (Y1 ++ zzu schema); rw [hY] at R; have bd : Y2.length <= 11 := by have hq : (zzu schema).length <= 10 := zbu schema (by omega) (by omega); rw [<- hY, zmi]; omega
         have rl := zmh hY; have bj := zmh R
         clear R K hB hY cR sb cA p1)
      | (go_at_call 244; refine (zag bj.out (f := 244) (args := #[.pointer (some ⟨e, 0, none⟩), .float .f64 thr]) (zs := Lib.beBytes 8 thr) (fun o2 he => zbV _ o2 _ thr ht _ he (by rw [zmi]; omega))).mono ?_; rintro r3 w3 ⟨rfl, R, K⟩
         have hB := K.out _ _ _ (by decide) (by decide) lN.out; have p3 : w3.cell? ⟨g, 3, none⟩ = some (.float .f64 zc) := hB.cell 3; have rX := zmh hB; obtain ⟨Y3, hY⟩ := exE (Y2 ++ Lib.beBytes 8 thr); rw [hY] at R; have eX : Y3.length <= 19 := by have hq : (Lib.beBytes 8 thr).length <= 8 := (by simp [zmr]); rw [<- hY, zmi]; omega
         have HY3 := zmh hY; have bG := zmh R
         clear R K hB hY bj lN bd p2)
      | (go_at_call 244; refine (zag bG.out (f := 244) (args := #[.pointer (some ⟨e, 0, none⟩), .float .f64 zc]) (zs := Lib.beBytes 8 zc) (fun o2 he => zbV _ o2 _ zc hz _ he (by rw [zmi]; omega))).mono ?_; rintro r4 w4 ⟨rfl, R, K⟩
         have hB := K.out _ _ _ (by decide) (by decide) rX.out; have p4 : w4.cell? ⟨g, 4, none⟩ = some (.float .f64 cnt) := hB.cell 4; have rW := zmh hB; obtain ⟨Y4, hY⟩ := exE (Y3 ++ Lib.beBytes 8 zc); rw [hY] at R; have pz : Y4.length <= 27 := by have hq : (Lib.beBytes 8 zc).length <= 8 := (by simp [zmr]); rw [<- hY, zmi]; omega
         have oU := zmh hY; have jZ := zmh R
         clear R K hB hY bG rX eX p3)
      | (go_at_call 244; refine (zag jZ.out (f := 244) (args := #[.pointer (some ⟨e, 0, none⟩), .float .f64 cnt]) (zs := Lib.beBytes 8 cnt) (fun o2 he => zbV _ o2 _ cnt qk _ he (by rw [zmi]; omega))).mono ?_; rintro r5 w5 ⟨rfl, R, K⟩
         have hB := K.out _ _ _ (by decide) (by decide) rW.out; have p5 : w5.cell? ⟨g, 5, none⟩ = some (.float .f64 sum) := hB.cell 5; have rV := zmh hB; obtain ⟨Y5, hY⟩ := exE (Y4 ++ Lib.beBytes 8 cnt); rw [hY] at R; have hv5 : Y5.length <= 35 := by have hq : (Lib.beBytes 8 cnt).length <= 8 := (by simp [zmr]); rw [<- hY, zmi]; omega
         have HY5 := zmh hY; have ky := zmh R
         clear R K hB hY jZ rW pz p4)
      | (go_at_call 244; refine (zag ky.out (f := 244) (args := #[.pointer (some ⟨e, 0, none⟩), .float .f64 sum]) (zs := Lib.beBytes 8 sum) (fun o2 he => zbV _ o2 _ sum hsu _ he (by rw [zmi]; omega))).mono ?_; rintro r6 w6 ⟨rfl, R, K⟩
         have hB := K.out _ _ _ (by decide) (by decide) rV.out; have p6 : w6.cell? ⟨g, 6, none⟩ = some (.slice A1 n1 c1) := hB.cell 6; have rU := zmh hB; obtain ⟨Y6, hY⟩ := exE (Y5 ++ Lib.beBytes 8 sum); rw [hY] at R; have hv6 : Y6.length <= 43 := by have hq : (Lib.beBytes 8 sum).length <= 8 := (by simp [zmr]); rw [<- hY, zmi]; omega
         have HY6 := zmh hY; have mN := zmh R
         clear R K hB hY ky rV hv5 p5)
      | (go_at_call 186; refine (zag mN.out (f := 186) (args := #[.pointer (some ⟨e, 0, none⟩), .int .i64 n1]) (zs := Lib.uvarint n1) (fun o2 he => za8 _ o2 _ n1 (by omega) _ he (by rw [zmi]; omega))).mono ?_; rintro r7 w7 ⟨rfl, R, K⟩
         clear p6; have hB := K.out _ _ _ (by decide) (by decide) rU.out; have p6 : w7.cell? ⟨g, 6, none⟩ = some (.slice A1 n1 c1) := hB.cell 6; have HK7 := zmh hB; obtain ⟨Y7, hY⟩ := exE (Y6 ++ Lib.uvarint n1); rw [hY] at R; have hv7 : Y7.length <= 53 := by have hq : (Lib.uvarint n1).length <= 10 := zmx (by omega); rw [<- hY, zmi]; omega
         have HY7 := zmh hY; have oV := zmh R
         clear R K hB hY mN rU hv6))
  first | (guard_hyp ag; go_loopw [65] (fun i wr => ∃ k : Nat, k <= n1 /\ i = .int .i64 k /\ Hid (Put w e o xs (Y7 ++ (pos.take k).flatMap zaO) wr)) (fun i _ => n1 - (intOf i).toNat)) | (go_loopw [63] (fun i wr => ∃ k : Nat, k <= n1 /\ i = .int .i64 k /\ Hid (Put w e o xs (Y7 ++ (pos.take k).flatMap zaO) wr)) (fun i _ => n1 - (intOf i).toNat))
  case atStart => exact ⟨0, zms _, rfl, zmh (by simpa using oV.out)⟩
  case round =>
   obtain ⟨k, hk, rfl, dz⟩ := hrel; by_cases hlt : k < n1
   ·have fK := Z1.out.fr (dz.out).fr gi.out
    obtain ⟨g1, off, rfl, _, aa⟩ := fK.at (by omega); obtain ⟨x, hx⟩ : ∃ x, pos[k]? = some x := ⟨_, zmj (by rw [ke.out]; exact hlt)⟩; obtain ⟨gC, fL, dS⟩ := V1.out x (zmp hx); have d0 : wr.cell? ⟨g1, off + k * 2, none⟩ = some (.int .i32 x.1) := aa (k * 2) _ (by rw [show k * 2 = k * 2 + 0 by rfl, zby spc (fun _ => rfl) pos k x hx 0 (by omega)]; rfl)
    have d1 : wr.cell? ⟨g1, off + k * 2 + 1, none⟩ = some (.int .u32 x.2) := aa (k * 2 + 1) _ (by rw [zby spc (fun _ => rfl) pos k x hx 1 (by omega)]; rfl); have bI := zaM zaO 20 pos k (fun x hx => zc5 x (V1.out x hx)); have ct : k * 20 <= 60 * 20 := zmu _ (by omega); have HX := zmh hx; obtain ⟨x1, x2⟩ := x; simp only [] at gC fL dS d0 d1
    have RA := (dz.out).alloc (.cells #[.int .i32 x1, .int .u32 x2] 361); obtain ⟨Y, hY⟩ := exE (Y7 ++ (pos.take k).flatMap zaO); rw [hY] at RA
    first | (guard_hyp ag; have hv : Y.length <= 57 + 1200 := by rw [<- hY, zmi]; omega) | (have hv : Y.length <= 53 + 1200 := by rw [<- hY, zmi]; omega)
    have HY := zmh hY; have cT := zmh (znm wr 361 #[.int .i32 x1, .int .u32 x2]); have bV := zmh RA; have kP := zbu x1 (by omega) (by omega); clear fK aa hx bI ct RA hY dz
    first
     | guard_hyp ag
       go_wp2_with (first
        | (go_at_call 183; refine (zag bV.out (f := 183) (args := #[.pointer (some ⟨e, 0, none⟩), .int .i64 x1]) (zs := zzu x1) (fun o2 he => zaz _ o2 _ x1 (by omega) (by omega) _ he (by rw [zmi]; omega))).mono ?_; rintro rA wA ⟨rfl, R1, K1⟩
           have p1 : wA.cell? ⟨wr.heap.size, 1, none⟩ = some (.int .u32 x2) := (K1.out _ _ _ (by decide) (by decide) cT.out).cell 1; have bj := zmh R1; have bd : (Y ++ zzu x1).length <= 57 + 1210 := by rw [zmi]; omega
           clear R1 K1 bV)
        | (go_at_call 243; refine (zag bj.out (f := 243) (args := #[.pointer (some ⟨e, 0, none⟩), .int .u32 x2]) (zs := Lib.uvarint x2) (fun o2 he => zdi _ o2 _ x2 dS _ he (by rw [zmi]; omega))).mono ?_; rintro rB wB ⟨rfl, R1, K1⟩
           have bT := zmh R1
           clear R1 K1 bj))
     | go_wp2_with (first
        | (go_at_call 183; refine (zag bV.out (f := 183) (args := #[.pointer (some ⟨e, 0, none⟩), .int .i64 x1]) (zs := zzu x1) (fun o2 he => zaz _ o2 _ x1 (by omega) (by omega) _ he (by rw [zmi]; omega))).mono ?_; rintro rA wA ⟨rfl, R1, K1⟩
           have p1 : wA.cell? ⟨wr.heap.size, 1, none⟩ = some (.int .u32 x2) := (K1.out _ _ _ (by decide) (by decide) cT.out).cell 1; have bj := zmh R1; have bd : (Y ++ zzu x1).length <= 53 + 1210 := by rw [zmi]; omega
           clear R1 K1 bV)
        | (go_at_call 243; refine (zag bj.out (f := 243) (args := #[.pointer (some ⟨e, 0, none⟩), .int .u32 x2]) (zs := Lib.uvarint x2) (fun o2 he => zdi _ o2 _ x2 dS _ he (by rw [zmi]; omega))).mono ?_; rintro rB wB ⟨rfl, R1, K1⟩
           have bT := zmh R1
           clear R1 K1 bj))
    have cM : Hid (Put w e o xs (Y7 ++ (pos.take (k + 1)).flatMap zaO) wB) := zmh (by
     rw [zal zaO pos k _ HX.out, <- zmk, HY.out]
     simpa [zaO, zmk] using bT.out)
    clear bT; go_wp2; go_roundw
    case rel => exact ⟨k + 1, by omega, by go_num, cM⟩
    case measure => simp [intOf]; omega
   ·obtain rfl : k = n1 := by omega
    have R := dz.out; rw [zmq (by rw [ke.out]; exact zmt _)] at R; have bI := zaM zaO 20 pos k (fun x hx => zc5 x (V1.out x hx)); rw [zmq (by rw [ke.out]; exact zmt _)] at bI; have ct : k * 20 <= 60 * 20 := zmu _ (by omega); obtain ⟨Y8, hY⟩ := exE (Y7 ++ pos.flatMap zaO); rw [hY] at R
    first | (guard_hyp ag; have hv8 : Y8.length <= 1257 := by rw [<- hY, zmi]; omega) | (have hv8 : Y8.length <= 1253 := by rw [<- hY, zmi]; omega)
    have HY8 := zmh hY; have hB := R.blk HE.out HB.out (by decide) (by decide); have HK8 := zmh hB; have bT := zmh R; have p7 : wr.cell? ⟨g, 7, none⟩ = some (.slice A2 n2 c2) := hB.cell 7; clear R bI ct hY hB dz oV HK7 hv7 hlt hk
    first
     | guard_hyp ag
       go_wp2_with (go_at_call 186; refine (zag bT.out (f := 186) (args := #[.pointer (some ⟨e, 0, none⟩), .int .i64 n2]) (zs := Lib.uvarint n2) (fun o2 he => za8 _ o2 _ n2 (by omega) _ he (by rw [zmi]; omega))).mono ?_; rintro r9 w9 ⟨rfl, R, K⟩
                    clear p7; have hB := K.out _ _ _ (by decide) (by decide) HK8.out; have p7 : w9.cell? ⟨g, 7, none⟩ = some (.slice A2 n2 c2) := hB.cell 7; have HK9 := zmh hB; obtain ⟨Y9, hY⟩ := exE (Y8 ++ Lib.uvarint n2); rw [hY] at R; have hv9 : Y9.length <= 1267 := by have hq : (Lib.uvarint n2).length <= 10 := zmx (by omega); rw [<- hY, zmi]; omega
                    have HY9 := zmh hY; have HR9 := zmh R
                    clear R K hB hY bT HK8 hv8)
     | go_wp2_with (go_at_call 186; refine (zag bT.out (f := 186) (args := #[.pointer (some ⟨e, 0, none⟩), .int .i64 n2]) (zs := Lib.uvarint n2) (fun o2 he => za8 _ o2 _ n2 (by omega) _ he (by rw [zmi]; omega))).mono ?_; rintro r9 w9 ⟨rfl, R, K⟩
                    clear p7; have hB := K.out _ _ _ (by decide) (by decide) HK8.out; have p7 : w9.cell? ⟨g, 7, none⟩ = some (.slice A2 n2 c2) := hB.cell 7; have HK9 := zmh hB; obtain ⟨Y9, hY⟩ := exE (Y8 ++ Lib.uvarint n2); rw [hY] at R; have hv9 : Y9.length <= 1263 := by have hq : (Lib.uvarint n2).length <= 10 := zmx (by omega); rw [<- hY, zmi]; omega
                    have HY9 := zmh hY; have HR9 := zmh R
                    clear R K hB hY bT HK8 hv8)
    first | (guard_hyp ag; go_loopw [91] (fun i wr => ∃ k : Nat, k <= n2 /\ i = .int .i64 k /\ Hid (Put w e o xs (Y9 ++ (neg.take k).flatMap zaO) wr)) (fun i _ => n2 - (intOf i).toNat)) | (go_loopw [89] (fun i wr => ∃ k : Nat, k <= n2 /\ i = .int .i64 k /\ Hid (Put w e o xs (Y9 ++ (neg.take k).flatMap zaO) wr)) (fun i _ => n2 - (intOf i).toNat))
    case atStart => exact ⟨0, zms _, rfl, zmh (by simpa using HR9.out)⟩
    case round =>
     obtain ⟨k, hk, rfl, dz⟩ := hrel; by_cases hlt : k < n2
     ·have fK := Z2.out.fr (dz.out).fr gi.out
      obtain ⟨g1, off, rfl, _, aa⟩ := fK.at (by omega); obtain ⟨x, hx⟩ : ∃ x, neg[k]? = some x := ⟨_, zmj (by rw [dk.out]; exact hlt)⟩; obtain ⟨gC, fL, dS⟩ := V2.out x (zmp hx); have d0 : wr.cell? ⟨g1, off + k * 2, none⟩ = some (.int .i32 x.1) := aa (k * 2) _ (by rw [show k * 2 = k * 2 + 0 by rfl, zby spc (fun _ => rfl) neg k x hx 0 (by omega)]; rfl)
      have d1 : wr.cell? ⟨g1, off + k * 2 + 1, none⟩ = some (.int .u32 x.2) := aa (k * 2 + 1) _ (by rw [zby spc (fun _ => rfl) neg k x hx 1 (by omega)]; rfl); have bI := zaM zaO 20 neg k (fun x hx => zc5 x (V2.out x hx)); have ct : k * 20 <= 60 * 20 := zmu _ (by omega); have HX := zmh hx; obtain ⟨x1, x2⟩ := x; simp only [] at gC fL dS d0 d1
      have RA := (dz.out).alloc (.cells #[.int .i32 x1, .int .u32 x2] 361); obtain ⟨Y, hY⟩ := exE (Y9 ++ (neg.take k).flatMap zaO); rw [hY] at RA
      first | (guard_hyp ag; have hv : Y.length <= 1267 + 1200 := by rw [<- hY, zmi]; omega) | (have hv : Y.length <= 1263 + 1200 := by rw [<- hY, zmi]; omega)
      have HY := zmh hY; have cT := zmh (znm wr 361 #[.int .i32 x1, .int .u32 x2]); have bV := zmh RA; have kP := zbu x1 (by omega) (by omega); clear fK aa hx bI ct RA hY dz
      first
       | guard_hyp ag
         go_wp2_with (first
          | (go_at_call 183; refine (zag bV.out (f := 183) (args := #[.pointer (some ⟨e, 0, none⟩), .int .i64 x1]) (zs := zzu x1) (fun o2 he => zaz _ o2 _ x1 (by omega) (by omega) _ he (by rw [zmi]; omega))).mono ?_; rintro rA wA ⟨rfl, R1, K1⟩
             have p1 : wA.cell? ⟨wr.heap.size, 1, none⟩ = some (.int .u32 x2) := (K1.out _ _ _ (by decide) (by decide) cT.out).cell 1; have bj := zmh R1; have bd : (Y ++ zzu x1).length <= 1267 + 1210 := by rw [zmi]; omega
             clear R1 K1 bV)
          | (go_at_call 243; refine (zag bj.out (f := 243) (args := #[.pointer (some ⟨e, 0, none⟩), .int .u32 x2]) (zs := Lib.uvarint x2) (fun o2 he => zdi _ o2 _ x2 dS _ he (by rw [zmi]; omega))).mono ?_; rintro rB wB ⟨rfl, R1, K1⟩
             have bT := zmh R1
             clear R1 K1 bj))
       | go_wp2_with (first
          | (go_at_call 183; refine (zag bV.out (f := 183) (args := #[.pointer (some ⟨e, 0, none⟩), .int .i64 x1]) (zs := zzu x1) (fun o2 he => zaz _ o2 _ x1 (by omega) (by omega) _ he (by rw [zmi]; omega))).mono ?_; rintro rA wA ⟨rfl, R1, K1⟩
             have p1 : wA.cell? ⟨wr.heap.size, 1, none⟩ = some (.int .u32 x2) := (K1.out _ _ _ (by decide) (by decide) cT.out).cell 1; have bj := zmh R1; have bd : (Y ++ zzu x1).length <= 1263 + 1210 := by rw [zmi]; omega
             clear R1 K1 bV)
          | (go_at_call 243; refine (zag bj.out (f := 243) (args := #[.pointer (some ⟨e, 0, none⟩), .int .u32 x2]) (zs := Lib.uvarint x2) (fun o2 he => zdi _ o2 _ x2 dS _ he (by rw [zmi]; omega))).mono ?_; rintro rB wB ⟨rfl, R1, K1⟩
             have bT := zmh R1
             clear R1 K1 bj))
      have cM : Hid (Put w e o xs (Y9 ++ (neg.take (k + 1)).flatMap zaO) wB) := zmh (by
       rw [zal zaO neg k _ HX.out, <- zmk, HY.out]
       simpa [zaO, zmk] using bT.out)
      clear bT; go_wp2; go_roundw
      case rel => exact ⟨k + 1, by omega, by go_num, cM⟩
      case measure => simp [intOf]; omega
     ·obtain rfl : k = n2 := by omega
      have R := dz.out; rw [zmq (by rw [dk.out]; exact zmt _)] at R; have bI := zaM zaO 20 neg k (fun x hx => zc5 x (V2.out x hx)); rw [zmq (by rw [dk.out]; exact zmt _)] at bI; have ct : k * 20 <= 60 * 20 := zmu _ (by omega); obtain ⟨Y10, hY⟩ := exE (Y9 ++ neg.flatMap zaO); rw [hY] at R
      first | (guard_hyp ag; have nb : Y10.length <= 2467 := by rw [<- hY, zmi]; omega) | (have nb : Y10.length <= 2463 := by rw [<- hY, zmi]; omega)
      have rq := zmh hY; have hB := R.blk HE.out HB.out (by decide) (by decide); have lQ := zmh hB; have lL := zmh R; have p8 : wr.cell? ⟨g, 8, none⟩ = some (.slice A3 n3 c3) := hB.cell 8; clear R bI ct hY hB dz HR9 HK9 hv9 hlt hk
      first
       | guard_hyp ag
         go_wp2_with (go_at_call 186; refine (zag lL.out (f := 186) (args := #[.pointer (some ⟨e, 0, none⟩), .int .i64 n3]) (zs := Lib.uvarint n3) (fun o2 he => za8 _ o2 _ n3 (by omega) _ he (by rw [zmi]; omega))).mono ?_; rintro r11 je ⟨rfl, R, K⟩
                      clear p8; have hB := K.out _ _ _ (by decide) (by decide) lQ.out; have p8 : je.cell? ⟨g, 8, none⟩ = some (.slice A3 n3 c3) := hB.cell 8; have sa := zmh hB; obtain ⟨jW, hY⟩ := exE (Y10 ++ Lib.uvarint n3); rw [hY] at R; have pC : jW.length <= 2477 := by have hq : (Lib.uvarint n3).length <= 10 := zmx (by omega); rw [<- hY, zmi]; omega
                      have o8 := zmh hY; have oe := zmh R
                      clear R K hB hY lL lQ nb)
       | go_wp2_with (go_at_call 186; refine (zag lL.out (f := 186) (args := #[.pointer (some ⟨e, 0, none⟩), .int .i64 n3]) (zs := Lib.uvarint n3) (fun o2 he => za8 _ o2 _ n3 (by omega) _ he (by rw [zmi]; omega))).mono ?_; rintro r11 je ⟨rfl, R, K⟩
                      clear p8; have hB := K.out _ _ _ (by decide) (by decide) lQ.out; have p8 : je.cell? ⟨g, 8, none⟩ = some (.slice A3 n3 c3) := hB.cell 8; have sa := zmh hB; obtain ⟨jW, hY⟩ := exE (Y10 ++ Lib.uvarint n3); rw [hY] at R; have pC : jW.length <= 2473 := by have hq : (Lib.uvarint n3).length <= 10 := zmx (by omega); rw [<- hY, zmi]; omega
                      have o8 := zmh hY; have oe := zmh R
                      clear R K hB hY lL lQ nb)
      first | (guard_hyp ag; go_loopw [117] (fun i wr => ∃ k : Nat, k <= n3 /\ i = .int .i64 k /\ Hid (Put w e o xs (jW ++ (ups.take k).flatMap zzu) wr)) (fun i _ => n3 - (intOf i).toNat)) | (go_loopw [115] (fun i wr => ∃ k : Nat, k <= n3 /\ i = .int .i64 k /\ Hid (Put w e o xs (jW ++ (fups.take k).flatMap (Lib.beBytes 8)) wr)) (fun i _ => n3 - (intOf i).toNat))
      case atStart => exact ⟨0, zms _, rfl, zmh (by simpa using oe.out)⟩
      case round =>
       obtain ⟨k, hk, rfl, dz⟩ := hrel; by_cases hlt : k < n3
       ·have fK := Z3.out.fr (dz.out).fr gi.out
        obtain ⟨g1, off, rfl, _, aa⟩ := fK.at (by omega)
        first | (guard_hyp ag; obtain ⟨x, hx⟩ : ∃ x, ups[k]? = some x := ⟨_, zmj (by rw [dF.out]; exact hlt)⟩) | (obtain ⟨x, hx⟩ : ∃ x, fups[k]? = some x := ⟨_, zmj (by rw [dF.out]; exact hlt)⟩)
        first | (guard_hyp ag; obtain ⟨gC, fL⟩ := V3.out x (zmp hx)) | (have gC := V3.out x (zmp hx))
        first | (guard_hyp ag; have d0 : wr.cell? ⟨g1, off + k, none⟩ = some (.int .i64 x) := aa k _ (by rw [zi0 i1 (fun _ => rfl) ups k x hx]; rfl)) | (have d0 : wr.cell? ⟨g1, off + k, none⟩ = some (.float .f64 x) := aa k _ (by rw [zi0 f1 (fun _ => rfl) fups k x hx]; rfl))
        first | (guard_hyp ag; have bI := zaM zzu 10 ups k (fun x hx => zbu x (V3.out x hx).1 (V3.out x hx).2)) | (have bI := zaM (Lib.beBytes 8) 8 fups k (fun x hx => by simp [zmr]))
        first | (guard_hyp ag; have ct : k * 10 <= 60 * 10 := zmu _ (by omega)) | (have ct : k * 8 <= 60 * 8 := zmu _ (by omega))
        have HX := zmh hx; have RA := dz.out
        first | (guard_hyp ag; obtain ⟨Y, hY⟩ := exE (jW ++ (ups.take k).flatMap zzu)) | (obtain ⟨Y, hY⟩ := exE (jW ++ (fups.take k).flatMap (Lib.beBytes 8)))
        rw [hY] at RA
        first | (guard_hyp ag; have hv : Y.length <= 2477 + 600 := by rw [<- hY, zmi]; omega) | (have hv : Y.length <= 2473 + 480 := by rw [<- hY, zmi]; omega)
        have HY := zmh hY; have bV := zmh RA; clear fK aa hx bI ct RA hY dz
        first
         | guard_hyp ag
           go_wp2_with (go_at_call 183; refine (zag bV.out (f := 183) (args := #[.pointer (some ⟨e, 0, none⟩), .int .i64 x]) (zs := zzu x) (fun o2 he => zaz _ o2 _ x gC fL _ he (by rw [zmi]; omega))).mono ?_; rintro rA wA ⟨rfl, R1, K1⟩
                        have bT := zmh R1
                        clear R1 K1 bV)
         | go_wp2_with (go_at_call 244; refine (zag bV.out (f := 244) (args := #[.pointer (some ⟨e, 0, none⟩), .float .f64 x]) (zs := Lib.beBytes 8 x) (fun o2 he => zbV _ o2 _ x gC _ he (by rw [zmi]; omega))).mono ?_; rintro rA wA ⟨rfl, R1, K1⟩
                        have bT := zmh R1
                        clear R1 K1 bV)
        first
         | guard_hyp ag
           have cM : Hid (Put w e o xs (jW ++ (ups.take (k + 1)).flatMap zzu) wA) := zmh (by
            rw [zal zzu ups k _ HX.out, <- zmk, HY.out]
            exact bT.out)
         | have cM : Hid (Put w e o xs (jW ++ (fups.take (k + 1)).flatMap (Lib.beBytes 8)) wA) := zmh (by
            rw [zal (Lib.beBytes 8) fups k _ HX.out, <- zmk, HY.out]
            exact bT.out)
        clear bT; go_wp2; go_roundw
        case rel => exact ⟨k + 1, by omega, by go_num, cM⟩
        case measure => simp [intOf]; omega
       ·obtain rfl : k = n3 := by omega
        have R := dz.out; rw [zmq (by rw [dF.out]; exact zmt _)] at R
        first | (guard_hyp ag; have bI := zaM zzu 10 ups k (fun x hx => zbu x (V3.out x hx).1 (V3.out x hx).2)) | (have bI := zaM (Lib.beBytes 8) 8 fups k (fun x hx => by simp [zmr]))
        rw [zmq (by rw [dF.out]; exact zmt _)] at bI
        first | (guard_hyp ag; have ct : k * 10 <= 60 * 10 := zmu _ (by omega)) | (have ct : k * 8 <= 60 * 8 := zmu _ (by omega))
        first | (guard_hyp ag; obtain ⟨re, hY⟩ := exE (jW ++ ups.flatMap zzu)) | (obtain ⟨re, hY⟩ := exE (jW ++ fups.flatMap (Lib.beBytes 8)))
        rw [hY] at R
        first | (guard_hyp ag; have na : re.length <= 3077 := by rw [<- hY, zmi]; omega) | (have na : re.length <= 2953 := by rw [<- hY, zmi]; omega)
        have ro := zmh hY; have hB := R.blk HE.out HB.out (by decide) (by decide); have lO := zmh hB; have lK := zmh R; have p9 : wr.cell? ⟨g, 9, none⟩ = some (.slice A4 n4 c4) := hB.cell 9; clear R bI ct hY hB dz oe sa pC hlt hk
        first
         | guard_hyp ag
           go_wp2_with (go_at_call 186; refine (zag lK.out (f := 186) (args := #[.pointer (some ⟨e, 0, none⟩), .int .i64 n4]) (zs := Lib.uvarint n4) (fun o2 he => za8 _ o2 _ n4 (by omega) _ he (by rw [zmi]; omega))).mono ?_; rintro r13 w13 ⟨rfl, R, K⟩
                        clear p9; have hB := K.out _ _ _ (by decide) (by decide) lO.out; have p9 : w13.cell? ⟨g, 9, none⟩ = some (.slice A4 n4 c4) := hB.cell 9; have rZ := zmh hB; obtain ⟨jV, hY⟩ := exE (re ++ Lib.uvarint n4); rw [hY] at R; have pB : jV.length <= 3087 := by have hq : (Lib.uvarint n4).length <= 10 := zmx (by omega); rw [<- hY, zmi]; omega
                        have o6 := zmh hY; have od := zmh R
                        clear R K hB hY lK lO na)
         | go_wp2_with (go_at_call 186; refine (zag lK.out (f := 186) (args := #[.pointer (some ⟨e, 0, none⟩), .int .i64 n4]) (zs := Lib.uvarint n4) (fun o2 he => za8 _ o2 _ n4 (by omega) _ he (by rw [zmi]; omega))).mono ?_; rintro r13 w13 ⟨rfl, R, K⟩
                        clear p9; have hB := K.out _ _ _ (by decide) (by decide) lO.out; have p9 : w13.cell? ⟨g, 9, none⟩ = some (.slice A4 n4 c4) := hB.cell 9; have rZ := zmh hB; obtain ⟨jV, hY⟩ := exE (re ++ Lib.uvarint n4); rw [hY] at R; have pB : jV.length <= 2963 := by have hq : (Lib.uvarint n4).length <= 10 := zmx (by omega); rw [<- hY, zmi]; omega
                        have o6 := zmh hY; have od := zmh R
                        clear R K hB hY lK lO na)
        first | (guard_hyp ag; go_loopw [137] (fun i wr => ∃ k : Nat, k <= n4 /\ i = .int .i64 k /\ Hid (Put w e o xs (jV ++ (downs.take k).flatMap zzu) wr)) (fun i _ => n4 - (intOf i).toNat)) | (go_loopw [135] (fun i wr => ∃ k : Nat, k <= n4 /\ i = .int .i64 k /\ Hid (Put w e o xs (jV ++ (fdowns.take k).flatMap (Lib.beBytes 8)) wr)) (fun i _ => n4 - (intOf i).toNat))
        case atStart => exact ⟨0, zms _, rfl, zmh (by simpa using od.out)⟩
        case round =>
         obtain ⟨k, hk, rfl, dz⟩ := hrel; by_cases hlt : k < n4
         ·have fK := Z4.out.fr (dz.out).fr gi.out
          obtain ⟨g1, off, rfl, _, aa⟩ := fK.at (by omega)
          first | (guard_hyp ag; obtain ⟨x, hx⟩ : ∃ x, downs[k]? = some x := ⟨_, zmj (by rw [mS.out]; exact hlt)⟩) | (obtain ⟨x, hx⟩ : ∃ x, fdowns[k]? = some x := ⟨_, zmj (by rw [mS.out]; exact hlt)⟩)
          first | (guard_hyp ag; obtain ⟨gC, fL⟩ := V4.out x (zmp hx)) | (have gC := V4.out x (zmp hx))
          first | (guard_hyp ag; have d0 : wr.cell? ⟨g1, off + k, none⟩ = some (.int .i64 x) := aa k _ (by rw [zi0 i1 (fun _ => rfl) downs k x hx]; rfl)) | (have d0 : wr.cell? ⟨g1, off + k, none⟩ = some (.float .f64 x) := aa k _ (by rw [zi0 f1 (fun _ => rfl) fdowns k x hx]; rfl))
          first | (guard_hyp ag; have bI := zaM zzu 10 downs k (fun x hx => zbu x (V4.out x hx).1 (V4.out x hx).2)) | (have bI := zaM (Lib.beBytes 8) 8 fdowns k (fun x hx => by simp [zmr]))
          first | (guard_hyp ag; have ct : k * 10 <= 60 * 10 := zmu _ (by omega)) | (have ct : k * 8 <= 60 * 8 := zmu _ (by omega))
          have HX := zmh hx; have RA := dz.out
          first | (guard_hyp ag; obtain ⟨Y, hY⟩ := exE (jV ++ (downs.take k).flatMap zzu)) | (obtain ⟨Y, hY⟩ := exE (jV ++ (fdowns.take k).flatMap (Lib.beBytes 8)))
          rw [hY] at RA
          first | (guard_hyp ag; have hv : Y.length <= 3087 + 600 := by rw [<- hY, zmi]; omega) | (have hv : Y.length <= 2963 + 480 := by rw [<- hY, zmi]; omega)
          have HY := zmh hY; have bV := zmh RA; clear fK aa hx bI ct RA hY dz
          first
           | guard_hyp ag
             go_wp2_with (go_at_call 183; refine (zag bV.out (f := 183) (args := #[.pointer (some ⟨e, 0, none⟩), .int .i64 x]) (zs := zzu x) (fun o2 he => zaz _ o2 _ x gC fL _ he (by rw [zmi]; omega))).mono ?_; rintro rA wA ⟨rfl, R1, K1⟩
                          have bT := zmh R1
                          clear R1 K1 bV)
           | go_wp2_with (go_at_call 244; refine (zag bV.out (f := 244) (args := #[.pointer (some ⟨e, 0, none⟩), .float .f64 x]) (zs := Lib.beBytes 8 x) (fun o2 he => zbV _ o2 _ x gC _ he (by rw [zmi]; omega))).mono ?_; rintro rA wA ⟨rfl, R1, K1⟩
                          have bT := zmh R1
                          clear R1 K1 bV)
          first
           | guard_hyp ag
             have cM : Hid (Put w e o xs (jV ++ (downs.take (k + 1)).flatMap zzu) wA) := zmh (by
              rw [zal zzu downs k _ HX.out, <- zmk, HY.out]
              exact bT.out)
           | have cM : Hid (Put w e o xs (jV ++ (fdowns.take (k + 1)).flatMap (Lib.beBytes 8)) wA) := zmh (by
              rw [zal (Lib.beBytes 8) fdowns k _ HX.out, <- zmk, HY.out]
              exact bT.out)
          clear bT; go_wp2; go_roundw
          case rel => exact ⟨k + 1, by omega, by go_num, cM⟩
          case measure => simp [intOf]; omega
         ·obtain rfl : k = n4 := by omega
          have R := dz.out; rw [zmq (by rw [mS.out]; exact zmt _)] at R
          first | (guard_hyp ag; have bI := zaM zzu 10 downs k (fun x hx => zbu x (V4.out x hx).1 (V4.out x hx).2)) | (have bI := zaM (Lib.beBytes 8) 8 fdowns k (fun x hx => by simp [zmr]))
          rw [zmq (by rw [mS.out]; exact zmt _)] at bI
          first | (guard_hyp ag; have ct : k * 10 <= 60 * 10 := zmu _ (by omega)) | (have ct : k * 8 <= 60 * 8 := zmu _ (by omega))
          first | (guard_hyp ag; obtain ⟨rb, hY⟩ := exE (jV ++ downs.flatMap zzu)) | (obtain ⟨rb, hY⟩ := exE (jV ++ fdowns.flatMap (Lib.beBytes 8)))
          rw [hY] at R
          first | (guard_hyp ag; have mZ : rb.length <= 3687 := by rw [<- hY, zmi]; omega) | (have mZ : rb.length <= 3443 := by rw [<- hY, zmi]; omega)
          have rn := zmh hY; have hB := R.blk HE.out HB.out (by decide) (by decide); have kb := zmh hB; have ka := zmh R; have p1 : wr.cell? ⟨g, 1, none⟩ = some (.int .i32 schema) := hB.cell 1; clear R bI ct hY hB dz od rZ pB hlt hk; rcases eN : (schema == -53) with _ | _
          ·go_wp2_with (go_at_call 233; refine (zch schema _).mono ?_; rintro rc wc ⟨rfl, rfl⟩)
           go_end0; refine ⟨rfl, ?_⟩; have hR := ka.out; have aN : ¬ schema = -53 := by simpa using eN
           rw [<- rn.out, <- o6.out, <- ro.out, <- o8.out, <- rq.out, <- HY9.out, <- HY8.out, <- HY7.out, <- HY6.out, <- HY5.out, <- oU.out, <- HY3.out, <- rl.out, <- rt.out, <- HY0.out] at hR
           first | (guard_hyp ag; simpa [zaX, zbS, zdr, zc6, zcu, aN, ke.out, dk.out, dF.out, mS.out, zmk] using hR) | (simpa [zaY, zbS, zdr, zc6, zcu, aN, ke.out, dk.out, dF.out, mS.out, zmk] using hR)
          ·have p10 : wr.cell? ⟨g, 10, none⟩ = some (.slice A5 n5 c5) := kb.out.cell 10
           first
            | guard_hyp ag
              go_wp2_with (first
               | (go_at_call 233; refine (zch schema _).mono ?_; rintro rc wc ⟨rfl, rfl⟩)
               | (go_at_call 186; refine (zag ka.out (f := 186) (args := #[.pointer (some ⟨e, 0, none⟩), .int .i64 n5]) (zs := Lib.uvarint n5) (fun o2 he => za8 _ o2 _ n5 (by omega) _ he (by rw [zmi]; omega))).mono ?_; rintro r15 w15 ⟨rfl, R, K⟩
                  clear p10 p1; have hB := K.out _ _ _ (by decide) (by decide) kb.out; have p10 : w15.cell? ⟨g, 10, none⟩ = some (.slice A5 n5 c5) := hB.cell 10; have rY := zmh hB; obtain ⟨mL, hY⟩ := exE (rb ++ Lib.uvarint n5); rw [hY] at R; have pA : mL.length <= 3697 := by have hq : (Lib.uvarint n5).length <= 10 := zmx (by omega); rw [<- hY, zmi]; omega
                  have rm := zmh hY; have oc := zmh R
                  clear R K hB hY ka kb mZ))
            | go_wp2_with (first
               | (go_at_call 233; refine (zch schema _).mono ?_; rintro rc wc ⟨rfl, rfl⟩)
               | (go_at_call 186; refine (zag ka.out (f := 186) (args := #[.pointer (some ⟨e, 0, none⟩), .int .i64 n5]) (zs := Lib.uvarint n5) (fun o2 he => za8 _ o2 _ n5 (by omega) _ he (by rw [zmi]; omega))).mono ?_; rintro r15 w15 ⟨rfl, R, K⟩
                  clear p10 p1; have hB := K.out _ _ _ (by decide) (by decide) kb.out; have p10 : w15.cell? ⟨g, 10, none⟩ = some (.slice A5 n5 c5) := hB.cell 10; have rY := zmh hB; obtain ⟨mL, hY⟩ := exE (rb ++ Lib.uvarint n5); rw [hY] at R; have pA : mL.length <= 3453 := by have hq : (Lib.uvarint n5).length <= 10 := zmx (by omega); rw [<- hY, zmi]; omega
                  have rm := zmh hY; have oc := zmh R
                  clear R K hB hY ka kb mZ))
           first | (guard_hyp ag; go_loopw [162] (fun i wr => ∃ k : Nat, k <= n5 /\ i = .int .i64 k /\ Hid (Put w e o xs (mL ++ (cus.take k).flatMap (Lib.beBytes 8)) wr)) (fun i _ => n5 - (intOf i).toNat)) | (go_loopw [160] (fun i wr => ∃ k : Nat, k <= n5 /\ i = .int .i64 k /\ Hid (Put w e o xs (mL ++ (cus.take k).flatMap (Lib.beBytes 8)) wr)) (fun i _ => n5 - (intOf i).toNat))
           case atStart => exact ⟨0, zms _, rfl, zmh (by simpa using oc.out)⟩
           case round =>
            obtain ⟨k, hk, rfl, dz⟩ := hrel; by_cases hlt : k < n5
            ·have fK := Z5.out.fr (dz.out).fr gi.out
             obtain ⟨g1, off, rfl, _, aa⟩ := fK.at (by omega); obtain ⟨x, hx⟩ : ∃ x, cus[k]? = some x := ⟨_, zmj (by rw [sm.out]; exact hlt)⟩; have gC := V5.out x (zmp hx); have d0 : wr.cell? ⟨g1, off + k, none⟩ = some (.float .f64 x) := aa k _ (by rw [zi0 f1 (fun _ => rfl) cus k x hx]; rfl)
             have bI := zaM (Lib.beBytes 8) 8 cus k (fun x hx => by simp [zmr]); have ct : k * 8 <= 60 * 8 := zmu _ (by omega); have HX := zmh hx; have RA := dz.out; obtain ⟨Y, hY⟩ := exE (mL ++ (cus.take k).flatMap (Lib.beBytes 8)); rw [hY] at RA
             first | (guard_hyp ag; have hv : Y.length <= 3697 + 480 := by rw [<- hY, zmi]; omega) | (have hv : Y.length <= 3453 + 480 := by rw [<- hY, zmi]; omega)
             have HY := zmh hY; have bV := zmh RA; clear fK aa hx bI ct RA hY dz
             go_wp2_with (go_at_call 244; refine (zag bV.out (f := 244) (args := #[.pointer (some ⟨e, 0, none⟩), .float .f64 x]) (zs := Lib.beBytes 8 x) (fun o2 he => zbV _ o2 _ x gC _ he (by rw [zmi]; omega))).mono ?_; rintro rA wA ⟨rfl, R1, K1⟩
                          have bT := zmh R1
                          clear R1 K1 bV)
             have cM : Hid (Put w e o xs (mL ++ (cus.take (k + 1)).flatMap (Lib.beBytes 8)) wA) := zmh (by
              rw [zal (Lib.beBytes 8) cus k _ HX.out, <- zmk, HY.out]
              exact bT.out)
             clear bT; go_wp2; go_roundw
             case rel => exact ⟨k + 1, by omega, by go_num, cM⟩
             case measure => simp [intOf]; omega
            ·obtain rfl : k = n5 := by omega
             have R := dz.out; rw [zmq (by rw [sm.out]; exact zmt _)] at R; have bI := zaM (Lib.beBytes 8) 8 cus k (fun x hx => by simp [zmr]); rw [zmq (by rw [sm.out]; exact zmt _)] at bI; have ct : k * 8 <= 60 * 8 := zmu _ (by omega); obtain ⟨Y16, hY⟩ := exE (mL ++ cus.flatMap (Lib.beBytes 8)); rw [hY] at R
             first | (guard_hyp ag; have hv16 : Y16.length <= 4177 := by rw [<- hY, zmi]; omega) | (have hv16 : Y16.length <= 3933 := by rw [<- hY, zmi]; omega)
             have HY16 := zmh hY; have hB := R.blk HE.out HB.out (by decide) (by decide); have HK16 := zmh hB; have HR16 := zmh R; clear bI ct hY hB dz oc rY pA hlt hk; go_wp2; go_end0; refine ⟨rfl, ?_⟩; have hR := R; have aN : schema = -53 := by simpa using eN
             rw [<- HY16.out, <- rm.out, <- rn.out, <- o6.out, <- ro.out, <- o8.out, <- rq.out, <- HY9.out, <- HY8.out, <- HY7.out, <- HY6.out, <- HY5.out, <- oU.out, <- HY3.out, <- rl.out, <- rt.out, <- HY0.out] at hR
             first | (guard_hyp ag; simpa [zaX, zbS, zdr, zc6, zcu, aN, ke.out, dk.out, dF.out, mS.out, sm.out, zmk] using hR) | (simpa [zaY, zbS, zdr, zc6, zcu, aN, ke.out, dk.out, dF.out, mS.out, sm.out, zmk] using hR)
theorem zfz : type_of% (zcp.1 trivial) := zcp.1 trivial
theorem zfA : type_of% (zcp.2 trivial) := zcp.2 trivial
structure ExD where
 ref : Nat
 t : Int
 v : Nat
 labs : List Lab
def exd (x : ExD) : List Value := [.int .u64 x.ref, .int .i64 x.t, .float .f64 x.v, .string (zau x.labs)]
def zaW (br : Nat) (bt : Int) (st : St) : ExD × St :=
 (⟨u64 ((br : Int) + u64 (zaJ st).1), wrap64 (bt + (zaJ (zaJ st).2).1), (zac (zaJ (zaJ st).2).2).1, (zfW (zac (zaJ (zaJ st).2).2).2).1⟩, (zfW (zac (zaJ (zaJ st).2).2).2).2)
def zen (st : St) : Prop := zfp (zac (zaJ (zaJ st).2).2).2
def zbM (rest : List UInt8) : Option (List ExD) :=
 if rest = [] then some [] else match zaj (zaW (zac (some rest)).1 (zav (zac (some rest)).2).1) rest.length (zav (zac (some rest)).2).2 [] with
  | (l, some _) => some l
  | (_, none) => none
def zbB (xs : List UInt8) : Option (List ExD) :=
 match xs with
 | [] => none
 | b :: rest => if b = 4 then zbM rest else none
theorem zkh {br : Nat} {bt : Int} {l0 l : List UInt8} (h : (zaW br bt (some l0)).2 = some l) : l.length < l0.length := by
 obtain ⟨l1, h1, e1⟩ := zkS h; obtain ⟨l2, h2, e2⟩ := zbH (st := (zaJ (zaJ (some l0)).2).2) h1; obtain ⟨l3, h3, e3⟩ := zb5 (st := (zaJ (some l0)).2) h2; obtain ⟨l4, h4, e4⟩ := zb5 (st := some l0) h3; injection h4 with h4; subst h4; omega
def zeB (S : Nat -> Prop) (w : World) (base : Nat) (pre : List ExD) (er : Option (List ExD)) (r : Ending) (w' : World) : Prop :=
 Fr S w w' /\ match er with
  | some l => ∃ v', r = .returned (.tuple #[v', .nilIface]) /\ w'.ownsRow base 157 4 v' (pre ++ l).length ((pre ++ l).flatMap exd)
  | none => ∃ t a, r = .returned (.tuple #[.slice none 0 0, .iface t a])
theorem zdP {S : Nat -> Prop} {w w' : World} {base : Nat} {pre : List ExD} {er : Option (List ExD)} {t : TypeId} {a : Value} (hd : er = none) (hf : Fr S w w') : zeB S w base pre er (.returned (.tuple #[.slice none 0 0, .iface t a])) w' := by
 unfold zeB; rw [hd]; exact ⟨hf, _, _, rfl⟩
theorem zeI {S : Nat -> Prop} {w w' : World} {base : Nat} {pre : List ExD} {er : Option (List ExD)} {l : List ExD} {v : Value} (hd : er = some l) (hf : Fr S w w') (ho : w'.ownsRow base 157 4 v (pre ++ l).length ((pre ++ l).flatMap exd)) : zeB S w base pre er (.returned (.tuple #[v, .nilIface])) w' := by
 unfold zeB; rw [hd]; exact ⟨hf, _, rfl, ho⟩
theorem back_S2 {w w' : World} {o : Option Nat} {b0 d d2 : Nat} (h : Fr (fun k => some k = o ∨ k = d2 ∨ zdu w b0 d k) w w') (k : Nat) (hk : k < w.heap.size) (hs : DS w' b0 d d2 k) : some k = o ∨ k = d2 ∨ zdu w b0 d k := by
 rcases Classical.em (some k = o ∨ k = d2 ∨ zdu w b0 d k) with hy | hn
 ·exact hy
 ·rcases hs with rfl | rfl | ⟨hb, cs, hc⟩
  ·exact .inr (.inl rfl)
  ·exact .inr (.inr (.inl rfl))
  ·exact .inr (.inr (.inr ⟨hb, cs, (h.block k hk hn).symm.trans hc⟩))
theorem zl1 {br : Nat} {bt : Int} {rest s : List UInt8} {dQ : St} {l : List ExD} (h0 : rest ≠ []) (h1 : (zac (some rest)).1 = br) (h2 : (zav (zac (some rest)).2) = (bt, dQ)) (h : zaj (zaW br bt) rest.length dQ [] = (l, some s)) : zbM rest = some l := by
 unfold zbM; rw [znd h0, h1, h2]; simp only []; rw [h]
theorem zl2 {br : Nat} {bt : Int} {rest : List UInt8} {dQ : St} {l : List ExD} (h0 : rest ≠ []) (h1 : (zac (some rest)).1 = br) (h2 : (zav (zac (some rest)).2) = (bt, dQ)) (h : zaj (zaW br bt) rest.length dQ [] = (l, none)) : zbM rest = none := by
 unfold zbM; rw [znd h0, h1, h2]; simp only []; rw [h]
theorem zi2 (te : TypeId) (pe : Value) (b0 d d2 g base : Nat) (cur : Array Value) (pre : List ExD) (sv : Value) (w : World) (hD : Dec te pe w d2 g cur (some [])) (ho : w.ownsRow base 157 4 sv pre.length (pre.flatMap exd)) :
 Calls prog 170 #[.pointer (some ⟨d, 0, none⟩), .pointer (some ⟨d2, 0, none⟩), sv] w (zeB (fun k => some k = sv.ownBlock ∨ k = d2 ∨ zdu w b0 d k) w base pre (zbM [])) := by
 have hL := ze5 te pe _ _ _ _ _ hD; have HO := zmh ho; obtain ⟨a', n', k', rfl⟩ := zab ho; clear ho hD; go_enter func170, ntmps170; go_wp2_with (go_at_call 118; refine hL.mono ?_; rintro r w2 ⟨n, rfl, hn, _, rfl⟩; have fT := hn _ rfl; subst fT)
 go_ret2; exact zeI (l := []) rfl (znl _ w) (by rw [zmD]; exact HO.out)
theorem zki (te : TypeId) (pe : Value) (b0 d d2 g base : Nat) (cur : Array Value) (pre : List ExD) (rest : List UInt8) (aN : rest ≠ []) (sv : Value) (w : World) (hD : Dec te pe w d2 g cur (some rest)) (ho : w.ownsRow base 157 4 sv pre.length (pre.flatMap exd)) (hb : 2 < base /\ base <= w.heap.size) (bx : pre.length <= 1073741824)
 (ak : St -> Prop) (hG : ∀ l, ak (some l) -> zen (some l) /\ ak (zaW (zac (some rest)).1 (zav (zac (some rest)).2).1 (some l)).2) (aZ : ak (zav (zac (some rest)).2).2)
 (lb : List Lab) (ob : ByteArray) (hB : Bld w b0 d lb ob) (fE : b0 <= w.heap.size /\ 2 < b0 /\ b0 <= d) :
 Calls prog 170 #[.pointer (some ⟨d, 0, none⟩), .pointer (some ⟨d2, 0, none⟩), sv] w (zeB (fun k => some k = sv.ownBlock ∨ k = d2 ∨ zdu w b0 d k) w base pre (zbM rest)) := by
 have mixed : prog.follows .mixedOrders = true := by kernel_rfl
 obtain ⟨i0, aC, az, ay, aB⟩ := info_parts info157; have hL := ze5 te pe _ _ _ _ _ hD; have cP := zcA te pe _ _ _ _ _ hD; have oH : rest.length <= 1099511627776 := by
  obtain ⟨n, off', c', _, _, hn, aQ, _⟩ := hD.open_; have := hn _ rfl; omega
 obtain ⟨cs0, iN, lq, hlt2⟩ := zb6 hD; obtain ⟨br, bM⟩ := exE ((zac (some rest)).1); obtain ⟨T1, gu⟩ := exE ((zac (some rest)).2); obtain ⟨bt, ln⟩ := exE ((zav T1).1); obtain ⟨T2, iQ⟩ := exE ((zav T1).2); rw [bM, gu] at cP; rw [bM, gu, ln] at hG; rw [gu, iQ] at aZ; have fQ : zav (zac (some rest)).2 = (bt, T2) := by rw [gu]; exact Prod.ext ln iQ
 have j0 := zmh aN; have oB := zmh bM; have gy := zmh fQ; have ii := zmh hG; have kC := zmh aZ; have HO := zmh ho; have hod : ∀ k, sv.ownBlock = some k -> k ≠ d2 := fun k hk e => zak ho iN (by decide) (by rw [hk, e]); obtain ⟨a', k', rfl⟩ := zaa ho; obtain ⟨np, fk⟩ := exE pre.length; have lM := zmh fk; rw [fk] at HO bx hod ⊢
 have HOD := zmh hod; have HB0 := zmh hB; have hdw : d < w.heap.size := let ⟨_, _, h, _⟩ := hB; h.lt
 have hd2w : d2 < w.heap.size := iN.lt; have eT : Hid (∀ W, Dec te pe W d2 g cur T1 -> Calls prog 164 #[.pointer (some ⟨d2, 0, none⟩)] W (zb0 te pe W d2 g cur (.int .i64 bt) T2)) := zmh (fun W hW => by have := zil te pe _ _ _ _ _ hW; rwa [ln, iQ] at this); have HBD0 := zmh iN
 have hr1 : ((rest.length : Int) == 0) = false := by have := List.length_pos_iff.2 aN; simp; omega
 clear hD ho fk hB aN bM fQ hG aZ ln iQ gu hod iN lq; go_enter func170, ntmps170
 go_wp2_with (first
  | (go_at_call 118; refine hL.mono ?_; rintro r w0 ⟨n, rfl, hn, _, rfl⟩; have fT : n = rest.length := hn _ rfl; subst fT)
  | (go_at_call 162; refine cP.mono ?_; rintro r w1 ⟨rfl, cQ, cu⟩; have so := zmh cQ; have sg := zmh cu; clear cQ cu)
  | (go_at_call 164; refine (eT.out _ so.out).mono ?_; rintro r w2 ⟨rfl, fg, fc⟩; have pc := zmh fg; have kD := zmh (sg.out.same fc); clear fg fc))
 have F1 : Fr (fun k => some k = (Value.slice a' np k').ownBlock ∨ k = d2 ∨ zdu w b0 d k) w w2 := kD.out.mono (fun _ _ e => .inr (.inl e)); have O1 : w2.ownsRow base 157 4 (.slice a' np k') np (pre.flatMap exd) := zai HO.out kD.out (fun k hk => HOD.out k hk); have B1 : Bld w2 b0 d lb ob := zhK HB0.out HBD0.out kD.out; have bh := F1.size
 have eM : ∀ k, (Value.slice a' np k').ownBlock = some k -> k < w.heap.size := fun k hk => zaq HO.out hk; have bX := zmh F1; have de := zmh O1; have cE := zmh B1; have ir := zmh eM; clear F1 O1 eM B1 cP hL
 go_loopw [2] (fun sv wr => ∃ (st : St) (acc : List ExD) (j : Nat), Hid (Dec te pe wr d2 g cur st) /\ Hid (wr.ownsRow base 157 4 sv (np + acc.length) ((pre ++ acc).flatMap exd)) /\ Hid (Fr (fun k => some k = (Value.slice a' np k').ownBlock ∨ k = d2 ∨ zdu w b0 d k) w wr) /\ Hid (∀ k, sv.ownBlock = some k -> (some k = (Value.slice a' np k').ownBlock ∨ w.heap.size <= k)) /\
  Hid (zaj (zaW br bt) j st acc = zaj (zaW br bt) rest.length T2 []) /\ Hid (∀ l, st = some l -> l.length <= j /\ acc.length + l.length <= rest.length) /\ acc.length <= rest.length + 1 /\ Hid (ak st) /\ Hid (∃ lb ob, Bld wr b0 d lb ob)) (fun _ wr => zij d2 wr)
 case atStart => exact ⟨T2, [], rest.length, pc, zmh (by simpa using de.out), bX, zmh (fun k hk => .inl hk.symm), zmh rfl, zmh (fun l hl => by
  have h : (zac (zac (some rest)).2).2 = T2 := zm7 Prod.snd gy.out; obtain ⟨l1, h1, e1⟩ := zbH (st := (zac (some rest)).2) (h.trans hl); obtain ⟨l2, h2, e2⟩ := zbH (st := some rest) h1; injection h2 with h2; subst h2
  simp; omega), by simp, kC, zmh ⟨_, _, cE.out⟩⟩
 case round =>
  obtain ⟨st, acc, j, HD, HO, HF, HB, HE, HL, mC, oo, mT⟩ := hrel; obtain ⟨n6, iA, c6, p0, p1, cK, aQ, hd, hg, h2⟩ := HD.out.open_; have hE := zgS te pe _ _ _ _ _ HD.out; obtain ⟨a6, k6, rfl⟩ := zaa HO.out; rcases st with _ | l
  ·clear cK p1
   have aG : zaj (zaW br bt) rest.length T2 [] = (acc, none) := by rw [<- HE.out]; unfold zaj; rcases j with _ | j <;> rfl
   have HR := zmh (zl2 j0.out oB.out gy.out aG); clear aG; simp only [zju] at hE; rcases zmE n6 with rfl | oJ
   ·go_wp2_with (go_at_call 119; refine hE.mono ?_; rintro r w7 ⟨rfl, rfl⟩)
    go_ret2; exact zdP HR.out HF.out
   ·have bY : (0 : Int) < (n6 : Int) := by omega
    go_wp2_with (go_at_call 119; refine hE.mono ?_; rintro r w7 ⟨rfl, rfl⟩)
    go_ret2; exact zdP HR.out HF.out
  ·obtain rfl : n6 = l.length := cK l rfl
   simp only [zju] at hE; rcases l with _ | ⟨x, r⟩
   ·have aG : zaj (zaW br bt) rest.length T2 [] = (acc, some []) := by rw [<- HE.out]; unfold zaj; rcases j with _ | j <;> rfl
    have HR := zmh (zl1 j0.out oB.out gy.out aG); clear aG cK p1; simp only [zm9] at p0; go_wp2_with (go_at_call 119; refine hE.mono ?_; rintro r w7 ⟨rfl, rfl⟩)
    go_ret2; refine zeI HR.out HF.out ?_; have h := HO.out; rw [zmi, lM.out]; exact h
   ·obtain ⟨n7, bY⟩ := exE ((x :: r).length)
    have mr : (0 : Int) < (n7 : Int) := by rw [<- bY]; simp
    have gm := HL.out _ rfl; have hM := zbo HD.out; rw [bY] at p0 gm hM; obtain ⟨aW, bR⟩ := ii.out _ oo.out; have eV := zmh bY; obtain ⟨S0, gS⟩ : ∃ S0 : St, some (x :: r) = S0 := ⟨_, rfl⟩; have nO := HD.out; rw [gS] at aW bR nO; have ic := zmh gS; have ot := zmh bR; have cP := zdA te pe _ _ _ _ _ nO; obtain ⟨v0, eY⟩ := exE ((zaJ S0).1)
    obtain ⟨S1, hS1⟩ := exE ((zaJ S0).2); obtain ⟨v1, cA⟩ := exE ((zaJ S1).1); obtain ⟨S2, hS2⟩ := exE ((zaJ S1).2); obtain ⟨v2, bd⟩ := exE ((zac S2).1); obtain ⟨S3, hS3⟩ := exE ((zac S2).2); rw [eY, hS1] at cP
    have HV2 : Hid (∀ W, Dec te pe W d2 g cur S1 -> Calls prog 165 #[.pointer (some ⟨d2, 0, none⟩)] W (zb0 te pe W d2 g cur (.int .i64 v1) S2)) := zmh (fun W hW => by have := zdA te pe _ _ _ _ _ hW; rwa [cA, hS2] at this)
    have HV3 : Hid (∀ W, Dec te pe W d2 g cur S2 -> Calls prog 162 #[.pointer (some ⟨d2, 0, none⟩)] W (zb0 te pe W d2 g cur (.int .u64 v2) S3)) := zmh (fun W hW => by have := zcA te pe _ _ _ _ _ hW; rwa [bd, hS3] at this); unfold zen at aW; rw [hS1, hS2, hS3] at aW; have mQ := zmh aW
    have o9 := zmh (zm8 eY (zm8 hS1 (zm8 cA (zm8 hS2 (zm8 bd hS3))))); obtain ⟨cs8, ft, _, _⟩ := zb6 HD.out; have ki := zmh ft; clear cK p1 bY gS bR aW eY hS1 cA hS2 bd hS3 ft nO; have oG := HF.out.size
    go_wp2_with (first
     | (go_at_call 119; refine hE.mono ?_; rintro r w7 ⟨rfl, rfl⟩)
     | (go_at_call 162; refine (HV3.out _ pc.out).mono ?_; rintro r w8 ⟨rfl, qI, qg⟩; have HDc := zmh qI; have HFc := zmh (kD.out.same qg); clear qI qg; refine Hid.out ?_)
     | (go_at_call 165; refine (HV2.out _ so.out).mono ?_; rintro r w8 ⟨rfl, fg, fc⟩; have pc := zmh fg; have kD := zmh (sg.out.same fc); clear fg fc)
     | (go_at_call 165; refine cP.mono ?_; rintro r w8 ⟨rfl, cQ, cu⟩; have so := zmh cQ; have sg := zmh cu; clear cQ cu))
    obtain ⟨lb8, ob8, ch⟩ := mT.out; have iU := zhK ch ki.out HFc.out; have hs8 := HFc.out.size; obtain ⟨LN, lD⟩ := exE ((gUv S3).1); obtain ⟨S4, hS4⟩ := exE ((gUv S3).2); have iJ := mQ.out; unfold zfp zfW at iJ; rw [lD, hS4] at iJ
    have hX := zdz te pe b0 d d2 g cur lb8 ob8 S3 w8 iU HDc.out (by omega) (by omega) (by omega) LN S4 (Prod.ext lD hS4) iJ.1 iJ.2.1 iJ.2.2 (zeG S4); have pX : zfW S3 = za9 S4 LN := by unfold zfW; rw [lD, hS4]
    rw [<- pX] at hX; obtain ⟨ll, dh⟩ := exE ((zfW S3).1); obtain ⟨S5, iR⟩ := exE ((zfW S3).2); rw [dh, iR] at hX; obtain ⟨bO, gE⟩ := exE (zau ll); have hbn : ∀ k, (Value.slice a6 (np + acc.length) k6).ownBlock = some k -> k ≠ d2 := fun k hk e => zak HO.out ki.out (by decide) (by rw [hk, e])
    have O8 : w8.ownsRow base 157 4 (.slice a6 (np + acc.length) k6) (np + acc.length) ((pre ++ acc).flatMap exd) := zai HO.out HFc.out (fun k hk e => hbn k hk e); have F8 : Fr (fun k => some k = (Value.slice a' np k').ownBlock ∨ k = d2 ∨ zdu w b0 d k) w w8 := HF.out.trans HFc.out (fun k hk e => .inr (.inl e)); have kF := zmh (show ∃ cs, Blk w8 d 119 cs from let ⟨_, _, h, _⟩ := iU; ⟨_, h⟩)
    rw [gE] at hX; have HX := zmh hX; have iZ := zmh O8; have fH := zmh F8; have HBN := zmh hbn; have jk := zmh (zm8 dh (zm8 iR gE)); have hr6 := ziE; clear hX O8 F8 dh iR gE pX iJ lD hS4 iU ch cP p0 hbn; refine zmh ?_
    go_wp2_with (go_at_call 117; refine HX.out.mono ?_; rintro r w9 ⟨rfl, fh, dY, iU⟩; have rh := zmh fh; have nZ := zmh dY; have rk := zmh iU; clear fh dY iU)
    obtain ⟨cs9, fq⟩ := kF.out; have hs9 := nZ.out.size; have O9 : w9.ownsRow base 157 4 (.slice a6 (np + acc.length) k6) (np + acc.length) ((pre ++ acc).flatMap exd) := own_DS iZ.out (by decide) (by decide) fq (fun k hk => HBN.out k hk) nZ.out
    have F9 : Fr (fun k => some k = (Value.slice a' np k').ownBlock ∨ k = d2 ∨ zdu w b0 d k) w w9 := fH.out.trans nZ.out (fun k hk e => back_S2 fH.out k hk e); have cN := zmh O9; have dP := zmh F9; obtain ⟨q0, q1, q2, q3, q4, q5⟩ := o9.out; obtain ⟨q6, q7, q8⟩ := jk.out
    have bg : zaW br bt S0 = (⟨u64 ((br : Int) + u64 v0), wrap64 (bt + v1), v2, ll⟩, S5) := by unfold zaW; rw [q1, q0, q3, q2, q5, q4, q6, q7]
    obtain ⟨y0, ei⟩ := exE (u64 ((br : Int) + u64 v0)); obtain ⟨y1, dC⟩ := exE (wrap64 (bt + v1)); rw [ei, dC] at bg; have hw0 : IntKind.u64.wrap ((br : Int) + IntKind.u64.wrap v0) = (y0 : Int) := by rw [<- ei, IntKind.wrap_u64, IntKind.wrap_u64]; unfold u64; omega
    have kP : IntKind.i64.wrap (bt + v1) = y1 := by rw [<- dC, IntKind.wrap_i64]; unfold wrap64; omega
    have dk : Hid (∀ j', j = j' + 1 -> zaj (zaW br bt) j' S5 (acc ++ [⟨y0, y1, v2, ll⟩]) = zaj (zaW br bt) rest.length T2 []) := zmh (by
     rintro j' rfl; have h := HE.out; have h2 : zaj (zaW br bt) (j' + 1) (some (x :: r)) acc = zaj (zaW br bt) j' (zaW br bt (some (x :: r))).2 (acc ++ [(zaW br bt (some (x :: r))).1]) := rfl; rw [h2, ic.out, bg] at h
     exact h)
    have bi : Hid (∀ l, S5 = some l -> l.length < n7) := zmh (fun l hl => by
     have h := zkh (br := br) (bt := bt) (l0 := x :: r) (l := l) (by rw [ic.out, bg]; exact hl)
     rw [eV.out] at h; exact h)
    have oq : Hid (ak S5) := zmh (by have h := ot.out; rw [bg] at h; exact h); have oh := zmh q8; clear O9 F9 q0 q1 q2 q3 q4 q5 q6 q7 q8 bg hE fq ei dC; have KB9 := zmh (znm w9 99 #[.string bO]); have s0 : (w9.alloc (.cells #[.string bO] 99)).drew.cell? ⟨w9.heap.size, 0, none⟩ = some (.string bO) := KB9.out.cell 0
    go_region_held3 (fun w' => w'.cell? ⟨w9.heap.size, 0, none⟩ = some (.string bO))
     ((first | exact ef.out.cell 0 | exact (KB9.out.drew.alloc _).cell 0 | exact KB9.out.drew.cell 0 | exact s0 | go_keep))
     ((first
       | (refine zat _ (by rfl) _ _ 152 152 (by rfl) base 157 i0 _ 4 40 underlying152 aC az ay aB rfl (by decide) (.slice a6 (np + acc.length) k6) (np + acc.length) ((pre ++ acc).flatMap exd) (by rfl) ((cN.out.alloc _).alloc _).drew _ 1 [.int .u64 y0, .int .i64 y1, .float .f64 v2, .string bO] (by rfl) (zaF underlying152 (zaH w9 (.cells #[.string bO] 99) 157 #[.int .u64 y0, .int .i64 y1, .float .f64 v2, .string bO]).drew rfl (by simp [Value.oneCell'])) (by unfold maxLen; omega) (by omega) (by simp; omega) ?_; intro v' w2 ac ad av; have ef := zmh ((KB9.out.alloc (.cells #[.int .u64 y0, .int .i64 y1, .float .f64 v2, .string bO] 157)).drew.grown ad (fun e => zm1 _ (zaq cN.out e.symm))))))
    obtain ⟨a9, k9, rfl⟩ := zaa ac; have aO : ∀ k, (Value.slice a6 (np + acc.length) k6).ownBlock = some k -> base <= k /\ k ≠ d2 := fun k hk => ⟨(cN.out.lt k hk).1, HBN.out k hk⟩; have iB := ad.size; simp at iB
    have fG : Fr (fun k => some k = (Value.slice a6 (np + acc.length) k6).ownBlock) w9 w2 := ((((znl (fun k => some k = (Value.slice a6 (np + acc.length) k6).ownBlock) w9).alloc _).alloc _).drew).grown ad (fun k hk => .inl hk.symm); obtain ⟨qW, iO, fV, _⟩ := zb6 rh.out
    have rD : Dec te pe w2 d2 g cur S5 := rh.out.fr fG (fun e => (aO _ e.symm).2 rfl) (fun e => zak cN.out fV (by decide) e.symm) (fun e => by have := (aO _ e.symm).1; omega); have pn : Bld w2 b0 d ll bO := by
     have h2 := rk.out; obtain ⟨_, _, lw, _⟩ := h2; exact rk.out.fr fG (fun e => zak cN.out lw (by decide) e.symm) (fun g' _ hc e => by obtain ⟨cs, hc⟩ := hc; exact zak cN.out hc (by decide) e.symm)
    have rO : w2.ownsRow base 157 4 (.slice a9 (np + acc.length + 1) k9) (np + (acc ++ [(⟨y0, y1, v2, ll⟩ : ExD)]).length) ((pre ++ (acc ++ [(⟨y0, y1, v2, ll⟩ : ExD)])).flatMap exd) := by
     rw [<- zmk, zmQ, zmi, zmy]; simpa [exd, oh.out, Nat.add_assoc] using ac
    have rF : Fr (fun k => some k = (Value.slice a' np k').ownBlock ∨ k = d2 ∨ zdu w b0 d k) w w2 := dP.out.trans fG (fun k hk e => by
     rcases HB.out k e.symm with h | h
     ·exact .inl h
     ·omega)
    have rB : ∀ k, (Value.slice a9 (np + acc.length + 1) k9).ownBlock = some k -> (some k = (Value.slice a' np k').ownBlock ∨ w.heap.size <= k) := fun k hk => by
     rcases av with h | h
     ·exact HB.out k (h ▸ hk)
     ·rw [h] at hk; injection hk with hk; simp at hk; exact .inr (by omega)
    have rM : zij d2 w2 < n7 + 1 := by
     rcases S5 with _ | l9
     ·rw [zc7 rD]; omega
     ·rw [zbo rD]; have := bi.out l9 rfl; omega
    have RD := zmh rD; have RO := zmh rO; have RF := zmh rF; have RB := zmh rB; have RBL : Hid (∃ lb ob, Bld w2 b0 d lb ob) := zmh ⟨_, _, pn⟩; clear rD rO rF rB pn ac ad av aO fG iO fV s0 ef; go_wp2; go_roundw
    case rel =>
     obtain ⟨j', rfl⟩ : ∃ j', j = j' + 1 := ⟨j - 1, by have := eV.out; simp at this; omega⟩; refine ⟨S5, acc ++ [⟨y0, y1, v2, ll⟩], j', RD, RO, RF, RB, zmh (dk.out j' rfl), zmh (fun l hl => ?_), by simp; omega, oq, RBL⟩; have := bi.out l hl; rw [zmi, zmy]; omega
    case measure => rw [hM]; exact rM
theorem zhA (te : TypeId) (pe : Value) (b0 d d2 g base : Nat) (cur : Array Value) (pre : List ExD) (rest : List UInt8) (sv : Value) (w : World) (hD : Dec te pe w d2 g cur (some rest)) (ho : w.ownsRow base 157 4 sv pre.length (pre.flatMap exd)) (hb : 2 < base /\ base <= w.heap.size) (bx : pre.length <= 1073741824)
 (ak : St -> Prop) (hG : ∀ l, ak (some l) -> zen (some l) /\ ak (zaW (zac (some rest)).1 (zav (zac (some rest)).2).1 (some l)).2) (aZ : rest ≠ [] -> ak (zav (zac (some rest)).2).2)
 (lb : List Lab) (ob : ByteArray) (hB : Bld w b0 d lb ob) (fE : b0 <= w.heap.size /\ 2 < b0 /\ b0 <= d) :
 Calls prog 170 #[.pointer (some ⟨d, 0, none⟩), .pointer (some ⟨d2, 0, none⟩), sv] w (zeB (fun k => some k = sv.ownBlock ∨ k = d2 ∨ zdu w b0 d k) w base pre (zbM rest)) := by
 by_cases h : rest = []
 ·subst h
  exact zi2 te pe b0 d d2 g base cur pre sv w hD ho
 ·exact zki te pe b0 d d2 g base cur pre rest h sv w hD ho hb bx ak hG (aZ h) lb ob hB fE
theorem zkw (te : TypeId) (pe : Value) (b0 d g base : Nat) (cur : Array Value) (pre : List ExD) (xs : List UInt8) (v sv : Value) (w : World) (h : Rec te pe w g cur xs v) (ho : w.ownsRow base 157 4 sv pre.length (pre.flatMap exd)) (hb : 2 < base /\ base <= w.heap.size) (bx : pre.length <= 1073741824)
 (ak : St -> Prop) (hG : ∀ rest, xs = 4 :: rest -> ∀ l, ak (some l) -> zen (some l) /\ ak (zaW (zac (some rest)).1 (zav (zac (some rest)).2).1 (some l)).2) (aZ : ∀ rest, xs = 4 :: rest -> rest ≠ [] -> ak (zav (zac (some rest)).2).2)
 (lb : List Lab) (ob : ByteArray) (hB : Bld w b0 d lb ob) (fE : b0 <= w.heap.size /\ 2 < b0 /\ b0 <= d) :
 Calls prog 77 #[.pointer (some ⟨d, 0, none⟩), v, sv] w (zeB (fun k => some k = sv.ownBlock ∨ zdu w b0 d k) w base pre (zbB xs)) := by
 have hD := h.dec; obtain ⟨off, c, rfl, _⟩ := h; have hQ := zbC te pe w.heap.size g cur _ _ hD; have HO := zmh ho; have HB := zmh hB; have hdw : d < w.heap.size := let ⟨_, _, h, _⟩ := hB; h.lt
 have fh := zmh hD; have HG := zmh hG; have kC := zmh aZ; obtain ⟨a', n', k', rfl⟩ := zab ho; clear hD ho hB hG aZ; by_cases hx : (zaD (some xs)).1 = 4
 ·rcases xs with _ | ⟨b, rest⟩
  ·exact absurd hx (by decide)
  ·have hb2 : b = 4 := by
    have : b.toNat = (4 : UInt8).toNat := hx; exact UInt8.toNat_inj.1 this
   subst hb2; have e1 : zaD (some (4 :: rest)) = (4, some rest) := rfl; rw [e1] at hQ; have jM : zbB (4 :: rest) = zbM rest := rfl; rw [jM]; obtain ⟨n, hn⟩ := exE ((4 :: rest).length); have dG := zmh (znm w 229 #[.slice (some ⟨g, off, none⟩) (4 :: rest).length c, .nilIface]); rw [hn] at hQ dG ⊢
   have dP : Hid (z_F w (w.alloc (.cells #[.slice (some ⟨g, off, none⟩) n c, .nilIface] 229))) := zmh ((znl _ w).alloc _); clear hx e1 jM; rcases hdx : zbM rest with _ | l
   ·have HDX := zmh hdx
    clear hdx; go_enter func77, ntmps77
    go_wp2_with (first
     | (go_at_call 160; refine hQ.mono ?_; rintro r w1 ⟨rfl, cQ, cu⟩
        have B1 := (HB.out.fr dP.out id (fun _ _ _ e => e)).fr cu (by omega) (fun k hk hc e => by
         obtain ⟨cs, hc⟩ := hc; subst e
         exact znn hc dG.out (by decide) rfl)
        have O1 : w1.ownsRow base 157 4 (.slice a' n' k') pre.length (pre.flatMap exd) := zai (HO.out.alloc _) cu (fun k hk => by have := zaq HO.out hk; omega); have bh := cu.size; simp at bh; have hX := zhA te pe b0 d w.heap.size g base cur pre rest (.slice a' n' k') w1 cQ O1 (by omega) bx ak (HG.out rest rfl) (kC.out rest rfl) lb ob B1 (by omega); rw [HDX.out] at hX
        have HX := zmh hX; have kE := zmh cu
        clear hX B1 O1 cQ cu)
     | (go_at_call 170; refine HX.out.mono ?_; rintro r w2 ⟨gc, t, a, rfl⟩))
    go_ret2
    have si : Fr (fun k => some k = (Value.slice a' n' k').ownBlock ∨ zdu w b0 d k) w w2 := ((((znl (fun k => some k = (Value.slice a' n' k').ownBlock ∨ zdu w b0 d k) w).alloc _).trans kE.out (fun k hk e => by omega))).trans gc (fun k hk e => by
     rcases e with e | e | e | ⟨e, cs, hc⟩
     ·exact .inl e
     ·omega
     ·exact .inr (.inl e)
     ·rcases Classical.em (zdu w b0 d k) with hy | hn
      ·exact .inr hy
      ·refine .inr (.inr ⟨e, cs, ?_⟩)
       have h1 := (dP.out.block k hk id); have h2 := kE.out.block k (by simp; omega) (by omega)
       exact (h1.symm.trans h2.symm).trans hc)
    exact zdP rfl si
   ·have HDX := zmh hdx
    clear hdx; go_enter func77, ntmps77
    go_wp2_with (first
     | (go_at_call 160; refine hQ.mono ?_; rintro r w1 ⟨rfl, cQ, cu⟩
        have B1 := (HB.out.fr dP.out id (fun _ _ _ e => e)).fr cu (by omega) (fun k hk hc e => by
         obtain ⟨cs, hc⟩ := hc; subst e
         exact znn hc dG.out (by decide) rfl)
        have O1 : w1.ownsRow base 157 4 (.slice a' n' k') pre.length (pre.flatMap exd) := zai (HO.out.alloc _) cu (fun k hk => by have := zaq HO.out hk; omega); have bh := cu.size; simp at bh; have hX := zhA te pe b0 d w.heap.size g base cur pre rest (.slice a' n' k') w1 cQ O1 (by omega) bx ak (HG.out rest rfl) (kC.out rest rfl) lb ob B1 (by omega); rw [HDX.out] at hX
        have HX := zmh hX; have kE := zmh cu
        clear hX B1 O1 cQ cu)
     | (go_at_call 170; refine HX.out.mono ?_; rintro r w2 ⟨gc, v', rfl, dJ⟩))
    go_ret2
    have si : Fr (fun k => some k = (Value.slice a' n' k').ownBlock ∨ zdu w b0 d k) w w2 := ((((znl (fun k => some k = (Value.slice a' n' k').ownBlock ∨ zdu w b0 d k) w).alloc _).trans kE.out (fun k hk e => by omega))).trans gc (fun k hk e => by
     rcases e with e | e | e | ⟨e, cs, hc⟩
     ·exact .inl e
     ·omega
     ·exact .inr (.inl e)
     ·rcases Classical.em (zdu w b0 d k) with hy | hn
      ·exact .inr hy
      ·refine .inr (.inr ⟨e, cs, ?_⟩)
       have h1 := (dP.out.block k hk id); have h2 := kE.out.block k (by simp; omega) (by omega)
       exact (h1.symm.trans h2.symm).trans hc)
    exact zeI rfl si dJ
 ·have hd : zbB xs = none := by
   rcases xs with _ | ⟨b, r⟩
   ·rfl
   ·have : ¬ b = 4 := by rintro rfl; exact hx rfl
    simp [zbB, this]
  rw [hd]; have dS : ¬ ((zaD (some xs)).1 : Int) = 4 := by omega
  clear hx hd; generalize (zaD (some xs)).1 = x at hQ dS; generalize (zaD (some xs)).2 = st at hQ; go_enter func77, ntmps77; go_wp2_with (first | (go_at_call 160; refine hQ.mono ?_; rintro r w1 ⟨rfl, cr, ah⟩) | (go_at_call 161; refine (zbN _ _).mono ?_; rintro r w2 ⟨t, a, rfl, aq⟩))
  go_ret2; have f1 := (((znl (fun k => some k = (Value.slice a' n' k').ownBlock ∨ zdu w b0 d k) w).alloc (.cells #[.slice (some ⟨g, off, none⟩) xs.length c, .nilIface] 229)).trans ah (fun k hk e => by omega)); exact zdP rfl (f1.trans aq (fun _ _ e => e.elim))
theorem zjO (hint : UInt8) (schema : Int) (thr sum zc cnt : Nat) (A1 A2 A3 A4 A5 A6 A7 B1 B2 B3 B4 B5 B6 B7 : Option Addr) (n1 n2 n3 n4 n5 n6 n7 c1 c2 c3 c4 c5 c6 c7 d1 d2 d3 d4 d5 d6 d7 : Nat) (w : World)
 (h1 : ∀ W, z_F w W -> Calls prog 198 #[.slice A1 n1 c1, .slice B1 n1 d1] W (zap W))
 (h2 : ∀ W, z_F w W -> Calls prog 198 #[.slice A2 n2 c2, .slice B2 n2 d2] W (zap W))
 (h3 : ∀ W, z_F w W -> Calls prog 199 #[.slice A3 n3 c3, .slice B3 n3 d3] W (zap W))
 (h4 : ∀ W, z_F w W -> Calls prog 199 #[.slice A4 n4 c4, .slice B4 n4 d4] W (zap W))
 (h5 : ∀ W, z_F w W -> Calls prog 200 #[.slice A5 n5 c5, .slice B5 n5 d5] W (zap W))
 (h6 : ∀ W, z_F w W -> Calls prog 200 #[.slice A6 n6 c6, .slice B6 n6 d6] W (zap W))
 (h7 : ∀ W, z_F w W -> Calls prog 200 #[.slice A7 n7 c7, .slice B7 n7 d7] W (zap W)) :
 Calls prog 111 #[.agg #[.int .u8 hint.toNat, .int .i32 schema, .int .u64 thr, .int .u64 sum, .int .u64 zc, .int .u64 cnt, .slice A1 n1 c1, .slice A2 n2 c2, .slice A3 n3 c3, .slice A4 n4 c4, .slice A5 n5 c5, .slice A6 n6 c6, .slice A7 n7 c7], .agg #[.int .u8 hint.toNat, .int .i32 schema, .int .u64 thr, .int .u64 sum, .int .u64 zc, .int .u64 cnt, .slice B1 n1 d1, .slice B2 n2 d2, .slice B3 n3 d3, .slice B4 n4 d4, .slice B5 n5 d5, .slice B6 n6 d6, .slice B7 n7 d7]] w (zap w) := by
 have H1 := zmh h1; have H2 := zmh h2; have H3 := zmh h3; have H4 := zmh h4; have H5 := zmh h5; have H6 := zmh h6; have H7 := zmh h7; clear h1 h2 h3 h4 h5 h6 h7; go_enter func111, ntmps111
 have P0 := zmh ((znm w 192 #[.int .u8 hint.toNat, .int .i32 schema, .int .u64 thr, .int .u64 sum, .int .u64 zc, .int .u64 cnt, .slice A1 n1 c1, .slice A2 n2 c2, .slice A3 n3 c3, .slice A4 n4 c4, .slice A5 n5 c5, .slice A6 n6 c6, .slice A7 n7 c7]).alloc (.cells #[.int .u8 hint.toNat, .int .i32 schema, .int .u64 thr, .int .u64 sum, .int .u64 zc, .int .u64 cnt, .slice B1 n1 d1, .slice B2 n2 d2, .slice B3 n3 d3, .slice B4 n4 d4, .slice B5 n5 d5, .slice B6 n6 d6, .slice B7 n7 d7] 192))
 have Q0 := zmh (zaH w (.cells #[.int .u8 hint.toNat, .int .i32 schema, .int .u64 thr, .int .u64 sum, .int .u64 zc, .int .u64 cnt, .slice A1 n1 c1, .slice A2 n2 c2, .slice A3 n3 c3, .slice A4 n4 c4, .slice A5 n5 c5, .slice A6 n6 c6, .slice A7 n7 c7] 192) 192 #[.int .u8 hint.toNat, .int .i32 schema, .int .u64 thr, .int .u64 sum, .int .u64 zc, .int .u64 cnt, .slice B1 n1 d1, .slice B2 n2 d2, .slice B3 n3 d3, .slice B4 n4 d4, .slice B5 n5 d5, .slice B6 n6 d6, .slice B7 n7 d7])
 have F0 := zmh (((znl (fun _ => False) w).alloc (.cells #[.int .u8 hint.toNat, .int .i32 schema, .int .u64 thr, .int .u64 sum, .int .u64 zc, .int .u64 cnt, .slice A1 n1 c1, .slice A2 n2 c2, .slice A3 n3 c3, .slice A4 n4 c4, .slice A5 n5 c5, .slice A6 n6 c6, .slice A7 n7 c7] 192)).alloc (.cells #[.int .u8 hint.toNat, .int .i32 schema, .int .u64 thr, .int .u64 sum, .int .u64 zc, .int .u64 cnt, .slice B1 n1 d1, .slice B2 n2 d2, .slice B3 n3 d3, .slice B4 n4 d4, .slice B5 n5 d5, .slice B6 n6 d6, .slice B7 n7 d7] 192))
 go_wp2_with (go_at_call 198; refine (H1.out _ F0.out).mono ?_; rintro r W1 ⟨rfl, hf⟩; refine Hid.out ?_)
 have F1 := zmh (F0.out.same hf); have hP := P0.out.fr hf id; have hQ := Q0.out.fr hf id; have P1 := zmh hP; have Q1 := zmh hQ; have u1 := hP.cell 7; have v1 := hQ.cell 7; simp only [zmC, zmA, zmB] at u1 v1; clear hf hP hQ; refine zmh ?_
 go_wp2_with (go_at_call 198; refine (H2.out _ F1.out).mono ?_; rintro r W2 ⟨rfl, hf⟩; refine Hid.out ?_)
 have F2 := zmh (F1.out.same hf); have hP := P1.out.fr hf id; have hQ := Q1.out.fr hf id; have P2 := zmh hP; have Q2 := zmh hQ; have u2 := hP.cell 8; have v2 := hQ.cell 8; simp only [zmC, zmA, zmB] at u2 v2; clear hf hP hQ u1 v1; refine zmh ?_
 go_wp2_with (go_at_call 199; refine (H3.out _ F2.out).mono ?_; rintro r W3 ⟨rfl, hf⟩; refine Hid.out ?_)
 have F3 := zmh (F2.out.same hf); have hP := P2.out.fr hf id; have hQ := Q2.out.fr hf id; have P3 := zmh hP; have Q3 := zmh hQ; have u3 := hP.cell 9; have v3 := hQ.cell 9; simp only [zmC, zmA, zmB] at u3 v3; clear hf hP hQ u2 v2; refine zmh ?_
 go_wp2_with (go_at_call 199; refine (H4.out _ F3.out).mono ?_; rintro r W4 ⟨rfl, hf⟩; refine Hid.out ?_)
 have F4 := zmh (F3.out.same hf); have hP := P3.out.fr hf id; have hQ := Q3.out.fr hf id; have P4 := zmh hP; have Q4 := zmh hQ; have u4 := hP.cell 10; have v4 := hQ.cell 10; simp only [zmC, zmA, zmB] at u4 v4; clear hf hP hQ u3 v3; refine zmh ?_
 go_wp2_with (go_at_call 200; refine (H5.out _ F4.out).mono ?_; rintro r W5 ⟨rfl, hf⟩; refine Hid.out ?_)
 have F5 := zmh (F4.out.same hf); have hP := P4.out.fr hf id; have hQ := Q4.out.fr hf id; have P5 := zmh hP; have Q5 := zmh hQ; have u5 := hP.cell 11; have v5 := hQ.cell 11; simp only [zmC, zmA, zmB] at u5 v5; clear hf hP hQ u4 v4; refine zmh ?_
 go_wp2_with (go_at_call 200; refine (H6.out _ F5.out).mono ?_; rintro r W6 ⟨rfl, hf⟩; refine Hid.out ?_)
 have F6 := zmh (F5.out.same hf); have hP := P5.out.fr hf id; have hQ := Q5.out.fr hf id; have P6 := zmh hP; have Q6 := zmh hQ; have u6 := hP.cell 12; have v6 := hQ.cell 12; simp only [zmC, zmA, zmB] at u6 v6; clear hf hP hQ u5 v5; refine zmh ?_
 go_wp2_with (go_at_call 200; refine (H7.out _ F6.out).mono ?_; rintro r W7 ⟨rfl, hf⟩; refine Hid.out ?_)
 have F7 := zmh (F6.out.same hf); clear hf; refine zmh ?_; go_wp2; go_ret; exact ⟨rfl, F7.out⟩
theorem zjP (P Q : Nat -> Prop) (h : Hst) (s t : Hsl) (w : World) (hs : SlHs P w h s) (ht : SlHs Q w h t) (hf : h.few 1099511627776) :
 Calls prog 111 #[.agg (hic h s).toArray, .agg (hic h t).toArray] w (zap w) := by
 obtain ⟨f1, f2, f3, f4, f5, f6, f7⟩ := hf; obtain ⟨hint, schema, thr, sum, zc, cnt, pos, neg, ups, downs, fups, fdowns, cus⟩ := h; obtain ⟨s1, s2, s3, s4, s5, s6, s7⟩ := s; obtain ⟨t1, t2, t3, t4, t5, t6, t7⟩ := t; obtain ⟨y1, y2, y3, y4, y5, y6, y7⟩ := hs; obtain ⟨z1, z2, z3, z4, z5, z6, z7⟩ := ht; simp only [] at f1 f2 f3 f4 f5 f6 f7 y1 y2 y3 y4 y5 y6 y7 z1 z2 z3 z4 z5 z6 z7
 have C1 := fun (W : World) (hF : z_F w W) => zge P Q s1 t1 pos W (y1.fr hF z_i) (z1.fr hF z_i) f1; have C2 := fun (W : World) (hF : z_F w W) => zge P Q s2 t2 neg W (y2.fr hF z_i) (z2.fr hF z_i) f2
 have C3 := fun (W : World) (hF : z_F w W) => zgd P Q s3 t3 ups W (y3.fr hF z_i) (z3.fr hF z_i) f3; have C4 := fun (W : World) (hF : z_F w W) => zgd P Q s4 t4 downs W (y4.fr hF z_i) (z4.fr hF z_i) f4
 have C5 := fun (W : World) (hF : z_F w W) => zeC P Q s5 t5 fups W (y5.fr hF z_i) (z5.fr hF z_i) f5; have C6 := fun (W : World) (hF : z_F w W) => zeC P Q s6 t6 fdowns W (y6.fr hF z_i) (z6.fr hF z_i) f6
 have C7 := fun (W : World) (hF : z_F w W) => zeC P Q s7 t7 cus W (y7.fr hF z_i) (z7.fr hF z_i) f7; obtain ⟨A1, c1, rfl⟩ := y1.shape; obtain ⟨B1, d1, rfl⟩ := z1.shape; obtain ⟨A2, c2, rfl⟩ := y2.shape; obtain ⟨B2, d2, rfl⟩ := z2.shape; obtain ⟨A3, c3, rfl⟩ := y3.shape; obtain ⟨B3, d3, rfl⟩ := z3.shape; obtain ⟨A4, c4, rfl⟩ := y4.shape
 obtain ⟨B4, d4, rfl⟩ := z4.shape; obtain ⟨A5, c5, rfl⟩ := y5.shape; obtain ⟨B5, d5, rfl⟩ := z5.shape; obtain ⟨A6, c6, rfl⟩ := y6.shape; obtain ⟨B6, d6, rfl⟩ := z6.shape; obtain ⟨A7, c7, rfl⟩ := y7.shape; obtain ⟨B7, d7, rfl⟩ := z7.shape; exact zjO hint schema thr sum zc cnt _ _ _ _ _ _ _ _ _ _ _ _ _ _ _ _ _ _ _ _ _ _ _ _ _ _ _ _ _ _ _ _ _ _ _ w C1 C2 C3 C4 C5 C6 C7
theorem zlg (P Q : Nat -> Prop) (u v : Value) (la lb : List (Rhs × Hsl)) (w : World) (hu : SlH P w u la) (hv : SlH Q w v lb) (hm : la.map Prod.fst = lb.map Prod.fst) (hl : la.length <= 1099511627776) (hfw : ∀ p ∈ la, p.1.h.few 1099511627776) : Calls prog 37 #[u, v] w (zap w) := by
 have le : lb.length = la.length := by have := zm7 List.length hm; simpa using this.symm
 obtain ⟨⟨A, c, rfl, _, hc, hr⟩, fN⟩ := hu; obtain ⟨⟨B, d, rfl, _, hd, hs⟩, kk⟩ := hv; obtain ⟨n, hn⟩ := exE la.length; rw [le] at hs hd ⊢; rw [hn] at hr hs hc hd hl ⊢; rw [hn] at le; have HN := zmh hn; have pa := zmh le; have HR := zmh hr; have HS := zmh hs; have oa := zmh fN; have HSI := zmh kk; have HM := zmh hm; have cS := zmh hfw
 clear hn hr hs fN kk hm hfw le; go_enter func37, ntmps37; go_wp2; go_loopw [5] (fun i wr => ∃ k : Nat, k <= n /\ i = .int .i64 k /\ Hid (z_F w wr)) (fun i _ => n - (intOf i).toNat)
 case atStart => exact ⟨0, zms _, rfl, zmh (znl _ _)⟩
 case round =>
  obtain ⟨k, hk, rfl, HF⟩ := hrel; by_cases hlt : k < n
  ·obtain ⟨g, off, rfl, _, aa⟩ := HR.out (by omega)
   obtain ⟨g2, an, rfl, _, aj⟩ := HS.out (by omega); obtain ⟨x, hx⟩ : ∃ x, la[k]? = some x := ⟨_, zmj (by rw [HN.out]; exact hlt)⟩; obtain ⟨y, hy⟩ : ∃ y, lb[k]? = some y := ⟨_, zmj (by rw [pa.out]; exact hlt)⟩; have hxy : x.1 = y.1 := by
    have h1 : (la.map Prod.fst)[k]? = some x.1 := by rw [zmR, hx]; rfl
    have h2 : (lb.map Prod.fst)[k]? = some y.1 := by rw [zmR, hy]; rfl
    rw [HM.out, h2] at h1; exact (zm6 h1).symm
   have gK := oa.out x (zmp hx); have gn := HSI.out y (zmp hy); have hfx := cS.out x (zmp hx); obtain ⟨⟨ref, t, hh⟩, sx⟩ := x; obtain ⟨rz, sy⟩ := y; simp only [] at hxy gK gn hfx; subst hxy; simp only [] at gn
   have HC : Hid (∀ W, z_F w W -> Calls prog 111 #[.agg (hic hh sx).toArray, .agg (hic hh sy).toArray] W (zap W)) := zmh (fun W hF => zjP P Q hh sx sy W (gK.fr hF z_i) (gn.fr hF z_i) hfx)
   have aw : ∀ {l : List (Rhs × Hsl)} {g off : Nat} {z : Rhs × Hsl}, l[k]? = some z -> (∀ j u, (l.flatMap hsc)[j]? = some u -> w.cell? ⟨g, off + j, none⟩ = some u) -> ∀ W', z_F w W' -> ∀ j, j < 15 -> ∀ u, (hsc z)[j]? = some u -> W'.cell? ⟨g, off + (k * 15 + j), none⟩ = some u := fun {l g off z} hz aa W' hF j hj u hu => by
    have := aa (k * 15 + j) u (by rw [zgE 15 hsc (fun _ => rfl) l k z hz j hj]; exact hu); rw [hF.cell (p := ⟨g, off + (k * 15 + j), none⟩) (zmo w _ this) id]; exact this
   obtain ⟨hint, schema, thr, sum, zc, cnt, pos, neg, ups, downs, fups, fdowns, cus⟩ := hh; obtain ⟨s1, s2, s3, s4, s5, s6, s7⟩ := sx; obtain ⟨t1, t2, t3, t4, t5, t6, t7⟩ := sy
   have lU : Hid (∀ W, z_F w W -> Calls prog 111 #[.agg #[.int .u8 hint.toNat, .int .i32 schema, .int .u64 thr, .int .u64 sum, .int .u64 zc, .int .u64 cnt, s1, s2, s3, s4, s5, s6, s7], .agg #[.int .u8 hint.toNat, .int .i32 schema, .int .u64 thr, .int .u64 sum, .int .u64 zc, .int .u64 cnt, t1, t2, t3, t4, t5, t6, t7]] W (zap W)) := zmh HC.out
   have HK : Hid (∀ w', z_F w w' -> (w'.cell? ⟨g, off + k * 15, none⟩ = some (.int .u64 ref) /\ w'.cell? ⟨g, off + k * 15 + 1, none⟩ = some (.int .i64 t) /\ w'.cell? ⟨g, off + k * 15 + 2, none⟩ = some (.int .u8 hint.toNat) /\ w'.cell? ⟨g, off + k * 15 + 3, none⟩ = some (.int .i32 schema) /\ w'.cell? ⟨g, off + k * 15 + 4, none⟩ = some (.int .u64 thr) /\ w'.cell? ⟨g, off + k * 15 + 5, none⟩ = some (.int .u64 sum) /\ w'.cell? ⟨g, off + k * 15 + 6, none⟩ = some (.int .u64 zc) /\ w'.cell? ⟨g, off + k * 15 + 7, none⟩ = some (.int .u64 cnt) /\ w'.cell? ⟨g, off + k * 15 + 8, none⟩ = some s1 /\ w'.cell? ⟨g, off + k * 15 + 9, none⟩ = some s2 /\ w'.cell? ⟨g, off + k * 15 + 10, none⟩ = some s3 /\ w'.cell? ⟨g, off + k * 15 + 11, none⟩ = some s4 /\ w'.cell? ⟨g, off + k * 15 + 12, none⟩ = some s5 /\ w'.cell? ⟨g, off + k * 15 + 13, none⟩ = some s6 /\ w'.cell? ⟨g, off + k * 15 + 14, none⟩ = some s7 /\ w'.cell? ⟨g2, an + k * 15, none⟩ = some (.int .u64 ref) /\ w'.cell? ⟨g2, an + k * 15 + 1, none⟩ = some (.int .i64 t) /\ w'.cell? ⟨g2, an + k * 15 + 2, none⟩ = some (.int .u8 hint.toNat) /\ w'.cell? ⟨g2, an + k * 15 + 3, none⟩ = some (.int .i32 schema) /\ w'.cell? ⟨g2, an + k * 15 + 4, none⟩ = some (.int .u64 thr) /\ w'.cell? ⟨g2, an + k * 15 + 5, none⟩ = some (.int .u64 sum) /\ w'.cell? ⟨g2, an + k * 15 + 6, none⟩ = some (.int .u64 zc) /\ w'.cell? ⟨g2, an + k * 15 + 7, none⟩ = some (.int .u64 cnt) /\ w'.cell? ⟨g2, an + k * 15 + 8, none⟩ = some t1 /\ w'.cell? ⟨g2, an + k * 15 + 9, none⟩ = some t2 /\ w'.cell? ⟨g2, an + k * 15 + 10, none⟩ = some t3 /\ w'.cell? ⟨g2, an + k * 15 + 11, none⟩ = some t4 /\ w'.cell? ⟨g2, an + k * 15 + 12, none⟩ = some t5 /\ w'.cell? ⟨g2, an + k * 15 + 13, none⟩ = some t6 /\ w'.cell? ⟨g2, an + k * 15 + 14, none⟩ = some t7)) := zmh (fun w' hF => ⟨aw hx aa _ hF 0 (by omega) _ rfl, aw hx aa _ hF 1 (by omega) _ rfl, aw hx aa _ hF 2 (by omega) _ rfl, aw hx aa _ hF 3 (by omega) _ rfl, aw hx aa _ hF 4 (by omega) _ rfl, aw hx aa _ hF 5 (by omega) _ rfl, aw hx aa _ hF 6 (by omega) _ rfl, aw hx aa _ hF 7 (by omega) _ rfl, aw hx aa _ hF 8 (by omega) _ rfl, aw hx aa _ hF 9 (by omega) _ rfl, aw hx aa _ hF 10 (by omega) _ rfl, aw hx aa _ hF 11 (by omega) _ rfl, aw hx aa _ hF 12 (by omega) _ rfl, aw hx aa _ hF 13 (by omega) _ rfl, aw hx aa _ hF 14 (by omega) _ rfl, aw hy aj _ hF 0 (by omega) _ rfl, aw hy aj _ hF 1 (by omega) _ rfl, aw hy aj _ hF 2 (by omega) _ rfl, aw hy aj _ hF 3 (by omega) _ rfl, aw hy aj _ hF 4 (by omega) _ rfl, aw hy aj _ hF 5 (by omega) _ rfl, aw hy aj _ hF 6 (by omega) _ rfl, aw hy aj _ hF 7 (by omega) _ rfl, aw hy aj _ hF 8 (by omega) _ rfl, aw hy aj _ hF 9 (by omega) _ rfl, aw hy aj _ hF 10 (by omega) _ rfl, aw hy aj _ hF 11 (by omega) _ rfl, aw hy aj _ hF 12 (by omega) _ rfl, aw hy aj _ hF 13 (by omega) _ rfl, aw hy aj _ hF 14 (by omega) _ rfl⟩)
   clear gK gn hfx HC aw hx hy aa aj; have ja := zmh HF.out.drew; go_wp2
   go_region_held3 (fun w' => w'.cell? ⟨g, off + k * 15, none⟩ = some (.int .u64 ref) /\ w'.cell? ⟨g, off + k * 15 + 1, none⟩ = some (.int .i64 t) /\ w'.cell? ⟨g, off + k * 15 + 2, none⟩ = some (.int .u8 hint.toNat) /\ w'.cell? ⟨g, off + k * 15 + 3, none⟩ = some (.int .i32 schema) /\ w'.cell? ⟨g, off + k * 15 + 4, none⟩ = some (.int .u64 thr) /\ w'.cell? ⟨g, off + k * 15 + 5, none⟩ = some (.int .u64 sum) /\ w'.cell? ⟨g, off + k * 15 + 6, none⟩ = some (.int .u64 zc) /\ w'.cell? ⟨g, off + k * 15 + 7, none⟩ = some (.int .u64 cnt) /\ w'.cell? ⟨g, off + k * 15 + 8, none⟩ = some s1 /\ w'.cell? ⟨g, off + k * 15 + 9, none⟩ = some s2 /\ w'.cell? ⟨g, off + k * 15 + 10, none⟩ = some s3 /\ w'.cell? ⟨g, off + k * 15 + 11, none⟩ = some s4 /\ w'.cell? ⟨g, off + k * 15 + 12, none⟩ = some s5 /\ w'.cell? ⟨g, off + k * 15 + 13, none⟩ = some s6 /\ w'.cell? ⟨g, off + k * 15 + 14, none⟩ = some s7 /\ w'.cell? ⟨g2, an + k * 15, none⟩ = some (.int .u64 ref) /\ w'.cell? ⟨g2, an + k * 15 + 1, none⟩ = some (.int .i64 t) /\ w'.cell? ⟨g2, an + k * 15 + 2, none⟩ = some (.int .u8 hint.toNat) /\ w'.cell? ⟨g2, an + k * 15 + 3, none⟩ = some (.int .i32 schema) /\ w'.cell? ⟨g2, an + k * 15 + 4, none⟩ = some (.int .u64 thr) /\ w'.cell? ⟨g2, an + k * 15 + 5, none⟩ = some (.int .u64 sum) /\ w'.cell? ⟨g2, an + k * 15 + 6, none⟩ = some (.int .u64 zc) /\ w'.cell? ⟨g2, an + k * 15 + 7, none⟩ = some (.int .u64 cnt) /\ w'.cell? ⟨g2, an + k * 15 + 8, none⟩ = some t1 /\ w'.cell? ⟨g2, an + k * 15 + 9, none⟩ = some t2 /\ w'.cell? ⟨g2, an + k * 15 + 10, none⟩ = some t3 /\ w'.cell? ⟨g2, an + k * 15 + 11, none⟩ = some t4 /\ w'.cell? ⟨g2, an + k * 15 + 12, none⟩ = some t5 /\ w'.cell? ⟨g2, an + k * 15 + 13, none⟩ = some t6 /\ w'.cell? ⟨g2, an + k * 15 + 14, none⟩ = some t7)
    ((first | exact HK.out _ ja.out | exact HK.out _ bX.out | go_keep))
    ((first | (go_at_call 111; refine (lU.out _ ja.out).mono ?_; rintro r W1 ⟨rfl, hf⟩; have bX := zmh (ja.out.same hf); clear hf)))
   go_wp2; go_roundw
   case rel => exact ⟨k + 1, by omega, by go_num, bX⟩
   case measure => simp [intOf]; omega
  ·obtain rfl : k = n := by omega
   go_wp2; go_ret; exact ⟨rfl, HF.out⟩
end Go.Proofs.YtbkookiigkckdaaGreatDoor
