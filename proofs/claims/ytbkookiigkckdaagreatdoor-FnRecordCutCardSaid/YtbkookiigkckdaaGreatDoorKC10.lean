/- Texts of this seat, merged and shortened. -/
import Derived.Test.YtbkookiigkckdaaGreatDoorKC06
import Derived.Test.YtbkookiigkckdaaGreatDoorKC09
set_option linter.unusedVariables false
set_option linter.unusedSimpArgs false
set_option maxRecDepth 100000
set_option maxHeartbeats 8000000
namespace Go.Proofs.YtbkookiigkckdaaGreatDoor
open Go.RowKit Go.Proofs.Tryz
def zzu (x : Int) : List UInt8 := Lib.uvarint (Lib.zigzag x)
def zaQ (p : Int × Nat) : List UInt8 := zzu p.1 ++ Lib.uvarint p.2
def zbS (l : List (Int × Nat)) : List UInt8 := Lib.uvarint l.length ++ l.flatMap zaQ
def zds (l : List Int) : List UInt8 := Lib.uvarint l.length ++ l.flatMap zzu
def zdb (l : List Nat) : List UInt8 := Lib.uvarint l.length ++ l.flatMap (Lib.beBytes 8)
def zcy (h : Hst) : List UInt8 := if h.schema = -53 then zdb h.cus else []
def za0 (h : Hst) : List UInt8 := [h.hint] ++ zzu h.schema ++ Lib.beBytes 8 h.thr ++ Lib.uvarint h.zc ++ Lib.uvarint h.cnt ++ Lib.beBytes 8 h.sum ++ zbS h.pos ++ zbS h.neg ++ zds h.ups ++ zds h.downs ++ zcy h
def za1 (h : Hst) : List UInt8 := [h.hint] ++ zzu h.schema ++ Lib.beBytes 8 h.thr ++ Lib.beBytes 8 h.zc ++ Lib.beBytes 8 h.cnt ++ Lib.beBytes 8 h.sum ++ zbS h.pos ++ zbS h.neg ++ zdb h.fups ++ zdb h.fdowns ++ zcy h
structure Hst.ok (h : Hst) : Prop where
 few : h.few 60
 s0 : -2147483648 <= h.schema
 s1 : h.schema <= 2147483647
 thr : h.thr < 18446744073709551616
 sum : h.sum < 18446744073709551616
 zc : h.zc < 18446744073709551616
 cnt : h.cnt < 18446744073709551616
 pos : ∀ p ∈ h.pos, -2147483648 <= p.1 /\ p.1 <= 2147483647 /\ p.2 < 4294967296
 neg : ∀ p ∈ h.neg, -2147483648 <= p.1 /\ p.1 <= 2147483647 /\ p.2 < 4294967296
 ups : ∀ x ∈ h.ups, -9223372036854775808 <= x /\ x <= 9223372036854775807
 downs : ∀ x ∈ h.downs, -9223372036854775808 <= x /\ x <= 9223372036854775807
 fups : ∀ x ∈ h.fups, x < 18446744073709551616
 fdowns : ∀ x ∈ h.fdowns, x < 18446744073709551616
 cus : ∀ x ∈ h.cus, x < 18446744073709551616
theorem Sl.at {P : Nat -> Prop} {w : World} {A : Option Addr} {m c size n : Nat} {xs : List Value} (h : Sl P w (.slice A m c) size n xs) (hn : 0 < n) : ∃ g off, A = some ⟨g, off, none⟩ /\ P g /\ ∀ j u, xs[j]? = some u -> w.cell? ⟨g, off + j, none⟩ = some u := by
 obtain ⟨A', c', e, _, _, hr⟩ := h; injection e with e1 e2 e3; subst e1; exact hr hn
theorem zbB (x : Int) (h0 : -9223372036854775808 <= x) (h1 : x <= 9223372036854775807) : (zzu x).length <= 10 := zdZ x h0 h1
theorem zda (p : Int × Nat) (h : -2147483648 <= p.1 /\ p.1 <= 2147483647 /\ p.2 < 4294967296) : (zaQ p).length <= 20 := by
 have h1 := zbB p.1 (by omega) (by omega); have h2 := zmA (x := p.2) (by omega); rw [zaQ, zml]; omega
theorem zch (s : Int) (w : World) : Calls prog 233 #[.int .i32 s] w fun r w' => r = .returned (.bool (s == -53)) /\ w = w' := by
 go_enter func233, ntmps233; go_wp2; go_ret; exact ⟨rfl, rfl⟩
theorem zaL {α : Type} (f : α -> List UInt8) (m : Nat) (l : List α) (k : Nat) (h : ∀ x ∈ l, (f x).length <= m) : ((l.take k).flatMap f).length <= k * m := by
 have h1 := zbH f m (l.take k) (fun y hy => h y (zni hy)); have h2 : (l.take k).length <= k := znl _ _; have h3 : (l.take k).length * m <= k * m := zmx _ h2; omega
theorem zcr : (∀ (_ : True) (P : Nat -> Prop) (e : Nat) (o : Option Nat) (xs : List UInt8) (h : Hst) (v : Value) (w : World) (hr : RdW P w h v) (hE : Enc w e o xs) (hl : xs.length <= 549755813888) (bP : h.ok) (hP : ∀ g, P g -> ¬ (g = e ∨ some g = o)),
 Calls prog 189 #[.pointer (some ⟨e, 0, none⟩), v] w (zbZ w e o xs (za0 h))) /\ (∀ (_ : True) (P : Nat -> Prop) (e : Nat) (o : Option Nat) (xs : List UInt8) (h : Hst) (v : Value) (w : World) (hr : RdF P w h v) (hE : Enc w e o xs) (hl : xs.length <= 549755813888) (bP : h.ok) (hP : ∀ g, P g -> ¬ (g = e ∨ some g = o)),
 Calls prog 192 #[.pointer (some ⟨e, 0, none⟩), v] w (zbZ w e o xs (za1 h))) := by
 refine ⟨fun ag P e o xs h v w hr hE hl bP hP => ?_, fun bY P e o xs h v w hr hE hl bP hP => ?_⟩; all_goals
  obtain ⟨g, s, rfl, fV, hb, z1, z2, z3, z4, z5⟩ := hr; obtain ⟨⟨l1, l2, l3, l4, l5, l6, l7⟩, jq, bA, ht, hsu, hz, mh, fL, kP, kI, fk, ia, en, kW⟩ := bP; obtain ⟨hint, schema, thr, sum, zc, cnt, pos, neg, ups, downs, fups, fdowns, cus⟩ := h; obtain ⟨sp, sn, su, sd, sc⟩ := s
  first | (guard_hyp ag; simp only [hcW] at hb z1 z2 z3 z4 z5 l1 l2 l3 l4 l5 l6 l7 jq bA ht hsu hz mh fL kP kI fk ia en kW) | (simp only [hcF] at hb z1 z2 z3 z4 z5 l1 l2 l3 l4 l5 l6 l7 jq bA ht hsu hz mh fL kP kI fk ia en kW)
  obtain ⟨A1, c1, rfl⟩ := z1.shape; obtain ⟨A2, c2, rfl⟩ := z2.shape; obtain ⟨A3, c3, rfl⟩ := z3.shape; obtain ⟨A4, c4, rfl⟩ := z4.shape; obtain ⟨A5, c5, rfl⟩ := z5.shape; obtain ⟨n1, e1⟩ := exE pos.length; obtain ⟨n2, e2⟩ := exE neg.length
  first | (guard_hyp ag; obtain ⟨n3, e3⟩ := exE ups.length) | (obtain ⟨n3, e3⟩ := exE fups.length)
  first | (guard_hyp ag; obtain ⟨n4, e4⟩ := exE downs.length) | (obtain ⟨n4, e4⟩ := exE fdowns.length)
  obtain ⟨n5, e5⟩ := exE cus.length; rw [e1] at hb z1 l1; rw [e2] at hb z2 l2
  first | (guard_hyp ag; rw [e3] at hb z3 l3) | (rw [e3] at hb z3 l5)
  first | (guard_hyp ag; rw [e4] at hb z4 l4) | (rw [e4] at hb z4 l6)
  rw [e5] at hb z5 l7; have jY := zmk e1; have dk := zmk e2; have dG := zmk e3; have mC := zmk e4; have ru := zmk e5; have Z1 := zmk z1; have Z2 := zmk z2; have Z3 := zmk z3; have Z4 := zmk z4; have Z5 := zmk z5; have V1 := zmk fL; have V2 := zmk kP
  first | (guard_hyp ag; have V3 := zmk kI) | (have V3 := zmk ia)
  first | (guard_hyp ag; have V4 := zmk fk) | (have V4 := zmk en)
  have V5 := zmk kW; have ga := zmk hP; have HK0 := zmk hb; have HB := zmk hb; have HE := zmk hE; obtain ⟨Y0, hY0⟩ : ∃ Y : List UInt8, [] = Y := ⟨_, rfl⟩; have nR : Hid (Put w e o xs Y0 w) := zmk (by rw [<- hY0]; exact Put.refl hE); have eX : Y0.length <= 0 := by rw [<- hY0]; exact zmw _
  have HY0 := zmk hY0; have p0 : w.cell? ⟨g, 0, none⟩ = some (.int .u8 hint.toNat) := hb.cell 0; have hr8 := ziU; clear e1 e2 e3 e4 e5 z1 z2 z3 z4 z5 fL kP kI fk ia en kW hP hb hE hY0
  first | (guard_hyp ag; go_enter func189, ntmps189) | (go_enter func192, ntmps192)
  first
   | guard_hyp ag
     go_wp2_with (first
      | (go_at_call 180; refine (zag nR.out (f := 180) (args := #[.pointer (some ⟨e, 0, none⟩), .int .u8 hint.toNat]) (zs := [hint]) (fun o2 he => zcm _ o2 _ hint _ he (by rw [zml]; omega))).mono ?_; rintro r1 w1 ⟨rfl, R, K⟩
         have hB := K.out _ _ _ (by decide) (by decide) HK0.out; have p1 : w1.cell? ⟨g, 1, none⟩ = some (.int .i32 schema) := hB.cell 1; have rm := zmk hB; obtain ⟨Y1, hY⟩ := exE (Y0 ++ [hint]); rw [hY] at R; have cE : Y1.length <= 1 := by have hq : ([hint]).length <= 1 := (by simp); rw [<- hY, zml]; omega
         have HY1 := zmk hY; have cU := zmk R
         clear R K hB hY nR HK0 eX p0)
      | (go_at_call 183; refine (zag cU.out (f := 183) (args := #[.pointer (some ⟨e, 0, none⟩), .int .i64 schema]) (zs := zzu schema) (fun o2 he => zax _ o2 _ schema (by omega) (by omega) _ he (by rw [zml]; omega))).mono ?_; rintro r2 w2 ⟨rfl, R, K⟩
         have hB := K.out _ _ _ (by decide) (by decide) rm.out; have p2 : w2.cell? ⟨g, 2, none⟩ = some (.float .f64 thr) := hB.cell 2; have nT := zmk hB; obtain ⟨Y2, hY⟩ := exE (Y1 ++ zzu schema); rw [hY] at R; have bI : Y2.length <= 11 := by have hq : (zzu schema).length <= 10 := zbB schema (by omega) (by omega); rw [<- hY, zml]; omega
         have HY2 := zmk hY; have aW := zmk R
         clear R K hB hY cU rm cE p1)
      | (go_at_call 181; refine (zag aW.out (f := 181) (args := #[.pointer (some ⟨e, 0, none⟩), .int .u64 thr]) (zs := Lib.beBytes 8 thr) (fun o2 he => zcn _ o2 _ thr ht _ he (by rw [zml]; omega))).mono ?_; rintro r3 w3 ⟨rfl, R, K⟩
         have hB := K.out _ _ _ (by decide) (by decide) nT.out; have p3 : w3.cell? ⟨g, 3, none⟩ = some (.int .u64 zc) := hB.cell 3; have ri := zmk hB; obtain ⟨Y3, hY⟩ := exE (Y2 ++ Lib.beBytes 8 thr); rw [hY] at R; have eW : Y3.length <= 19 := by have hq : (Lib.beBytes 8 thr).length <= 8 := (by simp [zmu]); rw [<- hY, zml]; omega
         have HY3 := zmk hY; have aS := zmk R
         clear R K hB hY aW nT bI p2)
      | (go_at_call 185; refine (zag aS.out (f := 185) (args := #[.pointer (some ⟨e, 0, none⟩), .int .u64 zc]) (zs := Lib.uvarint zc) (fun o2 he => zcS _ o2 _ zc hz _ he (by rw [zml]; omega))).mono ?_; rintro r4 w4 ⟨rfl, R, K⟩
         have hB := K.out _ _ _ (by decide) (by decide) ri.out; have p4 : w4.cell? ⟨g, 4, none⟩ = some (.int .u64 cnt) := hB.cell 4; have rh := zmk hB; obtain ⟨Y4, hY⟩ := exE (Y3 ++ Lib.uvarint zc); rw [hY] at R; have oX : Y4.length <= 29 := by have hq : (Lib.uvarint zc).length <= 10 := zmA hz; rw [<- hY, zml]; omega
         have oy := zmk hY; have jS := zmk R
         clear R K hB hY aS ri eW p3)
      | (go_at_call 185; refine (zag jS.out (f := 185) (args := #[.pointer (some ⟨e, 0, none⟩), .int .u64 cnt]) (zs := Lib.uvarint cnt) (fun o2 he => zcS _ o2 _ cnt mh _ he (by rw [zml]; omega))).mono ?_; rintro r5 w5 ⟨rfl, R, K⟩
         have hB := K.out _ _ _ (by decide) (by decide) rh.out; have p5 : w5.cell? ⟨g, 5, none⟩ = some (.float .f64 sum) := hB.cell 5; have rg := zmk hB; obtain ⟨Y5, hY⟩ := exE (Y4 ++ Lib.uvarint cnt); rw [hY] at R; have hv5 : Y5.length <= 39 := by have hq : (Lib.uvarint cnt).length <= 10 := zmA mh; rw [<- hY, zml]; omega
         have HY5 := zmk hY; have ks := zmk R
         clear R K hB hY jS rh oX p4)
      | (go_at_call 181; refine (zag ks.out (f := 181) (args := #[.pointer (some ⟨e, 0, none⟩), .int .u64 sum]) (zs := Lib.beBytes 8 sum) (fun o2 he => zcn _ o2 _ sum hsu _ he (by rw [zml]; omega))).mono ?_; rintro r6 w6 ⟨rfl, R, K⟩
         have hB := K.out _ _ _ (by decide) (by decide) rg.out; have p6 : w6.cell? ⟨g, 6, none⟩ = some (.slice A1 n1 c1) := hB.cell 6; have rf := zmk hB; obtain ⟨Y6, hY⟩ := exE (Y5 ++ Lib.beBytes 8 sum); rw [hY] at R; have hv6 : Y6.length <= 47 := by have hq : (Lib.beBytes 8 sum).length <= 8 := (by simp [zmu]); rw [<- hY, zml]; omega
         have HY6 := zmk hY; have jd := zmk R
         clear R K hB hY ks rg hv5 p5)
      | (go_at_call 186; refine (zag jd.out (f := 186) (args := #[.pointer (some ⟨e, 0, none⟩), .int .i64 n1]) (zs := Lib.uvarint n1) (fun o2 he => zbk _ o2 _ n1 (by omega) _ he (by rw [zml]; omega))).mono ?_; rintro r7 w7 ⟨rfl, R, K⟩
         clear p6; have hB := K.out _ _ _ (by decide) (by decide) rf.out; have p6 : w7.cell? ⟨g, 6, none⟩ = some (.slice A1 n1 c1) := hB.cell 6; have HK7 := zmk hB; obtain ⟨Y7, hY⟩ := exE (Y6 ++ Lib.uvarint n1); rw [hY] at R; have hv7 : Y7.length <= 57 := by have hq : (Lib.uvarint n1).length <= 10 := zmA (by omega); rw [<- hY, zml]; omega
         have HY7 := zmk hY; have oz := zmk R
         clear R K hB hY jd rf hv6))
   | go_wp2_with (first
      | (go_at_call 180; refine (zag nR.out (f := 180) (args := #[.pointer (some ⟨e, 0, none⟩), .int .u8 hint.toNat]) (zs := [hint]) (fun o2 he => zcm _ o2 _ hint _ he (by rw [zml]; omega))).mono ?_; rintro r1 w1 ⟨rfl, R, K⟩
         have hB := K.out _ _ _ (by decide) (by decide) HK0.out; have p1 : w1.cell? ⟨g, 1, none⟩ = some (.int .i32 schema) := hB.cell 1; have rm := zmk hB; obtain ⟨Y1, hY⟩ := exE (Y0 ++ [hint]); rw [hY] at R; have cE : Y1.length <= 1 := by have hq : ([hint]).length <= 1 := (by simp); rw [<- hY, zml]; omega
         have HY1 := zmk hY; have cU := zmk R
         clear R K hB hY nR HK0 eX p0)
      | (go_at_call 183; refine (zag cU.out (f := 183) (args := #[.pointer (some ⟨e, 0, none⟩), .int .i64 schema]) (zs := zzu schema) (fun o2 he => zax _ o2 _ schema (by omega) (by omega) _ he (by rw [zml]; omega))).mono ?_; rintro r2 w2 ⟨rfl, R, K⟩
         have hB := K.out _ _ _ (by decide) (by decide) rm.out; have p2 : w2.cell? ⟨g, 2, none⟩ = some (.float .f64 thr) := hB.cell 2; have nT := zmk hB; obtain ⟨Y2, hY⟩ := exE (Y1 ++ zzu schema); rw [hY] at R; have bI : Y2.length <= 11 := by have hq : (zzu schema).length <= 10 := zbB schema (by omega) (by omega); rw [<- hY, zml]; omega
         have HY2 := zmk hY; have aW := zmk R
         clear R K hB hY cU rm cE p1)
      | (go_at_call 244; refine (zag aW.out (f := 244) (args := #[.pointer (some ⟨e, 0, none⟩), .float .f64 thr]) (zs := Lib.beBytes 8 thr) (fun o2 he => zbV _ o2 _ thr ht _ he (by rw [zml]; omega))).mono ?_; rintro r3 w3 ⟨rfl, R, K⟩
         have hB := K.out _ _ _ (by decide) (by decide) nT.out; have p3 : w3.cell? ⟨g, 3, none⟩ = some (.float .f64 zc) := hB.cell 3; have ri := zmk hB; obtain ⟨Y3, hY⟩ := exE (Y2 ++ Lib.beBytes 8 thr); rw [hY] at R; have eW : Y3.length <= 19 := by have hq : (Lib.beBytes 8 thr).length <= 8 := (by simp [zmu]); rw [<- hY, zml]; omega
         have HY3 := zmk hY; have aS := zmk R
         clear R K hB hY aW nT bI p2)
      | (go_at_call 244; refine (zag aS.out (f := 244) (args := #[.pointer (some ⟨e, 0, none⟩), .float .f64 zc]) (zs := Lib.beBytes 8 zc) (fun o2 he => zbV _ o2 _ zc hz _ he (by rw [zml]; omega))).mono ?_; rintro r4 w4 ⟨rfl, R, K⟩
         have hB := K.out _ _ _ (by decide) (by decide) ri.out; have p4 : w4.cell? ⟨g, 4, none⟩ = some (.float .f64 cnt) := hB.cell 4; have rh := zmk hB; obtain ⟨Y4, hY⟩ := exE (Y3 ++ Lib.beBytes 8 zc); rw [hY] at R; have oX : Y4.length <= 27 := by have hq : (Lib.beBytes 8 zc).length <= 8 := (by simp [zmu]); rw [<- hY, zml]; omega
         have oy := zmk hY; have jS := zmk R
         clear R K hB hY aS ri eW p3)
      | (go_at_call 244; refine (zag jS.out (f := 244) (args := #[.pointer (some ⟨e, 0, none⟩), .float .f64 cnt]) (zs := Lib.beBytes 8 cnt) (fun o2 he => zbV _ o2 _ cnt mh _ he (by rw [zml]; omega))).mono ?_; rintro r5 w5 ⟨rfl, R, K⟩
         have hB := K.out _ _ _ (by decide) (by decide) rh.out; have p5 : w5.cell? ⟨g, 5, none⟩ = some (.float .f64 sum) := hB.cell 5; have rg := zmk hB; obtain ⟨Y5, hY⟩ := exE (Y4 ++ Lib.beBytes 8 cnt); rw [hY] at R; have hv5 : Y5.length <= 35 := by have hq : (Lib.beBytes 8 cnt).length <= 8 := (by simp [zmu]); rw [<- hY, zml]; omega
         have HY5 := zmk hY; have ks := zmk R
         clear R K hB hY jS rh oX p4)
      | (go_at_call 244; refine (zag ks.out (f := 244) (args := #[.pointer (some ⟨e, 0, none⟩), .float .f64 sum]) (zs := Lib.beBytes 8 sum) (fun o2 he => zbV _ o2 _ sum hsu _ he (by rw [zml]; omega))).mono ?_; rintro r6 w6 ⟨rfl, R, K⟩
         have hB := K.out _ _ _ (by decide) (by decide) rg.out; have p6 : w6.cell? ⟨g, 6, none⟩ = some (.slice A1 n1 c1) := hB.cell 6; have rf := zmk hB; obtain ⟨Y6, hY⟩ := exE (Y5 ++ Lib.beBytes 8 sum); rw [hY] at R; have hv6 : Y6.length <= 43 := by have hq : (Lib.beBytes 8 sum).length <= 8 := (by simp [zmu]); rw [<- hY, zml]; omega
         have HY6 := zmk hY; have jd := zmk R
         clear R K hB hY ks rg hv5 p5)
      | (go_at_call 186; refine (zag jd.out (f := 186) (args := #[.pointer (some ⟨e, 0, none⟩), .int .i64 n1]) (zs := Lib.uvarint n1) (fun o2 he => zbk _ o2 _ n1 (by omega) _ he (by rw [zml]; omega))).mono ?_; rintro r7 w7 ⟨rfl, R, K⟩
         clear p6; have hB := K.out _ _ _ (by decide) (by decide) rf.out; have p6 : w7.cell? ⟨g, 6, none⟩ = some (.slice A1 n1 c1) := hB.cell 6; have HK7 := zmk hB; obtain ⟨Y7, hY⟩ := exE (Y6 ++ Lib.uvarint n1); rw [hY] at R; have hv7 : Y7.length <= 53 := by have hq : (Lib.uvarint n1).length <= 10 := zmA (by omega); rw [<- hY, zml]; omega
         have HY7 := zmk hY; have oz := zmk R
         clear R K hB hY jd rf hv6))
  first | (guard_hyp ag; go_loopw [65] (fun i wr => ∃ k : Nat, k <= n1 /\ i = .int .i64 k /\ Hid (Put w e o xs (Y7 ++ (pos.take k).flatMap zaQ) wr)) (fun i _ => n1 - (intOf i).toNat)) | (go_loopw [63] (fun i wr => ∃ k : Nat, k <= n1 /\ i = .int .i64 k /\ Hid (Put w e o xs (Y7 ++ (pos.take k).flatMap zaQ) wr)) (fun i _ => n1 - (intOf i).toNat))
  case atStart => exact ⟨0, zmv _, rfl, zmk (by simpa using oz.out)⟩
  case round =>
   obtain ⟨k, hk, rfl, dA⟩ := hrel; by_cases hlt : k < n1
   ·have fE := Z1.out.fr (dA.out).fr ga.out
    obtain ⟨g1, off, rfl, _, aa⟩ := fE.at (by omega); obtain ⟨x, hx⟩ : ∃ x, pos[k]? = some x := ⟨_, zmm (by rw [jY.out]; exact hlt)⟩; obtain ⟨gt, fH, dS⟩ := V1.out x (zms hx); have d0 : wr.cell? ⟨g1, off + k * 2, none⟩ = some (.int .i32 x.1) := aa (k * 2) _ (by rw [show k * 2 = k * 2 + 0 by rfl, zbE spc (fun _ => rfl) pos k x hx 0 (by omega)]; rfl)
    have d1 : wr.cell? ⟨g1, off + k * 2 + 1, none⟩ = some (.int .u32 x.2) := aa (k * 2 + 1) _ (by rw [zbE spc (fun _ => rfl) pos k x hx 1 (by omega)]; rfl); have bF := zaL zaQ 20 pos k (fun x hx => zda x (V1.out x hx)); have cy : k * 20 <= 60 * 20 := zmx _ (by omega); have HX := zmk hx; obtain ⟨x1, x2⟩ := x; simp only [] at gt fH dS d0 d1
    have RA := (dA.out).alloc (.cells #[.int .i32 x1, .int .u32 x2] 361); obtain ⟨Y, hY⟩ := exE (Y7 ++ (pos.take k).flatMap zaQ); rw [hY] at RA
    first | (guard_hyp ag; have hv : Y.length <= 57 + 1200 := by rw [<- hY, zml]; omega) | (have hv : Y.length <= 53 + 1200 := by rw [<- hY, zml]; omega)
    have HY := zmk hY; have cV := zmk (znr wr 361 #[.int .i32 x1, .int .u32 x2]); have bT := zmk RA; have kG := zbB x1 (by omega) (by omega); clear fE aa hx bF cy RA hY dA
    first
     | guard_hyp ag
       go_wp2_with (first
        | (go_at_call 183; refine (zag bT.out (f := 183) (args := #[.pointer (some ⟨e, 0, none⟩), .int .i64 x1]) (zs := zzu x1) (fun o2 he => zax _ o2 _ x1 (by omega) (by omega) _ he (by rw [zml]; omega))).mono ?_; rintro rA wA ⟨rfl, R1, K1⟩
           have p1 : wA.cell? ⟨wr.heap.size, 1, none⟩ = some (.int .u32 x2) := (K1.out _ _ _ (by decide) (by decide) cV.out).cell 1; have aW := zmk R1; have bI : (Y ++ zzu x1).length <= 57 + 1210 := by rw [zml]; omega
           clear R1 K1 bT)
        | (go_at_call 243; refine (zag aW.out (f := 243) (args := #[.pointer (some ⟨e, 0, none⟩), .int .u32 x2]) (zs := Lib.uvarint x2) (fun o2 he => zdl _ o2 _ x2 dS _ he (by rw [zml]; omega))).mono ?_; rintro rB wB ⟨rfl, R1, K1⟩
           have bX := zmk R1
           clear R1 K1 aW))
     | go_wp2_with (first
        | (go_at_call 183; refine (zag bT.out (f := 183) (args := #[.pointer (some ⟨e, 0, none⟩), .int .i64 x1]) (zs := zzu x1) (fun o2 he => zax _ o2 _ x1 (by omega) (by omega) _ he (by rw [zml]; omega))).mono ?_; rintro rA wA ⟨rfl, R1, K1⟩
           have p1 : wA.cell? ⟨wr.heap.size, 1, none⟩ = some (.int .u32 x2) := (K1.out _ _ _ (by decide) (by decide) cV.out).cell 1; have aW := zmk R1; have bI : (Y ++ zzu x1).length <= 53 + 1210 := by rw [zml]; omega
           clear R1 K1 bT)
        | (go_at_call 243; refine (zag aW.out (f := 243) (args := #[.pointer (some ⟨e, 0, none⟩), .int .u32 x2]) (zs := Lib.uvarint x2) (fun o2 he => zdl _ o2 _ x2 dS _ he (by rw [zml]; omega))).mono ?_; rintro rB wB ⟨rfl, R1, K1⟩
           have bX := zmk R1
           clear R1 K1 aW))
    have cQ : Hid (Put w e o xs (Y7 ++ (pos.take (k + 1)).flatMap zaQ) wB) := zmk (by
     rw [zam zaQ pos k _ HX.out, <- zmn, HY.out]
     simpa [zaQ, zmn] using bX.out)
    clear bX; go_wp2; go_roundw
    case rel => exact ⟨k + 1, by omega, by go_num, cQ⟩
    case measure => simp [intOf]; omega
   ·obtain rfl : k = n1 := by omega
    have R := dA.out; rw [zmt (by rw [jY.out]; exact zmw _)] at R; have bF := zaL zaQ 20 pos k (fun x hx => zda x (V1.out x hx)); rw [zmt (by rw [jY.out]; exact zmw _)] at bF; have cy : k * 20 <= 60 * 20 := zmx _ (by omega); obtain ⟨Y8, hY⟩ := exE (Y7 ++ pos.flatMap zaQ); rw [hY] at R
    first | (guard_hyp ag; have hv8 : Y8.length <= 1257 := by rw [<- hY, zml]; omega) | (have hv8 : Y8.length <= 1253 := by rw [<- hY, zml]; omega)
    have HY8 := zmk hY; have hB := R.blk HE.out HB.out (by decide) (by decide); have HK8 := zmk hB; have bX := zmk R; have p7 : wr.cell? ⟨g, 7, none⟩ = some (.slice A2 n2 c2) := hB.cell 7; clear R bF cy hY hB dA oz HK7 hv7 hlt hk
    first
     | guard_hyp ag
       go_wp2_with (go_at_call 186; refine (zag bX.out (f := 186) (args := #[.pointer (some ⟨e, 0, none⟩), .int .i64 n2]) (zs := Lib.uvarint n2) (fun o2 he => zbk _ o2 _ n2 (by omega) _ he (by rw [zml]; omega))).mono ?_; rintro r9 w9 ⟨rfl, R, K⟩
                    clear p7; have hB := K.out _ _ _ (by decide) (by decide) HK8.out; have p7 : w9.cell? ⟨g, 7, none⟩ = some (.slice A2 n2 c2) := hB.cell 7; have HK9 := zmk hB; obtain ⟨Y9, hY⟩ := exE (Y8 ++ Lib.uvarint n2); rw [hY] at R; have hv9 : Y9.length <= 1267 := by have hq : (Lib.uvarint n2).length <= 10 := zmA (by omega); rw [<- hY, zml]; omega
                    have HY9 := zmk hY; have HR9 := zmk R
                    clear R K hB hY bX HK8 hv8)
     | go_wp2_with (go_at_call 186; refine (zag bX.out (f := 186) (args := #[.pointer (some ⟨e, 0, none⟩), .int .i64 n2]) (zs := Lib.uvarint n2) (fun o2 he => zbk _ o2 _ n2 (by omega) _ he (by rw [zml]; omega))).mono ?_; rintro r9 w9 ⟨rfl, R, K⟩
                    clear p7; have hB := K.out _ _ _ (by decide) (by decide) HK8.out; have p7 : w9.cell? ⟨g, 7, none⟩ = some (.slice A2 n2 c2) := hB.cell 7; have HK9 := zmk hB; obtain ⟨Y9, hY⟩ := exE (Y8 ++ Lib.uvarint n2); rw [hY] at R; have hv9 : Y9.length <= 1263 := by have hq : (Lib.uvarint n2).length <= 10 := zmA (by omega); rw [<- hY, zml]; omega
                    have HY9 := zmk hY; have HR9 := zmk R
                    clear R K hB hY bX HK8 hv8)
    first | (guard_hyp ag; go_loopw [91] (fun i wr => ∃ k : Nat, k <= n2 /\ i = .int .i64 k /\ Hid (Put w e o xs (Y9 ++ (neg.take k).flatMap zaQ) wr)) (fun i _ => n2 - (intOf i).toNat)) | (go_loopw [89] (fun i wr => ∃ k : Nat, k <= n2 /\ i = .int .i64 k /\ Hid (Put w e o xs (Y9 ++ (neg.take k).flatMap zaQ) wr)) (fun i _ => n2 - (intOf i).toNat))
    case atStart => exact ⟨0, zmv _, rfl, zmk (by simpa using HR9.out)⟩
    case round =>
     obtain ⟨k, hk, rfl, dA⟩ := hrel; by_cases hlt : k < n2
     ·have fE := Z2.out.fr (dA.out).fr ga.out
      obtain ⟨g1, off, rfl, _, aa⟩ := fE.at (by omega); obtain ⟨x, hx⟩ : ∃ x, neg[k]? = some x := ⟨_, zmm (by rw [dk.out]; exact hlt)⟩; obtain ⟨gt, fH, dS⟩ := V2.out x (zms hx); have d0 : wr.cell? ⟨g1, off + k * 2, none⟩ = some (.int .i32 x.1) := aa (k * 2) _ (by rw [show k * 2 = k * 2 + 0 by rfl, zbE spc (fun _ => rfl) neg k x hx 0 (by omega)]; rfl)
      have d1 : wr.cell? ⟨g1, off + k * 2 + 1, none⟩ = some (.int .u32 x.2) := aa (k * 2 + 1) _ (by rw [zbE spc (fun _ => rfl) neg k x hx 1 (by omega)]; rfl); have bF := zaL zaQ 20 neg k (fun x hx => zda x (V2.out x hx)); have cy : k * 20 <= 60 * 20 := zmx _ (by omega); have HX := zmk hx; obtain ⟨x1, x2⟩ := x; simp only [] at gt fH dS d0 d1
      have RA := (dA.out).alloc (.cells #[.int .i32 x1, .int .u32 x2] 361); obtain ⟨Y, hY⟩ := exE (Y9 ++ (neg.take k).flatMap zaQ); rw [hY] at RA
      first | (guard_hyp ag; have hv : Y.length <= 1267 + 1200 := by rw [<- hY, zml]; omega) | (have hv : Y.length <= 1263 + 1200 := by rw [<- hY, zml]; omega)
      have HY := zmk hY; have cV := zmk (znr wr 361 #[.int .i32 x1, .int .u32 x2]); have bT := zmk RA; have kG := zbB x1 (by omega) (by omega); clear fE aa hx bF cy RA hY dA
      first
       | guard_hyp ag
         go_wp2_with (first
          | (go_at_call 183; refine (zag bT.out (f := 183) (args := #[.pointer (some ⟨e, 0, none⟩), .int .i64 x1]) (zs := zzu x1) (fun o2 he => zax _ o2 _ x1 (by omega) (by omega) _ he (by rw [zml]; omega))).mono ?_; rintro rA wA ⟨rfl, R1, K1⟩
             have p1 : wA.cell? ⟨wr.heap.size, 1, none⟩ = some (.int .u32 x2) := (K1.out _ _ _ (by decide) (by decide) cV.out).cell 1; have aW := zmk R1; have bI : (Y ++ zzu x1).length <= 1267 + 1210 := by rw [zml]; omega
             clear R1 K1 bT)
          | (go_at_call 243; refine (zag aW.out (f := 243) (args := #[.pointer (some ⟨e, 0, none⟩), .int .u32 x2]) (zs := Lib.uvarint x2) (fun o2 he => zdl _ o2 _ x2 dS _ he (by rw [zml]; omega))).mono ?_; rintro rB wB ⟨rfl, R1, K1⟩
             have bX := zmk R1
             clear R1 K1 aW))
       | go_wp2_with (first
          | (go_at_call 183; refine (zag bT.out (f := 183) (args := #[.pointer (some ⟨e, 0, none⟩), .int .i64 x1]) (zs := zzu x1) (fun o2 he => zax _ o2 _ x1 (by omega) (by omega) _ he (by rw [zml]; omega))).mono ?_; rintro rA wA ⟨rfl, R1, K1⟩
             have p1 : wA.cell? ⟨wr.heap.size, 1, none⟩ = some (.int .u32 x2) := (K1.out _ _ _ (by decide) (by decide) cV.out).cell 1; have aW := zmk R1; have bI : (Y ++ zzu x1).length <= 1263 + 1210 := by rw [zml]; omega
             clear R1 K1 bT)
          | (go_at_call 243; refine (zag aW.out (f := 243) (args := #[.pointer (some ⟨e, 0, none⟩), .int .u32 x2]) (zs := Lib.uvarint x2) (fun o2 he => zdl _ o2 _ x2 dS _ he (by rw [zml]; omega))).mono ?_; rintro rB wB ⟨rfl, R1, K1⟩
             have bX := zmk R1
             clear R1 K1 aW))
      have cQ : Hid (Put w e o xs (Y9 ++ (neg.take (k + 1)).flatMap zaQ) wB) := zmk (by
       rw [zam zaQ neg k _ HX.out, <- zmn, HY.out]
       simpa [zaQ, zmn] using bX.out)
      clear bX; go_wp2; go_roundw
      case rel => exact ⟨k + 1, by omega, by go_num, cQ⟩
      case measure => simp [intOf]; omega
     ·obtain rfl : k = n2 := by omega
      have R := dA.out; rw [zmt (by rw [dk.out]; exact zmw _)] at R; have bF := zaL zaQ 20 neg k (fun x hx => zda x (V2.out x hx)); rw [zmt (by rw [dk.out]; exact zmw _)] at bF; have cy : k * 20 <= 60 * 20 := zmx _ (by omega); obtain ⟨Y10, hY⟩ := exE (Y9 ++ neg.flatMap zaQ); rw [hY] at R
      first | (guard_hyp ag; have mK : Y10.length <= 2467 := by rw [<- hY, zml]; omega) | (have mK : Y10.length <= 2463 := by rw [<- hY, zml]; omega)
      have qI := zmk hY; have hB := R.blk HE.out HB.out (by decide) (by decide); have lE := zmk hB; have lA := zmk R; have p8 : wr.cell? ⟨g, 8, none⟩ = some (.slice A3 n3 c3) := hB.cell 8; clear R bF cy hY hB dA HR9 HK9 hv9 hlt hk
      first
       | guard_hyp ag
         go_wp2_with (go_at_call 186; refine (zag lA.out (f := 186) (args := #[.pointer (some ⟨e, 0, none⟩), .int .i64 n3]) (zs := Lib.uvarint n3) (fun o2 he => zbk _ o2 _ n3 (by omega) _ he (by rw [zml]; omega))).mono ?_; rintro r11 iW ⟨rfl, R, K⟩
                      clear p8; have hB := K.out _ _ _ (by decide) (by decide) lE.out; have p8 : iW.cell? ⟨g, 8, none⟩ = some (.slice A3 n3 c3) := hB.cell 8; have rl := zmk hB; obtain ⟨jP, hY⟩ := exE (Y10 ++ Lib.uvarint n3); rw [hY] at R; have pb : jP.length <= 2477 := by have hq : (Lib.uvarint n3).length <= 10 := zmA (by omega); rw [<- hY, zml]; omega
                      have nL := zmk hY; have nQ := zmk R
                      clear R K hB hY lA lE mK)
       | go_wp2_with (go_at_call 186; refine (zag lA.out (f := 186) (args := #[.pointer (some ⟨e, 0, none⟩), .int .i64 n3]) (zs := Lib.uvarint n3) (fun o2 he => zbk _ o2 _ n3 (by omega) _ he (by rw [zml]; omega))).mono ?_; rintro r11 iW ⟨rfl, R, K⟩
                      clear p8; have hB := K.out _ _ _ (by decide) (by decide) lE.out; have p8 : iW.cell? ⟨g, 8, none⟩ = some (.slice A3 n3 c3) := hB.cell 8; have rl := zmk hB; obtain ⟨jP, hY⟩ := exE (Y10 ++ Lib.uvarint n3); rw [hY] at R; have pb : jP.length <= 2473 := by have hq : (Lib.uvarint n3).length <= 10 := zmA (by omega); rw [<- hY, zml]; omega
                      have nL := zmk hY; have nQ := zmk R
                      clear R K hB hY lA lE mK)
      first | (guard_hyp ag; go_loopw [117] (fun i wr => ∃ k : Nat, k <= n3 /\ i = .int .i64 k /\ Hid (Put w e o xs (jP ++ (ups.take k).flatMap zzu) wr)) (fun i _ => n3 - (intOf i).toNat)) | (go_loopw [115] (fun i wr => ∃ k : Nat, k <= n3 /\ i = .int .i64 k /\ Hid (Put w e o xs (jP ++ (fups.take k).flatMap (Lib.beBytes 8)) wr)) (fun i _ => n3 - (intOf i).toNat))
      case atStart => exact ⟨0, zmv _, rfl, zmk (by simpa using nQ.out)⟩
      case round =>
       obtain ⟨k, hk, rfl, dA⟩ := hrel; by_cases hlt : k < n3
       ·have fE := Z3.out.fr (dA.out).fr ga.out
        obtain ⟨g1, off, rfl, _, aa⟩ := fE.at (by omega)
        first | (guard_hyp ag; obtain ⟨x, hx⟩ : ∃ x, ups[k]? = some x := ⟨_, zmm (by rw [dG.out]; exact hlt)⟩) | (obtain ⟨x, hx⟩ : ∃ x, fups[k]? = some x := ⟨_, zmm (by rw [dG.out]; exact hlt)⟩)
        first | (guard_hyp ag; obtain ⟨gt, fH⟩ := V3.out x (zms hx)) | (have gt := V3.out x (zms hx))
        first | (guard_hyp ag; have d0 : wr.cell? ⟨g1, off + k, none⟩ = some (.int .i64 x) := aa k _ (by rw [zje i1 (fun _ => rfl) ups k x hx]; rfl)) | (have d0 : wr.cell? ⟨g1, off + k, none⟩ = some (.float .f64 x) := aa k _ (by rw [zje f1 (fun _ => rfl) fups k x hx]; rfl))
        first | (guard_hyp ag; have bF := zaL zzu 10 ups k (fun x hx => zbB x (V3.out x hx).1 (V3.out x hx).2)) | (have bF := zaL (Lib.beBytes 8) 8 fups k (fun x hx => by simp [zmu]))
        first | (guard_hyp ag; have cy : k * 10 <= 60 * 10 := zmx _ (by omega)) | (have cy : k * 8 <= 60 * 8 := zmx _ (by omega))
        have HX := zmk hx; have RA := dA.out
        first | (guard_hyp ag; obtain ⟨Y, hY⟩ := exE (jP ++ (ups.take k).flatMap zzu)) | (obtain ⟨Y, hY⟩ := exE (jP ++ (fups.take k).flatMap (Lib.beBytes 8)))
        rw [hY] at RA
        first | (guard_hyp ag; have hv : Y.length <= 2477 + 600 := by rw [<- hY, zml]; omega) | (have hv : Y.length <= 2473 + 480 := by rw [<- hY, zml]; omega)
        have HY := zmk hY; have bT := zmk RA; clear fE aa hx bF cy RA hY dA
        first
         | guard_hyp ag
           go_wp2_with (go_at_call 183; refine (zag bT.out (f := 183) (args := #[.pointer (some ⟨e, 0, none⟩), .int .i64 x]) (zs := zzu x) (fun o2 he => zax _ o2 _ x gt fH _ he (by rw [zml]; omega))).mono ?_; rintro rA wA ⟨rfl, R1, K1⟩
                        have bX := zmk R1
                        clear R1 K1 bT)
         | go_wp2_with (go_at_call 244; refine (zag bT.out (f := 244) (args := #[.pointer (some ⟨e, 0, none⟩), .float .f64 x]) (zs := Lib.beBytes 8 x) (fun o2 he => zbV _ o2 _ x gt _ he (by rw [zml]; omega))).mono ?_; rintro rA wA ⟨rfl, R1, K1⟩
                        have bX := zmk R1
                        clear R1 K1 bT)
        first
         | guard_hyp ag
           have cQ : Hid (Put w e o xs (jP ++ (ups.take (k + 1)).flatMap zzu) wA) := zmk (by
            rw [zam zzu ups k _ HX.out, <- zmn, HY.out]
            exact bX.out)
         | have cQ : Hid (Put w e o xs (jP ++ (fups.take (k + 1)).flatMap (Lib.beBytes 8)) wA) := zmk (by
            rw [zam (Lib.beBytes 8) fups k _ HX.out, <- zmn, HY.out]
            exact bX.out)
        clear bX; go_wp2; go_roundw
        case rel => exact ⟨k + 1, by omega, by go_num, cQ⟩
        case measure => simp [intOf]; omega
       ·obtain rfl : k = n3 := by omega
        have R := dA.out; rw [zmt (by rw [dG.out]; exact zmw _)] at R
        first | (guard_hyp ag; have bF := zaL zzu 10 ups k (fun x hx => zbB x (V3.out x hx).1 (V3.out x hx).2)) | (have bF := zaL (Lib.beBytes 8) 8 fups k (fun x hx => by simp [zmu]))
        rw [zmt (by rw [dG.out]; exact zmw _)] at bF
        first | (guard_hyp ag; have cy : k * 10 <= 60 * 10 := zmx _ (by omega)) | (have cy : k * 8 <= 60 * 8 := zmx _ (by omega))
        first | (guard_hyp ag; obtain ⟨qw, hY⟩ := exE (jP ++ ups.flatMap zzu)) | (obtain ⟨qw, hY⟩ := exE (jP ++ fups.flatMap (Lib.beBytes 8)))
        rw [hY] at R
        first | (guard_hyp ag; have mJ : qw.length <= 3077 := by rw [<- hY, zml]; omega) | (have mJ : qw.length <= 2953 := by rw [<- hY, zml]; omega)
        have qH := zmk hY; have hB := R.blk HE.out HB.out (by decide) (by decide); have lD := zmk hB; have lz := zmk R; have p9 : wr.cell? ⟨g, 9, none⟩ = some (.slice A4 n4 c4) := hB.cell 9; clear R bF cy hY hB dA nQ rl pb hlt hk
        first
         | guard_hyp ag
           go_wp2_with (go_at_call 186; refine (zag lz.out (f := 186) (args := #[.pointer (some ⟨e, 0, none⟩), .int .i64 n4]) (zs := Lib.uvarint n4) (fun o2 he => zbk _ o2 _ n4 (by omega) _ he (by rw [zml]; omega))).mono ?_; rintro r13 w13 ⟨rfl, R, K⟩
                        clear p9; have hB := K.out _ _ _ (by decide) (by decide) lD.out; have p9 : w13.cell? ⟨g, 9, none⟩ = some (.slice A4 n4 c4) := hB.cell 9; have rk := zmk hB; obtain ⟨jO, hY⟩ := exE (qw ++ Lib.uvarint n4); rw [hY] at R; have pa : jO.length <= 3087 := by have hq : (Lib.uvarint n4).length <= 10 := zmA (by omega); rw [<- hY, zml]; omega
                        have nK := zmk hY; have nP := zmk R
                        clear R K hB hY lz lD mJ)
         | go_wp2_with (go_at_call 186; refine (zag lz.out (f := 186) (args := #[.pointer (some ⟨e, 0, none⟩), .int .i64 n4]) (zs := Lib.uvarint n4) (fun o2 he => zbk _ o2 _ n4 (by omega) _ he (by rw [zml]; omega))).mono ?_; rintro r13 w13 ⟨rfl, R, K⟩
                        clear p9; have hB := K.out _ _ _ (by decide) (by decide) lD.out; have p9 : w13.cell? ⟨g, 9, none⟩ = some (.slice A4 n4 c4) := hB.cell 9; have rk := zmk hB; obtain ⟨jO, hY⟩ := exE (qw ++ Lib.uvarint n4); rw [hY] at R; have pa : jO.length <= 2963 := by have hq : (Lib.uvarint n4).length <= 10 := zmA (by omega); rw [<- hY, zml]; omega
                        have nK := zmk hY; have nP := zmk R
                        clear R K hB hY lz lD mJ)
        first | (guard_hyp ag; go_loopw [137] (fun i wr => ∃ k : Nat, k <= n4 /\ i = .int .i64 k /\ Hid (Put w e o xs (jO ++ (downs.take k).flatMap zzu) wr)) (fun i _ => n4 - (intOf i).toNat)) | (go_loopw [135] (fun i wr => ∃ k : Nat, k <= n4 /\ i = .int .i64 k /\ Hid (Put w e o xs (jO ++ (fdowns.take k).flatMap (Lib.beBytes 8)) wr)) (fun i _ => n4 - (intOf i).toNat))
        case atStart => exact ⟨0, zmv _, rfl, zmk (by simpa using nP.out)⟩
        case round =>
         obtain ⟨k, hk, rfl, dA⟩ := hrel; by_cases hlt : k < n4
         ·have fE := Z4.out.fr (dA.out).fr ga.out
          obtain ⟨g1, off, rfl, _, aa⟩ := fE.at (by omega)
          first | (guard_hyp ag; obtain ⟨x, hx⟩ : ∃ x, downs[k]? = some x := ⟨_, zmm (by rw [mC.out]; exact hlt)⟩) | (obtain ⟨x, hx⟩ : ∃ x, fdowns[k]? = some x := ⟨_, zmm (by rw [mC.out]; exact hlt)⟩)
          first | (guard_hyp ag; obtain ⟨gt, fH⟩ := V4.out x (zms hx)) | (have gt := V4.out x (zms hx))
          first | (guard_hyp ag; have d0 : wr.cell? ⟨g1, off + k, none⟩ = some (.int .i64 x) := aa k _ (by rw [zje i1 (fun _ => rfl) downs k x hx]; rfl)) | (have d0 : wr.cell? ⟨g1, off + k, none⟩ = some (.float .f64 x) := aa k _ (by rw [zje f1 (fun _ => rfl) fdowns k x hx]; rfl))
          first | (guard_hyp ag; have bF := zaL zzu 10 downs k (fun x hx => zbB x (V4.out x hx).1 (V4.out x hx).2)) | (have bF := zaL (Lib.beBytes 8) 8 fdowns k (fun x hx => by simp [zmu]))
          first | (guard_hyp ag; have cy : k * 10 <= 60 * 10 := zmx _ (by omega)) | (have cy : k * 8 <= 60 * 8 := zmx _ (by omega))
          have HX := zmk hx; have RA := dA.out
          first | (guard_hyp ag; obtain ⟨Y, hY⟩ := exE (jO ++ (downs.take k).flatMap zzu)) | (obtain ⟨Y, hY⟩ := exE (jO ++ (fdowns.take k).flatMap (Lib.beBytes 8)))
          rw [hY] at RA
          first | (guard_hyp ag; have hv : Y.length <= 3087 + 600 := by rw [<- hY, zml]; omega) | (have hv : Y.length <= 2963 + 480 := by rw [<- hY, zml]; omega)
          have HY := zmk hY; have bT := zmk RA; clear fE aa hx bF cy RA hY dA
          first
           | guard_hyp ag
             go_wp2_with (go_at_call 183; refine (zag bT.out (f := 183) (args := #[.pointer (some ⟨e, 0, none⟩), .int .i64 x]) (zs := zzu x) (fun o2 he => zax _ o2 _ x gt fH _ he (by rw [zml]; omega))).mono ?_; rintro rA wA ⟨rfl, R1, K1⟩
                          have bX := zmk R1
                          clear R1 K1 bT)
           | go_wp2_with (go_at_call 244; refine (zag bT.out (f := 244) (args := #[.pointer (some ⟨e, 0, none⟩), .float .f64 x]) (zs := Lib.beBytes 8 x) (fun o2 he => zbV _ o2 _ x gt _ he (by rw [zml]; omega))).mono ?_; rintro rA wA ⟨rfl, R1, K1⟩
                          have bX := zmk R1
                          clear R1 K1 bT)
          first
           | guard_hyp ag
             have cQ : Hid (Put w e o xs (jO ++ (downs.take (k + 1)).flatMap zzu) wA) := zmk (by
              rw [zam zzu downs k _ HX.out, <- zmn, HY.out]
              exact bX.out)
           | have cQ : Hid (Put w e o xs (jO ++ (fdowns.take (k + 1)).flatMap (Lib.beBytes 8)) wA) := zmk (by
              rw [zam (Lib.beBytes 8) fdowns k _ HX.out, <- zmn, HY.out]
              exact bX.out)
          clear bX; go_wp2; go_roundw
          case rel => exact ⟨k + 1, by omega, by go_num, cQ⟩
          case measure => simp [intOf]; omega
         ·obtain rfl : k = n4 := by omega
          have R := dA.out; rw [zmt (by rw [mC.out]; exact zmw _)] at R
          first | (guard_hyp ag; have bF := zaL zzu 10 downs k (fun x hx => zbB x (V4.out x hx).1 (V4.out x hx).2)) | (have bF := zaL (Lib.beBytes 8) 8 fdowns k (fun x hx => by simp [zmu]))
          rw [zmt (by rw [mC.out]; exact zmw _)] at bF
          first | (guard_hyp ag; have cy : k * 10 <= 60 * 10 := zmx _ (by omega)) | (have cy : k * 8 <= 60 * 8 := zmx _ (by omega))
          first | (guard_hyp ag; obtain ⟨qv, hY⟩ := exE (jO ++ downs.flatMap zzu)) | (obtain ⟨qv, hY⟩ := exE (jO ++ fdowns.flatMap (Lib.beBytes 8)))
          rw [hY] at R
          first | (guard_hyp ag; have mI : qv.length <= 3687 := by rw [<- hY, zml]; omega) | (have mI : qv.length <= 3443 := by rw [<- hY, zml]; omega)
          have qG := zmk hY; have hB := R.blk HE.out HB.out (by decide) (by decide); have jU := zmk hB; have jT := zmk R; have p1 : wr.cell? ⟨g, 1, none⟩ = some (.int .i32 schema) := hB.cell 1; clear R bF cy hY hB dA nP rk pa hlt hk; rcases eN : (schema == -53) with _ | _
          ·go_wp2_with (go_at_call 233; refine (zch schema _).mono ?_; rintro rc wc ⟨rfl, rfl⟩)
           go_end0; refine ⟨rfl, ?_⟩; have hR := jT.out; have bB : ¬ schema = -53 := by simpa using eN
           rw [<- qG.out, <- nK.out, <- qH.out, <- nL.out, <- qI.out, <- HY9.out, <- HY8.out, <- HY7.out, <- HY6.out, <- HY5.out, <- oy.out, <- HY3.out, <- HY2.out, <- HY1.out, <- HY0.out] at hR
           first | (guard_hyp ag; simpa [za0, zbS, zds, zdb, zcy, bB, jY.out, dk.out, dG.out, mC.out, zmn] using hR) | (simpa [za1, zbS, zds, zdb, zcy, bB, jY.out, dk.out, dG.out, mC.out, zmn] using hR)
          ·have p10 : wr.cell? ⟨g, 10, none⟩ = some (.slice A5 n5 c5) := jU.out.cell 10
           first
            | guard_hyp ag
              go_wp2_with (first
               | (go_at_call 233; refine (zch schema _).mono ?_; rintro rc wc ⟨rfl, rfl⟩)
               | (go_at_call 186; refine (zag jT.out (f := 186) (args := #[.pointer (some ⟨e, 0, none⟩), .int .i64 n5]) (zs := Lib.uvarint n5) (fun o2 he => zbk _ o2 _ n5 (by omega) _ he (by rw [zml]; omega))).mono ?_; rintro r15 w15 ⟨rfl, R, K⟩
                  clear p10 p1; have hB := K.out _ _ _ (by decide) (by decide) jU.out; have p10 : w15.cell? ⟨g, 10, none⟩ = some (.slice A5 n5 c5) := hB.cell 10; have rj := zmk hB; obtain ⟨mz, hY⟩ := exE (qv ++ Lib.uvarint n5); rw [hY] at R; have oY : mz.length <= 3697 := by have hq : (Lib.uvarint n5).length <= 10 := zmA (by omega); rw [<- hY, zml]; omega
                  have qE := zmk hY; have nO := zmk R
                  clear R K hB hY jT jU mI))
            | go_wp2_with (first
               | (go_at_call 233; refine (zch schema _).mono ?_; rintro rc wc ⟨rfl, rfl⟩)
               | (go_at_call 186; refine (zag jT.out (f := 186) (args := #[.pointer (some ⟨e, 0, none⟩), .int .i64 n5]) (zs := Lib.uvarint n5) (fun o2 he => zbk _ o2 _ n5 (by omega) _ he (by rw [zml]; omega))).mono ?_; rintro r15 w15 ⟨rfl, R, K⟩
                  clear p10 p1; have hB := K.out _ _ _ (by decide) (by decide) jU.out; have p10 : w15.cell? ⟨g, 10, none⟩ = some (.slice A5 n5 c5) := hB.cell 10; have rj := zmk hB; obtain ⟨mz, hY⟩ := exE (qv ++ Lib.uvarint n5); rw [hY] at R; have oY : mz.length <= 3453 := by have hq : (Lib.uvarint n5).length <= 10 := zmA (by omega); rw [<- hY, zml]; omega
                  have qE := zmk hY; have nO := zmk R
                  clear R K hB hY jT jU mI))
           first | (guard_hyp ag; go_loopw [162] (fun i wr => ∃ k : Nat, k <= n5 /\ i = .int .i64 k /\ Hid (Put w e o xs (mz ++ (cus.take k).flatMap (Lib.beBytes 8)) wr)) (fun i _ => n5 - (intOf i).toNat)) | (go_loopw [160] (fun i wr => ∃ k : Nat, k <= n5 /\ i = .int .i64 k /\ Hid (Put w e o xs (mz ++ (cus.take k).flatMap (Lib.beBytes 8)) wr)) (fun i _ => n5 - (intOf i).toNat))
           case atStart => exact ⟨0, zmv _, rfl, zmk (by simpa using nO.out)⟩
           case round =>
            obtain ⟨k, hk, rfl, dA⟩ := hrel; by_cases hlt : k < n5
            ·have fE := Z5.out.fr (dA.out).fr ga.out
             obtain ⟨g1, off, rfl, _, aa⟩ := fE.at (by omega); obtain ⟨x, hx⟩ : ∃ x, cus[k]? = some x := ⟨_, zmm (by rw [ru.out]; exact hlt)⟩; have gt := V5.out x (zms hx); have d0 : wr.cell? ⟨g1, off + k, none⟩ = some (.float .f64 x) := aa k _ (by rw [zje f1 (fun _ => rfl) cus k x hx]; rfl)
             have bF := zaL (Lib.beBytes 8) 8 cus k (fun x hx => by simp [zmu]); have cy : k * 8 <= 60 * 8 := zmx _ (by omega); have HX := zmk hx; have RA := dA.out; obtain ⟨Y, hY⟩ := exE (mz ++ (cus.take k).flatMap (Lib.beBytes 8)); rw [hY] at RA
             first | (guard_hyp ag; have hv : Y.length <= 3697 + 480 := by rw [<- hY, zml]; omega) | (have hv : Y.length <= 3453 + 480 := by rw [<- hY, zml]; omega)
             have HY := zmk hY; have bT := zmk RA; clear fE aa hx bF cy RA hY dA
             go_wp2_with (go_at_call 244; refine (zag bT.out (f := 244) (args := #[.pointer (some ⟨e, 0, none⟩), .float .f64 x]) (zs := Lib.beBytes 8 x) (fun o2 he => zbV _ o2 _ x gt _ he (by rw [zml]; omega))).mono ?_; rintro rA wA ⟨rfl, R1, K1⟩
                          have bX := zmk R1
                          clear R1 K1 bT)
             have cQ : Hid (Put w e o xs (mz ++ (cus.take (k + 1)).flatMap (Lib.beBytes 8)) wA) := zmk (by
              rw [zam (Lib.beBytes 8) cus k _ HX.out, <- zmn, HY.out]
              exact bX.out)
             clear bX; go_wp2; go_roundw
             case rel => exact ⟨k + 1, by omega, by go_num, cQ⟩
             case measure => simp [intOf]; omega
            ·obtain rfl : k = n5 := by omega
             have R := dA.out; rw [zmt (by rw [ru.out]; exact zmw _)] at R; have bF := zaL (Lib.beBytes 8) 8 cus k (fun x hx => by simp [zmu]); rw [zmt (by rw [ru.out]; exact zmw _)] at bF; have cy : k * 8 <= 60 * 8 := zmx _ (by omega); obtain ⟨Y16, hY⟩ := exE (mz ++ cus.flatMap (Lib.beBytes 8)); rw [hY] at R
             first | (guard_hyp ag; have hv16 : Y16.length <= 4177 := by rw [<- hY, zml]; omega) | (have hv16 : Y16.length <= 3933 := by rw [<- hY, zml]; omega)
             have HY16 := zmk hY; have hB := R.blk HE.out HB.out (by decide) (by decide); have HK16 := zmk hB; have HR16 := zmk R; clear bF cy hY hB dA nO rj oY hlt hk; go_wp2; go_end0; refine ⟨rfl, ?_⟩; have hR := R; have bB : schema = -53 := by simpa using eN
             rw [<- HY16.out, <- qE.out, <- qG.out, <- nK.out, <- qH.out, <- nL.out, <- qI.out, <- HY9.out, <- HY8.out, <- HY7.out, <- HY6.out, <- HY5.out, <- oy.out, <- HY3.out, <- HY2.out, <- HY1.out, <- HY0.out] at hR
             first | (guard_hyp ag; simpa [za0, zbS, zds, zdb, zcy, bB, jY.out, dk.out, dG.out, mC.out, ru.out, zmn] using hR) | (simpa [za1, zbS, zds, zdb, zcy, bB, jY.out, dk.out, dG.out, mC.out, ru.out, zmn] using hR)
theorem zfK : type_of% (zcr.1 trivial) := zcr.1 trivial
theorem zfL : type_of% (zcr.2 trivial) := zcr.2 trivial
def gN {α : Type} (f : St -> α × St) : Nat -> St -> List α × St
 | 0, st => ([], st)
 | n + 1, st => ((f st).1 :: (gN f n (f st).2).1, (gN f n (f st).2).2)
def gSp (st : St) : (Int × Nat) × St := ((wrap32 (zaI st).1, (gUv (zaI st).2).1 % 4294967296), (gUv (zaI st).2).2)
theorem zcT {α : Type} (f : St -> α × St) : ∀ (n : Nat) (st : St), (gN f n st).1.length = n
 | 0, st => rfl
 | n + 1, st => by simp [gN, zcT f n]
structure Rw where
 e : TypeId
 z : Nat
 v : Value
 n : Nat
 xs : List Value
def Rows (base : Nat) (W : World) : List Rw -> Prop
 | [] => True
 | x :: L => W.ownsRow base x.e x.z x.v x.n x.xs /\ (∀ y ∈ L, ∀ k, x.v.ownBlock = some k -> y.v.ownBlock ≠ some k) /\ Rows base W L
theorem Rows.fr {S : Nat -> Prop} {base : Nat} {W W' : World} (hf : Fr S W W') (hs : ∀ k, base <= k -> ¬ S k) : ∀ {L : List Rw}, Rows base W L -> Rows base W' L
 | [], _ => trivial
 | x :: L, ⟨h1, h2, h3⟩ => ⟨zaj h1 hf (fun g hg => hs g (h1.lt g hg).1), h2, Rows.fr hf hs h3⟩
theorem Rows.lt {base : Nat} {W : World} : ∀ {L : List Rw}, Rows base W L -> ∀ y ∈ L, ∀ k, y.v.ownBlock = some k -> base <= k /\ k < W.heap.size
 | x :: L, ⟨h1, h2, h3⟩, y, hy, k, hk => by
   rcases zmY.1 hy with rfl | hy
   ·exact h1.lt k hk
   ·exact Rows.lt h3 y hy k hk
theorem own_set {W : World} {base e size n m c o : Nat} {xs : List Value} (h : W.ownsRow base e size (.slice (some ⟨m, 0, none⟩) n c) n xs) (u : Value) : (W.setCell ⟨m, o, none⟩ u).ownsRow base e size (.slice (some ⟨m, 0, none⟩) n c) n (xs.set o u) := by
 refine ⟨by rw [List.length_set]; exact h.1, ?_⟩; rcases h.2 with ⟨h0, _⟩ | ⟨g, aO, cur, h1, hb, hg, h2, h3, h4, h5⟩
 ·cases h0
 ·injection h1 with e1 e2 e3
  injection e1 with e1; injection e1 with e1; subst e1; subst e3; refine .inr ⟨m, c, cur.setIfInBounds o u, rfl, hb, ?_, h2, h3, by simpa using h4, ?_⟩
  ·exact Blk.set_ (w := W) (g := m) (t := e) (cs := cur) hg o u
  ·rw [Array.toList_setIfInBounds, List.take_set, h5]
theorem zcp {W : World} {base e size n m c o : Nat} {xs : List Value} {u : Value} (h : W.ownsRow base e size (.slice (some ⟨m, 0, none⟩) n c) n xs) (hx : xs[o]? = some u) : W.cell? ⟨m, o, none⟩ = some u := by
 rcases h.2 with ⟨h0, _⟩ | ⟨g, aO, cur, h1, hb, hg, h2, h3, h4, h5⟩
 ·cases h0
 ·injection h1 with e1 e2 e3
  injection e1 with e1; injection e1 with e1; subst e1; have hb2 : Blk W m e cur := hg; rw [hb2.cell]; rw [<- h5, List.getElem?_take] at hx; split at hx
  ·simpa using hx
  ·cases hx
theorem zco {W : World} {base e size n m c : Nat} {xs : List Value} (h : W.ownsRow base e size (.slice (some ⟨m, 0, none⟩) n c) n xs) (o : Nat) : W.frozen? ⟨m, o, none⟩ = false := by
 rcases h.2 with ⟨h0, _⟩ | ⟨g, aO, cur, h1, hb, hg, h2, h3, h4, h5⟩
 ·cases h0
 ·injection h1 with e1 e2 e3
  injection e1 with e1; injection e1 with e1; subst e1; exact Blk.frozen (w := W) (t := e) (cs := cur) hg o
theorem ziZ {W : World} {base e size n : Nat} {v : Value} {xs : List Value} (h : W.ownsRow base e size v n xs) (hn : 0 < n) : ∃ m c, v = .slice (some ⟨m, 0, none⟩) n c /\ base <= m /\ n <= c := by
 rcases h.2 with ⟨_, h0⟩ | ⟨g, aO, cur, h1, hb, hg, h2, h3, h4, h5⟩
 ·omega
 ·exact ⟨g, aO, h1, hb, h2⟩
def DH (te : TypeId) (pe : Value) (d g0 : Nat) (cur : Array Value) (g t : Nat) (w W : World) (st : St) (cs : Array Value) (L : List Rw) : Prop :=
 Dec te pe W d g0 cur st /\ Blk W g t cs /\ Rows w.heap.size W L /\ Fr (fun k => k = d ∨ k = g) w W /\ (2 < w.heap.size /\ g < w.heap.size /\ d < w.heap.size /\ g0 < w.heap.size /\ g ≠ d /\ g ≠ g0 /\ g ≠ 2)
section
variable {te : TypeId} {pe : Value} {d g0 g t : Nat} {cur : Array Value} {w W W' : World} {st st' : St} {cs : Array Value} {L : List Rw}
theorem DH.call (h : DH te pe d g0 cur g t w W st cs L) (hd : Dec te pe W' d g0 cur st') (hf : Fr (fun k => k = d) W W') : DH te pe d g0 cur g t w W' st' cs L := by
 obtain ⟨_, h2, h3, h4, h5⟩ := h; exact ⟨hd, h2.fr hf (by omega), h3.fr hf (fun k hk => by omega), h4.trans hf (fun k hk e => .inl e), h5⟩
theorem DH.fr0 (h : DH te pe d g0 cur g t w W st cs L) (hf : Fr (fun _ => False) W W') : DH te pe d g0 cur g t w W' st cs L := by
 obtain ⟨h1, h2, h3, h4, h5⟩ := h; exact ⟨h1.fr hf (fun e => e) (fun e => e) (fun e => e), h2.fr hf (fun e => e), h3.fr hf (fun _ _ e => e), h4.trans hf (fun k hk e => e.elim), h5⟩
theorem DH.set (h : DH te pe d g0 cur g t w W st cs L) (i : Nat) (u : Value) : DH te pe d g0 cur g t w (W.setCell ⟨g, i, none⟩ u) st (cs.setIfInBounds i u) L := by
 obtain ⟨h1, h2, h3, h4, h5⟩ := h; have hf : Fr (fun k => k = g) W (W.setCell ⟨g, i, none⟩ u) := Fr.put_ W g i u; exact ⟨h1.fr hf (by omega) (by omega) (by omega), h2.set_ i u, h3.fr hf (fun k hk => by omega), h4.trans hf (fun k hk e => .inr e), h5⟩
theorem DH.put {e z m n c o : Nat} {xs : List Value} (h : DH te pe d g0 cur g t w W st cs (⟨e, z, .slice (some ⟨m, 0, none⟩) n c, n, xs⟩ :: L)) (u : Value) : DH te pe d g0 cur g t w (W.setCell ⟨m, o, none⟩ u) st cs (⟨e, z, .slice (some ⟨m, 0, none⟩) n c, n, xs.set o u⟩ :: L) := by
 obtain ⟨h1, h2, ⟨h3, h6, h7⟩, h4, h5⟩ := h; have hm := h3.lt m rfl; have hf : Fr (fun k => k = m) W (W.setCell ⟨m, o, none⟩ u) := Fr.put_ W m o u; have h8 : ∀ {L' : List Rw}, (∀ y ∈ L', y.v.ownBlock ≠ some m) -> Rows w.heap.size W L' -> Rows w.heap.size (W.setCell ⟨m, o, none⟩ u) L' := by
  intro L'; induction L' with
  | nil => intro _ _; trivial
  | cons x L' ih =>
    rintro hx ⟨a1, a2, a3⟩; exact ⟨zaj a1 hf (fun k hk e => hx x (zne ..) (by rw [hk, e])), a2, ih (fun y hy => hx y (znk _ hy)) a3⟩
 exact ⟨h1.fr hf (by omega) (by omega) (by omega), h2.fr hf (by omega), ⟨own_set h3 u, h6, h8 (fun y hy => h6 y hy m rfl) h7⟩, h4.trans hf (fun k hk e => by omega), h5⟩
theorem DH.none_ (h : DH te pe d g0 cur g t w W st cs L) (e z : Nat) : DH te pe d g0 cur g t w W st cs (⟨e, z, .slice none 0 0, 0, []⟩ :: L) := by
 obtain ⟨h1, h2, h3, h4, h5⟩ := h; exact ⟨h1, h2, ⟨zmy _ _ _ _, (fun y hy k hk => by cases hk), h3⟩, h4, h5⟩
theorem DH.make {α : Type} {f : α -> List Value} {zr : α} {Z : Array Value} {e z n : Nat} (h : DH te pe d g0 cur g t w W st cs L) (hZ : Z.toList = (List.replicate n zr).flatMap f) (hl : Z.size = n * z) (hn : n <= maxLen) :
 DH te pe d g0 cur g t w (W.alloc (.cells Z e)) st cs (⟨e, z, .slice (some ⟨W.heap.size, 0, none⟩) n n, n, (List.replicate n zr).flatMap f⟩ :: L) := by
 have h0 := h.fr0 ((znq (fun _ => False) W).alloc (.cells Z e)); have hr : Rows w.heap.size W L := h.2.2.1; obtain ⟨h1, h2, h3, h4, h5⟩ := h0; have bG : w.heap.size <= W.heap.size := h.2.2.2.1.size; refine ⟨h1, h2, ⟨⟨?_, .inr ⟨W.heap.size, n, Z, rfl, bG, heap_alloc_new W _, zmw _, hn, hl, ?_⟩⟩, fun y hy k hk e => ?_, h3⟩, h4, h5⟩
 ·show ((List.replicate n zr).flatMap f).length = n * z
  rw [<- hZ, Array.length_toList, hl]
 ·show Z.toList.take (n * z) = (List.replicate n zr).flatMap f
  rw [hZ, zmt]; rw [<- hZ, Array.length_toList, hl]; exact zmw _
 ·have e1 : W.heap.size = k := by simpa [Value.ownBlock] using hk
  have := (hr.lt y hy k e).2; omega
end
theorem zc8 {α : Type} (f : α -> List Value) (zr : α) (zc : Array Value) (z : Nat) (hz : zc.toList = f zr) (hs : zc.size = z) (h0 : 0 < z) (hf : ∀ x, (f x).length = z) (n : Nat) : (madeCells zc (n * z)).toList = (List.replicate n zr).flatMap f := by
 have ak : ((List.replicate n zr).flatMap f).length = n * z := by
  rw [List.length_flatMap]; simp [hf]
 apply List.ext_getElem?; intro k; rcases zmN k (n * z) with hk | hk
 ·have hq : k / z < n := Nat.div_lt_of_lt_mul (by rw [Nat.mul_comm]; exact hk)
  have hr := Nat.mod_lt k h0; have e1 : k / z * z + k % z = k := by rw [Nat.mul_comm]; exact Nat.div_add_mod k z
  have h2 := zgS z f hf (List.replicate n zr) (k / z) zr (by simp [hq]) (k % z) hr; rw [e1] at h2; rw [h2, <- hz]; simp [madeCells, hk, hs, hr]
 ·rw [zmO (by simpa [madeCells] using hk), zmO (by rw [ak]; exact hk)]
theorem zfJ {α : Type} (f : α -> List Value) (z : Nat) (hf : ∀ x, (f x).length = z) : ∀ l : List α, (l.flatMap f).length = l.length * z
 | [] => by simp
 | x :: l => by rw [zmz, zml, hf, zfJ f z hf l, zmC, Nat.succ_mul, Nat.add_comm]
theorem flat_set {α : Type} (f : α -> List Value) (z : Nat) (hf : ∀ x, (f x).length = z) (acc r : List α) (x y : α) (k j o : Nat) (hk : acc.length = k) (ho : o = k * z + j) (hj : j < z) (u : Value) (hy : f y = (f x).set j u) :
 ((acc ++ x :: r).flatMap f).set o u = (acc ++ y :: r).flatMap f := by
 have hl : (acc.flatMap f).length = k * z := by rw [zfJ f z hf, hk]
 subst ho; rw [zmT, zmT, zmz, zmz, List.set_append_right _ _ (by rw [hl]; omega), hl, Nat.add_sub_cancel_left, List.set_append_left _ _ (by rw [hf]; exact hj), hy]
theorem zcZ {α : Type} (f : α -> List Value) (z : Nat) (hf : ∀ x, (f x).length = z) (acc r : List α) (x : α) (k j o : Nat) (hk : acc.length = k) (ho : o = k * z + j) (hj : j < z) : ((acc ++ x :: r).flatMap f)[o]? = (f x)[j]? := by
 subst ho; exact zgS z f hf _ k x (by rw [<- hk]; simp) j hj
theorem rep_step {α : Type} (acc : List α) (zr : α) (n k : Nat) (h : k < n) : acc ++ List.replicate (n - k) zr = acc ++ zr :: List.replicate (n - (k + 1)) zr := by
 have : n - k = (n - (k + 1)) + 1 := by omega
 rw [this, List.replicate_succ]
section
variable {te : TypeId} {pe : Value} {d g0 g t e z n k m c o : Nat} {cur : Array Value} {w W W' : World} {st S : St} {cs : Array Value} {L : List Rw} {v u : Value} {α : Type} {f : α -> List Value} {zr x y : α} {acc rest r nm : List α}
theorem DH.row {xs : List Value} (h : DH te pe d g0 cur g t w W st cs (⟨e, z, v, n, xs⟩ :: L)) : W.ownsRow w.heap.size e z v n xs := h.2.2.1.1
theorem DH.rep (h : DH te pe d g0 cur g t w W st cs (⟨e, z, v, n, (acc ++ List.replicate (n - k) zr).flatMap f⟩ :: L)) (hlt : k < n) : DH te pe d g0 cur g t w W.drew st cs (⟨e, z, v, n, (acc ++ zr :: List.replicate (n - (k + 1)) zr).flatMap f⟩ :: L) := by
 rw [rep_step acc zr n k hlt] at h; exact h.fr0 (znq (fun _ => False) W).drew
theorem DH.pt (h : DH te pe d g0 cur g t w W st cs (⟨e, z, .slice (some ⟨m, 0, none⟩) n c, n, (acc ++ x :: r).flatMap f⟩ :: L)) (hW : W.setCell ⟨m, o, none⟩ u = W') (hf : ∀ x, (f x).length = z) (hk : acc.length = k) (j : Nat) (ho : o = k * z + j) (hj : j < z) (hy : f y = (f x).set j u) :
 DH te pe d g0 cur g t w W' st cs (⟨e, z, .slice (some ⟨m, 0, none⟩) n c, n, (acc ++ y :: r).flatMap f⟩ :: L) := by
 subst hW; have h2 := h.put (o := o) u
 rwa [flat_set f z hf acc r x y k j o hk ho hj u hy] at h2
theorem DH.fin {gf : St -> α × St} (h : DH te pe d g0 cur g t w W st cs (⟨e, z, v, n, (acc ++ List.replicate (n - k) zr).flatMap f⟩ :: L)) (ha : acc.length = k /\ gN gf (n - k) st = (rest, S) /\ acc ++ rest = nm) (eA : k = n) (hl : nm.length = n) :
 DH te pe d g0 cur g t w W S cs (⟨e, z, v, nm.length, nm.flatMap f⟩ :: L) := by
 obtain ⟨_, h2, h3⟩ := ha; subst eA; rw [Nat.sub_self] at h2 h; have e1 : st = S := znb Prod.snd h2; have e2 : ([] : List α) = rest := znb Prod.fst h2; rw [<- e2, zmG] at h3; subst e1 h3; rw [List.replicate_zero, zmG] at h; rw [hl]; exact h
end
abbrev DQ (te : TypeId) (pe : Value) (d g0 : Nat) (cur : Array Value) (f : FuncId) (S : St) (v : Value) (T : St) : Prop := ∀ W, Dec te pe W d g0 cur S -> Calls prog f #[.pointer (some ⟨d, 0, none⟩)] W (zb0 te pe W d g0 cur v T)
abbrev rwS (A : Option Addr) (n c : Nat) (l : List (Int × Nat)) : Rw := ⟨361, 2, .slice A n c, l.length, l.flatMap spc⟩
abbrev rwI (A : Option Addr) (n c : Nat) (l : List Int) : Rw := ⟨2, 1, .slice A n c, l.length, l.flatMap i1⟩
abbrev rwF (A : Option Addr) (n c : Nat) (l : List Nat) : Rw := ⟨135, 1, .slice A n c, l.length, l.flatMap f1⟩
abbrev cW (b : Nat) (x1 : Int) (x2 x3 x4 x5 : Nat) (v1 v2 v3 v4 v5 : Value) : Array Value := #[(.int .u8 (b : Int)), (.int .i32 (wrap32 x1)), (.float .f64 x2), (.int .u64 (x3 : Int)), (.int .u64 (x4 : Int)), (.float .f64 x5), v1, v2, v3, v4, v5]
abbrev cF (b : Nat) (x1 : Int) (x2 x3 x4 x5 : Nat) (v1 v2 v3 v4 v5 : Value) : Array Value := #[(.int .u8 (b : Int)), (.int .i32 (wrap32 x1)), (.float .f64 x2), (.float .f64 x3), (.float .f64 x4), (.float .f64 x5), v1, v2, v3, v4, v5]
end Go.Proofs.YtbkookiigkckdaaGreatDoor
