/- Merged. -/
import Derived.Test.YtbkookiigkckdaaGreatDoorKD20
import Derived.Test.YtbkookiigkckdaaGreatDoorKD21
set_option linter.unusedVariables false
set_option linter.unusedSimpArgs false
set_option maxRecDepth 100000
set_option maxHeartbeats 8000000
namespace Go.Proofs.YtbkookiigkckdaaGreatDoor
open Go.RowKit Go.Proofs.Tryz
structure Prt where
 ser : List (Ser × Value)
 smp : List Smp
 sto : List (Ston × Value)
 exm : List (Exm × Value)
 mta : List Mta
 mrk : List Mrk
 his : List (Rhs × Hsl)
structure Prt.At (P : Nat -> Prop) (w : World) (q : Prt) (s0 s1 s2 s3 s4 s5 s6 : Value) : Prop where
 ser : SlR P w s0 q.ser
 smp : Sl P w s1 3 q.smp.length (q.smp.flatMap Smp.a)
 sto : SlS P w s2 q.sto
 exm : SlX P w s3 q.exm
 mta : Sl P w s4 4 q.mta.length (q.mta.flatMap Mta.c)
 mrk : Sl P w s5 2 q.mrk.length (q.mrk.flatMap Mrk.c)
 his : SlH P w s6 q.his
theorem Prt.At.fr {P S : Nat -> Prop} {w w' : World} {q : Prt} {s0 s1 s2 s3 s4 s5 s6 : Value} (h : q.At P w s0 s1 s2 s3 s4 s5 s6) (hf : Fr S w w') (hs : ∀ g, P g -> ¬ S g) : q.At P w' s0 s1 s2 s3 s4 s5 s6 :=
 ⟨h.ser.fr hf hs, h.smp.fr hf hs, h.sto.fr hf hs, h.exm.fr hf hs, h.mta.fr hf hs, h.mrk.fr hf hs, h.his.fr hf hs⟩
structure Prt.Wide (q : Prt) : Prop where
 n0 : q.ser.length <= maxLen
 n1 : q.smp.length <= maxLen
 n2 : q.sto.length <= maxLen
 n3 : q.exm.length <= maxLen
 n4 : q.mta.length <= maxLen
 n5 : q.mrk.length <= maxLen
 n6 : q.his.length <= maxLen
 ser : ∀ p ∈ q.ser, p.1.ref < 18446744073709551616 /\ p.1.labs.length <= maxLen /\ ∀ l ∈ p.1.labs, l.1.size <= maxLen /\ l.2.size <= maxLen
 smp : ∀ p ∈ q.smp, p.wf
 sto : ∀ p ∈ q.sto, p.1.ref < 18446744073709551616 /\ p.1.ivs.length <= maxLen /\ ∀ x ∈ p.1.ivs, (-9223372036854775808 <= x.1 /\ x.1 <= 9223372036854775807) /\ -9223372036854775808 <= x.2 /\ x.2 <= 9223372036854775807
 exm : ∀ p ∈ q.exm, (p.1.ref < 18446744073709551616 /\ -9223372036854775808 <= p.1.t /\ p.1.t <= 9223372036854775807 /\ p.1.v < 18446744073709551616) /\ p.1.labs.length <= maxLen /\ ∀ l ∈ p.1.labs, l.1.size <= maxLen /\ l.2.size <= maxLen
 mta : ∀ p ∈ q.mta, p.ref < 18446744073709551616 /\ p.unit.size <= maxLen /\ p.help.size <= maxLen
 mrk : ∀ p ∈ q.mrk, p.wf
 his : ∀ p ∈ q.his, (p.1.ref < 18446744073709551616 /\ -9223372036854775808 <= p.1.t /\ p.1.t <= 9223372036854775807) /\ p.1.h.wide
structure Prt.Fits (q : Prt) : Prop where
 ser : q.ser.length <= 2147483647 /\ ∀ p ∈ q.ser, zel p.1.labs
 smp : q.smp.length <= 2147483647
 sto : q.sto.length <= 2147483647 /\ ∀ p ∈ q.sto, p.1.ivs.length <= 2147483647
 exm : q.exm.length <= 2147483647 /\ ∀ p ∈ q.exm, zel p.1.labs
 mta : q.mta.length <= 2147483647 /\ ∀ p ∈ q.mta, MFit p
 mrk : q.mrk.length <= 2147483647
 his : q.his.length <= 2147483647 /\ ∀ p ∈ q.his, p.1.h.few 2147483647
theorem max_small : maxLen <= 9223372036854775807 := by decide
theorem zlL (A0 A1 A2 A3 A4 A5 A6 : Option Addr) (c0 c1 c2 c3 c4 c5 c6 n0 n1 n2 n3 n4 n5 n6 : Nat) (p0 p2 p3 p4 p6 pp : Prop) (w : World) (oI : pp ↔ (p0 /\ n1 <= 2147483647 /\ p2 /\ p3 /\ p4 /\ n5 <= 2147483647 /\ p6))
 (H0 : ∀ W, z_F w W -> Calls prog 106 #[.slice A0 n0 c0] W (zas p0 W)) (H2 : ∀ W, z_F w W -> Calls prog 107 #[.slice A2 n2 c2] W (zas p2 W)) (H3 : ∀ W, z_F w W -> Calls prog 108 #[.slice A3 n3 c3] W (zas p3 W)) (H4 : ∀ W, z_F w W -> Calls prog 109 #[.slice A4 n4 c4] W (zas p4 W)) (H6 : ∀ W, z_F w W -> Calls prog 110 #[.slice A6 n6 c6] W (zas p6 W)) :
 Calls prog 34 #[.agg #[.slice A0 n0 c0, .slice A1 n1 c1, .slice A2 n2 c2, .slice A3 n3 c3, .slice A4 n4 c4, .slice A5 n5 c5, .slice A6 n6 c6]] w (zas pp w) := by
 have gi := zmh oI; have HC0 := zmh H0; have lU := zmh H2; have sq := zmh H3; have HC4 := zmh H4; have HC6 := zmh H6; clear oI H0 H2 H3 H4 H6; go_enter func34, ntmps34; have HB := zmh (znm w 54 #[.slice A0 n0 c0, .slice A1 n1 c1, .slice A2 n2 c2, .slice A3 n3 c3, .slice A4 n4 c4, .slice A5 n5 c5, .slice A6 n6 c6])
 have mR := zmh ((znl (fun _ => False) w).alloc (.cells #[.slice A0 n0 c0, .slice A1 n1 c1, .slice A2 n2 c2, .slice A3 n3 c3, .slice A4 n4 c4, .slice A5 n5 c5, .slice A6 n6 c6] 54)); go_wp2_with (go_at_call 106; refine (HC0.out _ mR.out).mono ?_; rintro r w0 ⟨b, rfl, hb, hf⟩; refine Hid.out ?_)
 have lS := zmh (mR.out.same hf); have iu := zmh ((znl (fun _ => False) (w.alloc (.cells #[.slice A0 n0 c0, .slice A1 n1 c1, .slice A2 n2 c2, .slice A3 n3 c3, .slice A4 n4 c4, .slice A5 n5 c5, .slice A6 n6 c6] 54))).same hf); have sD := zmh hb; clear hb hf; have HG := iu; clear iu; obtain ⟨y0, y1, y2, y3, y4, y5, y6⟩ := zad (HB.out.fr HG.out id)
 rcases b with _ | _
 ·refine zmh ?_
  go_wp2; go_ret; exact ⟨false, rfl, zmO (by intro h; cases h) (fun h => absurd (sD.out.2 (gi.out.1 h).1) (by decide)), lS.out⟩
 by_cases g1 : 2147483647 < n1
 ·have g1' : (2147483647 : Int) < (n1 : Int) := by omega
  have G1 := zmh g1; clear g1; refine zmh ?_; go_wp2; go_ret; exact ⟨false, rfl, zmO (by intro h; cases h) (fun h => by have h2 := (gi.out.1 h).2.1; have := G1.out; omega), lS.out⟩
 have g1' : ¬ (2147483647 : Int) < (n1 : Int) := by omega
 have G1 : Hid (n1 <= 2147483647) := zmh (by omega); clear g1; refine zmh ?_; go_wp2_with (go_at_call 107; refine (lU.out _ lS.out).mono ?_; rintro r w2 ⟨b, rfl, hb, hf⟩; refine Hid.out ?_)
 have oy := zmh (lS.out.same hf); have iu := zmh (HG.out.same hf); have sC := zmh hb; clear hb hf HG y0 y1 y2 y3 y4 y5 y6; have HG := iu; clear iu; obtain ⟨y0, y1, y2, y3, y4, y5, y6⟩ := zad (HB.out.fr HG.out id); rcases b with _ | _
 ·refine zmh ?_
  go_wp2; go_ret; exact ⟨false, rfl, zmO (by intro h; cases h) (fun h => absurd (sC.out.2 (gi.out.1 h).2.2.1) (by decide)), oy.out⟩
 refine zmh ?_; go_wp2_with (go_at_call 108; refine (sq.out _ oy.out).mono ?_; rintro r w3 ⟨b, rfl, hb, hf⟩; refine Hid.out ?_)
 have ow := zmh (oy.out.same hf); have iu := zmh (HG.out.same hf); have sB := zmh hb; clear hb hf HG y0 y1 y2 y3 y4 y5 y6; have HG := iu; clear iu; obtain ⟨y0, y1, y2, y3, y4, y5, y6⟩ := zad (HB.out.fr HG.out id); rcases b with _ | _
 ·refine zmh ?_
  go_wp2; go_ret; exact ⟨false, rfl, zmO (by intro h; cases h) (fun h => absurd (sB.out.2 (gi.out.1 h).2.2.2.1) (by decide)), ow.out⟩
 refine zmh ?_; go_wp2_with (go_at_call 109; refine (HC4.out _ ow.out).mono ?_; rintro r w4 ⟨b, rfl, hb, hf⟩; refine Hid.out ?_)
 have lR := zmh (ow.out.same hf); have iu := zmh (HG.out.same hf); have sw := zmh hb; clear hb hf HG y0 y1 y2 y3 y4 y5 y6; have HG := iu; clear iu; obtain ⟨y0, y1, y2, y3, y4, y5, y6⟩ := zad (HB.out.fr HG.out id); rcases b with _ | _
 ·refine zmh ?_
  go_wp2; go_ret; exact ⟨false, rfl, zmO (by intro h; cases h) (fun h => absurd (sw.out.2 (gi.out.1 h).2.2.2.2.1) (by decide)), lR.out⟩
 by_cases g5 : 2147483647 < n5
 ·have g5' : (2147483647 : Int) < (n5 : Int) := by omega
  have G5 := zmh g5; clear g5; refine zmh ?_; go_wp2; go_ret; exact ⟨false, rfl, zmO (by intro h; cases h) (fun h => by have h2 := (gi.out.1 h).2.2.2.2.2.1; have := G5.out; omega), lR.out⟩
 have g5' : ¬ (2147483647 : Int) < (n5 : Int) := by omega
 have G5 : Hid (n5 <= 2147483647) := zmh (by omega); clear g5; refine zmh ?_; go_wp2_with (go_at_call 110; refine (HC6.out _ lR.out).mono ?_; rintro r w6 ⟨b, rfl, hb, hf⟩; refine Hid.out ?_)
 have sj := zmh (lR.out.same hf); have iu := zmh (HG.out.same hf); have ss := zmh hb; clear hb hf HG y0 y1 y2 y3 y4 y5 y6; have HG := iu; clear iu; obtain ⟨y0, y1, y2, y3, y4, y5, y6⟩ := zad (HB.out.fr HG.out id); rcases b with _ | _
 ·refine zmh ?_
  go_wp2; go_ret; exact ⟨false, rfl, zmO (by intro h; cases h) (fun h => absurd (ss.out.2 (gi.out.1 h).2.2.2.2.2.2) (by decide)), sj.out⟩
 refine zmh ?_; go_wp2; go_ret; exact ⟨true, rfl, zmP rfl (gi.out.2 ⟨sD.out.1 (by first | rfl | trivial), G1.out, sC.out.1 (by first | rfl | trivial), sB.out.1 (by first | rfl | trivial), sw.out.1 (by first | rfl | trivial), G5.out, ss.out.1 (by first | rfl | trivial)⟩), sj.out⟩
theorem zhx (P : Nat -> Prop) (q : Prt) (s0 s1 s2 s3 s4 s5 s6 : Value) (w : World) (h : q.At P w s0 s1 s2 s3 s4 s5 s6) (hw : q.Wide) :
 Calls prog 34 #[.agg #[s0, s1, s2, s3, s4, s5, s6]] w (zas q.Fits w) := by
 have hM := max_small; have Hser := (fun (W : World) (hF : z_F w W) => zlK P s0 q.ser W (h.ser.fr hF z_i) (by have := hw.n0; omega) (fun p hp => ⟨by have := (hw.ser p hp).2.1; omega, fun l hl => by have := (hw.ser p hp).2.2 l hl; omega⟩))
 have Hsto := (fun (W : World) (hF : z_F w W) => zlI P s2 q.sto W (h.sto.fr hF z_i) (by have := hw.n2; omega) (fun p hp => by have := (hw.sto p hp).2.1; omega))
 have Hexm := (fun (W : World) (hF : z_F w W) => zlG P s3 q.exm W (h.exm.fr hF z_i) (by have := hw.n3; omega) (fun p hp => ⟨by have := (hw.exm p hp).2.1; omega, fun l hl => by have := (hw.exm p hp).2.2 l hl; omega⟩))
 have Hmta := (fun (W : World) (hF : z_F w W) => zlE P s4 q.mta W (h.mta.fr hF z_i) (by have := hw.n4; omega) (fun p hp => ⟨by have := (hw.mta p hp).2.1; omega, by have := (hw.mta p hp).2.2; omega⟩)); have Hhis := (fun (W : World) (hF : z_F w W) => zlC P s6 q.his W (h.his.fr hF z_i) (by have := hw.n6; omega))
 obtain ⟨A0, c0, rfl⟩ := h.ser.1.shape; obtain ⟨A1, c1, rfl⟩ := h.smp.shape; obtain ⟨A2, c2, rfl⟩ := h.sto.1.shape; obtain ⟨A3, c3, rfl⟩ := h.exm.1.shape; obtain ⟨A4, c4, rfl⟩ := h.mta.shape; obtain ⟨A5, c5, rfl⟩ := h.mrk.shape; obtain ⟨A6, c6, rfl⟩ := h.his.1.shape
 exact zlL A0 A1 A2 A3 A4 A5 A6 c0 c1 c2 c3 c4 c5 c6 _ _ _ _ _ _ _ _ _ _ _ _ q.Fits w ⟨fun k => ⟨k.ser, k.smp, k.sto, k.exm, k.mta, k.mrk, k.his⟩, fun ⟨a, b, c, d, e, f, g⟩ => ⟨a, b, c, d, e, f, g⟩⟩ Hser Hsto Hexm Hmta Hhis
end Go.Proofs.YtbkookiigkckdaaGreatDoor
