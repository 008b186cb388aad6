/- Texts of this seat, merged and shortened. -/
import Derived.Test.YtbkookiigkckdaaGreatDoorK27
set_option linter.unusedVariables false
set_option linter.unusedSimpArgs false
set_option maxRecDepth 100000
set_option maxHeartbeats 8000000
namespace Go.Proofs.YtbkookiigkckdaaGreatDoor
open Go.RowKit Go.Proofs.Tryz
theorem zhh (l : List Lab) (hu : l.Pairwise (fun a b => a.1 ≠ b.1)) : zaE (zaE l) = zaE l := by
 obtain ⟨h1, h2⟩ := zb0 ltL zc5 zcC zcB l; have kH : (zaE l).Pairwise (fun a b => a.1 ≠ b.1) := h2.symm.pairwise hu (fun h e => h e.symm); exact (zf3 (zaE l) (zaE l) (List.Perm.refl _) h1 kH).symm
theorem flatS_le (l : List Ston) (m : Nat) (h : ∀ s ∈ l, s.ivs.length <= m) : (zbY l).length <= l.length * m := by
 induction l with
 | nil => exact zlX _
 | cons s l ih =>
   have h1 := ih (fun x hx => h x (zmL _ hx)); have h2 := h s (zmF ..); have e : zbY (s :: l) = zeK s ++ zbY l := rfl; have e2 : (zeK s).length = s.ivs.length := by unfold zeK; rw [zma]
   rw [e, zlN, e2, zl4, Nat.succ_mul]; omega
theorem zer {h : Hst} (hs : h.total <= 60) : h.few 1099511627776 := by
 unfold Hst.total at hs; exact ⟨by omega, by omega, by omega, by omega, by omega, by omega, by omega⟩
theorem same_1 (q : Prt) (h1 : q.ser.length + q.smp.length + q.sto.length + q.exm.length + q.mta.length + q.mrk.length + q.his.length <= 12) (h2 : q.ser.length + q.smp.length + q.sto.length + q.exm.length + q.mta.length + q.mrk.length + q.his.length = q.ser.length) (h3 : ∀ p ∈ q.ser, LabOk p.1.labs 8 300) :
 zgR { Dat.none with ser := (q.ser.map Prod.fst).map fun s => ⟨s.ref, zaE s.labs⟩ } (wrD 1 q.dat) /\ SmallD { Dat.none with ser := (q.ser.map Prod.fst).map fun s => ⟨s.ref, zaE s.labs⟩ } /\ SmallD (wrD 1 q.dat) := by
 obtain ⟨a0, a1, a2, a3, a4, a5, a6⟩ := q; simp only [] at h1 h2 h3; obtain rfl : a1 = [] := zme (by omega); obtain rfl : a2 = [] := zme (by omega); obtain rfl : a3 = [] := zme (by omega); obtain rfl : a4 = [] := zme (by omega); obtain rfl : a5 = [] := zme (by omega)
 obtain rfl : a6 = [] := zme (by omega); simp only [zmE, zmh, zmO] at h1; have hid : ((a0.map Prod.fst).map fun s => (⟨s.ref, zaE s.labs⟩ : Ser)).map tos = (a0.map Prod.fst).map tos := by
  rw [zmP]; refine List.map_congr_left fun s hs => ?_; obtain ⟨p, hp, rfl⟩ := zmi.1 hs; have := zhh p.1.labs (h3 p hp).2.2; simp only [Function.comp, tos, this]
 have sm1 : ∀ s ∈ ((a0.map Prod.fst).map fun s => (⟨s.ref, zaE s.labs⟩ : Ser)), s.labs.length <= 1048576 := fun s hs => by
  obtain ⟨x, hx, rfl⟩ := zmi.1 hs; obtain ⟨p, hp, rfl⟩ := zmi.1 hx; have h5 := (h3 p hp).1; show (zaE p.1.labs).length <= _; rw [zaZ]; omega
 have sm2 : ∀ s ∈ a0.map Prod.fst, s.labs.length <= 1048576 := fun s hs => by
  obtain ⟨p, hp, rfl⟩ := zmi.1 hs; have h5 := (h3 p hp).1; omega
 refine ⟨?_, ?_, ?_⟩
 ·exact ⟨hid, rfl, rfl, rfl, rfl, rfl, rfl⟩
 ·exact ⟨⟨by simp only [zma]; omega, sm1⟩, zlX _, ⟨zlX _, fun s hs => by cases hs⟩, ⟨zlX _, fun s hs => by cases hs⟩, zlX _, zlX _, ⟨zlX _, fun s hs => by cases hs⟩⟩
 ·exact ⟨⟨by show (a0.map Prod.fst).length <= _; rw [zma]; omega, sm2⟩, zlX _, ⟨zlX _, fun s hs => by cases hs⟩, ⟨zlX _, fun s hs => by cases hs⟩, zlX _, zlX _, ⟨zlX _, fun s hs => by cases hs⟩⟩
theorem same_4 (q : Prt) (h1 : q.ser.length + q.smp.length + q.sto.length + q.exm.length + q.mta.length + q.mrk.length + q.his.length <= 12) (h2 : q.ser.length + q.smp.length + q.sto.length + q.exm.length + q.mta.length + q.mrk.length + q.his.length = q.exm.length) (h3 : ∀ p ∈ q.exm, LabOk p.1.labs 8 300) :
 zgR { Dat.none with exm := (q.exm.map Prod.fst).map fun s => ⟨s.ref, s.t, s.v, zaE s.labs⟩ } (wrD 4 q.dat) /\ SmallD { Dat.none with exm := (q.exm.map Prod.fst).map fun s => ⟨s.ref, s.t, s.v, zaE s.labs⟩ } /\ SmallD (wrD 4 q.dat) := by
 obtain ⟨a0, a1, a2, a3, a4, a5, a6⟩ := q; simp only [] at h1 h2 h3; obtain rfl : a0 = [] := zme (by omega); obtain rfl : a1 = [] := zme (by omega); obtain rfl : a2 = [] := zme (by omega); obtain rfl : a4 = [] := zme (by omega); obtain rfl : a5 = [] := zme (by omega)
 obtain rfl : a6 = [] := zme (by omega); simp only [zmE, zmh, zmO] at h1; have hid : ((a3.map Prod.fst).map fun s => (⟨s.ref, s.t, s.v, zaE s.labs⟩ : Exm)).map toe = (a3.map Prod.fst).map toe := by
  rw [zmP]; refine List.map_congr_left fun s hs => ?_; obtain ⟨p, hp, rfl⟩ := zmi.1 hs; have := zhh p.1.labs (h3 p hp).2.2; simp only [Function.comp, toe, this]
 have sm1 : ∀ s ∈ ((a3.map Prod.fst).map fun s => (⟨s.ref, s.t, s.v, zaE s.labs⟩ : Exm)), s.labs.length <= 1048576 := fun s hs => by
  obtain ⟨x, hx, rfl⟩ := zmi.1 hs; obtain ⟨p, hp, rfl⟩ := zmi.1 hx; have h5 := (h3 p hp).1; show (zaE p.1.labs).length <= _; rw [zaZ]; omega
 have sm2 : ∀ s ∈ a3.map Prod.fst, s.labs.length <= 1048576 := fun s hs => by
  obtain ⟨p, hp, rfl⟩ := zmi.1 hs; have h5 := (h3 p hp).1; omega
 refine ⟨?_, ?_, ?_⟩
 ·exact ⟨rfl, rfl, rfl, hid, rfl, rfl, rfl⟩
 ·exact ⟨⟨zlX _, fun s hs => by cases hs⟩, zlX _, ⟨zlX _, fun s hs => by cases hs⟩, ⟨by simp only [zma]; omega, sm1⟩, zlX _, zlX _, ⟨zlX _, fun s hs => by cases hs⟩⟩
 ·exact ⟨⟨zlX _, fun s hs => by cases hs⟩, zlX _, ⟨zlX _, fun s hs => by cases hs⟩, ⟨by show (a3.map Prod.fst).length <= _; rw [zma]; omega, sm2⟩, zlX _, zlX _, ⟨zlX _, fun s hs => by cases hs⟩⟩
theorem same_2 (q : Prt) (h1 : q.ser.length + q.smp.length + q.sto.length + q.exm.length + q.mta.length + q.mrk.length + q.his.length <= 12) (h2 : q.ser.length + q.smp.length + q.sto.length + q.exm.length + q.mta.length + q.mrk.length + q.his.length = q.smp.length) :
 zgR { Dat.none with smp := q.smp } (wrD 2 q.dat) /\ SmallD { Dat.none with smp := q.smp } /\ SmallD (wrD 2 q.dat) := by
 obtain ⟨a0, a1, a2, a3, a4, a5, a6⟩ := q; simp only [] at h1 h2; obtain rfl : a0 = [] := zme (by omega); obtain rfl : a2 = [] := zme (by omega); obtain rfl : a3 = [] := zme (by omega); obtain rfl : a4 = [] := zme (by omega); obtain rfl : a5 = [] := zme (by omega)
 obtain rfl : a6 = [] := zme (by omega); simp only [zmE, zmh, zmO] at h1
 exact ⟨⟨rfl, rfl, rfl, rfl, rfl, rfl, rfl⟩, ⟨⟨zlX _, fun s hs => by cases hs⟩, by show a1.length <= _; omega, ⟨zlX _, fun s hs => by cases hs⟩, ⟨zlX _, fun s hs => by cases hs⟩, zlX _, zlX _, ⟨zlX _, fun s hs => by cases hs⟩⟩, ⟨⟨zlX _, fun s hs => by cases hs⟩, by show a1.length <= _; omega, ⟨zlX _, fun s hs => by cases hs⟩, ⟨zlX _, fun s hs => by cases hs⟩, zlX _, zlX _, ⟨zlX _, fun s hs => by cases hs⟩⟩⟩
theorem same_5 (q : Prt) (h1 : q.ser.length + q.smp.length + q.sto.length + q.exm.length + q.mta.length + q.mrk.length + q.his.length <= 12) (h2 : q.ser.length + q.smp.length + q.sto.length + q.exm.length + q.mta.length + q.mrk.length + q.his.length = q.mrk.length) :
 zgR { Dat.none with mrk := q.mrk } (wrD 5 q.dat) /\ SmallD { Dat.none with mrk := q.mrk } /\ SmallD (wrD 5 q.dat) := by
 obtain ⟨a0, a1, a2, a3, a4, a5, a6⟩ := q; simp only [] at h1 h2; obtain rfl : a0 = [] := zme (by omega); obtain rfl : a1 = [] := zme (by omega); obtain rfl : a2 = [] := zme (by omega); obtain rfl : a3 = [] := zme (by omega); obtain rfl : a4 = [] := zme (by omega)
 obtain rfl : a6 = [] := zme (by omega); simp only [zmE, zmh, zmO] at h1
 exact ⟨⟨rfl, rfl, rfl, rfl, rfl, rfl, rfl⟩, ⟨⟨zlX _, fun s hs => by cases hs⟩, zlX _, ⟨zlX _, fun s hs => by cases hs⟩, ⟨zlX _, fun s hs => by cases hs⟩, zlX _, by show a5.length <= _; omega, ⟨zlX _, fun s hs => by cases hs⟩⟩, ⟨⟨zlX _, fun s hs => by cases hs⟩, zlX _, ⟨zlX _, fun s hs => by cases hs⟩, ⟨zlX _, fun s hs => by cases hs⟩, zlX _, by show a5.length <= _; omega, ⟨zlX _, fun s hs => by cases hs⟩⟩⟩
theorem same_6 (q : Prt) (h1 : q.ser.length + q.smp.length + q.sto.length + q.exm.length + q.mta.length + q.mrk.length + q.his.length <= 12) (h2 : q.ser.length + q.smp.length + q.sto.length + q.exm.length + q.mta.length + q.mrk.length + q.his.length = q.mta.length) :
 zgR { Dat.none with mta := q.mta } (wrD 6 q.dat) /\ SmallD { Dat.none with mta := q.mta } /\ SmallD (wrD 6 q.dat) := by
 obtain ⟨a0, a1, a2, a3, a4, a5, a6⟩ := q; simp only [] at h1 h2; obtain rfl : a0 = [] := zme (by omega); obtain rfl : a1 = [] := zme (by omega); obtain rfl : a2 = [] := zme (by omega); obtain rfl : a3 = [] := zme (by omega); obtain rfl : a5 = [] := zme (by omega)
 obtain rfl : a6 = [] := zme (by omega); simp only [zmE, zmh, zmO] at h1
 exact ⟨⟨rfl, rfl, rfl, rfl, rfl, rfl, rfl⟩, ⟨⟨zlX _, fun s hs => by cases hs⟩, zlX _, ⟨zlX _, fun s hs => by cases hs⟩, ⟨zlX _, fun s hs => by cases hs⟩, by show a4.length <= _; omega, zlX _, ⟨zlX _, fun s hs => by cases hs⟩⟩, ⟨⟨zlX _, fun s hs => by cases hs⟩, zlX _, ⟨zlX _, fun s hs => by cases hs⟩, ⟨zlX _, fun s hs => by cases hs⟩, by show a4.length <= _; omega, zlX _, ⟨zlX _, fun s hs => by cases hs⟩⟩⟩
theorem same_3 (q : Prt) (h1 : q.ser.length + q.smp.length + q.sto.length + q.exm.length + q.mta.length + q.mrk.length + q.his.length <= 12) (h2 : q.ser.length + q.smp.length + q.sto.length + q.exm.length + q.mta.length + q.mrk.length + q.his.length = q.sto.length) (h3 : ∀ p ∈ q.sto, p.1.ivs.length <= 6) :
 zgR { Dat.none with sto := (zbY (q.sto.map Prod.fst)).map one } (wrD 3 q.dat) /\ SmallD { Dat.none with sto := (zbY (q.sto.map Prod.fst)).map one } /\ SmallD (wrD 3 q.dat) := by
 obtain ⟨a0, a1, a2, a3, a4, a5, a6⟩ := q; simp only [] at h1 h2 h3; obtain rfl : a0 = [] := zme (by omega); obtain rfl : a1 = [] := zme (by omega); obtain rfl : a3 = [] := zme (by omega); obtain rfl : a4 = [] := zme (by omega); obtain rfl : a5 = [] := zme (by omega)
 obtain rfl : a6 = [] := zme (by omega); simp only [zmE, zmh, zmO] at h1; have bN := flatS_le (a2.map Prod.fst) 6 (fun s hs => by obtain ⟨p, hp, rfl⟩ := zmi.1 hs; exact h3 p hp); rw [zma] at bN; have b1 : ((zbY (a2.map Prod.fst)).map one).length <= 1099511627776 := by rw [zma]; omega
 have b2 : ∀ s ∈ (zbY (a2.map Prod.fst)).map one, s.ivs.length <= 1099511627776 := fun s hs => by
  obtain ⟨x, _, rfl⟩ := zmi.1 hs; show 1 <= _; omega
 exact ⟨⟨rfl, rfl, rfl, rfl, rfl, rfl, rfl⟩, ⟨⟨zlX _, fun s hs => by cases hs⟩, zlX _, ⟨b1, b2⟩, ⟨zlX _, fun s hs => by cases hs⟩, zlX _, zlX _, ⟨zlX _, fun s hs => by cases hs⟩⟩, ⟨⟨zlX _, fun s hs => by cases hs⟩, zlX _, ⟨b1, b2⟩, ⟨zlX _, fun s hs => by cases hs⟩, zlX _, zlX _, ⟨zlX _, fun s hs => by cases hs⟩⟩⟩
theorem same_7 (q : Prt) (h1 : q.ser.length + q.smp.length + q.sto.length + q.exm.length + q.mta.length + q.mrk.length + q.his.length <= 12) (h2 : q.ser.length + q.smp.length + q.sto.length + q.exm.length + q.mta.length + q.mrk.length + q.his.length = q.his.length) (h3 : ∀ p ∈ q.his, zbG false p.1.h) :
 zgR { Dat.none with his := (q.his.map Prod.fst).filter (fun s => !zaP s) } (wrD 7 q.dat) /\ SmallD { Dat.none with his := (q.his.map Prod.fst).filter (fun s => !zaP s) } /\ SmallD (wrD 7 q.dat) := by
 obtain ⟨a0, a1, a2, a3, a4, a5, a6⟩ := q; simp only [] at h1 h2 h3; obtain rfl : a0 = [] := zme (by omega); obtain rfl : a1 = [] := zme (by omega); obtain rfl : a2 = [] := zme (by omega); obtain rfl : a3 = [] := zme (by omega); obtain rfl : a4 = [] := zme (by omega)
 obtain rfl : a5 = [] := zme (by omega); simp only [zmE, zmh, zmO] at h1; have e : (wrD 7 (Prt.dat ⟨[], [], [], [], [], [], a6⟩)).his = (a6.map Prod.fst).filter (fun s => !zaP s) := by simp only [wrD, Prt.dat]; rfl
 have e0 : (a6.map Prod.fst).filter (fun s => !zaP s) = (a6.map Prod.fst).filter (fun s => !zaP s) := rfl; have b1 : ((a6.map Prod.fst).filter (fun s => !zaP s)).length <= 1099511627776 := by have := zmK (fun s => !zaP s) (a6.map Prod.fst); rw [zma] at this; omega
 have b2 : ∀ s ∈ (a6.map Prod.fst).filter (fun s => !zaP s), s.h.few 1099511627776 := fun s hs => by
  obtain ⟨p, hp, rfl⟩ := zmi.1 (zmr.1 hs).1; exact zer (h3 p hp).1
 rw [e0]
 refine ⟨⟨rfl, rfl, rfl, rfl, rfl, rfl, e.symm⟩, ⟨⟨zlX _, fun s hs => by cases hs⟩, zlX _, ⟨zlX _, fun s hs => by cases hs⟩, ⟨zlX _, fun s hs => by cases hs⟩, zlX _, zlX _, ⟨b1, b2⟩⟩, ⟨⟨zlX _, fun s hs => by cases hs⟩, zlX _, ⟨zlX _, fun s hs => by cases hs⟩, ⟨zlX _, fun s hs => by cases hs⟩, zlX _, zlX _, ⟨by rw [e]; exact b1, fun s hs => b2 s (by rw [e] at hs; exact hs)⟩⟩⟩
theorem same_8 (q : Prt) (h1 : q.ser.length + q.smp.length + q.sto.length + q.exm.length + q.mta.length + q.mrk.length + q.his.length <= 12) (h2 : q.ser.length + q.smp.length + q.sto.length + q.exm.length + q.mta.length + q.mrk.length + q.his.length = q.his.length) (h3 : ∀ p ∈ q.his, zbG true p.1.h) :
 zgR { Dat.none with his := (q.his.map Prod.fst).filter (fun s => !zaP s) } (wrD 8 q.dat) /\ SmallD { Dat.none with his := (q.his.map Prod.fst).filter (fun s => !zaP s) } /\ SmallD (wrD 8 q.dat) := by
 obtain ⟨a0, a1, a2, a3, a4, a5, a6⟩ := q; simp only [] at h1 h2 h3; obtain rfl : a0 = [] := zme (by omega); obtain rfl : a1 = [] := zme (by omega); obtain rfl : a2 = [] := zme (by omega); obtain rfl : a3 = [] := zme (by omega); obtain rfl : a4 = [] := zme (by omega)
 obtain rfl : a5 = [] := zme (by omega); simp only [zmE, zmh, zmO] at h1; have e : (wrD 8 (Prt.dat ⟨[], [], [], [], [], [], a6⟩)).his = (a6.map Prod.fst).filter (fun s => !zaP s) := by simp only [wrD, Prt.dat]; rfl
 have e0 : (a6.map Prod.fst).filter (fun s => !zaP s) = (a6.map Prod.fst).filter (fun s => !zaP s) := rfl; have b1 : ((a6.map Prod.fst).filter (fun s => !zaP s)).length <= 1099511627776 := by have := zmK (fun s => !zaP s) (a6.map Prod.fst); rw [zma] at this; omega
 have b2 : ∀ s ∈ (a6.map Prod.fst).filter (fun s => !zaP s), s.h.few 1099511627776 := fun s hs => by
  obtain ⟨p, hp, rfl⟩ := zmi.1 (zmr.1 hs).1; exact zer (h3 p hp).1
 rw [e0]
 refine ⟨⟨rfl, rfl, rfl, rfl, rfl, rfl, e.symm⟩, ⟨⟨zlX _, fun s hs => by cases hs⟩, zlX _, ⟨zlX _, fun s hs => by cases hs⟩, ⟨zlX _, fun s hs => by cases hs⟩, zlX _, zlX _, ⟨b1, b2⟩⟩, ⟨⟨zlX _, fun s hs => by cases hs⟩, zlX _, ⟨zlX _, fun s hs => by cases hs⟩, ⟨zlX _, fun s hs => by cases hs⟩, zlX _, zlX _, ⟨by rw [e]; exact b1, fun s hs => b2 s (by rw [e] at hs; exact hs)⟩⟩⟩
theorem same_9 (q : Prt) (h1 : q.ser.length + q.smp.length + q.sto.length + q.exm.length + q.mta.length + q.mrk.length + q.his.length <= 12) (h2 : q.ser.length + q.smp.length + q.sto.length + q.exm.length + q.mta.length + q.mrk.length + q.his.length = q.his.length) (h3 : ∀ p ∈ q.his, zbG false p.1.h) :
 zgR { Dat.none with his := (q.his.map Prod.fst).filter (fun _ => true) } (wrD 9 q.dat) /\ SmallD { Dat.none with his := (q.his.map Prod.fst).filter (fun _ => true) } /\ SmallD (wrD 9 q.dat) := by
 obtain ⟨a0, a1, a2, a3, a4, a5, a6⟩ := q; simp only [] at h1 h2 h3; obtain rfl : a0 = [] := zme (by omega); obtain rfl : a1 = [] := zme (by omega); obtain rfl : a2 = [] := zme (by omega); obtain rfl : a3 = [] := zme (by omega); obtain rfl : a4 = [] := zme (by omega)
 obtain rfl : a5 = [] := zme (by omega); simp only [zmE, zmh, zmO] at h1; have e : (wrD 9 (Prt.dat ⟨[], [], [], [], [], [], a6⟩)).his = a6.map Prod.fst := by simp only [wrD, Prt.dat]; rfl
 have e0 : (a6.map Prod.fst).filter (fun _ => true) = a6.map Prod.fst := List.filter_eq_self.2 (fun _ _ => rfl); have b1 : (a6.map Prod.fst).length <= 1099511627776 := by rw [zma]; omega
 have b2 : ∀ s ∈ a6.map Prod.fst, s.h.few 1099511627776 := fun s hs => by
  obtain ⟨p, hp, rfl⟩ := zmi.1 hs; exact zer (h3 p hp).1
 rw [e0]
 refine ⟨⟨rfl, rfl, rfl, rfl, rfl, rfl, e.symm⟩, ⟨⟨zlX _, fun s hs => by cases hs⟩, zlX _, ⟨zlX _, fun s hs => by cases hs⟩, ⟨zlX _, fun s hs => by cases hs⟩, zlX _, zlX _, ⟨b1, b2⟩⟩, ⟨⟨zlX _, fun s hs => by cases hs⟩, zlX _, ⟨zlX _, fun s hs => by cases hs⟩, ⟨zlX _, fun s hs => by cases hs⟩, zlX _, zlX _, ⟨by rw [e]; exact b1, fun s hs => b2 s (by rw [e] at hs; exact hs)⟩⟩⟩
theorem same_10 (q : Prt) (h1 : q.ser.length + q.smp.length + q.sto.length + q.exm.length + q.mta.length + q.mrk.length + q.his.length <= 12) (h2 : q.ser.length + q.smp.length + q.sto.length + q.exm.length + q.mta.length + q.mrk.length + q.his.length = q.his.length) (h3 : ∀ p ∈ q.his, zbG true p.1.h) :
 zgR { Dat.none with his := (q.his.map Prod.fst).filter (fun _ => true) } (wrD 10 q.dat) /\ SmallD { Dat.none with his := (q.his.map Prod.fst).filter (fun _ => true) } /\ SmallD (wrD 10 q.dat) := by
 obtain ⟨a0, a1, a2, a3, a4, a5, a6⟩ := q; simp only [] at h1 h2 h3; obtain rfl : a0 = [] := zme (by omega); obtain rfl : a1 = [] := zme (by omega); obtain rfl : a2 = [] := zme (by omega); obtain rfl : a3 = [] := zme (by omega); obtain rfl : a4 = [] := zme (by omega)
 obtain rfl : a5 = [] := zme (by omega); simp only [zmE, zmh, zmO] at h1; have e : (wrD 10 (Prt.dat ⟨[], [], [], [], [], [], a6⟩)).his = a6.map Prod.fst := by simp only [wrD, Prt.dat]; rfl
 have e0 : (a6.map Prod.fst).filter (fun _ => true) = a6.map Prod.fst := List.filter_eq_self.2 (fun _ _ => rfl); have b1 : (a6.map Prod.fst).length <= 1099511627776 := by rw [zma]; omega
 have b2 : ∀ s ∈ a6.map Prod.fst, s.h.few 1099511627776 := fun s hs => by
  obtain ⟨p, hp, rfl⟩ := zmi.1 hs; exact zer (h3 p hp).1
 rw [e0]
 refine ⟨⟨rfl, rfl, rfl, rfl, rfl, rfl, e.symm⟩, ⟨⟨zlX _, fun s hs => by cases hs⟩, zlX _, ⟨zlX _, fun s hs => by cases hs⟩, ⟨zlX _, fun s hs => by cases hs⟩, zlX _, zlX _, ⟨b1, b2⟩⟩, ⟨⟨zlX _, fun s hs => by cases hs⟩, zlX _, ⟨zlX _, fun s hs => by cases hs⟩, ⟨zlX _, fun s hs => by cases hs⟩, zlX _, zlX _, ⟨by rw [e]; exact b1, fun s hs => b2 s (by rw [e] at hs; exact hs)⟩⟩⟩
theorem zc9 (A0 A1 A2 A3 A4 A5 A6 : Option Addr) (c0 c1 c2 c3 c4 c5 c6 : Nat) (n0 n1 n2 n3 n4 n5 n6 n : Nat) (h0 : n0 <= 1099511627776) (h1 : n1 <= 1099511627776) (h2 : n2 <= 1099511627776) (h3 : n3 <= 1099511627776) (h4 : n4 <= 1099511627776) (h5 : n5 <= 1099511627776) (h6 : n6 <= 1099511627776) (hn : n = n0 + n1 + n2 + n3 + n4 + n5 + n6) (w : World) :
 Calls prog 40 #[.agg #[.slice A0 n0 c0, .slice A1 n1 c1, .slice A2 n2 c2, .slice A3 n3 c3, .slice A4 n4 c4, .slice A5 n5 c5, .slice A6 n6 c6]] w (zkn n w) := by
 go_enter func40, ntmps40; go_wp2; go_ret; refine ⟨?_, (zmR _ w).alloc _⟩; rw [show (n : Int) = ((((((n0 : Int) + n1) + n2) + n3) + n4) + n5) + n6 by omega]; rfl
theorem rightG_2 (A0 A1 A2 A3 A4 A5 A6 : Option Addr) (c0 c1 c2 c3 c4 c5 c6 : Nat) (n0 n1 n2 n3 n4 n5 n6 n : Nat) (h0 : n0 <= 1099511627776) (h1 : n1 <= 1099511627776) (h2 : n2 <= 1099511627776) (h3 : n3 <= 1099511627776) (h4 : n4 <= 1099511627776) (h5 : n5 <= 1099511627776) (h6 : n6 <= 1099511627776) (hn : n = n0 + n1 + n2 + n3 + n4 + n5 + n6) (w : World) :
 Calls prog 30 #[.int .i64 2, .agg #[.slice A0 n0 c0, .slice A1 n1 c1, .slice A2 n2 c2, .slice A3 n3 c3, .slice A4 n4 c4, .slice A5 n5 c5, .slice A6 n6 c6]] w (zau (n <= 12 /\ n = n1) w) := by
 have hC := zc9 A0 A1 A2 A3 A4 A5 A6 c0 c1 c2 c3 c4 c5 c6 n0 n1 n2 n3 n4 n5 n6 n h0 h1 h2 h3 h4 h5 h6 hn (w.alloc (.cells #[.slice A0 n0 c0, .slice A1 n1 c1, .slice A2 n2 c2, .slice A3 n3 c3, .slice A4 n4 c4, .slice A5 n5 c5, .slice A6 n6 c6] 54)); have bN : n1 <= n := by omega
 clear hn; by_cases h12 : n <= 12
 ·have hx : ¬ (12 : Int) < (n : Int) := by omega
  by_cases he : n = n1
  ·subst he
   go_enter func30, ntmps30; go_wp2_with (go_at_call 40; refine hC.mono ?_; rintro r w1 ⟨rfl, ag⟩; obtain ⟨x0, x1, x2, x3, x4, x5, x6⟩ := zag ((zmS w 54 #[.slice A0 n0 c0, .slice A1 n c1, .slice A2 n2 c2, .slice A3 n3 c3, .slice A4 n4 c4, .slice A5 n5 c5, .slice A6 n6 c6]).fr ag (fun e => e)))
   go_ret; exact ⟨_, rfl, ⟨fun _ => ⟨h12, by trivial⟩, fun _ => by simp⟩, ((zmR _ w).alloc _).same ag⟩
  ·have hz : ((n : Int) - (n1 : Int) == 0) = false := by simp; omega
   go_enter func30, ntmps30; go_wp2_with (go_at_call 40; refine hC.mono ?_; rintro r w1 ⟨rfl, ag⟩; obtain ⟨x0, x1, x2, x3, x4, x5, x6⟩ := zag ((zmS w 54 #[.slice A0 n0 c0, .slice A1 n1 c1, .slice A2 n2 c2, .slice A3 n3 c3, .slice A4 n4 c4, .slice A5 n5 c5, .slice A6 n6 c6]).fr ag (fun e => e)))
   go_ret; exact ⟨_, rfl, ⟨fun h => (by first | (cases h; done) | (simp at h; done) | (simp at h; omega)), fun h => absurd h.2 he⟩, ((zmR _ w).alloc _).same ag⟩
 ·have hx : (12 : Int) < (n : Int) := by omega
  go_enter func30, ntmps30; go_wp2_with (go_at_call 40; refine hC.mono ?_; rintro r w1 ⟨rfl, ag⟩)
  go_ret; exact ⟨false, rfl, ⟨fun h => (by cases h), fun h => absurd h.1 h12⟩, ((zmR _ w).alloc _).same ag⟩
theorem rightG_5 (A0 A1 A2 A3 A4 A5 A6 : Option Addr) (c0 c1 c2 c3 c4 c5 c6 : Nat) (n0 n1 n2 n3 n4 n5 n6 n : Nat) (h0 : n0 <= 1099511627776) (h1 : n1 <= 1099511627776) (h2 : n2 <= 1099511627776) (h3 : n3 <= 1099511627776) (h4 : n4 <= 1099511627776) (h5 : n5 <= 1099511627776) (h6 : n6 <= 1099511627776) (hn : n = n0 + n1 + n2 + n3 + n4 + n5 + n6) (w : World) :
 Calls prog 30 #[.int .i64 5, .agg #[.slice A0 n0 c0, .slice A1 n1 c1, .slice A2 n2 c2, .slice A3 n3 c3, .slice A4 n4 c4, .slice A5 n5 c5, .slice A6 n6 c6]] w (zau (n <= 12 /\ n = n5) w) := by
 have hC := zc9 A0 A1 A2 A3 A4 A5 A6 c0 c1 c2 c3 c4 c5 c6 n0 n1 n2 n3 n4 n5 n6 n h0 h1 h2 h3 h4 h5 h6 hn (w.alloc (.cells #[.slice A0 n0 c0, .slice A1 n1 c1, .slice A2 n2 c2, .slice A3 n3 c3, .slice A4 n4 c4, .slice A5 n5 c5, .slice A6 n6 c6] 54)); have bN : n5 <= n := by omega
 clear hn; by_cases h12 : n <= 12
 ·have hx : ¬ (12 : Int) < (n : Int) := by omega
  by_cases he : n = n5
  ·subst he
   go_enter func30, ntmps30; go_wp2_with (go_at_call 40; refine hC.mono ?_; rintro r w1 ⟨rfl, ag⟩; obtain ⟨x0, x1, x2, x3, x4, x5, x6⟩ := zag ((zmS w 54 #[.slice A0 n0 c0, .slice A1 n1 c1, .slice A2 n2 c2, .slice A3 n3 c3, .slice A4 n4 c4, .slice A5 n c5, .slice A6 n6 c6]).fr ag (fun e => e)))
   go_ret; exact ⟨_, rfl, ⟨fun _ => ⟨h12, by trivial⟩, fun _ => by simp⟩, ((zmR _ w).alloc _).same ag⟩
  ·have hz : ((n : Int) - (n5 : Int) == 0) = false := by simp; omega
   go_enter func30, ntmps30; go_wp2_with (go_at_call 40; refine hC.mono ?_; rintro r w1 ⟨rfl, ag⟩; obtain ⟨x0, x1, x2, x3, x4, x5, x6⟩ := zag ((zmS w 54 #[.slice A0 n0 c0, .slice A1 n1 c1, .slice A2 n2 c2, .slice A3 n3 c3, .slice A4 n4 c4, .slice A5 n5 c5, .slice A6 n6 c6]).fr ag (fun e => e)))
   go_ret; exact ⟨_, rfl, ⟨fun h => (by first | (cases h; done) | (simp at h; done) | (simp at h; omega)), fun h => absurd h.2 he⟩, ((zmR _ w).alloc _).same ag⟩
 ·have hx : (12 : Int) < (n : Int) := by omega
  go_enter func30, ntmps30; go_wp2_with (go_at_call 40; refine hC.mono ?_; rintro r w1 ⟨rfl, ag⟩)
  go_ret; exact ⟨false, rfl, ⟨fun h => (by cases h), fun h => absurd h.1 h12⟩, ((zmR _ w).alloc _).same ag⟩
theorem zdJ : (∀ (_ : True) (A0 A1 A2 A3 A4 A5 A6 : Option Addr) (c0 c1 c2 c3 c4 c5 c6 : Nat) (n0 n1 n2 n3 n4 n5 n6 n : Nat) (h0 : n0 <= 1099511627776) (h1 : n1 <= 1099511627776) (h2 : n2 <= 1099511627776) (h3 : n3 <= 1099511627776) (h4 : n4 <= 1099511627776) (h5 : n5 <= 1099511627776) (h6 : n6 <= 1099511627776) (hn : n = n0 + n1 + n2 + n3 + n4 + n5 + n6) (w : World) (P : Nat -> Prop) (lv : List (Ser × Value)) (hs : SlR P w (.slice A0 n0 c0) lv) (hl : lv.length = n0) (hi : ∀ p ∈ lv, p.1.labs.length <= 1099511627776),
 Calls prog 30 #[.int .i64 1, .agg #[.slice A0 n0 c0, .slice A1 n1 c1, .slice A2 n2 c2, .slice A3 n3 c3, .slice A4 n4 c4, .slice A5 n5 c5, .slice A6 n6 c6]] w (zau (n <= 12 /\ n = n0 /\ ∀ p ∈ lv, LabOk p.1.labs 8 300) w)) /\ (∀ (_ : True) (A0 A1 A2 A3 A4 A5 A6 : Option Addr) (c0 c1 c2 c3 c4 c5 c6 : Nat) (n0 n1 n2 n3 n4 n5 n6 n : Nat) (h0 : n0 <= 1099511627776) (h1 : n1 <= 1099511627776) (h2 : n2 <= 1099511627776) (h3 : n3 <= 1099511627776) (h4 : n4 <= 1099511627776) (h5 : n5 <= 1099511627776) (h6 : n6 <= 1099511627776) (hn : n = n0 + n1 + n2 + n3 + n4 + n5 + n6) (w : World) (P : Nat -> Prop) (lv : List (Exm × Value)) (hs : SlX P w (.slice A3 n3 c3) lv) (hl : lv.length = n3) (hi : ∀ p ∈ lv, p.1.labs.length <= 1099511627776),
 Calls prog 30 #[.int .i64 4, .agg #[.slice A0 n0 c0, .slice A1 n1 c1, .slice A2 n2 c2, .slice A3 n3 c3, .slice A4 n4 c4, .slice A5 n5 c5, .slice A6 n6 c6]] w (zau (n <= 12 /\ n = n3 /\ ∀ p ∈ lv, LabOk p.1.labs 8 300) w)) := by
 refine ⟨fun aj A0 A1 A2 A3 A4 A5 A6 c0 c1 c2 c3 c4 c5 c6 n0 n1 n2 n3 n4 n5 n6 n h0 h1 h2 h3 h4 h5 h6 hn w P lv hs hl hi => ?_, fun cf A0 A1 A2 A3 A4 A5 A6 c0 c1 c2 c3 c4 c5 c6 n0 n1 n2 n3 n4 n5 n6 n h0 h1 h2 h3 h4 h5 h6 hn w P lv hs hl hi => ?_⟩; all_goals
  have hC := zc9 A0 A1 A2 A3 A4 A5 A6 c0 c1 c2 c3 c4 c5 c6 n0 n1 n2 n3 n4 n5 n6 n h0 h1 h2 h3 h4 h5 h6 hn (w.alloc (.cells #[.slice A0 n0 c0, .slice A1 n1 c1, .slice A2 n2 c2, .slice A3 n3 c3, .slice A4 n4 c4, .slice A5 n5 c5, .slice A6 n6 c6] 54))
  first | (guard_hyp aj; have bN : n0 <= n := by omega) | (have bN : n3 <= n := by omega)
  clear hn; by_cases h12 : n <= 12
  ·have h1x : ¬ (12 : Int) < (n : Int) := by omega
   have HS := zlM hs; have HN := zlM hl; have HI := zlM hi; clear hs hl hi; go_enter func30, ntmps30; go_wp2_with (go_at_call 40; refine hC.mono ?_; rintro r w1 ⟨rfl, ag⟩; obtain ⟨x0, x1, x2, x3, x4, x5, x6⟩ := zag ((zmS w 54 #[.slice A0 n0 c0, .slice A1 n1 c1, .slice A2 n2 c2, .slice A3 n3 c3, .slice A4 n4 c4, .slice A5 n5 c5, .slice A6 n6 c6]).fr ag (fun e => e)))
   have HF := zlM (((zmR (fun _ => False) w).alloc (.cells #[.slice A0 n0 c0, .slice A1 n1 c1, .slice A2 n2 c2, .slice A3 n3 c3, .slice A4 n4 c4, .slice A5 n5 c5, .slice A6 n6 c6] 54)).same ag); have kF := HF.out.size
   have HB := zlM ((zmS w 54 #[.slice A0 n0 c0, .slice A1 n1 c1, .slice A2 n2 c2, .slice A3 n3 c3, .slice A4 n4 c4, .slice A5 n5 c5, .slice A6 n6 c6]).fr ag (fun e => e)); clear ag hC
   first | (guard_hyp aj; go_loopw [6] (fun i wr => ∃ k : Nat, k <= n0 /\ i = .int .i64 k /\ Hid (Fr (fun _ => False) w1 wr) /\ Hid (∀ j p, j < k -> lv[j]? = some p -> LabOk p.1.labs 8 300)) (fun i _ => n0 - (intOf i).toNat)) | (go_loopw [8] (fun i wr => ∃ k : Nat, k <= n3 /\ i = .int .i64 k /\ Hid (Fr (fun _ => False) w1 wr) /\ Hid (∀ j p, j < k -> lv[j]? = some p -> LabOk p.1.labs 8 300)) (fun i _ => n3 - (intOf i).toNat))
   case atStart => exact ⟨0, zlX _, rfl, zlM (zmR _ _), zlM (fun j p h => absurd h (zmx _))⟩
   case round =>
    obtain ⟨k, hk, rfl, RF, RG⟩ := hrel; obtain ⟨y0, y1, y2, y3, y4, y5, y6⟩ := zag (HB.out.fr RF.out (fun e => e)); clear x0 x1 x2 x3 x4 x5 x6
    first | (guard_hyp aj; by_cases hlt : k < n0) | (by_cases hlt : k < n3)
    ·have hS := HS.out.fr (HF.out.same RF.out) (fun _ _ e => e)
     have aX := hS.2; obtain ⟨⟨A, c, e2, _, hc, hr⟩, _⟩ := hS; injection e2 with e2 iQ iR; obtain ⟨g, off, rfl, _, aa⟩ := hr (by have := HN.out; omega); obtain ⟨x, hx⟩ : ∃ x, lv[k]? = some x := ⟨_, zlO (by rw [HN.out]; exact hlt)⟩; have aH := zlU hx
     first | (guard_hyp aj; have c1 : wr.cell? ⟨g, off + k * 2 + 1, none⟩ = some x.2 := aa (k * 2 + 1) _ (by rw [zbB zim (fun _ => rfl) lv k x hx 1 (by omega)]; rfl)) | (have c1 : wr.cell? ⟨g, off + k * 4 + 3, none⟩ = some x.2 := aa (k * 4 + 3) _ (by rw [zdB exc (fun _ => rfl) lv k x hx 3 (by omega)]; rfl))
     have bm := aX x aH; have aQ := HI.out x aH; have fx := zlM aH; have HX := zlM hx; clear aX hx aH
     first | (guard_hyp aj; obtain ⟨⟨ref, labs⟩, iv⟩ := x) | (obtain ⟨⟨ref, t, vv, labs⟩, iv⟩ := x)
     simp only [] at c1 bm aQ; have hC := zgq P iv labs 8 300 wr bm aQ (by omega) (by omega); obtain ⟨Ai, ci, rfl, _, _, _⟩ := bm; subst e2; clear aa hr iQ iR aQ; go_wp2_with (go_at_call 53; refine hC.mono ?_; rintro r5 w5 ⟨b, rfl, ch, aq⟩; refine Hid.out ?_)
     have H5 := zlM (RF.out.same aq); have cA := zlM ch; obtain ⟨z0, z1, z2, z3, z4, z5, z6⟩ := zag (HB.out.fr H5.out (fun e => e)); clear aq ch y0 y1 y2 y3 y4 y5 y6 hC c1; rcases b with _ | _
     ·refine zlM ?_
      go_wp2; go_ret; exact ⟨false, rfl, ⟨fun h => (by cases h), fun h => absurd (cA.out.2 (h.2.2 _ fx.out)) (by decide)⟩, HF.out.same H5.out⟩
     ·refine zlM ?_
      go_wp2; go_roundw
      case rel => exact ⟨k + 1, by omega, by go_num, H5, zlM (fun j p h h2 => by
       rcases zmf j k with h3 | h3
       ·exact RG.out j p h3 h2
       ·obtain rfl : j = k := by omega
        have h4 := h2.symm.trans HX.out; injection h4 with h4; rw [h4]
        exact cA.out.1 rfl)⟩
      case measure => simp [intOf]; omega
    ·first | (guard_hyp aj; obtain rfl : k = n0 := by omega) | (obtain rfl : k = n3 := by omega)
     have bu : Hid (∀ p ∈ lv, LabOk p.1.labs 8 300) := zlM (fun p hp => by
      obtain ⟨j, hj, e⟩ := zmH hp
      exact RG.out j p (by rw [<- HN.out]; exact hj) (by rw [zlO hj, e]))
     by_cases he : n = k
     ·have HE := zlM he
      have hz : ((n : Int) - (k : Int) == 0) = true := by simp; omega
      clear he; go_wp2; go_ret; refine ⟨_, rfl, ⟨fun _ => ⟨h12, HE.out, bu.out⟩, fun _ => by first | rfl | exact hz | (have := HE.out; simp; omega)⟩, HF.out.same RF.out⟩
     ·have hz : ((n : Int) - (k : Int) == 0) = false := by simp; omega
      go_wp2; go_ret; exact ⟨_, rfl, ⟨fun h => (by first | (cases h; done) | (simp at h; done) | (simp at h; omega)), fun h => absurd h.2.1 he⟩, HF.out.same RF.out⟩
  ·have hx : (12 : Int) < (n : Int) := by omega
   go_enter func30, ntmps30; go_wp2_with (go_at_call 40; refine hC.mono ?_; rintro r w1 ⟨rfl, ag⟩)
   go_ret; exact ⟨false, rfl, ⟨fun h => (by cases h), fun h => absurd h.1 h12⟩, ((zmR _ w).alloc _).same ag⟩
theorem rightG_1 : type_of% (zdJ.1 trivial) := zdJ.1 trivial
theorem rightG_4 : type_of% (zdJ.2 trivial) := zdJ.2 trivial
theorem zdI : (∀ (_ : True) (A0 A1 A2 A3 A4 A5 A6 : Option Addr) (c0 c1 c2 c3 c4 c5 c6 : Nat) (n0 n1 n2 n3 n4 n5 n6 n : Nat) (h0 : n0 <= 1099511627776) (h1 : n1 <= 1099511627776) (h2 : n2 <= 1099511627776) (h3 : n3 <= 1099511627776) (h4 : n4 <= 1099511627776) (h5 : n5 <= 1099511627776) (h6 : n6 <= 1099511627776) (hn : n = n0 + n1 + n2 + n3 + n4 + n5 + n6) (w : World) (P : Nat -> Prop) (lv : List (Rhs × Hsl)) (hs : SlH P w (.slice A6 n6 c6) lv) (hl : lv.length = n6) (hi : ∀ p ∈ lv, p.1.h.few 1099511627776),
 Calls prog 30 #[.int .i64 7, .agg #[.slice A0 n0 c0, .slice A1 n1 c1, .slice A2 n2 c2, .slice A3 n3 c3, .slice A4 n4 c4, .slice A5 n5 c5, .slice A6 n6 c6]] w (zau (n <= 12 /\ n = n6 /\ (∀ p ∈ lv, zbG false p.1.h) /\ (lv = [] ∨ ∃ p ∈ lv, zaP p.1 = false)) w)) /\ (∀ (_ : True) (A0 A1 A2 A3 A4 A5 A6 : Option Addr) (c0 c1 c2 c3 c4 c5 c6 : Nat) (n0 n1 n2 n3 n4 n5 n6 n : Nat) (h0 : n0 <= 1099511627776) (h1 : n1 <= 1099511627776) (h2 : n2 <= 1099511627776) (h3 : n3 <= 1099511627776) (h4 : n4 <= 1099511627776) (h5 : n5 <= 1099511627776) (h6 : n6 <= 1099511627776) (hn : n = n0 + n1 + n2 + n3 + n4 + n5 + n6) (w : World) (P : Nat -> Prop) (lv : List (Rhs × Hsl)) (hs : SlH P w (.slice A6 n6 c6) lv) (hl : lv.length = n6) (hi : ∀ p ∈ lv, p.1.h.few 1099511627776),
 Calls prog 30 #[.int .i64 8, .agg #[.slice A0 n0 c0, .slice A1 n1 c1, .slice A2 n2 c2, .slice A3 n3 c3, .slice A4 n4 c4, .slice A5 n5 c5, .slice A6 n6 c6]] w (zau (n <= 12 /\ n = n6 /\ (∀ p ∈ lv, zbG true p.1.h) /\ (lv = [] ∨ ∃ p ∈ lv, zaP p.1 = false)) w)) := by
 refine ⟨fun aj A0 A1 A2 A3 A4 A5 A6 c0 c1 c2 c3 c4 c5 c6 n0 n1 n2 n3 n4 n5 n6 n h0 h1 h2 h3 h4 h5 h6 hn w P lv hs hl hi => ?_, fun cf A0 A1 A2 A3 A4 A5 A6 c0 c1 c2 c3 c4 c5 c6 n0 n1 n2 n3 n4 n5 n6 n h0 h1 h2 h3 h4 h5 h6 hn w P lv hs hl hi => ?_⟩; all_goals
  have hC := zc9 A0 A1 A2 A3 A4 A5 A6 c0 c1 c2 c3 c4 c5 c6 n0 n1 n2 n3 n4 n5 n6 n h0 h1 h2 h3 h4 h5 h6 hn (w.alloc (.cells #[.slice A0 n0 c0, .slice A1 n1 c1, .slice A2 n2 c2, .slice A3 n3 c3, .slice A4 n4 c4, .slice A5 n5 c5, .slice A6 n6 c6] 54)); have bN : n6 <= n := by omega
  clear hn; by_cases h12 : n <= 12
  ·have h1x : ¬ (12 : Int) < (n : Int) := by omega
   have HS := zlM hs; have HN := zlM hl; have HI := zlM hi; clear hs hl hi; go_enter func30, ntmps30; go_wp2_with (go_at_call 40; refine hC.mono ?_; rintro r w1 ⟨rfl, ag⟩; obtain ⟨x0, x1, x2, x3, x4, x5, x6⟩ := zag ((zmS w 54 #[.slice A0 n0 c0, .slice A1 n1 c1, .slice A2 n2 c2, .slice A3 n3 c3, .slice A4 n4 c4, .slice A5 n5 c5, .slice A6 n6 c6]).fr ag (fun e => e)))
   have HF := zlM (((zmR (fun _ => False) w).alloc (.cells #[.slice A0 n0 c0, .slice A1 n1 c1, .slice A2 n2 c2, .slice A3 n3 c3, .slice A4 n4 c4, .slice A5 n5 c5, .slice A6 n6 c6] 54)).same ag); have kF := HF.out.size
   have HB := zlM ((zmS w 54 #[.slice A0 n0 c0, .slice A1 n1 c1, .slice A2 n2 c2, .slice A3 n3 c3, .slice A4 n4 c4, .slice A5 n5 c5, .slice A6 n6 c6]).fr ag (fun e => e)); clear ag hC
   first | (guard_hyp aj; go_loopw [10] (fun i wr => ∃ k : Nat, k <= n6 /\ i = .int .i64 k /\ Hid (Fr (fun _ => False) w1 wr) /\ Hid (∀ j p, j < k -> lv[j]? = some p -> zbG false p.1.h)) (fun i _ => n6 - (intOf i).toNat)) | (go_loopw [10] (fun i wr => ∃ k : Nat, k <= n6 /\ i = .int .i64 k /\ Hid (Fr (fun _ => False) w1 wr) /\ Hid (∀ j p, j < k -> lv[j]? = some p -> zbG true p.1.h)) (fun i _ => n6 - (intOf i).toNat))
   case atStart => exact ⟨0, zlX _, rfl, zlM (zmR _ _), zlM (fun j p h => absurd h (zmx _))⟩
   case round =>
    obtain ⟨k, hk, rfl, RF, RG⟩ := hrel; obtain ⟨y0, y1, y2, y3, y4, y5, y6⟩ := zag (HB.out.fr RF.out (fun e => e)); clear x0 x1 x2 x3 x4 x5 x6; by_cases hlt : k < n6
    ·have hS := HS.out.fr (HF.out.same RF.out) (fun _ _ e => e)
     have aX := hS.2; obtain ⟨g, off, rfl, _, aa⟩ := (show Sl P wr (.slice A6 n6 c6) 15 lv.length (lv.flatMap hsc) from hS.1).at (by have := HN.out; omega); obtain ⟨x, hx⟩ : ∃ x, lv[k]? = some x := ⟨_, zlO (by rw [HN.out]; exact hlt)⟩; have aH := zlU hx
     have cc : ∀ j, j < 15 -> ∀ u, (hsc x)[j]? = some u -> wr.cell? ⟨g, off + (k * 15 + j), none⟩ = some u := fun j hj u hu => aa (k * 15 + j) u (by rw [zgA 15 hsc (fun _ => rfl) lv k x hx j hj]; exact hu); have d2 : wr.cell? ⟨g, off + k * 15 + 2, none⟩ = some (.int .u8 x.1.h.hint.toNat) := cc 2 (by omega) _ rfl
     have d3 : wr.cell? ⟨g, off + k * 15 + 3, none⟩ = some (.int .i32 x.1.h.schema) := cc 3 (by omega) _ rfl; have d4 : wr.cell? ⟨g, off + k * 15 + 4, none⟩ = some (.int .u64 x.1.h.thr) := cc 4 (by omega) _ rfl; have d5 : wr.cell? ⟨g, off + k * 15 + 5, none⟩ = some (.int .u64 x.1.h.sum) := cc 5 (by omega) _ rfl
     have d6 : wr.cell? ⟨g, off + k * 15 + 6, none⟩ = some (.int .u64 x.1.h.zc) := cc 6 (by omega) _ rfl; have d7 : wr.cell? ⟨g, off + k * 15 + 7, none⟩ = some (.int .u64 x.1.h.cnt) := cc 7 (by omega) _ rfl; have d8 : wr.cell? ⟨g, off + k * 15 + 8, none⟩ = some x.2.p := cc 8 (by omega) _ rfl; have d9 : wr.cell? ⟨g, off + k * 15 + 9, none⟩ = some x.2.n := cc 9 (by omega) _ rfl
     have nK : wr.cell? ⟨g, off + k * 15 + 10, none⟩ = some x.2.u := cc 10 (by omega) _ rfl; have nJ : wr.cell? ⟨g, off + k * 15 + 11, none⟩ = some x.2.d := cc 11 (by omega) _ rfl; have nI : wr.cell? ⟨g, off + k * 15 + 12, none⟩ = some x.2.fu := cc 12 (by omega) _ rfl; have nH : wr.cell? ⟨g, off + k * 15 + 13, none⟩ = some x.2.fd := cc 13 (by omega) _ rfl
     have nG : wr.cell? ⟨g, off + k * 15 + 14, none⟩ = some x.2.c := cc 14 (by omega) _ rfl; have bm := aX x aH; have aQ := HI.out x aH; have fx := zlM aH; have HX := zlM hx; clear aX hx aH cc aa hS; obtain ⟨⟨ref, t, ⟨hint, schema, thr, sum, zc, cnt, pos, neg, ups, downs, fups, fdowns, cus⟩⟩, ⟨sp, sn, su, sd, lK, lL, sc⟩⟩ := x
     simp only [] at d2 d3 d4 d5 d6 d7 d8 d9 nK nJ nI nH nG bm aQ
     first | (guard_hyp aj; have hC := zeR false P _ _ wr bm aQ) | (have hC := zeR true P _ _ wr bm aQ)
     obtain ⟨z1, z2, z3, z4, z5, z6, z7⟩ := bm; simp only [] at z1 z2 z3 z4 z5 z6 z7; obtain ⟨B1, b1, rfl⟩ := z1.shape; obtain ⟨B2, b2, rfl⟩ := z2.shape; obtain ⟨B3, b3, rfl⟩ := z3.shape; obtain ⟨B4, b4, rfl⟩ := z4.shape; obtain ⟨B5, b5, rfl⟩ := z5.shape; obtain ⟨B6, b6, rfl⟩ := z6.shape; obtain ⟨B7, b7, rfl⟩ := z7.shape; simp only [hic] at hC; obtain ⟨m1, e1⟩ := exE pos.length; rw [e1] at d8
     obtain ⟨m2, e2⟩ := exE neg.length; rw [e2] at d9; obtain ⟨m3, e3⟩ := exE ups.length; rw [e3] at nK; obtain ⟨m4, e4⟩ := exE downs.length; rw [e4] at nJ; obtain ⟨m5, e5⟩ := exE fups.length; rw [e5] at nI; obtain ⟨m6, e6⟩ := exE fdowns.length; rw [e6] at nH; obtain ⟨m7, e7⟩ := exE cus.length; rw [e7] at nG; rw [e1, e2, e3, e4, e5, e6, e7] at hC; clear z1 z2 z3 z4 z5 z6 z7 aQ e1 e2 e3 e4 e5 e6 e7
     go_wp2_with (go_at_call 89; refine hC.mono ?_; rintro r5 w5 ⟨b, rfl, ch, aq⟩; refine Hid.out ?_)
     have H5 := zlM (RF.out.same aq); have cA := zlM ch; obtain ⟨z0, z1, z2, z3, z4, z5, z6⟩ := zag (HB.out.fr H5.out (fun e => e)); clear aq ch y0 y1 y2 y3 y4 y5 y6 hC d2 d3 d4 d5 d6 d7 d8 d9 nK nJ nI nH nG; rcases b with _ | _
     ·refine zlM ?_
      go_wp2; go_ret; exact ⟨false, rfl, ⟨fun h => (by cases h), fun h => absurd (cA.out.2 (h.2.2.1 _ fx.out)) (by decide)⟩, HF.out.same H5.out⟩
     ·refine zlM ?_
      go_wp2; go_roundw
      case rel => exact ⟨k + 1, by omega, by go_num, H5, zlM (fun j p h h2 => by
       rcases zmf j k with h3 | h3
       ·exact RG.out j p h3 h2
       ·obtain rfl : j = k := by omega
        have h4 := h2.symm.trans HX.out; injection h4 with h4; rw [h4]
        exact cA.out.1 rfl)⟩
      case measure => simp [intOf]; omega
    ·obtain rfl : k = n6 := by omega
     first
      | guard_hyp aj
        have bu : Hid (∀ p ∈ lv, zbG false p.1.h) := zlM (fun p hp => by
         obtain ⟨j, hj, e⟩ := zmH hp
         exact RG.out j p (by rw [<- HN.out]; exact hj) (by rw [zlO hj, e]))
      | have bu : Hid (∀ p ∈ lv, zbG true p.1.h) := zlM (fun p hp => by
         obtain ⟨j, hj, e⟩ := zmH hp
         exact RG.out j p (by rw [<- HN.out]; exact hj) (by rw [zlO hj, e]))
     by_cases he : n = k
     ·have HEQ := zlM he
      have hz : ((n : Int) - (k : Int) == 0) = true := by simp; omega
      have hC := zdD false P (.slice A6 k c6) lv wr (HS.out.fr (HF.out.same RF.out) (fun _ _ e => e)) (by have := HN.out; omega); obtain ⟨m, hm⟩ := exE ((lv.filter (za0 false)).length); clear he; by_cases hk0 : k = 0
      ·have jv : Hid (lv = []) := zlM (zme (by rw [HN.out]; exact hk0))
       have kg : ((k : Int) == 0) = true := by simp; omega
       clear hk0 hm hC; go_wp2; go_ret; exact ⟨_, rfl, zmk (by first | rfl | (simp <;> omega)) ⟨h12, HEQ.out, bu.out, .inl jv.out⟩, HF.out.same RF.out⟩
      ·have kg : ((k : Int) == 0) = false := by simp; omega
       have bD : Hid (lv ≠ []) := zlM (fun h => hk0 (by rw [<- HN.out, h]; rfl)); clear hk0; by_cases hm0 : (0 : Int) < (m : Int)
       ·have eR : Hid (∃ p ∈ lv, zaP p.1 = false) := zlM (by
         have h1 : 0 < (lv.filter (za0 false)).length := by omega
         obtain ⟨p, hp⟩ := List.exists_mem_of_length_pos h1; obtain ⟨h2, h3⟩ := zmr.1 hp
         exact ⟨p, h2, by simpa [za0] using h3⟩)
        go_wp2_with (go_at_call 36; refine hC.mono ?_; rintro r7 w7 ⟨v7, rfl, gz, jE⟩; rw [hm] at gz; obtain ⟨a7, k7, rfl⟩ := zaa gz; have H7 := zlM jE; clear gz jE)
        go_ret; exact ⟨_, rfl, zmk (by first | rfl | (simp <;> omega)) ⟨h12, HEQ.out, bu.out, .inr eR.out⟩, (HF.out.same RF.out).same H7.out⟩
       ·have nc : Hid (¬ ∃ p ∈ lv, zaP p.1 = false) := zlM (fun ⟨p, hp, hq⟩ => by
         have h2 : p ∈ lv.filter (za0 false) := zmr.2 ⟨hp, by simp [za0, hq]⟩; have := List.length_pos_of_mem h2
         omega)
        go_wp2_with (go_at_call 36; refine hC.mono ?_; rintro r7 w7 ⟨v7, rfl, gz, jE⟩; rw [hm] at gz; obtain ⟨a7, k7, rfl⟩ := zaa gz; have H7 := zlM jE; clear gz jE)
        go_ret; exact ⟨_, rfl, zmj (by first | (intro h; cases h; done) | (simp <;> omega)) (fun h => h.2.2.2.elim bD.out nc.out), (HF.out.same RF.out).same H7.out⟩
     ·have hz : ((n : Int) - (k : Int) == 0) = false := by simp; omega
      have iW := zlM he; clear he; go_wp2; go_ret; exact ⟨_, rfl, zmj (by first | (intro h; cases h; done) | (simp <;> omega)) (fun h => absurd h.2.1 iW.out), HF.out.same RF.out⟩
  ·have hx : (12 : Int) < (n : Int) := by omega
   go_enter func30, ntmps30; go_wp2_with (go_at_call 40; refine hC.mono ?_; rintro r w1 ⟨rfl, ag⟩)
   go_ret; exact ⟨false, rfl, ⟨fun h => (by cases h), fun h => absurd h.1 h12⟩, ((zmR _ w).alloc _).same ag⟩
theorem rightG_7 : type_of% (zdI.1 trivial) := zdI.1 trivial
theorem rightG_8 : type_of% (zdI.2 trivial) := zdI.2 trivial
theorem zdH : (∀ (_ : True) (A0 A1 A2 A3 A4 A5 A6 : Option Addr) (c0 c1 c2 c3 c4 c5 c6 : Nat) (n0 n1 n2 n3 n4 n5 n6 n : Nat) (h0 : n0 <= 1099511627776) (h1 : n1 <= 1099511627776) (h2 : n2 <= 1099511627776) (h3 : n3 <= 1099511627776) (h4 : n4 <= 1099511627776) (h5 : n5 <= 1099511627776) (h6 : n6 <= 1099511627776) (hn : n = n0 + n1 + n2 + n3 + n4 + n5 + n6) (w : World) (P : Nat -> Prop) (lv : List (Rhs × Hsl)) (hs : SlH P w (.slice A6 n6 c6) lv) (hl : lv.length = n6) (hi : ∀ p ∈ lv, p.1.h.few 1099511627776),
 Calls prog 30 #[.int .i64 9, .agg #[.slice A0 n0 c0, .slice A1 n1 c1, .slice A2 n2 c2, .slice A3 n3 c3, .slice A4 n4 c4, .slice A5 n5 c5, .slice A6 n6 c6]] w (zau (n <= 12 /\ n = n6 /\ (∀ p ∈ lv, zbG false p.1.h) /\ ∀ p ∈ lv, zaP p.1 = true) w)) /\ (∀ (_ : True) (A0 A1 A2 A3 A4 A5 A6 : Option Addr) (c0 c1 c2 c3 c4 c5 c6 : Nat) (n0 n1 n2 n3 n4 n5 n6 n : Nat) (h0 : n0 <= 1099511627776) (h1 : n1 <= 1099511627776) (h2 : n2 <= 1099511627776) (h3 : n3 <= 1099511627776) (h4 : n4 <= 1099511627776) (h5 : n5 <= 1099511627776) (h6 : n6 <= 1099511627776) (hn : n = n0 + n1 + n2 + n3 + n4 + n5 + n6) (w : World) (P : Nat -> Prop) (lv : List (Rhs × Hsl)) (hs : SlH P w (.slice A6 n6 c6) lv) (hl : lv.length = n6) (hi : ∀ p ∈ lv, p.1.h.few 1099511627776),
 Calls prog 30 #[.int .i64 10, .agg #[.slice A0 n0 c0, .slice A1 n1 c1, .slice A2 n2 c2, .slice A3 n3 c3, .slice A4 n4 c4, .slice A5 n5 c5, .slice A6 n6 c6]] w (zau (n <= 12 /\ n = n6 /\ (∀ p ∈ lv, zbG true p.1.h) /\ ∀ p ∈ lv, zaP p.1 = true) w)) := by
 refine ⟨fun aj A0 A1 A2 A3 A4 A5 A6 c0 c1 c2 c3 c4 c5 c6 n0 n1 n2 n3 n4 n5 n6 n h0 h1 h2 h3 h4 h5 h6 hn w P lv hs hl hi => ?_, fun cf A0 A1 A2 A3 A4 A5 A6 c0 c1 c2 c3 c4 c5 c6 n0 n1 n2 n3 n4 n5 n6 n h0 h1 h2 h3 h4 h5 h6 hn w P lv hs hl hi => ?_⟩; all_goals
  have hC := zc9 A0 A1 A2 A3 A4 A5 A6 c0 c1 c2 c3 c4 c5 c6 n0 n1 n2 n3 n4 n5 n6 n h0 h1 h2 h3 h4 h5 h6 hn (w.alloc (.cells #[.slice A0 n0 c0, .slice A1 n1 c1, .slice A2 n2 c2, .slice A3 n3 c3, .slice A4 n4 c4, .slice A5 n5 c5, .slice A6 n6 c6] 54)); have bN : n6 <= n := by omega
  clear hn; by_cases h12 : n <= 12
  ·have h1x : ¬ (12 : Int) < (n : Int) := by omega
   have HS := zlM hs; have HN := zlM hl; have HI := zlM hi; clear hs hl hi; go_enter func30, ntmps30; go_wp2_with (go_at_call 40; refine hC.mono ?_; rintro r w1 ⟨rfl, ag⟩; obtain ⟨x0, x1, x2, x3, x4, x5, x6⟩ := zag ((zmS w 54 #[.slice A0 n0 c0, .slice A1 n1 c1, .slice A2 n2 c2, .slice A3 n3 c3, .slice A4 n4 c4, .slice A5 n5 c5, .slice A6 n6 c6]).fr ag (fun e => e)))
   have HF := zlM (((zmR (fun _ => False) w).alloc (.cells #[.slice A0 n0 c0, .slice A1 n1 c1, .slice A2 n2 c2, .slice A3 n3 c3, .slice A4 n4 c4, .slice A5 n5 c5, .slice A6 n6 c6] 54)).same ag); have kF := HF.out.size
   have HB := zlM ((zmS w 54 #[.slice A0 n0 c0, .slice A1 n1 c1, .slice A2 n2 c2, .slice A3 n3 c3, .slice A4 n4 c4, .slice A5 n5 c5, .slice A6 n6 c6]).fr ag (fun e => e)); clear ag hC
   first | (guard_hyp aj; go_loopw [10] (fun i wr => ∃ k : Nat, k <= n6 /\ i = .int .i64 k /\ Hid (Fr (fun _ => False) w1 wr) /\ Hid (∀ j p, j < k -> lv[j]? = some p -> zbG false p.1.h)) (fun i _ => n6 - (intOf i).toNat)) | (go_loopw [10] (fun i wr => ∃ k : Nat, k <= n6 /\ i = .int .i64 k /\ Hid (Fr (fun _ => False) w1 wr) /\ Hid (∀ j p, j < k -> lv[j]? = some p -> zbG true p.1.h)) (fun i _ => n6 - (intOf i).toNat))
   case atStart => exact ⟨0, zlX _, rfl, zlM (zmR _ _), zlM (fun j p h => absurd h (zmx _))⟩
   case round =>
    obtain ⟨k, hk, rfl, RF, RG⟩ := hrel; obtain ⟨y0, y1, y2, y3, y4, y5, y6⟩ := zag (HB.out.fr RF.out (fun e => e)); clear x0 x1 x2 x3 x4 x5 x6; by_cases hlt : k < n6
    ·have hS := HS.out.fr (HF.out.same RF.out) (fun _ _ e => e)
     have aX := hS.2; obtain ⟨g, off, rfl, _, aa⟩ := (show Sl P wr (.slice A6 n6 c6) 15 lv.length (lv.flatMap hsc) from hS.1).at (by have := HN.out; omega); obtain ⟨x, hx⟩ : ∃ x, lv[k]? = some x := ⟨_, zlO (by rw [HN.out]; exact hlt)⟩; have aH := zlU hx
     have cc : ∀ j, j < 15 -> ∀ u, (hsc x)[j]? = some u -> wr.cell? ⟨g, off + (k * 15 + j), none⟩ = some u := fun j hj u hu => aa (k * 15 + j) u (by rw [zgA 15 hsc (fun _ => rfl) lv k x hx j hj]; exact hu); have d2 : wr.cell? ⟨g, off + k * 15 + 2, none⟩ = some (.int .u8 x.1.h.hint.toNat) := cc 2 (by omega) _ rfl
     have d3 : wr.cell? ⟨g, off + k * 15 + 3, none⟩ = some (.int .i32 x.1.h.schema) := cc 3 (by omega) _ rfl; have d4 : wr.cell? ⟨g, off + k * 15 + 4, none⟩ = some (.int .u64 x.1.h.thr) := cc 4 (by omega) _ rfl; have d5 : wr.cell? ⟨g, off + k * 15 + 5, none⟩ = some (.int .u64 x.1.h.sum) := cc 5 (by omega) _ rfl
     have d6 : wr.cell? ⟨g, off + k * 15 + 6, none⟩ = some (.int .u64 x.1.h.zc) := cc 6 (by omega) _ rfl; have d7 : wr.cell? ⟨g, off + k * 15 + 7, none⟩ = some (.int .u64 x.1.h.cnt) := cc 7 (by omega) _ rfl; have d8 : wr.cell? ⟨g, off + k * 15 + 8, none⟩ = some x.2.p := cc 8 (by omega) _ rfl; have d9 : wr.cell? ⟨g, off + k * 15 + 9, none⟩ = some x.2.n := cc 9 (by omega) _ rfl
     have nK : wr.cell? ⟨g, off + k * 15 + 10, none⟩ = some x.2.u := cc 10 (by omega) _ rfl; have nJ : wr.cell? ⟨g, off + k * 15 + 11, none⟩ = some x.2.d := cc 11 (by omega) _ rfl; have nI : wr.cell? ⟨g, off + k * 15 + 12, none⟩ = some x.2.fu := cc 12 (by omega) _ rfl; have nH : wr.cell? ⟨g, off + k * 15 + 13, none⟩ = some x.2.fd := cc 13 (by omega) _ rfl
     have nG : wr.cell? ⟨g, off + k * 15 + 14, none⟩ = some x.2.c := cc 14 (by omega) _ rfl; have bm := aX x aH; have aQ := HI.out x aH; have fx := zlM aH; have HX := zlM hx; clear aX hx aH cc aa hS; obtain ⟨⟨ref, t, ⟨hint, schema, thr, sum, zc, cnt, pos, neg, ups, downs, fups, fdowns, cus⟩⟩, ⟨sp, sn, su, sd, lK, lL, sc⟩⟩ := x
     simp only [] at d2 d3 d4 d5 d6 d7 d8 d9 nK nJ nI nH nG bm aQ
     first | (guard_hyp aj; have hC := zeR false P _ _ wr bm aQ) | (have hC := zeR true P _ _ wr bm aQ)
     obtain ⟨z1, z2, z3, z4, z5, z6, z7⟩ := bm; simp only [] at z1 z2 z3 z4 z5 z6 z7; obtain ⟨B1, b1, rfl⟩ := z1.shape; obtain ⟨B2, b2, rfl⟩ := z2.shape; obtain ⟨B3, b3, rfl⟩ := z3.shape; obtain ⟨B4, b4, rfl⟩ := z4.shape; obtain ⟨B5, b5, rfl⟩ := z5.shape; obtain ⟨B6, b6, rfl⟩ := z6.shape; obtain ⟨B7, b7, rfl⟩ := z7.shape; simp only [hic] at hC; obtain ⟨m1, e1⟩ := exE pos.length; rw [e1] at d8
     obtain ⟨m2, e2⟩ := exE neg.length; rw [e2] at d9; obtain ⟨m3, e3⟩ := exE ups.length; rw [e3] at nK; obtain ⟨m4, e4⟩ := exE downs.length; rw [e4] at nJ; obtain ⟨m5, e5⟩ := exE fups.length; rw [e5] at nI; obtain ⟨m6, e6⟩ := exE fdowns.length; rw [e6] at nH; obtain ⟨m7, e7⟩ := exE cus.length; rw [e7] at nG; rw [e1, e2, e3, e4, e5, e6, e7] at hC; clear z1 z2 z3 z4 z5 z6 z7 aQ e1 e2 e3 e4 e5 e6 e7
     go_wp2_with (go_at_call 89; refine hC.mono ?_; rintro r5 w5 ⟨b, rfl, ch, aq⟩; refine Hid.out ?_)
     have H5 := zlM (RF.out.same aq); have cA := zlM ch; obtain ⟨z0, z1, z2, z3, z4, z5, z6⟩ := zag (HB.out.fr H5.out (fun e => e)); clear aq ch y0 y1 y2 y3 y4 y5 y6 hC d2 d3 d4 d5 d6 d7 d8 d9 nK nJ nI nH nG; rcases b with _ | _
     ·refine zlM ?_
      go_wp2; go_ret; exact ⟨false, rfl, ⟨fun h => (by cases h), fun h => absurd (cA.out.2 (h.2.2.1 _ fx.out)) (by decide)⟩, HF.out.same H5.out⟩
     ·refine zlM ?_
      go_wp2; go_roundw
      case rel => exact ⟨k + 1, by omega, by go_num, H5, zlM (fun j p h h2 => by
       rcases zmf j k with h3 | h3
       ·exact RG.out j p h3 h2
       ·obtain rfl : j = k := by omega
        have h4 := h2.symm.trans HX.out; injection h4 with h4; rw [h4]
        exact cA.out.1 rfl)⟩
      case measure => simp [intOf]; omega
    ·obtain rfl : k = n6 := by omega
     first
      | guard_hyp aj
        have bu : Hid (∀ p ∈ lv, zbG false p.1.h) := zlM (fun p hp => by
         obtain ⟨j, hj, e⟩ := zmH hp
         exact RG.out j p (by rw [<- HN.out]; exact hj) (by rw [zlO hj, e]))
      | have bu : Hid (∀ p ∈ lv, zbG true p.1.h) := zlM (fun p hp => by
         obtain ⟨j, hj, e⟩ := zmH hp
         exact RG.out j p (by rw [<- HN.out]; exact hj) (by rw [zlO hj, e]))
     by_cases he : n = k
     ·have HEQ := zlM he
      have hz : ((n : Int) - (k : Int) == 0) = true := by simp; omega
      have hC := zdD false P (.slice A6 k c6) lv wr (HS.out.fr (HF.out.same RF.out) (fun _ _ e => e)) (by have := HN.out; omega); obtain ⟨m, hm⟩ := exE ((lv.filter (za0 false)).length); clear he; by_cases hm0 : m = 0
      ·subst hm0
       have eR : Hid (∀ p ∈ lv, zaP p.1 = true) := zlM (fun p hp => by
        rcases hq : zaP p.1 with _ | _
        ·have := zme hm
         have h2 : p ∈ lv.filter (za0 false) := zmr.2 ⟨hp, by simp [za0, hq]⟩; rw [this] at h2; cases h2
        ·rfl)
       go_wp2_with (go_at_call 36; refine hC.mono ?_; rintro r7 w7 ⟨v7, rfl, gz, jE⟩; rw [hm] at gz; obtain ⟨a7, k7, rfl⟩ := zaa gz; have H7 := zlM jE; clear gz jE)
       go_ret; exact ⟨_, rfl, zmk (by first | rfl | (simp <;> omega)) ⟨h12, HEQ.out, bu.out, eR.out⟩, (HF.out.same RF.out).same H7.out⟩
      ·have hmz : ((m : Int) == 0) = false := by simp; omega
       have nc : Hid (¬ ∀ p ∈ lv, zaP p.1 = true) := zlM (fun h => by
        have : lv.filter (za0 false) = [] := List.filter_eq_nil_iff.2 (fun p hp => by simp [za0, h p hp]); rw [this] at hm
        exact hm0 hm.symm)
       clear hm0; go_wp2_with (go_at_call 36; refine hC.mono ?_; rintro r7 w7 ⟨v7, rfl, gz, jE⟩; rw [hm] at gz; obtain ⟨a7, k7, rfl⟩ := zaa gz; have H7 := zlM jE; clear gz jE)
       go_ret; exact ⟨_, rfl, zmj (by first | (intro h; cases h; done) | (simp <;> omega)) (fun h => nc.out h.2.2.2), (HF.out.same RF.out).same H7.out⟩
     ·have hz : ((n : Int) - (k : Int) == 0) = false := by simp; omega
      have iW := zlM he; clear he; go_wp2; go_ret; exact ⟨_, rfl, zmj (by first | (intro h; cases h; done) | (simp <;> omega)) (fun h => absurd h.2.1 iW.out), HF.out.same RF.out⟩
  ·have hx : (12 : Int) < (n : Int) := by omega
   go_enter func30, ntmps30; go_wp2_with (go_at_call 40; refine hC.mono ?_; rintro r w1 ⟨rfl, ag⟩)
   go_ret; exact ⟨false, rfl, ⟨fun h => (by cases h), fun h => absurd h.1 h12⟩, ((zmR _ w).alloc _).same ag⟩
theorem rightG_9 : type_of% (zdH.1 trivial) := zdH.1 trivial
theorem rightG_10 : type_of% (zdH.2 trivial) := zdH.2 trivial
end Go.Proofs.YtbkookiigkckdaaGreatDoor
