/- Merged. -/
import Derived.Test.YtbkookiigkckdaaGreatDoorKD26
import Derived.Test.YtbkookiigkckdaaGreatDoorKD32
set_option linter.unusedVariables false
set_option linter.unusedSimpArgs false
set_option maxRecDepth 100000
set_option maxHeartbeats 8000000
namespace Go.Proofs.YtbkookiigkckdaaGreatDoor
open Go.RowKit Go.Proofs.Tryz
theorem zhm (l : List Lab) (hu : l.Pairwise (fun a b => a.1 ≠ b.1)) : zaI (zaI l) = zaI l := by
 obtain ⟨h1, h2⟩ := zbW ltL zc4 zcx zcw l; have kR : (zaI l).Pairwise (fun a b => a.1 ≠ b.1) := h2.symm.pairwise hu (fun h e => h e.symm); exact (zf7 (zaI l) (zaI l) (List.Perm.refl _) h1 kR).symm
theorem flatS_le (l : List Ston) (m : Nat) (h : ∀ s ∈ l, s.ivs.length <= m) : (zb7 l).length <= l.length * m := by
 induction l with
 | nil => exact zms _
 | cons s l ih =>
   have h1 := ih (fun x hx => h x (zng _ hx)); have h2 := h s (zna ..); have e : zb7 (s :: l) = zeH s ++ zb7 l := rfl; have e2 : (zeH s).length = s.ivs.length := by unfold zeH; rw [zmF]
   rw [e, zmi, e2, zmz, Nat.succ_mul]; omega
def Dat.cat (a b : Dat) : Dat := ⟨a.ser ++ b.ser, a.smp ++ b.smp, a.sto ++ b.sto, a.exm ++ b.exm, a.mta ++ b.mta, a.mrk ++ b.mrk, a.his ++ b.his⟩
def Prt.sum (q : Prt) : Nat := q.ser.length + q.smp.length + q.sto.length + q.exm.length + q.mta.length + q.mrk.length + q.his.length
def K10 (k : Nat) : Prop := k = 1 ∨ k = 2 ∨ k = 3 ∨ k = 4 ∨ k = 5 ∨ k = 6 ∨ k = 7 ∨ k = 8 ∨ k = 9 ∨ k = 10
def Rt : Nat -> Prt -> Prop
 | 1, q => q.sum <= 12 /\ q.sum = q.ser.length /\ ∀ p ∈ q.ser, LabOk p.1.labs 8 300
 | 2, q => q.sum <= 12 /\ q.sum = q.smp.length
 | 3, q => q.sum <= 12 /\ q.sum = q.sto.length /\ ∀ p ∈ q.sto, p.1.ivs.length <= 6
 | 4, q => q.sum <= 12 /\ q.sum = q.exm.length /\ ∀ p ∈ q.exm, LabOk p.1.labs 8 300
 | 5, q => q.sum <= 12 /\ q.sum = q.mrk.length
 | 6, q => q.sum <= 12 /\ q.sum = q.mta.length /\ ∀ p ∈ q.mta, p.unit.size + p.help.size <= 600
 | 7, q => q.sum <= 12 /\ q.sum = q.his.length /\ (∀ p ∈ q.his, zbD false p.1.h) /\ (q.his = [] ∨ ∃ p ∈ q.his, zaV p.1 = false)
 | 8, q => q.sum <= 12 /\ q.sum = q.his.length /\ (∀ p ∈ q.his, zbD true p.1.h) /\ (q.his = [] ∨ ∃ p ∈ q.his, zaV p.1 = false)
 | 9, q => q.sum <= 12 /\ q.sum = q.his.length /\ (∀ p ∈ q.his, zbD false p.1.h) /\ ∀ p ∈ q.his, zaV p.1 = true
 | 10, q => q.sum <= 12 /\ q.sum = q.his.length /\ (∀ p ∈ q.his, zbD true p.1.h) /\ ∀ p ∈ q.his, zaV p.1 = true
 | _, _ => False
def rd10 : Nat -> Prt -> Prt -> Dat
 | 1, u, q => { Dat.none with ser := (u.ser.map Prod.fst ++ q.ser.map Prod.fst).map fun s => (⟨s.ref, zaI s.labs⟩ : Ser) }
 | 2, u, q => { Dat.none with smp := q.smp }
 | 3, u, q => { Dat.none with sto := u.sto.map Prod.fst ++ (zb7 (q.sto.map Prod.fst)).map one }
 | 4, u, q => { Dat.none with exm := (u.exm.map Prod.fst ++ q.exm.map Prod.fst).map fun s => (⟨s.ref, s.t, s.v, zaI s.labs⟩ : Exm) }
 | 5, u, q => { Dat.none with mrk := u.mrk ++ q.mrk }
 | 6, u, q => { Dat.none with mta := u.mta ++ q.mta }
 | 7, u, q => { Dat.none with his := u.his.map Prod.fst ++ (q.his.map Prod.fst).filter (fun s => !zaV s) }
 | 8, u, q => { Dat.none with his := u.his.map Prod.fst ++ (q.his.map Prod.fst).filter (fun s => !zaV s) }
 | 9, u, q => { Dat.none with his := u.his.map Prod.fst ++ (q.his.map Prod.fst).filter (fun _ => true) }
 | 10, u, q => { Dat.none with his := u.his.map Prod.fst ++ (q.his.map Prod.fst).filter (fun _ => true) }
 | _, _, _ => Dat.none
theorem ziF {k : Nat} (hk : K10 k) {q : Prt} (h : Rt k q) : q.sum <= 12 := by
 rcases hk with rfl | rfl | rfl | rfl | rfl | rfl | rfl | rfl | rfl | rfl <;> exact h.1
structure Prt.Tame (q : Prt) : Prop where
 ser : ∀ p ∈ q.ser, p.1.labs.length <= 1048576
 sto : ∀ p ∈ q.sto, p.1.ivs.length <= 4096
 exm : ∀ p ∈ q.exm, p.1.labs.length <= 1048576
 his : ∀ p ∈ q.his, p.1.h.few 1099511627776
theorem zgg {k : Nat} (hk : K10 k) {q : Prt} (h : Rt k q) : q.Tame := by
 have e : q.sum = q.ser.length + q.smp.length + q.sto.length + q.exm.length + q.mta.length + q.mrk.length + q.his.length := rfl; rcases hk with rfl | rfl | rfl | rfl | rfl | rfl | rfl | rfl | rfl | rfl; all_goals
  first | have h1 := h.2.1 | have h1 := h.2
  refine ⟨fun p hp => ?_, fun p hp => ?_, fun p hp => ?_, fun p hp => ?_⟩; all_goals
   have hl := List.length_pos_of_mem hp
   first
    | (exfalso; omega)
    | exact few_sh (h.2.2.1 p hp)
    | exact zm0 (h.2.2 p hp).1 (by decide)
    | exact zm0 (h.2.2 p hp) (by decide)
theorem wrD_few {k : Nat} {u q : Prt} (hu : u.sum <= 12) (hq : q.sum <= 12) (hi : ∀ p ∈ q.sto, p.1.ivs.length <= 4096) : u.ser.length + (wrD k q.dat).ser.length <= 1048576 /\ u.smp.length + (wrD k q.dat).smp.length <= 1048576 /\ u.sto.length + (wrD k q.dat).sto.length <= 1048576 /\ u.exm.length + (wrD k q.dat).exm.length <= 1048576 /\ u.mta.length + (wrD k q.dat).mta.length <= 1048576 /\ u.mrk.length + (wrD k q.dat).mrk.length <= 1048576 /\ u.his.length + (wrD k q.dat).his.length <= 1048576 := by
 unfold Prt.sum at hu hq; have h1 := flatS_le (q.sto.map Prod.fst) 4096 (fun s hs => by obtain ⟨p, hp, rfl⟩ := zmN.1 hs; exact hi p hp); have h3 := znf (fun s => !zaV s) (q.his.map Prod.fst); simp only [wrD, Prt.dat, zmF] at h1 h3 ⊢; refine ⟨by omega, by omega, by omega, by omega, by omega, by omega, ?_⟩; split
 ·omega
 ·rw [zmF]; omega
theorem small_cat {k : Nat} {u q : Prt} (hu : u.Tame) (hq : q.Tame) (hn : u.ser.length + (wrD k q.dat).ser.length <= 1048576 /\ u.smp.length + (wrD k q.dat).smp.length <= 1048576 /\ u.sto.length + (wrD k q.dat).sto.length <= 1048576 /\ u.exm.length + (wrD k q.dat).exm.length <= 1048576 /\ u.mta.length + (wrD k q.dat).mta.length <= 1048576 /\ u.mrk.length + (wrD k q.dat).mrk.length <= 1048576 /\ u.his.length + (wrD k q.dat).his.length <= 1048576) : SmallD (u.dat.cat (wrD k q.dat)) := by
 obtain ⟨n0, n1, n2, n3, n4, n5, n6⟩ := hn; have e : ∀ {α β : Type} (l : List (α × β)) (r : List α), (l.map Prod.fst ++ r).length = l.length + r.length := fun l r => by rw [zmi, zmF]
 refine ⟨⟨zm0 (Nat.le_of_eq (e _ _)) n0, fun s hs => ?_⟩, zm0 (Nat.le_of_eq zmi) (zm0 n1 (by decide)), ⟨zm0 (Nat.le_of_eq (e _ _)) (zm0 n2 (by decide)), fun s hs => ?_⟩, ⟨zm0 (Nat.le_of_eq (e _ _)) n3, fun s hs => ?_⟩, zm0 (Nat.le_of_eq zmi) (zm0 n4 (by decide)), zm0 (Nat.le_of_eq zmi) (zm0 n5 (by decide)), ⟨zm0 (Nat.le_of_eq (e _ _)) (zm0 n6 (by decide)), fun s hs => ?_⟩⟩
 all_goals rcases zmX.1 hs with hs | hs
 ·obtain ⟨p, hp, rfl⟩ := zmN.1 hs; exact hu.ser p hp
 ·obtain ⟨p, hp, rfl⟩ := zmN.1 hs; exact hq.ser p hp
 ·obtain ⟨p, hp, rfl⟩ := zmN.1 hs; have := hu.sto p hp; omega
 ·obtain ⟨x, _, rfl⟩ := zmN.1 hs
  show 1 <= _; omega
 ·obtain ⟨p, hp, rfl⟩ := zmN.1 hs; exact hu.exm p hp
 ·obtain ⟨p, hp, rfl⟩ := zmN.1 hs; exact hq.exm p hp
 ·obtain ⟨p, hp, rfl⟩ := zmN.1 hs; exact hu.his p hp
 ·have hs : s ∈ q.his.map Prod.fst := by
   have hs : s ∈ (if k = 7 ∨ k = 8 then (q.his.map Prod.fst).filter (fun s => !zaV s) else q.his.map Prod.fst) := hs; split at hs
   ·exact (zmW.1 hs).1
   ·exact hs
  obtain ⟨p, hp, rfl⟩ := zmN.1 hs; exact hq.his p hp
theorem zld {D E : Dat} (h : SameD D E) (hE : SmallD E) : SmallD D := by
 obtain ⟨h0, h1, h2, h3, h4, h5, h6⟩ := h; obtain ⟨⟨e0, k0⟩, e1, e2, ⟨e3, k3⟩, e4, e5, e6⟩ := hE; have l0 := zm7 List.length h0; have l3 := zm7 List.length h3; simp only [zmF] at l0 l3; refine ⟨⟨by omega, fun s hs => ?_⟩, h1 ▸ e1, h2 ▸ e2, ⟨by omega, fun s hs => ?_⟩, h4 ▸ e4, h5 ▸ e5, h6 ▸ e6⟩
 ·obtain ⟨t, ht, e⟩ := zmN.1 (h0 ▸ List.mem_map_of_mem hs : tos s ∈ E.ser.map tos)
  have e := zm7 (fun x : SerD => x.labs.length) e; simp only [tos, zaI, zaZ] at e; have := k0 t ht; omega
 ·obtain ⟨t, ht, e⟩ := zmN.1 (h3 ▸ List.mem_map_of_mem hs : toe s ∈ E.exm.map toe)
  have e := zm7 (fun x : ExD => x.labs.length) e; simp only [toe, zaI, zaZ] at e; have := k3 t ht; omega
theorem zkM {q : Prt} (h : q.sum = q.ser.length) : q = ⟨q.ser, [], [], [], [], [], []⟩ := by
 cases q; simp only [Prt.sum] at h; congr <;> exact zmJ (by omega)
theorem zkL {q : Prt} (h : q.sum = q.smp.length) : q = ⟨[], q.smp, [], [], [], [], []⟩ := by
 cases q; simp only [Prt.sum] at h; congr <;> exact zmJ (by omega)
theorem zkK {q : Prt} (h : q.sum = q.sto.length) : q = ⟨[], [], q.sto, [], [], [], []⟩ := by
 cases q; simp only [Prt.sum] at h; congr <;> exact zmJ (by omega)
theorem zkP {q : Prt} (h : q.sum = q.exm.length) : q = ⟨[], [], [], q.exm, [], [], []⟩ := by
 cases q; simp only [Prt.sum] at h; congr <;> exact zmJ (by omega)
theorem zkN {q : Prt} (h : q.sum = q.mta.length) : q = ⟨[], [], [], [], q.mta, [], []⟩ := by
 cases q; simp only [Prt.sum] at h; congr <;> exact zmJ (by omega)
theorem zkO {q : Prt} (h : q.sum = q.mrk.length) : q = ⟨[], [], [], [], [], q.mrk, []⟩ := by
 cases q; simp only [Prt.sum] at h; congr <;> exact zmJ (by omega)
theorem zdk {q : Prt} (h : q.sum = q.his.length) : q = ⟨[], [], [], [], [], [], q.his⟩ := by
 cases q; simp only [Prt.sum] at h; congr <;> exact zmJ (by omega)
theorem same_rd {k : Nat} (hk : K10 k) {u q : Prt} (hu : Rt k u) (hp : Rt k q) (h2 : k = 2 -> u.smp.length = 0) : SameD (rd10 k u q) (u.dat.cat (wrD k q.dat)) := by
 rcases hk with rfl | rfl | rfl | rfl | rfl | rfl | rfl | rfl | rfl | rfl
 ·rw [zkM hu.2.1, zkM hp.2.1]
  refine ⟨?_, rfl, rfl, rfl, rfl, rfl, rfl⟩; show List.map tos (List.map _ _) = List.map tos (_ ++ _); rw [znj]; refine List.map_congr_left fun s hs => ?_; have hl : LabOk s.labs 8 300 := by
   rcases zmX.1 hs with hs | hs <;> obtain ⟨p, hm, rfl⟩ := zmN.1 hs
   ·exact hu.2.2 p hm
   ·exact hp.2.2 p hm
  have := zhm s.labs hl.2.2; simp only [Function.comp, tos, this]
 ·rw [zkL hu.2, zkL hp.2]
  rw [zmJ (h2 rfl)]; exact ⟨rfl, rfl, rfl, rfl, rfl, rfl, rfl⟩
 ·rw [zkK hu.2.1, zkK hp.2.1]
  exact ⟨rfl, rfl, rfl, rfl, rfl, rfl, rfl⟩
 ·rw [zkP hu.2.1, zkP hp.2.1]
  refine ⟨rfl, rfl, rfl, ?_, rfl, rfl, rfl⟩; show List.map toe (List.map _ _) = List.map toe (_ ++ _); rw [znj]; refine List.map_congr_left fun s hs => ?_; have hl : LabOk s.labs 8 300 := by
   rcases zmX.1 hs with hs | hs <;> obtain ⟨p, hm, rfl⟩ := zmN.1 hs
   ·exact hu.2.2 p hm
   ·exact hp.2.2 p hm
  have := zhm s.labs hl.2.2; simp only [Function.comp, toe, this]
 ·rw [zkO hu.2, zkO hp.2]
  exact ⟨rfl, rfl, rfl, rfl, rfl, rfl, rfl⟩
 ·rw [zkN hu.2.1, zkN hp.2.1]
  exact ⟨rfl, rfl, rfl, rfl, rfl, rfl, rfl⟩
 ·rw [zdk hu.2.1, zdk hp.2.1]
  exact ⟨rfl, rfl, rfl, rfl, rfl, rfl, rfl⟩
 ·rw [zdk hu.2.1, zdk hp.2.1]
  exact ⟨rfl, rfl, rfl, rfl, rfl, rfl, rfl⟩
 ·rw [zdk hu.2.1, zdk hp.2.1]
  refine ⟨rfl, rfl, rfl, rfl, rfl, rfl, ?_⟩; show _ ++ List.filter (fun _ => true) _ = _ ++ _; rw [List.filter_eq_self.2 (fun _ _ => rfl)]; rfl
 ·rw [zdk hu.2.1, zdk hp.2.1]
  refine ⟨rfl, rfl, rfl, rfl, rfl, rfl, ?_⟩; show _ ++ List.filter (fun _ => true) _ = _ ++ _; rw [List.filter_eq_self.2 (fun _ _ => rfl)]; rfl
def bcm (a b : Prt) (u t : Array Value) : Nat -> Cm
 | 0 => ⟨46, 130, 2, 32, u.getD 0 undef, a.ser.length, a.ser.flatMap zfP, t.getD 0 undef, b.ser.length, b.ser.flatMap zfP⟩
 | 1 => ⟨47, 113, 3, 24, u.getD 1 undef, a.smp.length, a.smp.flatMap Smp.a, t.getD 1 undef, b.smp.length, b.smp.flatMap Smp.a⟩
 | 2 => ⟨48, 151, 2, 32, u.getD 2 undef, a.sto.length, a.sto.flatMap stc, t.getD 2 undef, b.sto.length, b.sto.flatMap stc⟩
 | 3 => ⟨49, 159, 4, 48, u.getD 3 undef, a.exm.length, a.exm.flatMap exc, t.getD 3 undef, b.exm.length, b.exm.flatMap exc⟩
 | 4 => ⟨50, 176, 4, 48, u.getD 4 undef, a.mta.length, a.mta.flatMap Mta.c, t.getD 4 undef, b.mta.length, b.mta.flatMap Mta.c⟩
 | 5 => ⟨51, 168, 2, 16, u.getD 5 undef, a.mrk.length, a.mrk.flatMap Mrk.c, t.getD 5 undef, b.mrk.length, b.mrk.flatMap Mrk.c⟩
 | 6 => ⟨52, 194, 15, 224, u.getD 6 undef, a.his.length, a.his.flatMap hsc, t.getD 6 undef, b.his.length, b.his.flatMap hsc⟩
 | _ => ⟨0, 0, 0, 0, undef, 0, [], undef, 0, []⟩
theorem zbR {α : Type} (l : List α) (f : α -> List Value) (h : ∀ x ∈ l, ∀ u ∈ f x, u.oneCell' = true) : ∀ u ∈ l.flatMap f, u.oneCell' = true := fun u hu => by
 obtain ⟨x, hl, hx⟩ := List.mem_flatMap.1 hu; exact h x hl u hx
theorem one_his {P : Nat -> Prop} {w : World} {l : List (Rhs × Hsl)} (h : ∀ p ∈ l, SlHs P w p.1.h p.2) : ∀ x ∈ l, ∀ u ∈ hsc x, u.oneCell' = true := fun x hx u hu => by
 obtain ⟨k1, k2, k3, k4, k5, k6, k7⟩ := h x hx; obtain ⟨_, _, e1⟩ := k1.shape; obtain ⟨_, _, e2⟩ := k2.shape; obtain ⟨_, _, e3⟩ := k3.shape; obtain ⟨_, _, e4⟩ := k4.shape; obtain ⟨_, _, e5⟩ := k5.shape; obtain ⟨_, _, e6⟩ := k6.shape; obtain ⟨_, _, e7⟩ := k7.shape; simp [hsc, hic, e1, e2, e3, e4, e5, e6, e7] at hu
 rcases hu with rfl | rfl | rfl | rfl | rfl | rfl | rfl | rfl | rfl | rfl | rfl | rfl | rfl | rfl | rfl <;> rfl
theorem zga {α : Type} {f : α -> List Value} {w : World} {b e z : Nat} {v : Value} {l k : List α} (h : w.ownsRow b e z v (l.length + k.length) (l.flatMap f ++ k.flatMap f)) : Sl Yes w v z (l ++ k).length ((l ++ k).flatMap f) := by
 rw [zmi, zmQ]; exact (zno h).yes
theorem zl6 (a b : Prt) (s0 s1 s2 s3 s4 s5 s6 t0 t1 t2 t3 t4 t5 t6 : Value) (w : World) (ha : a.At Yes w s0 s1 s2 s3 s4 s5 s6) (hb : b.At Yes w t0 t1 t2 t3 t4 t5 t6)
 (hl : a.ser.length + b.ser.length <= 1048576 /\ a.smp.length + b.smp.length <= 1048576 /\ a.sto.length + b.sto.length <= 1048576 /\ a.exm.length + b.exm.length <= 1048576 /\ a.mta.length + b.mta.length <= 1048576 /\ a.mrk.length + b.mrk.length <= 1048576 /\ a.his.length + b.his.length <= 1048576) :
 Calls prog 38 #[.agg #[s0, s1, s2, s3, s4, s5, s6], .agg #[t0, t1, t2, t3, t4, t5, t6]] w (fun r w' => ∃ ps, r = .returned (.agg ps) /\ RP (a.dat.cat b.dat) ps w' /\ z_F w w') := by
 obtain ⟨A0, c0, rfl⟩ := ha.ser.1.shape; obtain ⟨A1, c1, rfl⟩ := ha.smp.shape; obtain ⟨A2, c2, rfl⟩ := ha.sto.1.shape; obtain ⟨A3, c3, rfl⟩ := ha.exm.1.shape; obtain ⟨A4, c4, rfl⟩ := ha.mta.shape; obtain ⟨A5, c5, rfl⟩ := ha.mrk.shape; obtain ⟨A6, c6, rfl⟩ := ha.his.1.shape; obtain ⟨B0, d0, rfl⟩ := hb.ser.1.shape; obtain ⟨B1, d1, rfl⟩ := hb.smp.shape; obtain ⟨B2, d2, rfl⟩ := hb.sto.1.shape
 obtain ⟨B3, d3, rfl⟩ := hb.exm.1.shape; obtain ⟨B4, d4, rfl⟩ := hb.mta.shape; obtain ⟨B5, d5, rfl⟩ := hb.mrk.shape; obtain ⟨B6, d6, rfl⟩ := hb.his.1.shape
 refine (behind_go (bcm a b #[.slice A0 a.ser.length c0, .slice A1 a.smp.length c1, .slice A2 a.sto.length c2, .slice A3 a.exm.length c3, .slice A4 a.mta.length c4, .slice A5 a.mrk.length c5, .slice A6 a.his.length c6] #[.slice B0 b.ser.length d0, .slice B1 b.smp.length d1, .slice B2 b.sto.length d2, .slice B3 b.exm.length d3, .slice B4 b.mta.length d4, .slice B5 b.mrk.length d5, .slice B6 b.his.length d6]) _ _ _ _ _ _ _ _ _ _ _ _ _ _ _ _ _ _ _ _ _ _ _ _ _ _ _ _ _ _ _ _ _ _ _ _ _ _ _ _ _ _ w ?_ ?_ ?_ ?_ ?_).mono ?_
 ·intro j hj
  rcases zgw hj with rfl | rfl | rfl | rfl | rfl | rfl | rfl <;> rfl
 ·intro j hj
  rcases zgw hj with rfl | rfl | rfl | rfl | rfl | rfl | rfl <;> rfl
 ·intro j hj
  rcases zgw hj with rfl | rfl | rfl | rfl | rfl | rfl | rfl
  ·obtain ⟨i, h1, h2, h3, h4⟩ := info_parts info130
   exact ⟨underlying46, ⟨i, _, h1, h2, h3, h4, rfl⟩, Nat.succ_pos _, show (32 : Nat) <= 1000 by omega, hl.1, fun W hW => ⟨zbp underlying46 (ha.ser.1.fr hW z_i) (zbR _ zfP (by intro x hx u hu; obtain ⟨_, _, e⟩ := (ha.ser.2 x hx).shape; simp [zfP] at hu; rcases hu with rfl | rfl <;> first | rfl | (rw [e]; rfl))), zbp underlying46 (hb.ser.1.fr hW z_i) (zbR _ zfP (by intro x hx u hu; obtain ⟨_, _, e⟩ := (hb.ser.2 x hx).shape; simp [zfP] at hu; rcases hu with rfl | rfl <;> first | rfl | (rw [e]; rfl)))⟩⟩
  ·obtain ⟨i, h1, h2, h3, h4⟩ := info_parts info113
   exact ⟨underlying47, ⟨i, _, h1, h2, h3, h4, rfl⟩, Nat.succ_pos _, show (24 : Nat) <= 1000 by omega, hl.2.1, fun W hW => ⟨zbp underlying47 (ha.smp.fr hW z_i) (zbR _ Smp.a (by intro x _ u hu; simp [Smp.a] at hu; rcases hu with rfl | rfl | rfl <;> rfl)), zbp underlying47 (hb.smp.fr hW z_i) (zbR _ Smp.a (by intro x _ u hu; simp [Smp.a] at hu; rcases hu with rfl | rfl | rfl <;> rfl))⟩⟩
  ·obtain ⟨i, h1, h2, h3, h4⟩ := info_parts zj8
   exact ⟨underlying48, ⟨i, _, h1, h2, h3, h4, rfl⟩, Nat.succ_pos _, show (32 : Nat) <= 1000 by omega, hl.2.2.1, fun W hW => ⟨zbp underlying48 (ha.sto.1.fr hW z_i) (zbR _ stc (by intro x hx u hu; obtain ⟨_, _, e⟩ := (ha.sto.2 x hx).shape; simp [stc] at hu; rcases hu with rfl | rfl <;> first | rfl | (rw [e]; rfl))), zbp underlying48 (hb.sto.1.fr hW z_i) (zbR _ stc (by intro x hx u hu; obtain ⟨_, _, e⟩ := (hb.sto.2 x hx).shape; simp [stc] at hu; rcases hu with rfl | rfl <;> first | rfl | (rw [e]; rfl)))⟩⟩
  ·obtain ⟨i, h1, h2, h3, h4⟩ := info_parts info159
   exact ⟨underlying49, ⟨i, _, h1, h2, h3, h4, rfl⟩, Nat.succ_pos _, show (48 : Nat) <= 1000 by omega, hl.2.2.2.1, fun W hW => ⟨zbp underlying49 (ha.exm.1.fr hW z_i) (zbR _ exc (by intro x hx u hu; obtain ⟨_, _, e⟩ := (ha.exm.2 x hx).shape; simp [exc] at hu; rcases hu with rfl | rfl | rfl | rfl <;> first | rfl | (rw [e]; rfl))), zbp underlying49 (hb.exm.1.fr hW z_i) (zbR _ exc (by intro x hx u hu; obtain ⟨_, _, e⟩ := (hb.exm.2 x hx).shape; simp [exc] at hu; rcases hu with rfl | rfl | rfl | rfl <;> first | rfl | (rw [e]; rfl)))⟩⟩
  ·obtain ⟨i, h1, h2, h3, h4⟩ := info_parts info176
   exact ⟨underlying50, ⟨i, _, h1, h2, h3, h4, rfl⟩, Nat.succ_pos _, show (48 : Nat) <= 1000 by omega, hl.2.2.2.2.1, fun W hW => ⟨zbp underlying50 (ha.mta.fr hW z_i) (zbR _ Mta.c (by intro x _ u hu; simp [Mta.c] at hu; rcases hu with rfl | rfl | rfl | rfl <;> rfl)), zbp underlying50 (hb.mta.fr hW z_i) (zbR _ Mta.c (by intro x _ u hu; simp [Mta.c] at hu; rcases hu with rfl | rfl | rfl | rfl <;> rfl))⟩⟩
  ·obtain ⟨i, h1, h2, h3, h4⟩ := info_parts info168
   exact ⟨underlying51, ⟨i, _, h1, h2, h3, h4, rfl⟩, Nat.succ_pos _, show (16 : Nat) <= 1000 by omega, hl.2.2.2.2.2.1, fun W hW => ⟨zbp underlying51 (ha.mrk.fr hW z_i) (zbR _ Mrk.c (by intro x _ u hu; simp [Mrk.c] at hu; rcases hu with rfl | rfl <;> rfl)), zbp underlying51 (hb.mrk.fr hW z_i) (zbR _ Mrk.c (by intro x _ u hu; simp [Mrk.c] at hu; rcases hu with rfl | rfl <;> rfl))⟩⟩
  ·obtain ⟨i, h1, h2, h3, h4⟩ := info_parts zj7
   exact ⟨underlying52, ⟨i, _, h1, h2, h3, h4, rfl⟩, Nat.succ_pos _, show (224 : Nat) <= 1000 by omega, hl.2.2.2.2.2.2, fun W hW => ⟨zbp underlying52 (ha.his.1.fr hW z_i) (zbR _ hsc (one_his (fun x hx => ha.his.2 x hx))), zbp underlying52 (hb.his.1.fr hW z_i) (zbR _ hsc (one_his (fun x hx => hb.his.2 x hx)))⟩⟩
 ·intro j hj
  rcases zgw hj with rfl | rfl | rfl | rfl | rfl | rfl | rfl <;> rfl
 ·intro j hj
  rcases zgw hj with rfl | rfl | rfl | rfl | rfl | rfl | rfl <;> rfl
 ·rintro r w' ⟨vs, rfl, ho, hf⟩
  have oP := ha.fr hf z_i; have bJ := hb.fr hf z_i
  refine ⟨_, rfl, ⟨⟨a.ser ++ b.ser, a.smp ++ b.smp, a.sto ++ b.sto, a.exm ++ b.exm, a.mta ++ b.mta, a.mrk ++ b.mrk, a.his ++ b.his⟩, _, _, _, _, _, _, _, rfl, ?_, ⟨zga (ho 0 (by decide)), fun p hp => (zmX.1 hp).elim (oP.ser.2 p) (bJ.ser.2 p)⟩, zga (ho 1 (by decide)), ⟨zga (ho 2 (by decide)), fun p hp => (zmX.1 hp).elim (oP.sto.2 p) (bJ.sto.2 p)⟩, ⟨zga (ho 3 (by decide)), fun p hp => (zmX.1 hp).elim (oP.exm.2 p) (bJ.exm.2 p)⟩, zga (ho 4 (by decide)), zga (ho 5 (by decide)), ⟨zga (ho 6 (by decide)), fun p hp => (zmX.1 hp).elim (oP.his.2 p) (bJ.his.2 p)⟩⟩, hf⟩
  simp only [Prt.dat, Dat.cat, zmH]
theorem behind_rp (a : Prt) (D : Dat) (s0 s1 s2 s3 s4 s5 s6 : Value) (ts : Array Value) (w : World) (ha : a.At Yes w s0 s1 s2 s3 s4 s5 s6) (hb : RP D ts w)
 (hl : a.ser.length + D.ser.length <= 1048576 /\ a.smp.length + D.smp.length <= 1048576 /\ a.sto.length + D.sto.length <= 1048576 /\ a.exm.length + D.exm.length <= 1048576 /\ a.mta.length + D.mta.length <= 1048576 /\ a.mrk.length + D.mrk.length <= 1048576 /\ a.his.length + D.his.length <= 1048576) :
 Calls prog 38 #[.agg #[s0, s1, s2, s3, s4, s5, s6], .agg ts] w (fun r w' => ∃ ps, r = .returned (.agg ps) /\ RP (a.dat.cat D) ps w' /\ z_F w w') := by
 obtain ⟨q, t0, t1, t2, t3, t4, t5, t6, rfl, rfl, hq⟩ := hb; simp only [Prt.dat, zmF] at hl; exact zl6 a q s0 s1 s2 s3 s4 s5 s6 t0 t1 t2 t3 t4 t5 t6 w ha hq hl
theorem zkx {P : Nat -> Prop} {w : World} {A : Option Addr} {n m c : Nat} {zs : List UInt8} (h : Sl P w (.slice A n c) 1 m (bc zs)) : (convert 44 9 (.slice A n c)).run prog w = .ok (.string ⟨zs.toArray⟩) w := by
 obtain ⟨A', c', e, hl, hc, hr⟩ := h; simp only [Value.slice.injEq] at e; rw [zda, Nat.mul_one] at hl; subst hl; obtain ⟨rfl, rfl, rfl⟩ := e; rcases zmE zs.length with h0 | h0
 ·obtain rfl := zmJ h0
  cases A with
  | none =>
    show (convert 44 9 (.slice none 0 c)).run prog w = _; rw [run_convert_bytes_string w 44 9 5 none 0 c underlying44 underlying5 underlying9]; rfl
  | some a => exact run_convert_bytes_back (P := prog) w 44 9 5 a c [] underlying44 underlying5 underlying9 (fun j hj => absurd hj (zm2 j))
 ·obtain ⟨g, off, rfl, _, aa⟩ := hr h0
  exact run_convert_bytes_back (P := prog) w 44 9 5 ⟨g, off, none⟩ c zs underlying44 underlying5 underlying9 (fun j hj => by
   have e1 : (⟨g, off, none⟩ : Addr).add j = ⟨g, off + j, none⟩ := by unfold Addr.add; split <;> simp_all
   rw [e1]
   exact aa j _ (by rw [zd6, zmj hj]; rfl))
theorem own_len {w : World} {base : Nat} {e : TypeId} {size n : Nat} {v : Value} {xs : List Value} (h : w.ownsRow base e size v n xs) : n <= maxLen := by
 rcases h.2 with ⟨_, rfl⟩ | ⟨_, _, _, _, _, _, h1, h2, _⟩
 ·exact zms _
 ·exact zm0 h1 h2
theorem zhU {P : Program} {o : Oper} {a : Act} {t : TypeId} {x : Operand} {v : Value} {w : World} (ho : o.op = .load t x) (h : (Instr.loadAt t (a.eval x)).run P w = .ok v w) : (execOp a.eval o).run P w = .ok (.value v) w := by
 unfold execOp; simp only [ho]; simp [h]
theorem load54 {b : Nat} {A0 A1 A2 A3 A4 A5 A6 : Option Addr} {n0 n1 n2 n3 n4 n5 n6 c0 c1 c2 c3 c4 c5 c6 : Nat} {w : World} (h : Blk w b 54 #[.slice A0 n0 c0, .slice A1 n1 c1, .slice A2 n2 c2, .slice A3 n3 c3, .slice A4 n4 c4, .slice A5 n5 c5, .slice A6 n6 c6]) :
 (Instr.loadAt 54 (.pointer (some ⟨b, 0, none⟩))).run prog w = .ok (.agg #[.slice A0 n0 c0, .slice A1 n1 c1, .slice A2 n2 c2, .slice A3 n3 c3, .slice A4 n4 c4, .slice A5 n5 c5, .slice A6 n6 c6]) w := by
 obtain ⟨x0, x1, x2, x3, x4, x5, x6⟩ := zad h; go_simp
theorem cat_len {a b : List UInt8} (h : (a ++ b).length <= maxLen) : ¬ 9223372036854775807 < a.length + b.length := by rw [zmi] at h; unfold maxLen at h; omega
theorem cat_str (a b : List UInt8) : (⟨(a ++ b).toArray⟩ : ByteArray) = ⟨a.toArray⟩ ++ ⟨b.toArray⟩ := by apply ByteArray.ext; simp
theorem beh_kind (k eS : Nat) (hk : 1 + (eS : Int) % 10 = (k : Int)) (hc : eS < 256) (fJ fI nQ jT : Prop) (A0 A1 A2 A3 A4 A5 A6 B0 B1 B2 B3 B4 B5 B6 Y : Option Addr) (c0 c1 c2 c3 c4 c5 c6 n0 n1 n2 n3 n4 n5 n6 d0 d1 d2 d3 d4 d5 d6 m0 m1 m2 m3 m4 m5 m6 yc : Nat) (w : World) (te : TypeId) (pe : Value) (D1 D2 D3 : Dat) (zs xs : List UInt8) (Py : Nat -> Prop)
 (hE : w.cell? ⟨2, 0, none⟩ = some (.iface te pe)) (hY : Sl Py w (.slice Y xs.length yc) 1 xs.length (bc xs))
 (h34 : ∀ W, z_F w W -> Calls prog 34 #[.agg #[.slice A0 n0 c0, .slice A1 n1 c1, .slice A2 n2 c2, .slice A3 n3 c3, .slice A4 n4 c4, .slice A5 n5 c5, .slice A6 n6 c6]] W (zas nQ W)) (qQ : ∀ W, z_F w W -> Calls prog 34 #[.agg #[.slice B0 m0 d0, .slice B1 m1 d1, .slice B2 m2 d2, .slice B3 m3 d3, .slice B4 m4 d4, .slice B5 m5 d5, .slice B6 m6 d6]] W (zas jT W))
 (h30 : nQ -> ∀ W, z_F w W -> Calls prog 30 #[.int .i64 k, .agg #[.slice A0 n0 c0, .slice A1 n1 c1, .slice A2 n2 c2, .slice A3 n3 c3, .slice A4 n4 c4, .slice A5 n5 c5, .slice A6 n6 c6]] W (zas fJ W)) (qT : jT -> ∀ W, z_F w W -> Calls prog 30 #[.int .i64 k, .agg #[.slice B0 m0 d0, .slice B1 m1 d1, .slice B2 m2 d2, .slice B3 m3 d3, .slice B4 m4 d4, .slice B5 m5 d5, .slice B6 m6 d6]] W (zas fI W))
 (h29 : fJ -> fI -> (k = 2 -> m1 = 0) -> ∀ W P A n c, z_F w W -> Sl P W (.slice A n c) 1 zs.length (bc zs) -> Calls prog 29 #[.int .i64 k, .slice A n c, .agg #[.slice B0 m0 d0, .slice B1 m1 d1, .slice B2 m2 d2, .slice B3 m3 d3, .slice B4 m4 d4, .slice B5 m5 d5, .slice B6 m6 d6]] W (fun r w' => ∃ ps, r = .returned (.tuple #[.agg ps, .bool true]) /\ RP D1 ps w' /\ z_F W w'))
 (h31 : fJ -> ∀ W, z_F w W -> Calls prog 31 #[.int .i64 k, .agg #[.slice A0 n0 c0, .slice A1 n1 c1, .slice A2 n2 c2, .slice A3 n3 c3, .slice A4 n4 c4, .slice A5 n5 c5, .slice A6 n6 c6], .slice none 0 0] W (za5 (fun u _ => ∃ A m c, u = .slice A m c) W zs))
 (qR : fJ -> xs.length <= 100 -> ∀ W, z_F w W -> Calls prog 31 #[.int .i64 k, .agg #[.slice A0 n0 c0, .slice A1 n1 c1, .slice A2 n2 c2, .slice A3 n3 c3, .slice A4 n4 c4, .slice A5 n5 c5, .slice A6 n6 c6], .slice Y xs.length yc] W (za5 (fun u _ => ∃ A m c, u = .slice A m c) W (xs ++ zs)))
 (h33 : fJ -> ∀ W, z_F w W -> Calls prog 33 #[.int .i64 k, .agg #[.slice A0 n0 c0, .slice A1 n1 c1, .slice A2 n2 c2, .slice A3 n3 c3, .slice A4 n4 c4, .slice A5 n5 c5, .slice A6 n6 c6]] W (fun r w' => ∃ ps, r = .returned (.agg ps) /\ RP D2 ps w' /\ z_F W w'))
 (h38 : fJ -> fI -> ∀ W ts, z_F w W -> RP D2 ts W -> Calls prog 38 #[.agg #[.slice B0 m0 d0, .slice B1 m1 d1, .slice B2 m2 d2, .slice B3 m3 d3, .slice B4 m4 d4, .slice B5 m5 d5, .slice B6 m6 d6], .agg ts] W (fun r w' => ∃ ps, r = .returned (.agg ps) /\ RP D3 ps w' /\ z_F W w'))
 (h32 : fJ -> fI -> (k = 2 -> m1 = 0) -> ∀ W ps qs, RP D1 ps W -> RP D3 qs W -> Calls prog 32 #[.agg ps, .agg qs] W (zap W)) :
 Calls prog 9 #[.int .u8 eS, .agg #[.slice A0 n0 c0, .slice A1 n1 c1, .slice A2 n2 c2, .slice A3 n3 c3, .slice A4 n4 c4, .slice A5 n5 c5, .slice A6 n6 c6], .agg #[.slice B0 m0 d0, .slice B1 m1 d1, .slice B2 m2 d2, .slice B3 m3 d3, .slice B4 m4 d4, .slice B5 m5 d5, .slice B6 m6 d6], .slice Y xs.length yc] w (zap w) := by
 have HA : Hid (∀ W, z_F w W -> Calls prog 28 #[] W (zap W)) := zmh (fun W hF => zgl te pe W (by rw [hF.cell (p := ⟨2, 0, none⟩) (zmo w _ hE) id]; exact hE)); have HK : Hid (∀ W, Calls prog 35 #[.int .u8 eS] W (zkC (k : Int) W)) := zmh (fun W => by have := zg5 eS hc W; rwa [hk] at this)
 have lN : Hid ((k = 2 /\ ((k : Int) == 2) = true) ∨ (¬ k = 2 /\ ((k : Int) == 2) = false)) := zmh (by by_cases h : k = 2; exact .inl ⟨h, by simp [h]⟩; exact .inr ⟨h, by simp; omega⟩); have HM1 : Hid ((m1 = 0 /\ ¬ (0 : Int) < (m1 : Int)) ∨ (¬ m1 = 0 /\ (0 : Int) < (m1 : Int))) := zmh (by omega); have HYS := zmh hY; have H34 := zmh h34; have H34B := zmh qQ; have H30 := zmh h30
 have H30B := zmh qT; have H29 := zmh h29; have H31 := zmh h31; have sE := zmh qR; have H33 := zmh h33; have H38 := zmh h38; have H32 := zmh h32; clear hE hY h34 qQ h30 qT h29 h31 qR h33 h38 h32 hk hc; obtain ⟨yn, hyn⟩ := exE xs.length; have HYN := zmh hyn; rw [hyn] at HYS sE ⊢; clear hyn
 have rt : Hid ((2147483647 : Int) < (yn : Int) ∨ ¬ (2147483647 : Int) < (yn : Int)) := zmh (Classical.em _); have rl : Hid ((100 : Int) < (yn : Int) ∨ ¬ (100 : Int) < (yn : Int)) := zmh (Classical.em _); go_enter func9, ntmps9
 have HB := zmh ((znm w 54 #[.slice A0 n0 c0, .slice A1 n1 c1, .slice A2 n2 c2, .slice A3 n3 c3, .slice A4 n4 c4, .slice A5 n5 c5, .slice A6 n6 c6]).alloc (.cells #[.slice B0 m0 d0, .slice B1 m1 d1, .slice B2 m2 d2, .slice B3 m3 d3, .slice B4 m4 d4, .slice B5 m5 d5, .slice B6 m6 d6] 54))
 have HG := zmh (zaH w (.cells #[.slice A0 n0 c0, .slice A1 n1 c1, .slice A2 n2 c2, .slice A3 n3 c3, .slice A4 n4 c4, .slice A5 n5 c5, .slice A6 n6 c6] 54) 54 #[.slice B0 m0 d0, .slice B1 m1 d1, .slice B2 m2 d2, .slice B3 m3 d3, .slice B4 m4 d4, .slice B5 m5 d5, .slice B6 m6 d6])
 have HF := zmh (((znl (fun _ => False) w).alloc (.cells #[.slice A0 n0 c0, .slice A1 n1 c1, .slice A2 n2 c2, .slice A3 n3 c3, .slice A4 n4 c4, .slice A5 n5 c5, .slice A6 n6 c6] 54)).alloc (.cells #[.slice B0 m0 d0, .slice B1 m1 d1, .slice B2 m2 d2, .slice B3 m3 d3, .slice B4 m4 d4, .slice B5 m5 d5, .slice B6 m6 d6] 54))
 go_wp2_with (go_at_call 34; refine (H34.out _ HF.out).mono ?_; rintro r w1 ⟨b, rfl, hb, hf⟩; refine Hid.out ?_)
 have bX := zmh (HF.out.same hf); have kG := zmh hb; have cE := zmh (HB.out.fr hf id); have HG1 := zmh (HG.out.fr hf id); clear hb hf HB HG HF; rcases b with _ | _
 ·refine zmh ?_
  go_wp2; go_ret; exact ⟨rfl, bX.out⟩
 have mQ : Hid nQ := zmh (kG.out.1 (by first | rfl | trivial)); obtain ⟨x0, x1, x2, x3, x4, x5, x6⟩ := zad HG1.out; refine zmh ?_; go_wp2_with (go_at_call 34; refine (H34B.out _ bX.out).mono ?_; rintro r w2 ⟨b, rfl, hb, hf⟩; refine Hid.out ?_)
 have bu := zmh (bX.out.same hf); have HBC := zmh hb; have dg := zmh (cE.out.fr hf id); have HG2 := zmh (HG1.out.fr hf id); clear hb hf cE HG1 bX x0 x1 x2 x3 x4 x5 x6; rcases b with _ | _
 ·refine zmh ?_
  go_wp2; go_ret; exact ⟨rfl, bu.out⟩
 have HFJ : Hid jT := zmh (HBC.out.1 (by first | rfl | trivial)); rcases rt.out with dC | dC
 ·refine zmh ?_
  go_wp2; go_ret; exact ⟨rfl, bu.out⟩
 obtain ⟨y0, y1, y2, y3, y4, y5, y6⟩ := zad dg.out; refine zmh ?_
 go_wp2_with (first
  | (go_at_call 35; refine (HK.out _).mono ?_; rintro r w3 ⟨rfl, hf⟩; clear y0 y1 y2 y3 y4 y5 y6; have bB := zmh (bu.out.same hf); have bH := zmh (dg.out.fr hf id); have HG3 := zmh (HG2.out.fr hf id); clear hf dg HG2 bu; obtain ⟨y0, y1, y2, y3, y4, y5, y6⟩ := zad bH.out)
  | (go_at_call 30; refine (H30.out mQ.out _ bB.out).mono ?_; rintro r w4 ⟨b, rfl, hb, hf⟩; refine Hid.out ?_))
 have iw := zmh (bB.out.same hf); have kH := zmh (bH.out.fr hf id); have HG4 := zmh (HG3.out.fr hf id); have kF := zmh hb; clear hb hf bH HG3 bB y0 y1 y2 y3 y4 y5 y6 dC; rcases b with _ | _
 ·refine zmh ?_
  go_wp2_with (go_at_call 28; refine (HA.out _ iw.out).mono ?_; rintro r wx ⟨rfl, hf⟩)
  go_ret; exact ⟨rfl, iw.out.same hf⟩
 have gy : Hid fJ := zmh (kF.out.1 (by first | rfl | trivial)); obtain ⟨x0, x1, x2, x3, x4, x5, x6⟩ := zad HG4.out; refine zmh ?_; go_wp2_with (go_at_call 30; refine (H30B.out HFJ.out _ iw.out).mono ?_; rintro r w5 ⟨b, rfl, hb, hf⟩; refine Hid.out ?_)
 have gk := zmh (iw.out.same hf); have cj := zmh (kH.out.fr hf id); have HG5 := zmh (HG4.out.fr hf id); have HBE := zmh hb; clear hb hf kH HG4 iw x0 x1 x2 x3 x4 x5 x6; rcases b with _ | _
 ·refine zmh ?_
  go_wp2_with (go_at_call 28; refine (HA.out _ gk.out).mono ?_; rintro r wx ⟨rfl, hf⟩)
  go_ret; exact ⟨rfl, gk.out.same hf⟩
 have HPS : Hid fI := zmh (HBE.out.1 (by first | rfl | trivial)); rcases rl.out with fi | fi
 ·refine zmh ?_
  go_wp2_with (go_at_call 28; refine (HA.out _ gk.out).mono ?_; rintro r wx ⟨rfl, hf⟩)
  go_ret; exact ⟨rfl, gk.out.same hf⟩
 obtain ⟨y0, y1, y2, y3, y4, y5, y6⟩ := zad cj.out; obtain ⟨x0, x1, x2, x3, x4, x5, x6⟩ := zad HG5.out
 rcases (show (((k : Int) == 2) = true /\ (0 : Int) < (m1 : Int)) ∨ ((k = 2 -> m1 = 0) /\ ((((k : Int) == 2) = true /\ ¬ (0 : Int) < (m1 : Int)) ∨ ((k : Int) == 2) = false)) from (by
  rcases lN.out with ⟨h1, h2⟩ | ⟨h1, h2⟩ <;> rcases HM1.out with ⟨h3, h4⟩ | ⟨h3, h4⟩
  ·exact .inr ⟨fun _ => h3, .inl ⟨h2, by omega⟩⟩
  ·exact .inl ⟨h2, h4⟩
  ·exact .inr ⟨fun _ => h3, .inr h2⟩
  ·exact .inr ⟨fun h => absurd h h1, .inr h2⟩)) with ⟨q1, q2⟩ | ⟨q0, q1⟩
 ·refine zmh ?_
  go_wp2_with (go_at_call 28; refine (HA.out _ gk.out).mono ?_; rintro r wx ⟨rfl, hf⟩)
  go_ret; exact ⟨rfl, gk.out.same hf⟩
 have HKM := zmh q0; clear q0; have rS : Hid (yn <= 100) := zmh (by omega); have HQ : Hid ((((k : Int) == 2) = true /\ ¬ (0 : Int) < (m1 : Int)) ∨ ((k : Int) == 2) = false) := zmh q1; clear q1; rcases HQ.out with ⟨q1, q2⟩ | q1; all_goals
  refine zmh ?_; go_wp2_with (go_at_call 31; refine (H31.out gy.out _ gk.out).mono ?_; rintro r w6 ⟨bv, lv, rfl, ⟨u1, u2, u3, rfl⟩, ab, hf⟩; refine Hid.out ?_)
  obtain ⟨v1, v2, v3, rfl⟩ := zab ab; clear y0 y1 y2 y3 y4 y5 y6 x0 x1 x2 x3 x4 x5 x6; have HB6 := zmh (cj.out.fr hf id); have HG6 := zmh (HG5.out.fr hf id); have HF6 := zmh (gk.out.same hf); have fz := zmh ab; clear hf ab cj HG5; obtain ⟨y0, y1, y2, y3, y4, y5, y6⟩ := zad HB6.out; refine zmh ?_
  go_wp2_with (go_at_call 31; refine (sE.out gy.out rS.out _ HF6.out).mono ?_; rintro r w7 ⟨bv, lv, rfl, ⟨u4, u5, u6, rfl⟩, ab, hf⟩; refine Hid.out ?_)
  obtain ⟨v4, v5, v6, rfl⟩ := zab ab; clear y0 y1 y2 y3 y4 y5 y6; have pg := zmh (HB6.out.fr hf id); have HG7 := zmh (HG6.out.fr hf id); have jb := zmh (HF6.out.same hf); have oX := zmh ab; have om := zmh (own_len ab); have HS7 := zmh ((zno fz.out).fr hf z_i); clear hf ab HB6 HG6 fz
  obtain ⟨x0, x1, x2, x3, x4, x5, x6⟩ := zad HG7.out; refine zmh ?_; go_wp2_with (go_at_call 29; refine (H29.out gy.out HPS.out HKM.out _ _ _ _ _ jb.out HS7.out).mono ?_; rintro r w8 ⟨ps, rfl, pJ, hf⟩; refine Hid.out ?_)
  obtain ⟨E0, E1, E2, E3, E4, E5, E6, l0, l1, l2, l3, l4, l5, l6, e0, e1, e2, e3, e4, e5, e6, rfl⟩ := pJ.slices; have fH := zmh ((jb.out.same hf).alloc (.cells #[.slice E0 l0 e0, .slice E1 l1 e1, .slice E2 l2 e2, .slice E3 l3 e3, .slice E4 l4 e4, .slice E5 l5 e5, .slice E6 l6 e6] 54))
  have cO := zmh ((pg.out.fr hf id).alloc (.cells #[.slice E0 l0 e0, .slice E1 l1 e1, .slice E2 l2 e2, .slice E3 l3 e3, .slice E4 l4 e4, .slice E5 l5 e5, .slice E6 l6 e6] 54)); have HG8 := zmh ((HG7.out.fr hf id).alloc (.cells #[.slice E0 l0 e0, .slice E1 l1 e1, .slice E2 l2 e2, .slice E3 l3 e3, .slice E4 l4 e4, .slice E5 l5 e5, .slice E6 l6 e6] 54))
  have oh := zmh (znm w8 54 #[.slice E0 l0 e0, .slice E1 l1 e1, .slice E2 l2 e2, .slice E3 l3 e3, .slice E4 l4 e4, .slice E5 l5 e5, .slice E6 l6 e6]); have bT := zmh (pJ.fr ((znl (fun _ => False) w8).alloc (.cells #[.slice E0 l0 e0, .slice E1 l1 e1, .slice E2 l2 e2, .slice E3 l3 e3, .slice E4 l4 e4, .slice E5 l5 e5, .slice E6 l6 e6] 54)))
  have mM := zmh (HS7.out.fr (hf.alloc (.cells #[.slice E0 l0 e0, .slice E1 l1 e1, .slice E2 l2 e2, .slice E3 l3 e3, .slice E4 l4 e4, .slice E5 l5 e5, .slice E6 l6 e6] 54)) z_i); have HSC := zmh ((zno oX.out).fr (hf.alloc (.cells #[.slice E0 l0 e0, .slice E1 l1 e1, .slice E2 l2 e2, .slice E3 l3 e3, .slice E4 l4 e4, .slice E5 l5 e5, .slice E6 l6 e6] 54)) z_i)
  have HSY := zmh (HYS.out.fr fH.out z_i); clear hf pJ pg HG7 oX HS7 x0 x1 x2 x3 x4 x5 x6; refine zmh ?_; go_wp2; generalize hV : w8.alloc (.cells #[.slice E0 l0 e0, .slice E1 l1 e1, .slice E2 l2 e2, .slice E3 l3 e3, .slice E4 l4 e4, .slice E5 l5 e5, .slice E6 l6 e6] 54) = V at fH cO HG8 oh bT mM HSC HSY ⊢; clear hV
  have FD : Hid (z_F V V.drew) := zmh (znl _ V).drew; have mixed : prog.follows .mixedOrders = true := by kernel_rfl
  refine zaQ (fun w' => z_F V w') 23 mixed FD.out (fun hS => ?_); have iG := om.out; refine zao 0 (by kernel_rfl) rfl (by kernel_rfl) (fun K hK => ?_); go_simp; refine (HA.out _ (fH.out.same hS)).mono ?_; rintro r w9 ⟨rfl, hf⟩; have HT := zmh (hS.same hf); refine hK.out _ _ HT.out ?_; clear hK K hS
  try simp only [zme, zmf, zmg, Act.put, zml, zmm, zmn]
  have hS := HT.out; clear HT; refine wpT 1 (.bool true) rfl (by intro w; go_simp) hS ?_; try simp only [zme, zmf, zmg, Act.put, zml, zmm, zmn]
  refine wpT 2 (.slice v4 v5 v6) rfl (by intro w; go_simp) hS ?_; try simp only [zme, zmf, zmg, Act.put, zml, zmm, zmn]
  refine wpL 3 [9, 10, 11, 13, 14, 22, 23] (.string ⟨(xs ++ zs).toArray⟩) rfl (by intro w' hw; have gr := zkx (HSC.out.fr hw z_i); go_simp) hS ?_; try simp only [zme, zmf, zmg, Act.put, zml, zmm, zmn]
  refine wpT 4 (.slice Y yn yc) rfl (by intro w; go_simp) hS ?_; try simp only [zme, zmf, zmg, Act.put, zml, zmm, zmn]
  refine wpL 5 [8, 9, 10, 11, 13, 14, 22, 23] (.string ⟨xs.toArray⟩) rfl (by intro w' hw; have gr := zkx (HSY.out.fr hw z_i); go_simp) hS ?_; try simp only [zme, zmf, zmg, Act.put, zml, zmm, zmn]
  refine wpT 6 (.slice v1 v2 v3) rfl (by intro w; go_simp) hS ?_; try simp only [zme, zmf, zmg, Act.put, zml, zmm, zmn]
  refine wpL 7 [8, 9, 10, 11, 13, 14, 22, 23] (.string ⟨zs.toArray⟩) rfl (by intro w' hw; have gr := zkx (mM.out.fr hw z_i); go_simp) hS ?_; try simp only [zme, zmf, zmg, Act.put, zml, zmm, zmn]
  refine zhk 8 (.string ⟨(xs ++ zs).toArray⟩) rfl (by kernel_rfl) (by kernel_rfl) (by kernel_rfl) (by kernel_rfl) (fun _ _ _ h => h) (by kernel_rfl) (by intro w'; have h2 := cat_len iG; rw [cat_str]; go_simp) hS ?_; try simp only [zme, zmf, zmg, Act.put, zml, zmm, zmn]
  refine wpT 9 (.bool true) rfl (by intro w; go_simp) hS ?_; try simp only [zme, zmf, zmg, Act.put, zml, zmm, zmn]
  refine wpT 10 (.bool true) rfl (by intro w; go_simp) hS ?_; try simp only [zme, zmf, zmg, Act.put, zml, zmm, zmn]
  refine wpT 11 (.bool true) rfl (by intro w; go_simp) hS ?_; try simp only [zme, zmf, zmg, Act.put, zml, zmm, zmn]
  refine wpT 12 (.bool true) rfl (by intro w; go_simp) hS ?_; try simp only [zme, zmf, zmg, Act.put, zml, zmm, zmn]
  refine wpT 13 (.bool true) rfl (by intro w; go_simp) hS ?_; try simp only [zme, zmf, zmg, Act.put, zml, zmm, zmn]
  refine wpT 14 (.bool true) rfl (by intro w; go_simp) hS ?_; try simp only [zme, zmf, zmg, Act.put, zml, zmm, zmn]
  refine wpL 15 [21, 22, 23] (.agg #[.slice E0 l0 e0, .slice E1 l1 e1, .slice E2 l2 e2, .slice E3 l3 e3, .slice E4 l4 e4, .slice E5 l5 e5, .slice E6 l6 e6]) rfl (by intro w' hw; exact zhU rfl (load54 (oh.out.fr hw id))) hS ?_
  try simp only [zme, zmf, zmg, Act.put, zml, zmm, zmn]
  refine wpL 16 [20, 21, 22, 23] (.agg #[.slice B0 m0 d0, .slice B1 m1 d1, .slice B2 m2 d2, .slice B3 m3 d3, .slice B4 m4 d4, .slice B5 m5 d5, .slice B6 m6 d6]) rfl (by intro w' hw; exact zhU rfl (load54 (HG8.out.fr hw id))) hS ?_
  try simp only [zme, zmf, zmg, Act.put, zml, zmm, zmn]
  refine wpT 17 (.int .i64 k) rfl (by intro w; go_simp) hS ?_; try simp only [zme, zmf, zmg, Act.put, zml, zmm, zmn]
  refine wpL 18 [19, 20, 21, 22, 23] (.agg #[.slice A0 n0 c0, .slice A1 n1 c1, .slice A2 n2 c2, .slice A3 n3 c3, .slice A4 n4 c4, .slice A5 n5 c5, .slice A6 n6 c6]) rfl (by intro w' hw; exact zhU rfl (load54 (cO.out.fr hw id))) hS ?_
  try simp only [zme, zmf, zmg, Act.put, zml, zmm, zmn]
  refine zao 19 (by kernel_rfl) rfl (by kernel_rfl) (fun K hK => ?_); go_simp; refine (H33.out gy.out _ (fH.out.same hS)).mono ?_; rintro r wa ⟨qs, rfl, hq, hf⟩; have HQS := zmh hq; clear hq; have HT := zmh (hS.same hf); refine hK.out _ _ HT.out ?_; clear hK K hS
  try simp only [zme, zmf, zmg, Act.put, zml, zmm, zmn]
  have hS := HT.out; clear HT; refine zao 20 (by kernel_rfl) rfl (by kernel_rfl) (fun K hK => ?_); go_simp; refine (H38.out gy.out HPS.out _ _ (fH.out.same hS) HQS.out).mono ?_; rintro r wb ⟨rs, rfl, hq, hf⟩; have HRS := zmh hq; clear hq; have HT := zmh (hS.same hf); refine hK.out _ _ HT.out ?_; clear hK K hS
  try simp only [zme, zmf, zmg, Act.put, zml, zmm, zmn]
  have hS := HT.out; clear HT; refine zao 21 (by kernel_rfl) rfl (by kernel_rfl) (fun K hK => ?_); go_simp; refine (H32.out gy.out HPS.out HKM.out _ _ _ (bT.out.fr hS) HRS.out).mono ?_; rintro r wc ⟨rfl, hf⟩; have HT := zmh (hS.same hf); refine hK.out _ _ HT.out ?_; clear hK K hS
  try simp only [zme, zmf, zmg, Act.put, zml, zmm, zmn]
  have hS := HT.out; clear HT; refine wpT 22 (.bool true) rfl (by intro w; go_simp) hS ?_; try simp only [zme, zmf, zmg, Act.put, zml, zmm, zmn]
  refine zaA 23 (by kernel_rfl) rfl (by kernel_rfl) (by kernel_rfl) (fun K hK => ?_); go_simp; refine hK.out _ _ ?_; clear hK K; refine zbv (by kernel_rfl) ?_ _; go_wp2; go_ret; exact ⟨rfl, fH.out.same hS⟩
def enc10 : Nat -> Prt -> List UInt8
 | 1, q => zbY (q.ser.map Prod.fst)
 | 2, q => zaE q.smp
 | 3, q => zbz (q.sto.map Prod.fst)
 | 4, q => zbA (q.exm.map Prod.fst)
 | 5, q => zba q.mrk
 | 6, q => zbJ q.mta
 | 7, q => za3 7 (fun s => !zaV s) (q.his.map Prod.fst)
 | 8, q => za4 8 (fun s => !zaV s) (q.his.map Prod.fst)
 | 9, q => za3 9 (fun _ => true) (q.his.map Prod.fst)
 | 10, q => za4 10 (fun _ => true) (q.his.map Prod.fst)
 | _, _ => []
theorem ziG {k : Nat} (hk : K10 k) {P : Nat -> Prop} {q : Prt} {s0 s1 s2 s3 s4 s5 s6 : Value} {W : World} (hq : q.At P W s0 s1 s2 s3 s4 s5 s6) (hf : q.Fits) : Calls prog 30 #[.int .i64 k, .agg #[s0, s1, s2, s3, s4, s5, s6]] W (zas (Rt k q) W) := by
 obtain ⟨A0, c0, rfl⟩ := hq.ser.1.shape; obtain ⟨A1, c1, rfl⟩ := hq.smp.shape; obtain ⟨A2, c2, rfl⟩ := hq.sto.1.shape; obtain ⟨A3, c3, rfl⟩ := hq.exm.1.shape; obtain ⟨A4, c4, rfl⟩ := hq.mta.shape; obtain ⟨A5, c5, rfl⟩ := hq.mrk.shape; obtain ⟨A6, c6, rfl⟩ := hq.his.1.shape; have b0 : q.ser.length <= 1099511627776 := by have := hf.ser.1; omega
 have b1 : q.smp.length <= 1099511627776 := by have := hf.smp; omega
 have b2 : q.sto.length <= 1099511627776 := by have := hf.sto.1; omega
 have b3 : q.exm.length <= 1099511627776 := by have := hf.exm.1; omega
 have b4 : q.mta.length <= 1099511627776 := by have := hf.mta.1; omega
 have b5 : q.mrk.length <= 1099511627776 := by have := hf.mrk; omega
 have b6 : q.his.length <= 1099511627776 := by have := hf.his.1; omega
 rcases hk with rfl | rfl | rfl | rfl | rfl | rfl | rfl | rfl | rfl | rfl
 ·exact rightG_1 A0 A1 A2 A3 A4 A5 A6 c0 c1 c2 c3 c4 c5 c6 _ _ _ _ _ _ _ q.sum b0 b1 b2 b3 b4 b5 b6 rfl W P q.ser (hq.ser) rfl (fun p hp => by have := (hf.ser.2 p hp).1; omega)
 ·exact rightG_2 A0 A1 A2 A3 A4 A5 A6 c0 c1 c2 c3 c4 c5 c6 _ _ _ _ _ _ _ q.sum b0 b1 b2 b3 b4 b5 b6 rfl W
 ·exact rightG_3 A0 A1 A2 A3 A4 A5 A6 c0 c1 c2 c3 c4 c5 c6 _ _ _ _ _ _ _ q.sum b0 b1 b2 b3 b4 b5 b6 rfl W P q.sto (hq.sto) rfl (fun p hp => by have := hf.sto.2 p hp; omega)
 ·exact rightG_4 A0 A1 A2 A3 A4 A5 A6 c0 c1 c2 c3 c4 c5 c6 _ _ _ _ _ _ _ q.sum b0 b1 b2 b3 b4 b5 b6 rfl W P q.exm (hq.exm) rfl (fun p hp => by have := (hf.exm.2 p hp).1; omega)
 ·exact rightG_5 A0 A1 A2 A3 A4 A5 A6 c0 c1 c2 c3 c4 c5 c6 _ _ _ _ _ _ _ q.sum b0 b1 b2 b3 b4 b5 b6 rfl W
 ·exact rightG_6 A0 A1 A2 A3 A4 A5 A6 c0 c1 c2 c3 c4 c5 c6 _ _ _ _ _ _ _ q.sum b0 b1 b2 b3 b4 b5 b6 rfl W P q.mta (hq.mta) rfl (fun p hp => by have h1 := (hf.mta.2 p hp).1; have h2 := (hf.mta.2 p hp).2; exact ⟨by omega, by omega⟩)
 ·exact rightG_7 A0 A1 A2 A3 A4 A5 A6 c0 c1 c2 c3 c4 c5 c6 _ _ _ _ _ _ _ q.sum b0 b1 b2 b3 b4 b5 b6 rfl W P q.his (hq.his) rfl (fun p hp => zib (hf.his.2 p hp))
 ·exact rightG_8 A0 A1 A2 A3 A4 A5 A6 c0 c1 c2 c3 c4 c5 c6 _ _ _ _ _ _ _ q.sum b0 b1 b2 b3 b4 b5 b6 rfl W P q.his (hq.his) rfl (fun p hp => zib (hf.his.2 p hp))
 ·exact rightG_9 A0 A1 A2 A3 A4 A5 A6 c0 c1 c2 c3 c4 c5 c6 _ _ _ _ _ _ _ q.sum b0 b1 b2 b3 b4 b5 b6 rfl W P q.his (hq.his) rfl (fun p hp => zib (hf.his.2 p hp))
 ·exact rightG_10 A0 A1 A2 A3 A4 A5 A6 c0 c1 c2 c3 c4 c5 c6 _ _ _ _ _ _ _ q.sum b0 b1 b2 b3 b4 b5 b6 rfl W P q.his (hq.his) rfl (fun p hp => zib (hf.his.2 p hp))
theorem ziu {k : Nat} (hk : K10 k) {P Py : Nat -> Prop} {q : Prt} {s0 s1 s2 s3 s4 s5 s6 yv : Value} {ys : List UInt8} {W : World} (hq : q.At P W s0 s1 s2 s3 s4 s5 s6) (hy : Sl Py W yv 1 ys.length (bc ys)) (bI : ys.length <= 100) (hw : q.Wide) (hp : Rt k q) :
 Calls prog 31 #[.int .i64 k, .agg #[s0, s1, s2, s3, s4, s5, s6], yv] W (za5 (fun u _ => ∃ A m c, u = .slice A m c) W (ys ++ enc10 k q)) := by
 have sh := hq.sls
 replace hq := hq.inn
 replace hy := hy.inn
 have aw : ∀ {L : Value -> World -> Prop} {f : FuncId} {ar : Array Value} {zs : List UInt8}, (∀ u V, L u V -> ∃ A m c, u = .slice A m c) -> Calls prog f ar W (za5 L W zs) -> Calls prog f ar W (za5 (fun u _ => ∃ A m c, u = .slice A m c) W zs) := fun hL h => h.mono fun r w' ⟨bv, lv, e, g, h2⟩ => ⟨bv, lv, e, hL _ _ g, h2⟩
 have kn : ∀ (u : Value) (V : World), u = .slice none 0 0 -> ∃ A m c, u = .slice A m c := fun u V h => ⟨_, _, _, h⟩; rcases hk with rfl | rfl | rfl | rfl | rfl | rfl | rfl | rfl | rfl | rfl
 ·exact aw kn (zeT _ _ _ _ _ _ _ _ ys q.ser _ W hy (by omega) sh (hq.ser) (by rw [zmF]; have := hp.1; have := hp.2.1; omega) (fun s hs => by obtain ⟨p, aX, rfl⟩ := zmN.1 hs; exact ⟨(hw.ser p aX).1, (hp.2.2 p aX).wide⟩))
 ·exact aw kn (zc0 _ _ _ _ _ _ _ _ ys q.smp _ W hy (by omega) sh (hq.smp) (by have := hp.1; have := hp.2; omega) hw.smp)
 ·exact aw kn (zeS _ _ _ _ _ _ _ _ ys q.sto _ W hy (by omega) sh (hq.sto) (by have := hp.1; have := hp.2.1; omega) (fun s hs => by obtain ⟨p, aX, rfl⟩ := zmN.1 hs; have := hp.2.2 p aX; omega) (fun s hs => by obtain ⟨p, aX, rfl⟩ := zmN.1 hs; exact ⟨(hw.sto p aX).1, (hw.sto p aX).2.2⟩))
 ·exact aw kn (zeb _ _ _ _ _ _ _ _ ys q.exm _ W hy (by omega) sh (hq.exm) (by rw [zmF]; have := hp.1; have := hp.2.1; omega) (fun s hs => by obtain ⟨p, aX, rfl⟩ := zmN.1 hs; exact ⟨(hw.exm p aX).1, (hp.2.2 p aX).wide⟩))
 ·exact aw kn (zeD _ _ _ _ _ _ _ _ ys q.mrk _ W hy (by omega) sh (hq.mrk) (by have := hp.1; have := hp.2; omega) hw.mrk)
 ·exact aw kn (zeq _ _ _ _ _ _ _ _ ys q.mta _ W hy (by omega) sh (hq.mta) (by have := hp.1; have := hp.2.1; omega) (fun s hs => by have := hp.2.2 s hs; exact ⟨(hw.mta s hs).1, by omega, by omega⟩))
 ·exact aw (fun _ _ h => h.shape) (zgi _ _ _ _ _ _ _ _ ys q.his _ W hy (by omega) sh (hq.his) (by have := hp.1; have := hp.2.1; omega) (fun s hs => by obtain ⟨p, aX, rfl⟩ := zmN.1 hs; exact zft (hw.his p aX) (hp.2.2.1 p aX)) (by rcases hp.2.2.2 with h | ⟨p, h1, h2⟩; exact .inl (by rw [h]; rfl); exact .inr ⟨p.1, zmN.2 ⟨p, h1, rfl⟩, h2⟩))
 ·exact aw (fun _ _ h => h.shape) (zgj _ _ _ _ _ _ _ _ ys q.his _ W hy (by omega) sh (hq.his) (by have := hp.1; have := hp.2.1; omega) (fun s hs => by obtain ⟨p, aX, rfl⟩ := zmN.1 hs; exact zft (hw.his p aX) (hp.2.2.1 p aX)) (by rcases hp.2.2.2 with h | ⟨p, h1, h2⟩; exact .inl (by rw [h]; rfl); exact .inr ⟨p.1, zmN.2 ⟨p, h1, rfl⟩, h2⟩))
 ·exact aw kn (zfF _ _ _ _ _ _ _ _ ys q.his _ W hy (by omega) sh (hq.his) (by have := hp.1; have := hp.2.1; omega) (fun s hs => by obtain ⟨p, aX, rfl⟩ := zmN.1 hs; exact zft (hw.his p aX) (hp.2.2.1 p aX)))
 ·exact aw kn (zfG _ _ _ _ _ _ _ _ ys q.his _ W hy (by omega) sh (hq.his) (by have := hp.1; have := hp.2.1; omega) (fun s hs => by obtain ⟨p, aX, rfl⟩ := zmN.1 hs; exact zft (hw.his p aX) (hp.2.2.1 p aX)))
theorem read_all {k : Nat} (hk : K10 k) {u q : Prt} (hu : Rt k u) (hw : q.Wide) (hp : Rt k q) (h2 : k = 2 -> u.smp.length = 0) : zcI k (enc10 k q) u (rd10 k u q) := by
 rcases hk with rfl | rfl | rfl | rfl | rfl | rfl | rfl | rfl | rfl | rfl
 ·exact bh_ser u (fun p hp => (hu.2.2 p hp).wide) (by have := hu.1; have := hu.2.1; omega) (q.ser.map Prod.fst) (fun s hs => by obtain ⟨p, aX, rfl⟩ := zmN.1 hs; exact SerR.ok ⟨(hw.ser p aX).1, (hp.2.2 p aX).wide⟩) (by rw [zmF]; have := hp.1; have := hp.2.1; omega)
 ·exact bh_smp u (h2 rfl) q.smp hw.smp (by have := hp.1; have := hp.2; omega)
 ·exact bh_sto u (by have := hu.1; have := hu.2.1; omega) (fun p hp => by have := hu.2.2 p hp; omega) (q.sto.map Prod.fst) (fun s hs => by obtain ⟨p, aX, rfl⟩ := zmN.1 hs; exact ⟨(hw.sto p aX).1, (hw.sto p aX).2.2⟩) (by rw [zmF]; have := hp.1; have := hp.2.1; omega) (fun s hs => by obtain ⟨p, aX, rfl⟩ := zmN.1 hs; have := hp.2.2 p aX; omega)
 ·exact bh_exm u (fun p hp => (hu.2.2 p hp).wide) (by have := hu.1; have := hu.2.1; omega) (q.exm.map Prod.fst) (fun s hs => by obtain ⟨p, aX, rfl⟩ := zmN.1 hs; exact ExmR.ok ⟨(hw.exm p aX).1, (hp.2.2 p aX).wide⟩) (by rw [zmF]; have := hp.1; have := hp.2.1; omega)
 ·exact bh_mrk u (by have := hu.1; have := hu.2; omega) q.mrk hw.mrk (by have := hp.1; have := hp.2; omega)
 ·exact bh_mta u (by have := hu.1; have := hu.2.1; omega) q.mta (fun s hs => by have := hp.2.2 s hs; exact ⟨(hw.mta s hs).1, by omega, by omega⟩) (by have := hp.1; have := hp.2.1; omega)
 ·exact bh_hsW 7 (by decide) u (by have := hu.1; have := hu.2.1; omega) hu.2.2.1 (fun s => !zaV s) (q.his.map Prod.fst) (fun s hs => by obtain ⟨p, aX, rfl⟩ := zmN.1 hs; exact zft (hw.his p aX) (hp.2.2.1 p aX)) (by rw [zmF]; have := hp.1; have := hp.2.1; omega) (fun s hs => by obtain ⟨p, aX, rfl⟩ := zmN.1 hs; exact hp.2.2.1 p aX)
 ·exact bh_hsF 8 (by decide) u (by have := hu.1; have := hu.2.1; omega) hu.2.2.1 (fun s => !zaV s) (q.his.map Prod.fst) (fun s hs => by obtain ⟨p, aX, rfl⟩ := zmN.1 hs; exact zft (hw.his p aX) (hp.2.2.1 p aX)) (by rw [zmF]; have := hp.1; have := hp.2.1; omega) (fun s hs => by obtain ⟨p, aX, rfl⟩ := zmN.1 hs; exact hp.2.2.1 p aX)
 ·exact bh_hsW 9 (by decide) u (by have := hu.1; have := hu.2.1; omega) hu.2.2.1 (fun _ => true) (q.his.map Prod.fst) (fun s hs => by obtain ⟨p, aX, rfl⟩ := zmN.1 hs; exact zft (hw.his p aX) (hp.2.2.1 p aX)) (by rw [zmF]; have := hp.1; have := hp.2.1; omega) (fun s hs => by obtain ⟨p, aX, rfl⟩ := zmN.1 hs; exact hp.2.2.1 p aX)
 ·exact bh_hsF 10 (by decide) u (by have := hu.1; have := hu.2.1; omega) hu.2.2.1 (fun _ => true) (q.his.map Prod.fst) (fun s hs => by obtain ⟨p, aX, rfl⟩ := zmN.1 hs; exact zft (hw.his p aX) (hp.2.2.1 p aX)) (by rw [zmF]; have := hp.1; have := hp.2.1; omega) (fun s hs => by obtain ⟨p, aX, rfl⟩ := zmN.1 hs; exact hp.2.2.1 p aX)
theorem same_all {k : Nat} (hk : K10 k) {u q : Prt} (hu : Rt k u) (hp : Rt k q) (h2 : k = 2 -> u.smp.length = 0) : SameD (rd10 k u q) (u.dat.cat (wrD k q.dat)) /\ SmallD (rd10 k u q) /\ SmallD (u.dat.cat (wrD k q.dat)) := by
 have h := same_rd hk hu hp h2; have hc := small_cat (k := k) (zgg hk hu) (zgg hk hp) (wrD_few (ziF hk hu) (ziF hk hp) (zgg hk hp).sto); exact ⟨h, zld h hc, hc⟩
end Go.Proofs.YtbkookiigkckdaaGreatDoor
