/- Texts of this seat, merged and shortened: Fx, Rd, Rs, Rm, By, H13, Fm, Fs, H14, Lw. -/
import Derived.Test.YtbkookiigkckdaaGreatDoorK01
import Derived.Test.YtbkookiigkckdaaGreatDoorK04
import Derived.Test.YtbkookiigkckdaaGreatDoorK06
import Derived.Test.YtbkookiigkckdaaGreatDoorK07
import Derived.Test.YtbkookiigkckdaaGreatDoorRows
import Derived.Test.YtbkookiigkckdaaGreatDoorTie
import Derived.Test.YtbkookiigkckdaaGreatDoorCards
import Derived.ChangeSame
import Derived.ChangeVars
import Derived.JoinedOf
import Derived.ProofKit
import Derived.LaidMore
import Derived.OpenShut
import Derived.Stop.Joined
import Derived.Stop.LaidErr
import Derived.LaidLaws
import Derived.SevenTiedAt
import Derived.Lib.EndianZ
import Derived.ChangeSlices
import Derived.ChangeOld
import Derived.Below
import Derived.Deep.SlicePairs
set_option linter.unusedVariables false
set_option linter.unusedSimpArgs false
set_option maxRecDepth 100000
set_option maxHeartbeats 8000000
namespace Go.Proofs.YtbkookiigkckdaaGreatDoor
open Go.RowKit
theorem zkC (P : Nat → Prop) (ref : Nat) (t : Int) (vv : Nat) (v : Value) (l : List Lab) (w : World) (h : Sl P w v 2 l.length (l.flatMap zbv)) (hs : zeW l) :
 Calls Tryz.prog 195 #[.agg #[.int .u64 ref, .int .i64 t, .int .u64 vv, v]] w (zau (zeg l) w) := by
 have hC := zgV P v l (w.alloc (.cells #[.int .u64 ref, .int .i64 t, .int .u64 vv, v] 159)) (h.fr ((zlW (fun _ => False) w).alloc _) (fun _ _ e => e)) hs.1 hs.2; obtain ⟨A, c, rfl, _, _, _⟩ := h; go_enter Tryz.func195, Tryz.ntmps195; go_wp2_with (go_at_call 21; refine hC.mono ?_; rintro r w1 ⟨b, rfl, hb, hf1⟩; refine Hid.out ?_)
 have HF := zk7 (((zlW (fun _ => False) w).alloc (.cells #[.int .u64 ref, .int .i64 t, .int .u64 vv, .slice A l.length c] 159)).same hf1); have HB := zk7 hb; clear hf1 hb hC; rcases b with _ | _
 ·refine zk7 ?_
  go_wp2; go_ret; exact ⟨false, rfl, HB.out, HF.out⟩
 ·refine zk7 ?_
  go_wp2; go_ret; exact ⟨true, rfl, ⟨fun _ => HB.out.1 (by trivial), fun _ => rfl⟩, HF.out⟩
theorem zkD (P : Nat → Prop) (v : Value) (lv : List (Exm × Value)) (w : World) (h : SlX P w v lv) (hl : lv.length ≤ 9223372036854775807) (hs : ∀ p ∈ lv, zeW p.1.labs) :
 Calls Tryz.prog 108 #[v] w (zau (lv.length ≤ 2147483647 ∧ ∀ p ∈ lv, zeg p.1.labs) w) := by
 have HS := zk7 h; obtain ⟨⟨A, c, rfl, _, hc, hr⟩, _⟩ := h; obtain ⟨n, hn⟩ : ∃ n, lv.length = n := ⟨_, rfl⟩; rw [hn] at hr hc hl HS ⊢; have HN := zk7 hn; have HI := zk7 hs; clear hn hr hs; by_cases hbig : 2147483647 < n
 ·have hbig' : (2147483647 : Int) < n := by omega
  go_enter Tryz.func108, Tryz.ntmps108; go_wp2; go_ret; exact ⟨false, rfl, ⟨fun h => (by cases h), fun h => absurd h.1 (by omega)⟩, zlW _ _⟩
 ·have hbig' : ¬ (2147483647 : Int) < n := by omega
  go_enter Tryz.func108, Tryz.ntmps108; go_wp2; go_loopw [10] (fun vi wr => ∃ k : Nat, k ≤ n ∧ vi = .int .i64 k ∧ Hid (∀ j p, j < k → lv[j]? = some p → zeg p.1.labs) ∧ Hid (Fr (fun _ => False) w wr)) (fun vi _ => n - (intOf vi).toNat)
  case atStart => exact ⟨0, zli _, rfl, zk7 (fun j p h => absurd h (zlS _)), zk7 (zlW _ _)⟩
  case round =>
   obtain ⟨k, hk, rfl, RG, RF⟩ := hrel; by_cases hlt : k < n
   ·have hS := HS.out.fr RF.out (fun _ _ e => e)
    have hiv := hS.2; obtain ⟨⟨A', c', e2, _, hc', hr⟩, _⟩ := hS; injection e2 with e2 e2n e2c; obtain ⟨g, off, rfl, _, hcell⟩ := hr (by have := HN.out; omega); obtain ⟨x, hx⟩ : ∃ x, lv[k]? = some x := ⟨_, zk9 (by rw [HN.out]; exact hlt)⟩; have hxm := zlf hx
    have q0 : wr.cell? ⟨g, off + k * 4, none⟩ = some (.int .u64 x.1.ref) := by simpa using hcell (k * 4 + 0) _ (by rw [zd1 exc (fun _ => rfl) lv k x hx 0 (by omega)]; rfl)
    have q1 : wr.cell? ⟨g, off + k * 4 + 1, none⟩ = some (.int .i64 x.1.t) := hcell (k * 4 + 1) _ (by rw [zd1 exc (fun _ => rfl) lv k x hx 1 (by omega)]; rfl); have q2 : wr.cell? ⟨g, off + k * 4 + 2, none⟩ = some (.int .u64 x.1.v) := hcell (k * 4 + 2) _ (by rw [zd1 exc (fun _ => rfl) lv k x hx 2 (by omega)]; rfl)
    have q3 : wr.cell? ⟨g, off + k * 4 + 3, none⟩ = some x.2 := hcell (k * 4 + 3) _ (by rw [zd1 exc (fun _ => rfl) lv k x hx 3 (by omega)]; rfl); have hivx := hiv x hxm; have hil := HI.out x hxm; have HXM := zk7 hxm; have HX := zk7 hx; clear hiv hx hxm; obtain ⟨⟨ref, t, vv, labs⟩, iv⟩ := x; simp only [] at q0 q1 q2 q3 hivx hil
    have hC := zkC P ref t vv iv labs (wr.alloc (.cells #[.int .u64 ref, .int .i64 t, .int .u64 vv, iv] 159)) (hivx.fr ((zlW (fun _ => False) wr).alloc _) (fun _ _ e => e)) hil; obtain ⟨Ai, ci, rfl, _, _, _⟩ := hivx; subst e2; clear hcell hr e2n e2c hil; go_wp2_with (go_at_call 195; refine hC.mono ?_; rintro r5 w5 ⟨b, rfl, hb5, hf5⟩; refine Hid.out ?_)
    have H5 := zk7 ((RF.out.alloc (.cells #[.int .u64 ref, .int .i64 t, .int .u64 vv, .slice Ai labs.length ci] 159)).same hf5); have HB5 := zk7 hb5; clear hf5 hb5 hC q0 q1 q2 q3; rcases b with _ | _
    ·refine zk7 ?_
     go_wp2; go_ret; exact ⟨false, rfl, ⟨fun h => (by cases h), fun h => absurd (HB5.out.2 (h.2 _ HXM.out)) (by decide)⟩, H5.out⟩
    ·refine zk7 ?_
     go_wp2; go_roundw
     case rel => exact ⟨k + 1, by omega, by go_num, zk7 (fun j p h h2 => by
      rcases zlA j k with h3 | h3
      ·exact RG.out j p h3 h2
      ·obtain rfl : j = k := by omega
       have h4 := h2.symm.trans HX.out; injection h4 with h4; rw [h4]
       exact HB5.out.1 rfl), H5⟩
     case measure => simp [intOf]; omega
   ·obtain rfl : k = n := by omega
    go_wp2; go_ret; refine ⟨true, rfl, ⟨fun _ => ⟨by omega, fun p hp => ?_⟩, fun _ => rfl⟩, RF.out⟩; obtain ⟨j, hj, e⟩ := List.getElem_of_mem hp; exact RG.out j p (by rw [← HN.out]; exact hj) (by rw [zk9 hj, e])
def zk4 (ps : Array Value) : Prop := ∃ A0 m0 c0 A1 m1 c1 A2 m2 c2 A3 m3 c3 A4 m4 c4 A5 m5 c5 A6 m6 c6, ps = #[.slice A0 m0 c0, .slice A1 m1 c1, .slice A2 m2 c2, .slice A3 m3 c3, .slice A4 m4 c4, .slice A5 m5 c5, .slice A6 m6 c6]
def nils : Array Value := #[.slice none 0 0, .slice none 0 0, .slice none 0 0, .slice none 0 0, .slice none 0 0, .slice none 0 0, .slice none 0 0]
def R1Ends (L : Array Value → World → Prop) (okb : Bool) (w : World) (bb bp bo : Nat) (r : Ending) (w' : World) : Prop :=
 r = .returned (.tuple #[]) ∧ Fr (fun k => k = bb ∨ k = bp ∨ k = bo) w w' ∧ Blk w' bo 4 #[.bool okb] ∧ ∃ ps, zk4 ps ∧ Blk w' bp 54 ps ∧ L ps w'
def ReadDone (L : Array Value → World → Prop) (okb : Bool) (w : World) (r : Ending) (w' : World) : Prop :=
 ∃ ps, r = .returned (.tuple #[.agg ps, .bool okb]) ∧ zk4 ps ∧ (okb = true → L ps w') ∧ (okb = false → ps = nils) ∧ Fr (fun _ => False) w w'
def ziN (W W' : World) : Prop := Fr (fun k => ∃ cs, Blk W k 4 cs ∨ Blk W k 54 cs) W W'
theorem laidR_mk (w : World) (kind bv : Value) (q : Array Value) :
 let W := ((((w.alloc (.cells #[kind] 3)).alloc (.cells #[bv] 44)).alloc (.cells q 54)).alloc (.cells nils 54)).alloc (.cells #[.bool false] 4)
 Blk W w.heap.size 3 #[kind] ∧ Blk W (w.heap.size + 1) 44 #[bv] ∧ Blk W (w.heap.size + 2) 54 q ∧ Blk W (w.heap.size + 3) 54 nils ∧ Blk W (w.heap.size + 4) 4 #[.bool false] ∧ Fr (fun _ => False) w W ∧ W.heap.size = w.heap.size + 5 := by
 intro W; have e : ∀ (w : World) (o : Obj), (w.alloc o).heap.size = w.heap.size + 1 := fun w o => by simp
 refine ⟨?_, ?_, ?_, ?_, ?_, ?_, ?_⟩
 ·exact ((((Blk.new w 3 _).alloc _).alloc _).alloc _).alloc _
 ·have := (((Blk.new (w.alloc (.cells #[kind] 3)) 44 #[bv]).alloc (.cells q 54)).alloc (.cells nils 54)).alloc (.cells #[.bool false] 4)
  rwa [e] at this
 ·have := ((Blk.new ((w.alloc (.cells #[kind] 3)).alloc (.cells #[bv] 44)) 54 q).alloc (.cells nils 54)).alloc (.cells #[.bool false] 4)
  rwa [e, e] at this
 ·have := (Blk.new (((w.alloc (.cells #[kind] 3)).alloc (.cells #[bv] 44)).alloc (.cells q 54)) 54 nils).alloc (.cells #[.bool false] 4)
  rwa [e, e, e] at this
 ·have := Blk.new ((((w.alloc (.cells #[kind] 3)).alloc (.cells #[bv] 44)).alloc (.cells q 54)).alloc (.cells nils 54)) 4 #[.bool false]
  rwa [e, e, e, e] at this
 ·exact (((((zlW _ w).alloc _).alloc _).alloc _).alloc _).alloc _
 ·simp [W]
theorem zj7 {w : World} {b : Nat} {t : TypeId} {a0 a1 a2 a3 a4 a5 a6 : Value} (u0 u1 u2 u3 u4 u5 u6 : Value) (h : Blk w b t #[a0, a1, a2, a3, a4, a5, a6]) :
 Blk (((((((w.setCell ⟨b, 0, none⟩ u0).setCell ⟨b, 1, none⟩ u1).setCell ⟨b, 2, none⟩ u2).setCell ⟨b, 3, none⟩ u3).setCell ⟨b, 4, none⟩ u4).setCell ⟨b, 5, none⟩ u5).setCell ⟨b, 6, none⟩ u6) b t #[u0, u1, u2, u3, u4, u5, u6] := by
 have := ((((((h.set_ 0 u0).set_ 1 u1).set_ 2 u2).set_ 3 u3).set_ 4 u4).set_ 5 u5).set_ 6 u6; simpa using this
theorem zhu {S : Nat → Prop} {w0 w : World} {b : Nat} (u0 u1 u2 u3 u4 u5 u6 : Value) (h : Fr S w0 w) (hb : S b ∨ w0.heap.size ≤ b) :
 Fr S w0 (((((((w.setCell ⟨b, 0, none⟩ u0).setCell ⟨b, 1, none⟩ u1).setCell ⟨b, 2, none⟩ u2).setCell ⟨b, 3, none⟩ u3).setCell ⟨b, 4, none⟩ u4).setCell ⟨b, 5, none⟩ u5).setCell ⟨b, 6, none⟩ u6) :=
 ((((((h.setCell (p := ⟨b, 0, none⟩) hb u0).setCell (p := ⟨b, 1, none⟩) hb u1).setCell (p := ⟨b, 2, none⟩) hb u2).setCell (p := ⟨b, 3, none⟩) hb u3).setCell (p := ⟨b, 4, none⟩) hb u4).setCell (p := ⟨b, 5, none⟩) hb u5).setCell (p := ⟨b, 6, none⟩) hb u6
theorem zbh (kind : Int) (q0 q1 q2 q3 q4 q5 q6 bv : Value) (xs : List UInt8) (P : Nat → Prop) (L : Array Value → World → Prop) (okb : Bool) (w : World) (hb : Sl P w bv 1 xs.length (bc xs))
 (hsl : ∀ s ∈ [q0, q1, q2, q3, q4, q5, q6], ∃ A m c, s = .slice A m c)
 (hL : ∀ ps W W', L ps W → ziN W W' → L ps W')
 (hc : ∀ (bb bk bq bp bo : Nat) (W : World), Blk W bk 3 #[.int .i64 kind] → Blk W bb 44 #[bv] → Blk W bq 54 #[q0, q1, q2, q3, q4, q5, q6] → Blk W bp 54 nils → Blk W bo 4 #[.bool false] → w.heap.size ≤ bb → w.heap.size ≤ bp → w.heap.size ≤ bo → bp ≠ bq → Fr (fun _ => False) w W →
   Calls Tryz.prog 66 #[.pointer (some ⟨bb, 0, none⟩), .pointer (some ⟨bk, 0, none⟩), .pointer (some ⟨bq, 0, none⟩), .pointer (some ⟨bp, 0, none⟩), .pointer (some ⟨bo, 0, none⟩)] W (R1Ends L okb W bb bp bo)) :
 Calls Tryz.prog 29 #[.int .i64 kind, bv, .agg #[q0, q1, q2, q3, q4, q5, q6]] w (ReadDone L okb w) := by
 have HB := zk7 hb; have HC := zk7 hc; have HL := zk7 hL; have hbv : ∃ A m c, bv = .slice A m c := let ⟨A, c, h, _⟩ := hb; ⟨A, _, c, h⟩
 obtain ⟨A, m, c, rfl⟩ := hbv; obtain ⟨A0, m0, c0, rfl⟩ := hsl q0 (by simp); obtain ⟨A1, m1, c1, rfl⟩ := hsl q1 (by simp); obtain ⟨A2, m2, c2, rfl⟩ := hsl q2 (by simp); obtain ⟨A3, m3, c3, rfl⟩ := hsl q3 (by simp); obtain ⟨A4, m4, c4, rfl⟩ := hsl q4 (by simp); obtain ⟨A5, m5, c5, rfl⟩ := hsl q5 (by simp); obtain ⟨A6, m6, c6, rfl⟩ := hsl q6 (by simp); clear hb hc hL hsl
 have hmf : ∀ (fn : Fn) (first cap : Array Value) (w : World), (Instr.makeFunc fn first cap).run Tryz.prog w = .ok (.func fn first cap) w := fun _ _ _ _ => rfl; go_enter Tryz.func29, Tryz.ntmps29; go_wp2_with (go_at_call 65; refine Hid.out ?_)
 have hM := laidR_mk w (.int .i64 kind) (.slice A m c) #[.slice A0 m0 c0, .slice A1 m1 c1, .slice A2 m2 c2, .slice A3 m3 c3, .slice A4 m4 c4, .slice A5 m5 c5, .slice A6 m6 c6]; dsimp only at hM; unfold nils at hM; generalize hW : World.alloc _ (Obj.cells #[.bool false] 4) = W at hM ⊢; obtain ⟨B0, B1, B2, B3, B4, hF, hS⟩ := hM; clear hW
 have hcall := HC.out (w.heap.size + 1) w.heap.size (w.heap.size + 1 + 1) (w.heap.size + 1 + 1 + 1) (w.heap.size + 1 + 1 + 1 + 1) _ (B0.alloc (.cells #[.bool false] 4)) (B1.alloc _) (B2.alloc _) (B3.alloc _) (B4.alloc _) (by omega) (by omega) (by omega) (by omega) (hF.alloc _)
 have hsafe := safe_ok 66 _ W _ (enters_of Tryz.func66 (by kernel_rfl) rfl) (hcall.mono (fun r w' hr => ⟨hr.1, hr.2, (Blk.new W 4 #[.bool false]).fr hr.2.1 (by
  rintro (h | h | h) <;> omega)⟩))
 have HF := zk7 hF; have HS := zk7 hS; clear hcall B0 B1 B2 B3 B4 hF hS HC HB; refine zk7 ?_; refine hsafe.mono ?_; rintro r w4 ⟨rfl, w5, hq, hb5, rfl⟩; obtain ⟨qF, qO, ps, qS, qP, qL⟩ := hq; obtain ⟨D0, n0, e0, D1, n1, e1, D2, n2, e2, D3, n3, e3, D4, n4, e4, D5, n5, e5, D6, n6, e6, rfl⟩ := qS; have hS := HS.out
 have r7 := (qO.far (p := ⟨W.heap.size, 0, none⟩) (by show w.heap.size + 1 + 1 + 1 + 1 ≠ W.heap.size; omega) (.bool true)).far (p := ⟨W.heap.size, 0, none⟩) (by show w.heap.size + 1 + 1 + 1 + 1 ≠ W.heap.size; omega) (.bool true)
 have r6 := (qP.far (p := ⟨W.heap.size, 0, none⟩) (by show w.heap.size + 1 + 1 + 1 ≠ W.heap.size; omega) (.bool true)).far (p := ⟨W.heap.size, 0, none⟩) (by show w.heap.size + 1 + 1 + 1 ≠ W.heap.size; omega) (.bool true); have v5 : ziN w5 ((w5.setCell ⟨W.heap.size, 0, none⟩ (.bool true)).setCell ⟨W.heap.size, 0, none⟩ (.bool true)) :=
  ((zlW _ w5).setCell (p := ⟨W.heap.size, 0, none⟩) (.inl ⟨_, .inl hb5⟩) _).setCell (p := ⟨W.heap.size, 0, none⟩) (.inl ⟨_, .inl hb5⟩) _
 have f5 : Fr (fun _ => False) w ((w5.setCell ⟨W.heap.size, 0, none⟩ (.bool true)).setCell ⟨W.heap.size, 0, none⟩ (.bool true)) := by
  have hle := HF.out.size; refine Fr.setCell (Fr.setCell ?_ (p := ⟨W.heap.size, 0, none⟩) (.inr hle) _) (p := ⟨W.heap.size, 0, none⟩) (.inr hle) _; refine (HF.out.alloc (.cells #[.bool false] 4)).trans qF ?_; rintro k hk (h | h | h) <;> omega
 have hL6 := HL.out _ _ _ qL v5; refine Hid.out ?_; clear qF qO qP qL hb5 hsafe hS; generalize World.setCell _ _ _ = w6 at r6 r7 v5 f5 hL6 ⊢; have l7 := r7.cell 0; have l60 := r6.cell 0; have l61 := r6.cell 1; have l62 := r6.cell 2; have l63 := r6.cell 3; have l64 := r6.cell 4; have l65 := r6.cell 5; have l66 := r6.cell 6; have z60 := r6.frozen 0; have z61 := r6.frozen 1; have z62 := r6.frozen 2
 have z63 := r6.frozen 3; have z64 := r6.frozen 4; have z65 := r6.frozen 5; have z66 := r6.frozen 6; have z7 := r7.frozen 0; simp at l7; simp only [zls, zlq, zlr] at l60 l61 l62 l63 l64 l65 l66; have R6 := zk7 r6; have R7 := zk7 r7; have F6 := zk7 f5; have HL6 := zk7 hL6; clear v5 f5 hL6; cases okb with
 | false =>
   refine zk7 ?_; go_wp2_with fail
   have g7 := (zj7 (.slice none 0 0) (.slice none 0 0) (.slice none 0 0) (.slice none 0 0) (.slice none 0 0) (.slice none 0 0) (.slice none 0 0) R6.out).far (p := ⟨w.heap.size + 1 + 1 + 1 + 1, 0, none⟩) (by show w.heap.size + 1 + 1 + 1 ≠ w.heap.size + 1 + 1 + 1 + 1; omega) (.bool false)
   have F7 := (zhu (.slice none 0 0) (.slice none 0 0) (.slice none 0 0) (.slice none 0 0) (.slice none 0 0) (.slice none 0 0) (.slice none 0 0) F6.out (b := w.heap.size + 1 + 1 + 1) (.inr (by omega))).setCell (p := ⟨w.heap.size + 1 + 1 + 1 + 1, 0, none⟩) (.inr (by show w.heap.size ≤ w.heap.size + 1 + 1 + 1 + 1; omega)) (.bool false)
   have V7 : ziN w6 _ := (zhu (.slice none 0 0) (.slice none 0 0) (.slice none 0 0) (.slice none 0 0) (.slice none 0 0) (.slice none 0 0) (.slice none 0 0) (zlW (fun k => ∃ cs, Blk w6 k 4 cs ∨ Blk w6 k 54 cs) w6) (b := w.heap.size + 1 + 1 + 1) (.inl ⟨_, .inr R6.out⟩)).setCell (p := ⟨w.heap.size + 1 + 1 + 1 + 1, 0, none⟩) (.inl ⟨_, .inl R7.out⟩) (.bool false)
   have o7 : (World.setCell (((((((w6.setCell ⟨w.heap.size + 1 + 1 + 1, 0, none⟩ (.slice none 0 0)).setCell ⟨w.heap.size + 1 + 1 + 1, 1, none⟩ (.slice none 0 0)).setCell ⟨w.heap.size + 1 + 1 + 1, 2, none⟩ (.slice none 0 0)).setCell ⟨w.heap.size + 1 + 1 + 1, 3, none⟩ (.slice none 0 0)).setCell ⟨w.heap.size + 1 + 1 + 1, 4, none⟩ (.slice none 0 0)).setCell ⟨w.heap.size + 1 + 1 + 1, 5, none⟩ (.slice none 0 0)).setCell ⟨w.heap.size + 1 + 1 + 1, 6, none⟩ (.slice none 0 0)) ⟨w.heap.size + 1 + 1 + 1 + 1, 0, none⟩ (.bool false)).cell? ⟨w.heap.size + 1 + 1 + 1 + 1, 0, none⟩ = some (.bool false) := by
    have h := R7.out; have e : ∀ i, w.heap.size + 1 + 1 + 1 + 1 ≠ (Addr.mk (w.heap.size + 1 + 1 + 1) i none).block := fun i => by show w.heap.size + 1 + 1 + 1 + 1 ≠ w.heap.size + 1 + 1 + 1; omega
    have h2 := ((((((((h.far (e 0) (.slice none 0 0)).far (e 1) (.slice none 0 0)).far (e 2) (.slice none 0 0)).far (e 3) (.slice none 0 0)).far (e 4) (.slice none 0 0)).far (e 5) (.slice none 0 0)).far (e 6) (.slice none 0 0)).set_ 0 (.bool false)).cell 0; simpa using h2
   generalize (World.setCell (World.setCell _ _ _) ⟨w.heap.size + 1 + 1 + 1 + 1, 0, none⟩ (.bool false)) = w7 at g7 F7 V7 o7 ⊢; have t0 := g7.cell 0; have t1 := g7.cell 1; have t2 := g7.cell 2; have t3 := g7.cell 3; have t4 := g7.cell 4; have t5 := g7.cell 5; have t6 := g7.cell 6; simp only [zls, zlq, zlr] at t0 t1 t2 t3 t4 t5 t6
   have HF7 := zk7 F7; have HV7 := zk7 V7; clear F7 V7 g7; simp [Exit.then, bodyPost, results, Tryz.results29, go_sem, t0, t1, t2, t3, t4, t5, t6, o7]; exact ⟨nils, rfl, ⟨_, _, _, _, _, _, _, _, _, _, _, _, _, _, _, _, _, _, _, _, _, rfl⟩, (fun h => by cases h), (fun _ => rfl), HF7.out⟩
 | true =>
   refine zk7 ?_; go_wp2_with fail
   have g7 := (zj7 (.slice D0 n0 e0) (.slice D1 n1 e1) (.slice D2 n2 e2) (.slice D3 n3 e3) (.slice D4 n4 e4) (.slice D5 n5 e5) (.slice D6 n6 e6) R6.out).far (p := ⟨w.heap.size + 1 + 1 + 1 + 1, 0, none⟩) (by show w.heap.size + 1 + 1 + 1 ≠ w.heap.size + 1 + 1 + 1 + 1; omega) (.bool true)
   have F7 := (zhu (.slice D0 n0 e0) (.slice D1 n1 e1) (.slice D2 n2 e2) (.slice D3 n3 e3) (.slice D4 n4 e4) (.slice D5 n5 e5) (.slice D6 n6 e6) F6.out (b := w.heap.size + 1 + 1 + 1) (.inr (by omega))).setCell (p := ⟨w.heap.size + 1 + 1 + 1 + 1, 0, none⟩) (.inr (by show w.heap.size ≤ w.heap.size + 1 + 1 + 1 + 1; omega)) (.bool true)
   have V7 : ziN w6 _ := (zhu (.slice D0 n0 e0) (.slice D1 n1 e1) (.slice D2 n2 e2) (.slice D3 n3 e3) (.slice D4 n4 e4) (.slice D5 n5 e5) (.slice D6 n6 e6) (zlW (fun k => ∃ cs, Blk w6 k 4 cs ∨ Blk w6 k 54 cs) w6) (b := w.heap.size + 1 + 1 + 1) (.inl ⟨_, .inr R6.out⟩)).setCell (p := ⟨w.heap.size + 1 + 1 + 1 + 1, 0, none⟩) (.inl ⟨_, .inl R7.out⟩) (.bool true)
   have o7 : (World.setCell (((((((w6.setCell ⟨w.heap.size + 1 + 1 + 1, 0, none⟩ (.slice D0 n0 e0)).setCell ⟨w.heap.size + 1 + 1 + 1, 1, none⟩ (.slice D1 n1 e1)).setCell ⟨w.heap.size + 1 + 1 + 1, 2, none⟩ (.slice D2 n2 e2)).setCell ⟨w.heap.size + 1 + 1 + 1, 3, none⟩ (.slice D3 n3 e3)).setCell ⟨w.heap.size + 1 + 1 + 1, 4, none⟩ (.slice D4 n4 e4)).setCell ⟨w.heap.size + 1 + 1 + 1, 5, none⟩ (.slice D5 n5 e5)).setCell ⟨w.heap.size + 1 + 1 + 1, 6, none⟩ (.slice D6 n6 e6)) ⟨w.heap.size + 1 + 1 + 1 + 1, 0, none⟩ (.bool true)).cell? ⟨w.heap.size + 1 + 1 + 1 + 1, 0, none⟩ = some (.bool true) := by
    have h := R7.out; have e : ∀ i, w.heap.size + 1 + 1 + 1 + 1 ≠ (Addr.mk (w.heap.size + 1 + 1 + 1) i none).block := fun i => by show w.heap.size + 1 + 1 + 1 + 1 ≠ w.heap.size + 1 + 1 + 1; omega
    have h2 := ((((((((h.far (e 0) (.slice D0 n0 e0)).far (e 1) (.slice D1 n1 e1)).far (e 2) (.slice D2 n2 e2)).far (e 3) (.slice D3 n3 e3)).far (e 4) (.slice D4 n4 e4)).far (e 5) (.slice D5 n5 e5)).far (e 6) (.slice D6 n6 e6)).set_ 0 (.bool true)).cell 0; simpa using h2
   generalize (World.setCell (World.setCell _ _ _) ⟨w.heap.size + 1 + 1 + 1 + 1, 0, none⟩ (.bool true)) = w7 at g7 F7 V7 o7 ⊢; have t0 := g7.cell 0; have t1 := g7.cell 1; have t2 := g7.cell 2; have t3 := g7.cell 3; have t4 := g7.cell 4; have t5 := g7.cell 5; have t6 := g7.cell 6; simp only [zls, zlq, zlr] at t0 t1 t2 t3 t4 t5 t6
   have HF7 := zk7 F7; have HV7 := zk7 V7; clear F7 V7 g7; simp [Exit.then, bodyPost, results, Tryz.results29, go_sem, t0, t1, t2, t3, t4, t5, t6, o7]; exact ⟨_, rfl, ⟨_, _, _, _, _, _, _, _, _, _, _, _, _, _, _, _, _, _, _, _, _, rfl⟩, (fun _ => HL.out _ _ _ HL6.out HV7.out), (fun h => by cases h), HF7.out⟩
def SmpParts (base : Nat) (l : List Smp) (ps : Array Value) (w : World) : Prop :=
 ∃ lv, ps = #[.slice none 0 0, lv, .slice none 0 0, .slice none 0 0, .slice none 0 0, .slice none 0 0, .slice none 0 0] ∧ w.ownsRow base 113 3 lv l.length (l.flatMap Smp.a)
theorem seven_of {lv : Value} (h : ∃ A m c, lv = .slice A m c) : zk4 #[.slice none 0 0, lv, .slice none 0 0, .slice none 0 0, .slice none 0 0, .slice none 0 0, .slice none 0 0] := by
 obtain ⟨A, m, c, rfl⟩ := h; exact ⟨_, _, _, _, _, _, _, _, _, _, _, _, _, _, _, _, _, _, _, _, _, rfl⟩
theorem zda (te : TypeId) (pe : Value) (q0 q1 q2 q3 q4 q5 q6 bv : Value) (xs : List UInt8) (P : Nat → Prop) (w : World) (hb : Sl P w bv 1 xs.length (bc xs)) (hxl : xs.length ≤ 1073741824) (hP : ∀ g, P g → g < w.heap.size)
 (hsl : ∀ s ∈ [q0, q1, q2, q3, q4, q5, q6], ∃ A m c, s = .slice A m c) (hs : Sl P w q1 3 0 []) (hE : w.cell? ⟨2, 0, none⟩ = some (.iface te pe)) :
 Calls Tryz.prog 29 #[.int .i64 2, bv, .agg #[q0, q1, q2, q3, q4, q5, q6]] w (ReadDone (SmpParts w.heap.size ((zal xs).getD [])) (zal xs).isSome w) := by
 have h2 := zle w _ hE; refine zbh 2 q0 q1 q2 q3 q4 q5 q6 bv xs P _ _ w hb hsl ?_ ?_
 ·rintro ps W W' ⟨lv, rfl, ho⟩ hv
  refine ⟨lv, rfl, zah ho hv ?_⟩; rintro g hg ⟨cs, h | h⟩
  ·exact zak ho h (by decide) hg
  ·exact zak ho h (by decide) hg
 ·intro bb bk bq bp bo W hk hb' hq hp ho hbb hbp hbo hpq hF
  have hEW : W.cell? ⟨2, 0, none⟩ = some (.iface te pe) := by rw [hF.cell (p := ⟨2, 0, none⟩) h2 (fun e => e)]; exact hE
  refine (zhi te pe bb bk bq bp bo P q0 q1 q2 q3 q4 q5 q6 bv xs W hb' (hb.fr hF (fun _ _ e => e)) hk hq (hs.fr hF (fun _ _ e => e)) hp ho hEW hxl (fun g hg e => by have := hP g hg; omega) hpq (by simp only [] at h2; omega)).mono ?_; rintro r w' ⟨rfl, hf, hbo', lv, hbp', hown⟩; have hz := hF.size; obtain ⟨a, c, hlv⟩ := zaa hown
  exact ⟨rfl, hf, hbo', _, seven_of ⟨_, _, _, hlv⟩, hbp', lv, rfl, zai hown hz⟩
def aliveS : List Smp := [⟨1, 2, 3⟩]
theorem ziM : ∀ s ∈ aliveS, s.wf := by
 intro s hs; simp only [aliveS, zlO] at hs; subst hs; exact ⟨by decide, by decide, by decide, by decide⟩
theorem zk3 : zal (zaD aliveS) = some aliveS := dec_enc _ ziM
theorem zfQ (te : TypeId) (pe : Value) (w : World) (hE : w.cell? ⟨2, 0, none⟩ = some (.iface te pe)) : Calls Tryz.prog 28 #[] w (zbE w) := by
 have HE := zk7 hE; clear hE; go_enter Tryz.func28, Tryz.ntmps28; go_wp2_with fail
 have hX := (Blk.new w 113 #[.int .u64 1, .int .i64 2, .int .u64 3]).alloc (.cells #[.slice none 0 0, .slice (some ⟨w.heap.size, 0, none⟩) 1 1, .slice none 0 0, .slice none 0 0, .slice none 0 0, .slice none 0 0, .slice none 0 0] 54)
 have hY := za6 w (.cells #[.int .u64 1, .int .i64 2, .int .u64 3] 113) 54 #[.slice none 0 0, .slice (some ⟨w.heap.size, 0, none⟩) 1 1, .slice none 0 0, .slice none 0 0, .slice none 0 0, .slice none 0 0, .slice none 0 0]
 have hF0 : Fr (fun _ => False) w ((w.alloc (.cells #[.int .u64 1, .int .i64 2, .int .u64 3] 113)).alloc (.cells #[.slice none 0 0, .slice (some ⟨w.heap.size, 0, none⟩) 1 1, .slice none 0 0, .slice none 0 0, .slice none 0 0, .slice none 0 0, .slice none 0 0] 54)) := ((zlW _ w).alloc _).alloc _
 generalize World.alloc _ (Obj.cells #[.slice none 0 0, .slice (some ⟨w.heap.size, 0, none⟩) 1 1, .slice none 0 0, .slice none 0 0, .slice none 0 0, .slice none 0 0, .slice none 0 0] 54) = W at hX hY hF0 ⊢; have hsl1 : Sl (fun g => g = w.heap.size) W (.slice (some ⟨w.heap.size, 0, none⟩) 1 1) 3 aliveS.length (aliveS.flatMap Smp.a) := by
  refine ⟨_, _, rfl, rfl, zlj _, fun _ => ⟨_, 0, rfl, rfl, fun j u hu => ?_⟩⟩; rw [zlC, hX.cell, ← hu, ← zls]; rfl
 have hnil : ∀ (P : Nat → Prop) (W : World) (s : Nat), Sl P W (.slice none 0 0) s 0 [] := fun P W s => ⟨_, _, rfl, by simp, zlj _, fun h => absurd h (by omega)⟩
 have hC1 := zcZ (.slice none 0 0) (.slice (some ⟨w.heap.size, 0, none⟩) 1 1) (.slice none 0 0) (.slice none 0 0) (.slice none 0 0) (.slice none 0 0) (.slice none 0 0) (.slice none 0 0) [] aliveS (fun g => g = w.heap.size) W (hnil _ _ _) (by simp) (by
  intro s hs; simp only [zlL, List.mem_nil_iff, or_false] at hs
  rcases hs with rfl | rfl | rfl | rfl | rfl | rfl | rfl <;> exact ⟨_, _, _, rfl⟩) hsl1 (by decide) ziM
 rw [zlJ] at hC1; have HSL1 := zk7 hsl1; have HY := zk7 hY; have HF0 := zk7 hF0; have HNIL := zk7 hnil; have hWl := hF0.size; have hXl := hX.lt; clear hsl1 hX hY hF0 hnil; refine hC1.mono ?_; rintro r w1 ⟨v1, lv1, rfl, rfl, hown1, hf1⟩; clear hC1; obtain ⟨b1, k1, rfl⟩ := zaa hown1; have hE1 : w1.cell? ⟨2, 0, none⟩ = some (.iface te pe) := by
  have h2 := zle w _ HE.out; rw [(HF0.out.same hf1).cell (p := ⟨2, 0, none⟩) h2 (fun e => e)]; exact HE.out
 have hlen : (zaD aliveS).length ≤ 200 := by
  have h1 := zdK (zbk ⟨1, 2, 3⟩) 28 (ze2 _) aliveS; have h2 : (zaD aliveS).length = 1 + (16 + (aliveS.flatMap (zbk ⟨1, 2, 3⟩)).length) := by
   show ([2] ++ (zdx ⟨1, 2, 3⟩ ++ aliveS.flatMap (zbk ⟨1, 2, 3⟩))).length = _; rw [zk8, zk8]; simp only [zdx, zk8, zlh, zlo]
  rw [h2]; have : aliveS.length = 1 := rfl; omega
 have hS1 := Sl.ofOwn hown1
 have hC2 := zda te pe (.slice none 0 0) (.slice none 0 0) (.slice none 0 0) (.slice none 0 0) (.slice none 0 0) (.slice none 0 0) (.slice none 0 0) _ (zaD aliveS) _ w1 hS1 (by omega) (fun g hg => zav hown1 hg) (by
  intro s hs; simp only [zlL, List.mem_nil_iff, or_false] at hs
  rcases hs with rfl | rfl | rfl | rfl | rfl | rfl | rfl <;> exact ⟨_, _, _, rfl⟩) (HNIL.out (fun g => (Value.slice b1 (zaD aliveS).length k1).ownBlock = some g) w1 3) hE1
 rw [zk3] at hC2; have HS1 := zk7 hS1; have F1 := zk7 hf1; have HO1 := zk7 hown1; have hty : zcj (zaD aliveS) = 2 := rfl; have HTY := zk7 hty; clear hE1 hS1 hf1 hown1 hty; generalize zaD aliveS = xs at hC2 HS1 HO1 hlen HTY ⊢; have hw1 := F1.out.size; go_wp2_with (go_at_call 29; refine hC2.mono ?_; rintro r w2 ⟨ps, rfl, hps, hL, _, hf2⟩; refine Hid.out ?_)
 obtain ⟨lv, rfl, hown2⟩ := hL rfl; clear hL hps hC2; obtain ⟨b2, k2, rfl⟩ := zaa hown2; have hw2 := hf2.size; have F2 := zk7 hf2; have HO2 := zk7 hown2; clear hf2 hown2; refine zk7 ?_
 have hS2 : Sl (fun g => (Value.slice b1 xs.length k1).ownBlock = some g) (w2.alloc (.cells #[.slice none 0 0, .slice b2 aliveS.length k2, .slice none 0 0, .slice none 0 0, .slice none 0 0, .slice none 0 0, .slice none 0 0] 54)) (.slice b1 xs.length k1) 1 xs.length (bc xs) := HS1.out.fr (F2.out.alloc _) (fun _ _ e => e); have hC3 := zgr _ _ xs _ hS2; rw [HTY.out] at hC3; clear hS2
 go_wp2_with (go_at_call 42; refine hC3.mono ?_; rintro r w3 ⟨v3, rfl, rfl, hf3⟩; refine Hid.out ?_)
 have F12 := HF0.out.same (F1.out.same F2.out); have F23 : Fr (fun _ => False) w2 w3 := ((zlW _ w2).alloc _).same hf3; have B3 : Blk w3 w2.heap.size 54 #[.slice none 0 0, .slice b2 aliveS.length k2, .slice none 0 0, .slice none 0 0, .slice none 0 0, .slice none 0 0, .slice none 0 0] := (Blk.new w2 54 _).fr hf3 (fun e => e); have A3 := HY.out.fr ((F1.out.same F2.out).same F23) (fun e => e)
 have F3 := F12.same F23; have x0 := A3.cell 0; have x1 := A3.cell 1; have x2 := A3.cell 2; have x3 := A3.cell 3; have x4 := A3.cell 4; have x5 := A3.cell 5; have x6 := A3.cell 6; have y0 := B3.cell 0; have y1 := B3.cell 1; have y2 := B3.cell 2; have y3 := B3.cell 3; have y4 := B3.cell 4; have y5 := B3.cell 5; have y6 := B3.cell 6
 simp only [zls, zlq, zlr] at x0 x1 x2 x3 x4 x5 x6 y0 y1 y2 y3 y4 y5 y6
 have hC4 := zhU none none none none 0 0 0 0 (.slice (some ⟨w.heap.size, 0, none⟩) 1 1) (.slice none 0 0) (.slice none 0 0) (.slice none 0 0) (.slice none 0 0) (.slice b2 aliveS.length k2) (.slice none 0 0) (.slice none 0 0) (.slice none 0 0) (.slice none 0 0) w3 (by
  intro s hs; simp only [zlL, List.mem_nil_iff, or_false] at hs
  rcases hs with rfl | rfl | rfl | rfl | rfl | rfl | rfl | rfl | rfl | rfl <;> exact ⟨_, _, _, rfl⟩)
  (fun W' hW' => zjd _ _ _ _ aliveS W' (HSL1.out.fr (((F1.out.same F2.out).same F23).same hW') (fun _ _ e => e)) ((Sl.ofOwn HO2.out).fr (F23.same hW') (fun _ _ e => e)) (by decide))
  (fun W' _ => zjc _ _ _ _ W') (fun W' _ => zjb _ _ _ _ W') (fun W' _ => zja _ _ _ _ W') (fun W' _ => zkg _ _ _ _ W')
 have HB3 := zk7 B3; have HF3 := zk7 F3; have hal : aliveS.length = 1 := rfl; rw [hal] at y1 hC4 HB3 ⊢; clear B3 A3 F3 F12 F23 hf3 hC3 HS1 HO2 HSL1 HY HF0 F1 F2 HO1 HNIL; refine zk7 ?_
 go_wp2_with (go_at_call 32; refine hC4.mono ?_; rintro r w4 ⟨rfl, hf4⟩; have y1' := (HB3.out.fr hf4 (fun e => e)).cell 1; simp only [zls, zlq, zlr] at y1')
 go_ret; exact ⟨rfl, HF3.out.same hf4⟩
end Go.Proofs.YtbkookiigkckdaaGreatDoor
namespace Go.Proofs.YtbkookiigkckdaaGreatDoor
open Go Go.ChangeShapes Go.WideShapes Go.ChangeAt Go.RowKit
theorem ownKnobs : ownKnob Tryz.prog.godebug = none := by kernel_rfl
theorem gErr : Tryz.prog.globalNamed "pub-quillon/pub/prometheus/tsdb/encoding.ErrInvalidSize" = some 2 := by kernel_rfl
theorem gErrType : (Tryz.prog.globals[2]?).map (·.type) = some 92 := by kernel_rfl
theorem cells356 : Tryz.prog.cellsOf 356 = 1 := by kernel_rfl
theorem cells9 : Tryz.prog.cellsOf 9 = 1 := by kernel_rfl
theorem starred : "*" ++ "errors.errorString" = "*errors.errorString" := by decide
theorem row354 (u : TypeId) (h : Tryz.prog.typeName? 3 u = some "*errors.errorString") : u = 354 :=
 typeName_ptr_named (nm := "errors.errorString") (by rw [starred]; kernel_rfl) (by kernel_rfl) (by decide) u (by rw [starred]; exact h)
theorem errCell {W : World} (h : laidMetH Tryz.prog [("pub-quillon/pub/prometheus/tsdb/encoding.ErrInvalidSize", Rows.laid_pub_quillon_pub_prometheus_tsdb_encoding_ErrInvalidSize)] W) : ∃ te pe, W.cell? ⟨2, 0, none⟩ = some (.iface te pe) := by
 rw [MakeChecks.laidMetH_plain _ _ _ (by kernel_rfl)] at h; obtain ⟨a0, s0, hv0, _⟩ := laid_sentinel h gErr gErrType Tryz.underlying92 row354 Tryz.underlying354 Tryz.underlying356 rfl rfl Tryz.underlying9 cells356 cells9; exact ⟨_, _, by simpa using World.var?_cell gErr hv0 0⟩
theorem door_met (os : Os) (args : Array Value) : laidMetH Tryz.prog [("pub-quillon/pub/prometheus/tsdb/encoding.ErrInvalidSize", Rows.laid_pub_quillon_pub_prometheus_tsdb_encoding_ErrInvalidSize)] ((World.doorLaid Tryz.prog 400 os).forCall (fun _ _ => 0) ⟨#[], args, []⟩).memory :=
 laidMetH_of_parts3 (fuel := 8) (laidMet_of_run' 8 (by kernel_rfl) (by kernel_rfl)) (by kernel_rfl) (by kernel_rfl)
theorem u8_wf {z : Int} (h : (Lit.int .u8 z).wf = true) : (0 : Int) ≤ z ∧ z ≤ 255 := by
 simp only [Lit.wf, Bool.and_eq_true, decide_eq_true_eq] at h; exact h
theorem zkl : laidOutB Tryz.prog = true := by kernel_rfl
section
variable {H : Type} {enc : TypeId × Value → H} {W : World}
def Old (W : World) (g : Nat) : Prop := g < W.heap.size
abbrev zbp (enc : TypeId × Value → H) (W : World) (fuel : Nat) (t : TypeId) (cs : List Value) (x : DataW H × List MemPlace) : Prop := DataW.trod enc Tryz.prog W 0 (fun _ => true) true fuel t cs = some x
theorem flatMem {α : Type} (m : Nat) (f : α → List Value) : ∀ (l : List α), (∀ x ∈ l, (f x).length = m) → ∀ (k : Nat) (x : α), l[k]? = some x → ∀ j, j < m → (l.flatMap f)[k * m + j]? = (f x)[j]?
 | [], h3, k, x, h, j, hj => by simp at h
 | y :: l, h3, 0, x, h, j, hj => by
   simp at h; subst h; rw [zlm, zlT (by rw [h3 _ (List.mem_cons_self ..)]; omega)]; simp
 | y :: l, h3, k + 1, x, h, j, hj => by
   have e0 := h3 y (List.mem_cons_self ..); have e : (k + 1) * m + j - m = k * m + j := by rw [Nat.succ_mul]; omega
   rw [zlm, zlU (by rw [e0, Nat.succ_mul]; omega), e0, e]; exact flatMem m f l (fun z hz => h3 z (List.mem_cons_of_mem _ hz)) k x (by simpa using h) j hj
theorem zf5 {α : Type} (m : Nat) (f : α → List Value) : ∀ (l : List α), (∀ x ∈ l, (f x).length = m) → (l.flatMap f).length = l.length * m
 | [], _ => by simp
 | y :: l, h3 => by
   rw [zlm, zk8, h3 _ (List.mem_cons_self ..), zf5 m f l (fun z hz => h3 z (List.mem_cons_of_mem _ hz)), zlp, Nat.succ_mul]; omega
theorem zhK (g off k : Nat) : (⟨g, off, none⟩ : Addr).add k = ⟨g, off + k, none⟩ := by unfold Addr.add; split <;> simp_all
theorem zce {α : Type} {t e m : Nat} (f : α → List Value) (Q : α → Prop) (ht : Tryz.prog.underlying t = some (.slice e)) (ce : Tryz.prog.cellsOf e = m) (hm0 : 0 < m) {fuel : Nat} {cs : List Value} {x : DataW H × List MemPlace}
 (h : zbp enc W fuel t cs x) (hR : ∀ (fuel : Nat) (cs : List Value) (x : DataW H × List MemPlace), zbp enc W fuel e cs x → cs.length = m → ∃ a, cs = f a ∧ Q a) :
 ∃ (A : Option Addr) (len cap : Nat) (l : List α), cs = [.slice A len cap] ∧ l.length = len ∧ len ≤ maxLen ∧ (∀ a ∈ l, Q a) ∧ Sl (Old W) W (.slice A len cap) m l.length (l.flatMap f) := by
 rcases Go.Deep.open_slice ht h with ⟨rfl, _⟩ | ⟨a, len, cap, mm, n, D, Pl, rfl, hb, hl, hmx, hmm, _, hx⟩
 ·exact ⟨none, 0, 0, [], rfl, rfl, zli _, (fun q hq => by cases hq), _, _, rfl, by simp, zlj _, fun h => absurd h (zlR _)⟩
 ·have hmc : mm = cap := by simpa using hmm
  subst hmc; have hs : ∀ i, i < len → ∃ q : α, (∀ j, j < m → W.cell? ((a.add (i * m)).add j) = (f q)[j]?) ∧ (f q).length = m ∧ Q q := fun i hi => by
   obtain ⟨cs', h1, h2⟩ := hx i (by omega); rw [ce] at h1; obtain ⟨_, hlen, hcell⟩ := World.cells?_some h1; obtain ⟨q, rfl, hq⟩ := hR _ _ _ h2 hlen; exact ⟨q, fun j hj => hcell j hj, hlen, hq⟩
  rcases zlu len with rfl | hlp
  ·exact ⟨some a, 0, mm, [], rfl, rfl, zli _, (fun q hq => by cases hq), _, _, rfl, by simp, zli _, fun h => absurd h (zlR _)⟩
  haveI : Inhabited α := ⟨(hs 0 hlp).choose⟩
  obtain ⟨q, hq⟩ := Go.Deep.choose_lt hs; have hlen : ((List.range len).map q).length = len := by simp
  have hall : ∀ z ∈ (List.range len).map q, (f z).length = m := fun z hz => by
   obtain ⟨i, hi, rfl⟩ := List.mem_map.mp hz; exact (hq i (List.mem_range.mp hi)).2.1
  refine ⟨some a, len, mm, (List.range len).map q, rfl, hlen, by omega, fun z hz => ?_, ?_⟩
  ·obtain ⟨i, hi, rfl⟩ := List.mem_map.mp hz
   exact (hq i (List.mem_range.mp hi)).2.2
  ·rw [hlen]
   have hfl := zf5 m f _ hall; rw [hlen] at hfl; refine ⟨_, _, rfl, hfl, hl, fun h0 => ?_⟩; obtain ⟨c0, l0, _⟩ := hq 0 h0; have c0 := c0 0 hm0; rw [zk9 (by omega)] at c0; have hspot : a.spot = none := by simpa [Addr.add] using World.cell?_spot c0
   obtain ⟨g, off, sp⟩ := a; obtain rfl : sp = none := hspot; rw [zhK, zhK] at c0; refine ⟨g, off, rfl, zle W _ c0, fun j u hu => ?_⟩; have hj : j < len * m := by
    rcases zlA j (len * m) with h | h
    ·exact h
    ·rw [zlB (by rw [hfl]; exact h)] at hu; cases hu
   have hk : j / m < len := (Nat.div_lt_iff_lt_mul hm0).2 hj; have hr : j % m < m := Nat.mod_lt _ hm0; have hx2 : ((List.range len).map q)[j / m]? = some (q (j / m)) := by rw [zlH, List.getElem?_range hk]; rfl
   have h2 := flatMem m f _ hall (j / m) _ hx2 (j % m) hr; have e1 : j / m * m + j % m = j := by rw [Nat.mul_comm]; exact Nat.div_add_mod j m
   rw [e1, hu] at h2; have h3 := (hq (j / m) hk).1 (j % m) hr; rw [zhK, zhK, ← h2, Nat.add_assoc, e1] at h3; exact h3
theorem zj5 {fs : Array Field} {xs : List (DataW H × List MemPlace)} {n : Nat} {cs : List Value} (hf : ∀ (i : Nat) (f : Field), fs[i]? = some f → DataW.trod enc Tryz.prog W 0 (fun _ => true) true n f.type ((cs.drop f.offset).take (Tryz.prog.cellsOf f.type)) = xs[i]?)
 (hl : xs.length = fs.size) (i : Nat) (f : Field) (hi : fs[i]? = some f) : ∃ y, zbp enc W n f.type ((cs.drop f.offset).take (Tryz.prog.cellsOf f.type)) y := by
 have : i < xs.length := by rw [hl]; exact (Array.getElem?_eq_some_iff.1 hi).1
 exact ⟨xs[i], (hf i f hi).trans (zk9 this)⟩
theorem take_one {cs : List Value} {o : Nat} {v : Value} (h : cs[o]? = some v) : (cs.drop o).take 1 = [v] := by
 rw [List.take_one, List.head?_drop, h]; rfl
theorem zbG {e : TypeId} {fs : Array Field} (ht : Tryz.prog.underlying e = some (.struct fs)) {fuel : Nat} {cs : List Value} {x : DataW H × List MemPlace} (h : zbp enc W fuel e cs x) :
 ∃ n, (∀ (i : Nat) (f : Field), fs[i]? = some f → ∃ y, zbp enc W n f.type ((cs.drop f.offset).take (Tryz.prog.cellsOf f.type)) y) ∧
  (∀ (i : Nat) (f : Field) (v : Value), fs[i]? = some f → Tryz.prog.cellsOf f.type = 1 → cs[f.offset]? = some v → ∃ y, zbp enc W n f.type [v] y) := by
 obtain ⟨xs, n, rfl, rfl, hlen, hxl, hf⟩ := DataW.trod_struct ht h; refine ⟨n, fun i f hi => zj5 hf hxl i f hi, fun i f v hi hc hv => ?_⟩; obtain ⟨y, hy⟩ := zj5 hf hxl i f hi; rw [hc, take_one hv] at hy; exact ⟨y, hy⟩
theorem zjL : Tryz.prog.cellsOf 111 = 1 := by kernel_rfl
theorem c2_ : Tryz.prog.cellsOf 2 = 1 := by kernel_rfl
theorem c5_ : Tryz.prog.cellsOf 5 = 1 := by kernel_rfl
theorem c21 : Tryz.prog.cellsOf 21 = 1 := by kernel_rfl
theorem c317 : Tryz.prog.cellsOf 317 = 1 := by kernel_rfl
theorem c9_ : Tryz.prog.cellsOf 9 = 1 := by kernel_rfl
theorem c31 : Tryz.prog.cellsOf 31 = 1 := by kernel_rfl
theorem c148 : Tryz.prog.cellsOf 148 = 1 := by kernel_rfl
theorem c188 : Tryz.prog.cellsOf 188 = 1 := by kernel_rfl
theorem c189 : Tryz.prog.cellsOf 189 = 1 := by kernel_rfl
theorem c190 : Tryz.prog.cellsOf 190 = 1 := by kernel_rfl
theorem zc2 {n : Nat} {v : Value} {y : DataW H × List MemPlace} (h : zbp enc W n 111 [v] y) : ∃ k : Nat, v = .int .u64 k ∧ k < 18446744073709551616 := by
 obtain ⟨z, e, _, hw⟩ := DataW.trod_int Tryz.underlying111 h; injection e with e _; simp only [Lit.wf, Bool.and_eq_true, decide_eq_true_eq] at hw; have h0 : (0 : Int) ≤ z ∧ z ≤ 18446744073709551615 := hw; exact ⟨z.toNat, by rw [e, Int.toNat_of_nonneg h0.1], by omega⟩
theorem zgK {n : Nat} {v : Value} {y : DataW H × List MemPlace} (h : zbp enc W n 2 [v] y) : ∃ z : Int, v = .int .i64 z ∧ -9223372036854775808 ≤ z ∧ z ≤ 9223372036854775807 := by
 obtain ⟨z, e, _, hw⟩ := DataW.trod_int Tryz.underlying2 h; injection e with e _; simp only [Lit.wf, Bool.and_eq_true, decide_eq_true_eq] at hw; have h0 : (-9223372036854775808 : Int) ≤ z ∧ z ≤ 9223372036854775807 := hw; exact ⟨z, e, h0⟩
theorem rd_i32 {n : Nat} {v : Value} {y : DataW H × List MemPlace} (h : zbp enc W n 21 [v] y) : ∃ z : Int, v = .int .i32 z ∧ -2147483648 ≤ z ∧ z ≤ 2147483647 := by
 obtain ⟨z, e, _, hw⟩ := DataW.trod_int Tryz.underlying21 h; injection e with e _; simp only [Lit.wf, Bool.and_eq_true, decide_eq_true_eq] at hw; have h0 : (-2147483648 : Int) ≤ z ∧ z ≤ 2147483647 := hw; exact ⟨z, e, h0⟩
theorem rd_u32 {n : Nat} {v : Value} {y : DataW H × List MemPlace} (h : zbp enc W n 317 [v] y) : ∃ k : Nat, v = .int .u32 k ∧ k < 4294967296 := by
 obtain ⟨z, e, _, hw⟩ := DataW.trod_int Tryz.underlying317 h; injection e with e _; simp only [Lit.wf, Bool.and_eq_true, decide_eq_true_eq] at hw; have h0 : (0 : Int) ≤ z ∧ z ≤ 4294967295 := hw; exact ⟨z.toNat, by rw [e, Int.toNat_of_nonneg h0.1], by omega⟩
theorem rd_u8 {n : Nat} {v : Value} {y : DataW H × List MemPlace} (h : zbp enc W n 5 [v] y) : ∃ c : UInt8, v = .int .u8 c.toNat := by
 obtain ⟨z, e, _, hw⟩ := DataW.trod_int Tryz.underlying5 h; injection e with e _; have h0 := u8_wf hw; exact ⟨Lib.byteOf z, by rw [e, Lib.byteOf_toNat h0]⟩
theorem zjS {n : Nat} {v : Value} {y : DataW H × List MemPlace} (h : zbp enc W n 9 [v] y) : ∃ s : ByteArray, v = .string s ∧ s.size ≤ maxLen := by
 obtain ⟨s, e, _, hw⟩ := DataW.trod_string Tryz.underlying9 h; injection e with e _; exact ⟨s, e, hw⟩
theorem zkk {cs : List Value} (h : cs.length = 2) : ∃ a b, cs = [a, b] := by
 match cs, h with
 | [a, b], _ => exact ⟨a, b, rfl⟩
theorem list3 {cs : List Value} (h : cs.length = 3) : ∃ a b c, cs = [a, b, c] := by
 match cs, h with
 | [a, b, c], _ => exact ⟨a, b, c, rfl⟩
theorem list4 {cs : List Value} (h : cs.length = 4) : ∃ a b c d, cs = [a, b, c, d] := by
 match cs, h with
 | [a, b, c, d], _ => exact ⟨a, b, c, d, rfl⟩
theorem in_labs {n : Nat} {v : Value} {y : DataW H × List MemPlace} (h : zbp enc W n 31 [v] y) : ∃ l : List Lab, l.length ≤ maxLen ∧ (∀ p ∈ l, p.1.size ≤ maxLen ∧ p.2.size ≤ maxLen) ∧ Sl (Old W) W v 2 l.length (l.flatMap zbv) := by
 obtain ⟨A, len, cap, l, e, hl, hm, hq, hs⟩ := zce zbv (fun p => p.1.size ≤ maxLen ∧ p.2.size ≤ maxLen) Tryz.underlying31 (m := 2) (by kernel_rfl) (by decide) h (fun fuel cs x hx hlen => by
  obtain ⟨a, b, rfl⟩ := zkk hlen; obtain ⟨n, _, hf⟩ := zbG Tryz.underlying40 hx; obtain ⟨y0, h0⟩ := hf 0 _ a rfl c9_ rfl; obtain ⟨y1, h1⟩ := hf 1 _ b rfl c9_ rfl; obtain ⟨s0, rfl, w0⟩ := zjS h0; obtain ⟨s1, rfl, w1⟩ := zjS h1
  exact ⟨(s0, s1), rfl, w0, w1⟩)
 injection e with e _; subst e; exact ⟨l, by omega, hq, hs⟩
theorem in_ivs {n : Nat} {v : Value} {y : DataW H × List MemPlace} (h : zbp enc W n 148 [v] y) : ∃ l : List (Int × Int), l.length ≤ maxLen ∧ (∀ p ∈ l, (-9223372036854775808 ≤ p.1 ∧ p.1 ≤ 9223372036854775807) ∧ -9223372036854775808 ≤ p.2 ∧ p.2 ≤ 9223372036854775807) ∧ Sl (Old W) W v 2 l.length (l.flatMap ivc) := by
 obtain ⟨A, len, cap, l, e, hl, hm, hq, hs⟩ := zce ivc (fun p => (-9223372036854775808 ≤ p.1 ∧ p.1 ≤ 9223372036854775807) ∧ -9223372036854775808 ≤ p.2 ∧ p.2 ≤ 9223372036854775807) Tryz.underlying148 (m := 2) (by kernel_rfl) (by decide) h (fun fuel cs x hx hlen => by
  obtain ⟨a, b, rfl⟩ := zkk hlen; obtain ⟨n, _, hf⟩ := zbG Tryz.underlying281 hx; obtain ⟨y0, h0⟩ := hf 0 _ a rfl c2_ rfl; obtain ⟨y1, h1⟩ := hf 1 _ b rfl c2_ rfl; obtain ⟨s0, rfl, w0⟩ := zgK h0; obtain ⟨s1, rfl, w1⟩ := zgK h1
  exact ⟨(s0, s1), rfl, w0, w1⟩)
 injection e with e _; subst e; exact ⟨l, by omega, hq, hs⟩
theorem zj2 {n : Nat} {v : Value} {y : DataW H × List MemPlace} (h : zbp enc W n 188 [v] y) : ∃ l : List (Int × Nat), l.length ≤ maxLen ∧ (∀ p ∈ l, -2147483648 ≤ p.1 ∧ p.1 ≤ 2147483647 ∧ p.2 < 4294967296) ∧ Sl (Old W) W v 2 l.length (l.flatMap spc) := by
 obtain ⟨A, len, cap, l, e, hl, hm, hq, hs⟩ := zce spc (fun p => -2147483648 ≤ p.1 ∧ p.1 ≤ 2147483647 ∧ p.2 < 4294967296) Tryz.underlying188 (m := 2) (by kernel_rfl) (by decide) h (fun fuel cs x hx hlen => by
  obtain ⟨a, b, rfl⟩ := zkk hlen; obtain ⟨n, _, hf⟩ := zbG Tryz.underlying319 hx; obtain ⟨y0, h0⟩ := hf 0 _ a rfl c21 rfl; obtain ⟨y1, h1⟩ := hf 1 _ b rfl c317 rfl; obtain ⟨s0, rfl, w0⟩ := rd_i32 h0; obtain ⟨s1, rfl, w1⟩ := rd_u32 h1
  exact ⟨(s0, s1), rfl, w0.1, w0.2, w1⟩)
 injection e with e _; subst e; exact ⟨l, by omega, hq, hs⟩
theorem in_ints {n : Nat} {v : Value} {y : DataW H × List MemPlace} (h : zbp enc W n 189 [v] y) : ∃ l : List Int, l.length ≤ maxLen ∧ (∀ p ∈ l, -9223372036854775808 ≤ p ∧ p ≤ 9223372036854775807) ∧ Sl (Old W) W v 1 l.length (l.flatMap i1) := by
 obtain ⟨A, len, cap, l, e, hl, hm, hq, hs⟩ := zce i1 (fun p => -9223372036854775808 ≤ p ∧ p ≤ 9223372036854775807) Tryz.underlying189 c2_ (by decide) h (fun fuel cs x hx hlen => by
  match cs, hlen with
  | [a], _ =>
    obtain ⟨z, rfl, w⟩ := zgK hx
    exact ⟨z, rfl, w⟩)
 injection e with e _; subst e; exact ⟨l, by omega, hq, hs⟩
theorem zjm {n : Nat} {v : Value} {y : DataW H × List MemPlace} (h : zbp enc W n 190 [v] y) : ∃ l : List Nat, l.length ≤ maxLen ∧ (∀ p ∈ l, p < 18446744073709551616) ∧ Sl (Old W) W v 1 l.length (l.flatMap u1) := by
 obtain ⟨A, len, cap, l, e, hl, hm, hq, hs⟩ := zce u1 (fun p => p < 18446744073709551616) Tryz.underlying190 zjL (by decide) h (fun fuel cs x hx hlen => by
  match cs, hlen with
  | [a], _ =>
    obtain ⟨z, rfl, w⟩ := zc2 hx
    exact ⟨z, rfl, w⟩)
 injection e with e _; subst e; exact ⟨l, by omega, hq, hs⟩
theorem in_series {n : Nat} {v : Value} {y : DataW H × List MemPlace} (h : zbp enc W n 46 [v] y) : ∃ lv : List (Ser × Value), lv.length ≤ maxLen ∧ (∀ p ∈ lv, p.1.ref < 18446744073709551616 ∧ p.1.labs.length ≤ maxLen ∧ ∀ q ∈ p.1.labs, q.1.size ≤ maxLen ∧ q.2.size ≤ maxLen) ∧ SlR (Old W) W v lv := by
 obtain ⟨A, len, cap, l, e, hl, hm, hq, hs⟩ := zce zi6 (fun p => (p.1.ref < 18446744073709551616 ∧ p.1.labs.length ≤ maxLen ∧ ∀ q ∈ p.1.labs, q.1.size ≤ maxLen ∧ q.2.size ≤ maxLen) ∧ Sl (Old W) W p.2 2 p.1.labs.length (p.1.labs.flatMap zbv)) Tryz.underlying46 (m := 2) (by kernel_rfl) (by decide) h (fun fuel cs x hx hlen => by
  obtain ⟨a, b, rfl⟩ := zkk hlen; obtain ⟨n, _, hf⟩ := zbG Tryz.underlying130 hx; obtain ⟨y0, h0⟩ := hf 0 _ a rfl zjL rfl; obtain ⟨y1, h1⟩ := hf 1 _ b rfl c31 rfl; obtain ⟨k, rfl, w0⟩ := zc2 h0; obtain ⟨l, w1, w2, w3⟩ := in_labs h1
  exact ⟨(⟨k, l⟩, b), rfl, ⟨w0, w1, w2⟩, w3⟩)
 injection e with e _; subst e; exact ⟨l, by omega, fun p hp => (hq p hp).1, hs, fun p hp => (hq p hp).2⟩
theorem zkm {n : Nat} {v : Value} {y : DataW H × List MemPlace} (h : zbp enc W n 47 [v] y) : ∃ l : List Smp, l.length ≤ maxLen ∧ (∀ p ∈ l, p.wf) ∧ Sl (Old W) W v 3 l.length (l.flatMap Smp.a) := by
 obtain ⟨A, len, cap, l, e, hl, hm, hq, hs⟩ := zce Smp.a Smp.wf Tryz.underlying47 (m := 3) (by kernel_rfl) (by decide) h (fun fuel cs x hx hlen => by
  obtain ⟨a, b, c, rfl⟩ := list3 hlen; obtain ⟨n, _, hf⟩ := zbG Tryz.underlying113 hx; obtain ⟨y0, h0⟩ := hf 0 _ a rfl zjL rfl; obtain ⟨y1, h1⟩ := hf 1 _ b rfl c2_ rfl; obtain ⟨y2, h2⟩ := hf 2 _ c rfl zjL rfl; obtain ⟨k, rfl, w0⟩ := zc2 h0; obtain ⟨z, rfl, w1⟩ := zgK h1; obtain ⟨q, rfl, w2⟩ := zc2 h2
  exact ⟨⟨k, z, q⟩, rfl, w0, w1.1, w1.2, w2⟩)
 injection e with e _; subst e; exact ⟨l, by omega, hq, hs⟩
theorem in_stones {n : Nat} {v : Value} {y : DataW H × List MemPlace} (h : zbp enc W n 48 [v] y) : ∃ lv : List (Ston × Value), lv.length ≤ maxLen ∧ (∀ p ∈ lv, p.1.ref < 18446744073709551616 ∧ p.1.ivs.length ≤ maxLen ∧ ∀ q ∈ p.1.ivs, (-9223372036854775808 ≤ q.1 ∧ q.1 ≤ 9223372036854775807) ∧ -9223372036854775808 ≤ q.2 ∧ q.2 ≤ 9223372036854775807) ∧ SlS (Old W) W v lv := by
 obtain ⟨A, len, cap, l, e, hl, hm, hq, hs⟩ := zce stc (fun p => (p.1.ref < 18446744073709551616 ∧ p.1.ivs.length ≤ maxLen ∧ ∀ q ∈ p.1.ivs, (-9223372036854775808 ≤ q.1 ∧ q.1 ≤ 9223372036854775807) ∧ -9223372036854775808 ≤ q.2 ∧ q.2 ≤ 9223372036854775807) ∧ Sl (Old W) W p.2 2 p.1.ivs.length (p.1.ivs.flatMap ivc)) Tryz.underlying48 (m := 2) (by kernel_rfl) (by decide) h (fun fuel cs x hx hlen => by
  obtain ⟨a, b, rfl⟩ := zkk hlen; obtain ⟨n, _, hf⟩ := zbG Tryz.underlying151 hx; obtain ⟨y0, h0⟩ := hf 0 _ a rfl zjL rfl; obtain ⟨y1, h1⟩ := hf 1 _ b rfl c148 rfl; obtain ⟨k, rfl, w0⟩ := zc2 h0; obtain ⟨l, w1, w2, w3⟩ := in_ivs h1
  exact ⟨(⟨k, l⟩, b), rfl, ⟨w0, w1, w2⟩, w3⟩)
 injection e with e _; subst e; exact ⟨l, by omega, fun p hp => (hq p hp).1, hs, fun p hp => (hq p hp).2⟩
theorem zh7 {n : Nat} {v : Value} {y : DataW H × List MemPlace} (h : zbp enc W n 49 [v] y) : ∃ lv : List (Exm × Value), lv.length ≤ maxLen ∧ (∀ p ∈ lv, (p.1.ref < 18446744073709551616 ∧ -9223372036854775808 ≤ p.1.t ∧ p.1.t ≤ 9223372036854775807 ∧ p.1.v < 18446744073709551616) ∧ p.1.labs.length ≤ maxLen ∧ ∀ q ∈ p.1.labs, q.1.size ≤ maxLen ∧ q.2.size ≤ maxLen) ∧ SlX (Old W) W v lv := by
 obtain ⟨A, len, cap, l, e, hl, hm, hq, hs⟩ := zce exc (fun p => ((p.1.ref < 18446744073709551616 ∧ -9223372036854775808 ≤ p.1.t ∧ p.1.t ≤ 9223372036854775807 ∧ p.1.v < 18446744073709551616) ∧ p.1.labs.length ≤ maxLen ∧ ∀ q ∈ p.1.labs, q.1.size ≤ maxLen ∧ q.2.size ≤ maxLen) ∧ Sl (Old W) W p.2 2 p.1.labs.length (p.1.labs.flatMap zbv)) Tryz.underlying49 (m := 4) (by kernel_rfl) (by decide) h (fun fuel cs x hx hlen => by
  obtain ⟨a, b, c, d, rfl⟩ := list4 hlen; obtain ⟨n, _, hf⟩ := zbG Tryz.underlying159 hx; obtain ⟨y0, h0⟩ := hf 0 _ a rfl zjL rfl; obtain ⟨y1, h1⟩ := hf 1 _ b rfl c2_ rfl; obtain ⟨y2, h2⟩ := hf 2 _ c rfl zjL rfl; obtain ⟨y3, h3⟩ := hf 3 _ d rfl c31 rfl; obtain ⟨k, rfl, w0⟩ := zc2 h0; obtain ⟨z, rfl, w1⟩ := zgK h1; obtain ⟨q, rfl, w2⟩ := zc2 h2; obtain ⟨l, w3, w4, w5⟩ := in_labs h3
  exact ⟨(⟨k, z, q, l⟩, d), rfl, ⟨⟨w0, w1.1, w1.2, w2⟩, w3, w4⟩, w5⟩)
 injection e with e _; subst e; exact ⟨l, by omega, fun p hp => (hq p hp).1, hs, fun p hp => (hq p hp).2⟩
theorem zjn {n : Nat} {v : Value} {y : DataW H × List MemPlace} (h : zbp enc W n 50 [v] y) : ∃ l : List Mta, l.length ≤ maxLen ∧ (∀ p ∈ l, p.ref < 18446744073709551616 ∧ p.unit.size ≤ maxLen ∧ p.help.size ≤ maxLen) ∧ Sl (Old W) W v 4 l.length (l.flatMap Mta.c) := by
 obtain ⟨A, len, cap, l, e, hl, hm, hq, hs⟩ := zce Mta.c (fun p => p.ref < 18446744073709551616 ∧ p.unit.size ≤ maxLen ∧ p.help.size ≤ maxLen) Tryz.underlying50 (m := 4) (by kernel_rfl) (by decide) h (fun fuel cs x hx hlen => by
  obtain ⟨a, b, c, d, rfl⟩ := list4 hlen; obtain ⟨n, _, hf⟩ := zbG Tryz.underlying176 hx; obtain ⟨y0, h0⟩ := hf 0 _ a rfl zjL rfl; obtain ⟨y1, h1⟩ := hf 1 _ b rfl c5_ rfl; obtain ⟨y2, h2⟩ := hf 2 _ c rfl c9_ rfl; obtain ⟨y3, h3⟩ := hf 3 _ d rfl c9_ rfl; obtain ⟨k, rfl, w0⟩ := zc2 h0; obtain ⟨z, rfl⟩ := rd_u8 h1; obtain ⟨s, rfl, w2⟩ := zjS h2; obtain ⟨t, rfl, w3⟩ := zjS h3
  exact ⟨⟨k, z, s, t⟩, rfl, w0, w2, w3⟩)
 injection e with e _; subst e; exact ⟨l, by omega, hq, hs⟩
theorem zkn {n : Nat} {v : Value} {y : DataW H × List MemPlace} (h : zbp enc W n 51 [v] y) : ∃ l : List Mrk, l.length ≤ maxLen ∧ (∀ p ∈ l, p.wf) ∧ Sl (Old W) W v 2 l.length (l.flatMap Mrk.c) := by
 obtain ⟨A, len, cap, l, e, hl, hm, hq, hs⟩ := zce Mrk.c Mrk.wf Tryz.underlying51 (m := 2) (by kernel_rfl) (by decide) h (fun fuel cs x hx hlen => by
  obtain ⟨a, b, rfl⟩ := zkk hlen; obtain ⟨n, _, hf⟩ := zbG Tryz.underlying168 hx; obtain ⟨y0, h0⟩ := hf 0 _ a rfl zjL rfl; obtain ⟨y1, h1⟩ := hf 1 _ b rfl zjL rfl; obtain ⟨k, rfl, w0⟩ := zc2 h0; obtain ⟨z, rfl, w1⟩ := zc2 h1
  exact ⟨⟨k, z⟩, rfl, w0, w1⟩)
 injection e with e _; subst e; exact ⟨l, by omega, hq, hs⟩
structure Hst.wide (h : Hst) : Prop where
 few : h.few maxLen
 s0 : -2147483648 ≤ h.schema
 s1 : h.schema ≤ 2147483647
 thr : h.thr < 18446744073709551616
 sum : h.sum < 18446744073709551616
 zc : h.zc < 18446744073709551616
 cnt : h.cnt < 18446744073709551616
 pos : ∀ p ∈ h.pos, -2147483648 ≤ p.1 ∧ p.1 ≤ 2147483647 ∧ p.2 < 4294967296
 neg : ∀ p ∈ h.neg, -2147483648 ≤ p.1 ∧ p.1 ≤ 2147483647 ∧ p.2 < 4294967296
 ups : ∀ x ∈ h.ups, -9223372036854775808 ≤ x ∧ x ≤ 9223372036854775807
 downs : ∀ x ∈ h.downs, -9223372036854775808 ≤ x ∧ x ≤ 9223372036854775807
 fups : ∀ x ∈ h.fups, x < 18446744073709551616
 fdowns : ∀ x ∈ h.fdowns, x < 18446744073709551616
 cus : ∀ x ∈ h.cus, x < 18446744073709551616
theorem Hst.wide.ok {h : Hst} (k : h.wide) (hf : h.few 60) : h.ok := ⟨hf, k.s0, k.s1, k.thr, k.sum, k.zc, k.cnt, k.pos, k.neg, k.ups, k.downs, k.fups, k.fdowns, k.cus⟩
theorem in_hist {n : Nat} {cs : List Value} {y : DataW H × List MemPlace} (h : zbp enc W n 192 cs y) (hlen : cs.length = 13) : ∃ (x : Hst) (s : Hsl), cs = hic x s ∧ x.wide ∧ SlHs (Old W) W x s := by
 obtain ⟨n, _, hf⟩ := zbG Tryz.underlying192 h
 match cs, hlen with
 | [a0, a1, a2, a3, a4, a5, a6, a7, a8, a9, a10, a11, a12], _ =>
   obtain ⟨y0, h0⟩ := hf 0 _ a0 rfl c5_ rfl; obtain ⟨y1, h1⟩ := hf 1 _ a1 rfl c21 rfl; obtain ⟨y2, h2⟩ := hf 2 _ a2 rfl zjL rfl; obtain ⟨y3, h3⟩ := hf 3 _ a3 rfl zjL rfl; obtain ⟨y4, h4⟩ := hf 4 _ a4 rfl zjL rfl; obtain ⟨y5, h5⟩ := hf 5 _ a5 rfl zjL rfl; obtain ⟨y6, h6⟩ := hf 6 _ a6 rfl c188 rfl; obtain ⟨y7, h7⟩ := hf 7 _ a7 rfl c188 rfl; obtain ⟨y8, h8⟩ := hf 8 _ a8 rfl c189 rfl
   obtain ⟨y9, h9⟩ := hf 9 _ a9 rfl c189 rfl; obtain ⟨y10, h10⟩ := hf 10 _ a10 rfl c190 rfl; obtain ⟨y11, h11⟩ := hf 11 _ a11 rfl c190 rfl; obtain ⟨y12, h12⟩ := hf 12 _ a12 rfl c190 rfl; obtain ⟨k0, rfl⟩ := rd_u8 h0; obtain ⟨k1, rfl, w1⟩ := rd_i32 h1; obtain ⟨k2, rfl, w2⟩ := zc2 h2; obtain ⟨k3, rfl, w3⟩ := zc2 h3; obtain ⟨k4, rfl, w4⟩ := zc2 h4; obtain ⟨k5, rfl, w5⟩ := zc2 h5
   obtain ⟨l6, m6, w6, s6⟩ := zj2 h6; obtain ⟨l7, m7, w7, s7⟩ := zj2 h7; obtain ⟨l8, m8, w8, s8⟩ := in_ints h8; obtain ⟨l9, m9, w9, s9⟩ := in_ints h9; obtain ⟨l10, m10, w10, s10⟩ := zjm h10; obtain ⟨l11, m11, w11, s11⟩ := zjm h11; obtain ⟨l12, m12, w12, s12⟩ := zjm h12
   exact ⟨⟨k0, k1, k2, k3, k4, k5, l6, l7, l8, l9, l10, l11, l12⟩, ⟨a6, a7, a8, a9, a10, a11, a12⟩, rfl, ⟨⟨m6, m7, m8, m9, m10, m11, m12⟩, w1.1, w1.2, w2, w3, w4, w5, w6, w7, w8, w9, w10, w11, w12⟩, s6, s7, s8, s9, s10, s11, s12⟩
theorem zhr {n : Nat} {v : Value} {y : DataW H × List MemPlace} (h : zbp enc W n 52 [v] y) : ∃ lv : List (Rhs × Hsl), lv.length ≤ maxLen ∧ (∀ p ∈ lv, (p.1.ref < 18446744073709551616 ∧ -9223372036854775808 ≤ p.1.t ∧ p.1.t ≤ 9223372036854775807) ∧ p.1.h.wide) ∧ SlH (Old W) W v lv := by
 obtain ⟨A, len, cap, l, e, hl, hm, hq, hs⟩ := zce hsc (fun p => ((p.1.ref < 18446744073709551616 ∧ -9223372036854775808 ≤ p.1.t ∧ p.1.t ≤ 9223372036854775807) ∧ p.1.h.wide) ∧ SlHs (Old W) W p.1.h p.2) Tryz.underlying52 (m := 15) (by kernel_rfl) (by decide) h (fun fuel cs x hx hlen => by
  obtain ⟨n, hg, hf⟩ := zbG Tryz.underlying194 hx
  match cs, hlen with
  | a :: b :: r, hlen =>
    obtain ⟨y0, h0⟩ := hf 0 _ a rfl zjL rfl; obtain ⟨y1, h1⟩ := hf 1 _ b rfl c2_ rfl; obtain ⟨y2, h2⟩ := hg 2 _ rfl; have hr : r.length = 13 := by simpa using hlen
    have h2 : zbp enc W n 192 (((a :: b :: r).drop 2).take (Tryz.prog.cellsOf 192)) y2 := h2; rw [show Tryz.prog.cellsOf 192 = 13 by kernel_rfl] at h2; have hd : ((a :: b :: r).drop 2).take 13 = r := by rw [List.drop_succ_cons, List.drop_succ_cons, List.drop_zero, zlg (by omega)]
    have h3 : zbp enc W n 192 r y2 := by rw [← hd]; exact h2
    obtain ⟨k, rfl, w0⟩ := zc2 h0; obtain ⟨z, rfl, w1⟩ := zgK h1; obtain ⟨x, s, rfl, w2, w3⟩ := in_hist h3 hr
    exact ⟨(⟨k, z, x⟩, s), rfl, ⟨⟨w0, w1⟩, w2⟩, w3⟩)
 injection e with e _; subst e; exact ⟨l, by omega, fun p hp => (hq p hp).1, hs, fun p hp => (hq p hp).2⟩
end
end Go.Proofs.YtbkookiigkckdaaGreatDoor
namespace Go.Proofs.YtbkookiigkckdaaGreatDoor
open Go.RowKit
def MFit (x : Mta) : Prop := x.unit.size ≤ 2147483647 ∧ x.help.size ≤ 2147483647
def MSmall (x : Mta) : Prop := x.unit.size ≤ 9223372036854775807 ∧ x.help.size ≤ 9223372036854775807
theorem zkA (x : Mta) (w : World) (hs : MSmall x) :
 Calls Tryz.prog 196 #[.agg #[.int .u64 x.ref, .int .u8 x.ty.toNat, .string x.unit, .string x.help]] w (zau (MFit x) w) := by
 obtain ⟨hs1, hs2⟩ := hs; by_cases hb : 2147483647 < x.unit.size
 ·have hb' : (2147483647 : Int) < (x.unit.size : Int) := by omega
  go_enter Tryz.func196, Tryz.ntmps196; go_wp2; go_ret; exact ⟨false, rfl, ⟨fun h => (by cases h), fun h => absurd hb (by have := h.1; omega)⟩, (zlW _ w).alloc _⟩
 ·have hb' : ¬ (2147483647 : Int) < (x.unit.size : Int) := by omega
  by_cases hd : 2147483647 < x.help.size
  ·have hd' : (2147483647 : Int) < (x.help.size : Int) := by omega
   go_enter Tryz.func196, Tryz.ntmps196; go_wp2; go_ret; exact ⟨false, rfl, ⟨fun h => (by cases h), fun h => absurd hd (by have := h.2; omega)⟩, (zlW _ w).alloc _⟩
  ·have hd' : ¬ (2147483647 : Int) < (x.help.size : Int) := by omega
   go_enter Tryz.func196, Tryz.ntmps196; go_wp2; go_ret; exact ⟨true, rfl, ⟨fun _ => ⟨by omega, by omega⟩, fun _ => rfl⟩, (zlW _ w).alloc _⟩
theorem zkB (P : Nat → Prop) (v : Value) (lv : List Mta) (w : World) (h : Sl P w v 4 lv.length (lv.flatMap Mta.c)) (hl : lv.length ≤ 9223372036854775807) (hs : ∀ p ∈ lv, MSmall p) :
 Calls Tryz.prog 109 #[v] w (zau (lv.length ≤ 2147483647 ∧ ∀ p ∈ lv, MFit p) w) := by
 have HS := zk7 h; obtain ⟨A, c, rfl, _, hc, hr⟩ := h; obtain ⟨n, hn⟩ : ∃ n, lv.length = n := ⟨_, rfl⟩; rw [hn] at hr hc hl ⊢; rw [hn] at HS; have HN := zk7 hn; have HI := zk7 hs; clear hn hr hs; by_cases hbig : 2147483647 < n
 ·have hbig' : (2147483647 : Int) < n := by omega
  go_enter Tryz.func109, Tryz.ntmps109; go_wp2; go_ret; exact ⟨false, rfl, ⟨fun h => (by cases h), fun h => absurd h.1 (by omega)⟩, zlW _ _⟩
 ·have hbig' : ¬ (2147483647 : Int) < n := by omega
  go_enter Tryz.func109, Tryz.ntmps109; go_wp2; go_loopw [10] (fun vi wr => ∃ k : Nat, k ≤ n ∧ vi = .int .i64 k ∧ Hid (∀ j p, j < k → lv[j]? = some p → MFit p) ∧ Hid (Fr (fun _ => False) w wr)) (fun vi _ => n - (intOf vi).toNat)
  case atStart => exact ⟨0, zli _, rfl, zk7 (fun j p h => absurd h (zlS _)), zk7 (zlW _ _)⟩
  case round =>
   obtain ⟨k, hk, rfl, RG, RF⟩ := hrel; by_cases hlt : k < n
   ·have hS := HS.out.fr RF.out (fun _ _ e => e)
    obtain ⟨A', c', e2, _, hc', hr⟩ := hS; injection e2 with e2 e2n e2c; obtain ⟨g, off, rfl, _, hcell⟩ := hr (by have := HN.out; omega); obtain ⟨x, hx⟩ : ∃ x, lv[k]? = some x := ⟨_, zk9 (by rw [HN.out]; exact hlt)⟩; have hxm := zlf hx
    have q0 : wr.cell? ⟨g, off + k * 4, none⟩ = some (.int .u64 x.ref) := by simpa using hcell (k * 4 + 0) _ (by rw [zd1 Mta.c (fun _ => rfl) lv k x hx 0 (by omega)]; rfl)
    have q1 : wr.cell? ⟨g, off + k * 4 + 1, none⟩ = some (.int .u8 x.ty.toNat) := hcell (k * 4 + 1) _ (by rw [zd1 Mta.c (fun _ => rfl) lv k x hx 1 (by omega)]; rfl); have q2 : wr.cell? ⟨g, off + k * 4 + 2, none⟩ = some (.string x.unit) := hcell (k * 4 + 2) _ (by rw [zd1 Mta.c (fun _ => rfl) lv k x hx 2 (by omega)]; rfl)
    have q3 : wr.cell? ⟨g, off + k * 4 + 3, none⟩ = some (.string x.help) := hcell (k * 4 + 3) _ (by rw [zd1 Mta.c (fun _ => rfl) lv k x hx 3 (by omega)]; rfl); have hil := HI.out x hxm; have HXM := zk7 hxm; have HX := zk7 hx; clear hx hxm; have hC := zkA x (wr.alloc (.cells (Mta.c x).toArray 176)) hil; subst e2; clear hcell hr e2n e2c hil
    go_wp2_with (go_at_call 196; refine hC.mono ?_; rintro r5 w5 ⟨b, rfl, hb5, hf5⟩; refine Hid.out ?_)
    have H5 := zk7 ((RF.out.alloc (.cells (Mta.c x).toArray 176)).same hf5); have HB5 := zk7 hb5; clear hf5 hb5 hC q0 q1 q2 q3; rcases b with _ | _
    ·refine zk7 ?_
     go_wp2; go_ret; exact ⟨false, rfl, ⟨fun h => (by cases h), fun h => absurd (HB5.out.2 (h.2 _ HXM.out)) (by decide)⟩, H5.out⟩
    ·refine zk7 ?_
     go_wp2; go_roundw
     case rel => exact ⟨k + 1, by omega, by go_num, zk7 (fun j p h h2 => by
      rcases zlA j k with h3 | h3
      ·exact RG.out j p h3 h2
      ·obtain rfl : j = k := by omega
       have h4 := h2.symm.trans HX.out; injection h4 with h4; rw [h4]
       exact HB5.out.1 rfl), H5⟩
     case measure => simp [intOf]; omega
   ·obtain rfl : k = n := by omega
    go_wp2; go_ret; refine ⟨true, rfl, ⟨fun _ => ⟨by omega, fun p hp => ?_⟩, fun _ => rfl⟩, RF.out⟩; obtain ⟨j, hj, e⟩ := List.getElem_of_mem hp; exact RG.out j p (by rw [← HN.out]; exact hj) (by rw [zk9 hj, e])
theorem zkE (P : Nat → Prop) (ref : Nat) (v : Value) (l : List (Int × Int)) (w : World) (h : ∃ A c, v = .slice A l.length c) (hs : l.length ≤ 9223372036854775807) :
 Calls Tryz.prog 194 #[.agg #[.int .u64 ref, v]] w (zau (l.length ≤ 2147483647) w) := by
 obtain ⟨A, c, rfl⟩ := h; by_cases hb : 2147483647 < l.length
 ·have hb' : (2147483647 : Int) < (l.length : Int) := by omega
  go_enter Tryz.func194, Tryz.ntmps194; go_wp2; go_ret; exact ⟨false, rfl, ⟨fun h => (by cases h), fun h => absurd hb (by omega)⟩, (zlW _ w).alloc _⟩
 ·have hb' : ¬ (2147483647 : Int) < (l.length : Int) := by omega
  go_enter Tryz.func194, Tryz.ntmps194; go_wp2; go_ret; exact ⟨true, rfl, ⟨fun _ => by omega, fun _ => rfl⟩, (zlW _ w).alloc _⟩
theorem zkF (P : Nat → Prop) (v : Value) (lv : List (Ston × Value)) (w : World) (h : SlS P w v lv) (hl : lv.length ≤ 9223372036854775807) (hs : ∀ p ∈ lv, p.1.ivs.length ≤ 9223372036854775807) :
 Calls Tryz.prog 107 #[v] w (zau (lv.length ≤ 2147483647 ∧ ∀ p ∈ lv, p.1.ivs.length ≤ 2147483647) w) := by
 have HS := zk7 h; obtain ⟨⟨A, c, rfl, _, hc, hr⟩, _⟩ := h; obtain ⟨n, hn⟩ : ∃ n, lv.length = n := ⟨_, rfl⟩; rw [hn] at hr hc hl HS ⊢; have HN := zk7 hn; have HI := zk7 hs; clear hn hr hs; by_cases hbig : 2147483647 < n
 ·have hbig' : (2147483647 : Int) < n := by omega
  go_enter Tryz.func107, Tryz.ntmps107; go_wp2; go_ret; exact ⟨false, rfl, ⟨fun h => (by cases h), fun h => absurd h.1 (by omega)⟩, zlW _ _⟩
 ·have hbig' : ¬ (2147483647 : Int) < n := by omega
  go_enter Tryz.func107, Tryz.ntmps107; go_wp2; go_loopw [10] (fun vi wr => ∃ k : Nat, k ≤ n ∧ vi = .int .i64 k ∧ Hid (∀ j p, j < k → lv[j]? = some p → p.1.ivs.length ≤ 2147483647) ∧ Hid (Fr (fun _ => False) w wr)) (fun vi _ => n - (intOf vi).toNat)
  case atStart => exact ⟨0, zli _, rfl, zk7 (fun j p h => absurd h (zlS _)), zk7 (zlW _ _)⟩
  case round =>
   obtain ⟨k, hk, rfl, RG, RF⟩ := hrel; by_cases hlt : k < n
   ·have hS := HS.out.fr RF.out (fun _ _ e => e)
    have hiv := hS.2; obtain ⟨⟨A', c', e2, _, hc', hr⟩, _⟩ := hS; injection e2 with e2 e2n e2c; obtain ⟨g, off, rfl, _, hcell⟩ := hr (by have := HN.out; omega); obtain ⟨x, hx⟩ : ∃ x, lv[k]? = some x := ⟨_, zk9 (by rw [HN.out]; exact hlt)⟩; have hxm := zlf hx
    have q0 : wr.cell? ⟨g, off + k * 2, none⟩ = some (.int .u64 x.1.ref) := by simpa using hcell (k * 2 + 0) _ (by rw [zci stc (fun _ => rfl) lv k x hx 0 (by omega)]; rfl)
    have q1 : wr.cell? ⟨g, off + k * 2 + 1, none⟩ = some x.2 := hcell (k * 2 + 1) _ (by rw [zci stc (fun _ => rfl) lv k x hx 1 (by omega)]; rfl); have hivx := hiv x hxm; have hil := HI.out x hxm; have HXM := zk7 hxm; have HX := zk7 hx; clear hiv hx hxm; obtain ⟨⟨ref, ivs⟩, iv⟩ := x; simp only [] at q0 q1 hivx hil
    have hC := zkE P ref iv ivs (wr.alloc (.cells #[.int .u64 ref, iv] 151)) (let ⟨A, c, h, _⟩ := hivx; ⟨A, c, h⟩) hil; obtain ⟨Ai, ci, rfl, _, _, _⟩ := hivx; subst e2; clear hcell hr e2n e2c hil; go_wp2_with (go_at_call 194; refine hC.mono ?_; rintro r5 w5 ⟨b, rfl, hb5, hf5⟩; refine Hid.out ?_)
    have H5 := zk7 ((RF.out.alloc (.cells #[.int .u64 ref, .slice Ai ivs.length ci] 151)).same hf5); have HB5 := zk7 hb5; clear hf5 hb5 hC q0 q1; rcases b with _ | _
    ·refine zk7 ?_
     go_wp2; go_ret; exact ⟨false, rfl, ⟨fun h => (by cases h), fun h => absurd (HB5.out.2 (h.2 _ HXM.out)) (by decide)⟩, H5.out⟩
    ·refine zk7 ?_
     go_wp2; go_roundw
     case rel => exact ⟨k + 1, by omega, by go_num, zk7 (fun j p h h2 => by
      rcases zlA j k with h3 | h3
      ·exact RG.out j p h3 h2
      ·obtain rfl : j = k := by omega
       have h4 := h2.symm.trans HX.out; injection h4 with h4; rw [h4]
       exact HB5.out.1 rfl), H5⟩
     case measure => simp [intOf]; omega
   ·obtain rfl : k = n := by omega
    go_wp2; go_ret; refine ⟨true, rfl, ⟨fun _ => ⟨by omega, fun p hp => ?_⟩, fun _ => rfl⟩, RF.out⟩; obtain ⟨j, hj, e⟩ := List.getElem_of_mem hp; exact RG.out j p (by rw [← HN.out]; exact hj) (by rw [zk9 hj, e])
structure Prt where
 ser : List (Ser × Value)
 smp : List Smp
 sto : List (Ston × Value)
 exm : List (Exm × Value)
 mta : List Mta
 mrk : List Mrk
 his : List (Rhs × Hsl)
structure Prt.At (P : Nat → Prop) (w : World) (q : Prt) (s0 s1 s2 s3 s4 s5 s6 : Value) : Prop where
 ser : SlR P w s0 q.ser
 smp : Sl P w s1 3 q.smp.length (q.smp.flatMap Smp.a)
 sto : SlS P w s2 q.sto
 exm : SlX P w s3 q.exm
 mta : Sl P w s4 4 q.mta.length (q.mta.flatMap Mta.c)
 mrk : Sl P w s5 2 q.mrk.length (q.mrk.flatMap Mrk.c)
 his : SlH P w s6 q.his
theorem Prt.At.fr {P S : Nat → Prop} {w w' : World} {q : Prt} {s0 s1 s2 s3 s4 s5 s6 : Value} (h : q.At P w s0 s1 s2 s3 s4 s5 s6) (hf : Fr S w w') (hs : ∀ g, P g → ¬ S g) : q.At P w' s0 s1 s2 s3 s4 s5 s6 :=
 ⟨h.ser.fr hf hs, h.smp.fr hf hs, h.sto.fr hf hs, h.exm.fr hf hs, h.mta.fr hf hs, h.mrk.fr hf hs, h.his.fr hf hs⟩
structure Prt.Wide (q : Prt) : Prop where
 n0 : q.ser.length ≤ maxLen
 n1 : q.smp.length ≤ maxLen
 n2 : q.sto.length ≤ maxLen
 n3 : q.exm.length ≤ maxLen
 n4 : q.mta.length ≤ maxLen
 n5 : q.mrk.length ≤ maxLen
 n6 : q.his.length ≤ maxLen
 ser : ∀ p ∈ q.ser, p.1.ref < 18446744073709551616 ∧ p.1.labs.length ≤ maxLen ∧ ∀ l ∈ p.1.labs, l.1.size ≤ maxLen ∧ l.2.size ≤ maxLen
 smp : ∀ p ∈ q.smp, p.wf
 sto : ∀ p ∈ q.sto, p.1.ref < 18446744073709551616 ∧ p.1.ivs.length ≤ maxLen ∧ ∀ x ∈ p.1.ivs, (-9223372036854775808 ≤ x.1 ∧ x.1 ≤ 9223372036854775807) ∧ -9223372036854775808 ≤ x.2 ∧ x.2 ≤ 9223372036854775807
 exm : ∀ p ∈ q.exm, (p.1.ref < 18446744073709551616 ∧ -9223372036854775808 ≤ p.1.t ∧ p.1.t ≤ 9223372036854775807 ∧ p.1.v < 18446744073709551616) ∧ p.1.labs.length ≤ maxLen ∧ ∀ l ∈ p.1.labs, l.1.size ≤ maxLen ∧ l.2.size ≤ maxLen
 mta : ∀ p ∈ q.mta, p.ref < 18446744073709551616 ∧ p.unit.size ≤ maxLen ∧ p.help.size ≤ maxLen
 mrk : ∀ p ∈ q.mrk, p.wf
 his : ∀ p ∈ q.his, (p.1.ref < 18446744073709551616 ∧ -9223372036854775808 ≤ p.1.t ∧ p.1.t ≤ 9223372036854775807) ∧ p.1.h.wide
structure Prt.Fits (q : Prt) : Prop where
 ser : q.ser.length ≤ 2147483647 ∧ ∀ p ∈ q.ser, zeg p.1.labs
 smp : q.smp.length ≤ 2147483647
 sto : q.sto.length ≤ 2147483647 ∧ ∀ p ∈ q.sto, p.1.ivs.length ≤ 2147483647
 exm : q.exm.length ≤ 2147483647 ∧ ∀ p ∈ q.exm, zeg p.1.labs
 mta : q.mta.length ≤ 2147483647 ∧ ∀ p ∈ q.mta, MFit p
 mrk : q.mrk.length ≤ 2147483647
 his : q.his.length ≤ 2147483647 ∧ ∀ p ∈ q.his, p.1.h.few 2147483647
theorem max_small : maxLen ≤ 9223372036854775807 := by decide
theorem zkI (A0 A1 A2 A3 A4 A5 A6 : Option Addr) (c0 c1 c2 c3 c4 c5 c6 n0 n1 n2 n3 n4 n5 n6 : Nat) (p0 p2 p3 p4 p6 pp : Prop) (w : World) (hpp : pp ↔ (p0 ∧ n1 ≤ 2147483647 ∧ p2 ∧ p3 ∧ p4 ∧ n5 ≤ 2147483647 ∧ p6))
 (H0 : ∀ W, Fr (fun _ => False) w W → Calls Tryz.prog 106 #[.slice A0 n0 c0] W (zau p0 W)) (H2 : ∀ W, Fr (fun _ => False) w W → Calls Tryz.prog 107 #[.slice A2 n2 c2] W (zau p2 W)) (H3 : ∀ W, Fr (fun _ => False) w W → Calls Tryz.prog 108 #[.slice A3 n3 c3] W (zau p3 W)) (H4 : ∀ W, Fr (fun _ => False) w W → Calls Tryz.prog 109 #[.slice A4 n4 c4] W (zau p4 W)) (H6 : ∀ W, Fr (fun _ => False) w W → Calls Tryz.prog 110 #[.slice A6 n6 c6] W (zau p6 W)) :
 Calls Tryz.prog 34 #[.agg #[.slice A0 n0 c0, .slice A1 n1 c1, .slice A2 n2 c2, .slice A3 n3 c3, .slice A4 n4 c4, .slice A5 n5 c5, .slice A6 n6 c6]] w (zau pp w) := by
 have HPP := zk7 hpp; have HC0 := zk7 H0; have HC2 := zk7 H2; have HC3 := zk7 H3; have HC4 := zk7 H4; have HC6 := zk7 H6; clear hpp H0 H2 H3 H4 H6; go_enter Tryz.func34, Tryz.ntmps34; have HB := zk7 (Blk.new w 54 #[.slice A0 n0 c0, .slice A1 n1 c1, .slice A2 n2 c2, .slice A3 n3 c3, .slice A4 n4 c4, .slice A5 n5 c5, .slice A6 n6 c6])
 have HF0 := zk7 ((zlW (fun _ => False) w).alloc (.cells #[.slice A0 n0 c0, .slice A1 n1 c1, .slice A2 n2 c2, .slice A3 n3 c3, .slice A4 n4 c4, .slice A5 n5 c5, .slice A6 n6 c6] 54)); go_wp2_with (go_at_call 106; refine (HC0.out _ HF0.out).mono ?_; rintro r w0 ⟨b, rfl, hb, hf⟩; refine Hid.out ?_)
 have HF10 := zk7 (HF0.out.same hf); have HG' := zk7 ((zlW (fun _ => False) (w.alloc (.cells #[.slice A0 n0 c0, .slice A1 n1 c1, .slice A2 n2 c2, .slice A3 n3 c3, .slice A4 n4 c4, .slice A5 n5 c5, .slice A6 n6 c6] 54))).same hf); have HBB0 := zk7 hb; clear hb hf; have HG := HG'; clear HG'; obtain ⟨y0, y1, y2, y3, y4, y5, y6⟩ := zam (HB.out.fr HG.out (fun e => e))
 rcases b with _ | _
 ·refine zk7 ?_
  go_wp2; go_ret; exact ⟨false, rfl, zlE (by intro h; cases h) (fun h => absurd (HBB0.out.2 (HPP.out.1 h).1) (by decide)), HF10.out⟩
 by_cases g1 : 2147483647 < n1
 ·have g1' : (2147483647 : Int) < (n1 : Int) := by omega
  have G1 := zk7 g1; clear g1; refine zk7 ?_; go_wp2; go_ret; exact ⟨false, rfl, zlE (by intro h; cases h) (fun h => by have h2 := (HPP.out.1 h).2.1; have := G1.out; omega), HF10.out⟩
 have g1' : ¬ (2147483647 : Int) < (n1 : Int) := by omega
 have G1 : Hid (n1 ≤ 2147483647) := zk7 (by omega); clear g1; refine zk7 ?_; go_wp2_with (go_at_call 107; refine (HC2.out _ HF10.out).mono ?_; rintro r w2 ⟨b, rfl, hb, hf⟩; refine Hid.out ?_)
 have HF12 := zk7 (HF10.out.same hf); have HG' := zk7 (HG.out.same hf); have HBB2 := zk7 hb; clear hb hf HG y0 y1 y2 y3 y4 y5 y6; have HG := HG'; clear HG'; obtain ⟨y0, y1, y2, y3, y4, y5, y6⟩ := zam (HB.out.fr HG.out (fun e => e)); rcases b with _ | _
 ·refine zk7 ?_
  go_wp2; go_ret; exact ⟨false, rfl, zlE (by intro h; cases h) (fun h => absurd (HBB2.out.2 (HPP.out.1 h).2.2.1) (by decide)), HF12.out⟩
 refine zk7 ?_; go_wp2_with (go_at_call 108; refine (HC3.out _ HF12.out).mono ?_; rintro r w3 ⟨b, rfl, hb, hf⟩; refine Hid.out ?_)
 have HF13 := zk7 (HF12.out.same hf); have HG' := zk7 (HG.out.same hf); have HBB3 := zk7 hb; clear hb hf HG y0 y1 y2 y3 y4 y5 y6; have HG := HG'; clear HG'; obtain ⟨y0, y1, y2, y3, y4, y5, y6⟩ := zam (HB.out.fr HG.out (fun e => e)); rcases b with _ | _
 ·refine zk7 ?_
  go_wp2; go_ret; exact ⟨false, rfl, zlE (by intro h; cases h) (fun h => absurd (HBB3.out.2 (HPP.out.1 h).2.2.2.1) (by decide)), HF13.out⟩
 refine zk7 ?_; go_wp2_with (go_at_call 109; refine (HC4.out _ HF13.out).mono ?_; rintro r w4 ⟨b, rfl, hb, hf⟩; refine Hid.out ?_)
 have HF14 := zk7 (HF13.out.same hf); have HG' := zk7 (HG.out.same hf); have HBB4 := zk7 hb; clear hb hf HG y0 y1 y2 y3 y4 y5 y6; have HG := HG'; clear HG'; obtain ⟨y0, y1, y2, y3, y4, y5, y6⟩ := zam (HB.out.fr HG.out (fun e => e)); rcases b with _ | _
 ·refine zk7 ?_
  go_wp2; go_ret; exact ⟨false, rfl, zlE (by intro h; cases h) (fun h => absurd (HBB4.out.2 (HPP.out.1 h).2.2.2.2.1) (by decide)), HF14.out⟩
 by_cases g5 : 2147483647 < n5
 ·have g5' : (2147483647 : Int) < (n5 : Int) := by omega
  have G5 := zk7 g5; clear g5; refine zk7 ?_; go_wp2; go_ret; exact ⟨false, rfl, zlE (by intro h; cases h) (fun h => by have h2 := (HPP.out.1 h).2.2.2.2.2.1; have := G5.out; omega), HF14.out⟩
 have g5' : ¬ (2147483647 : Int) < (n5 : Int) := by omega
 have G5 : Hid (n5 ≤ 2147483647) := zk7 (by omega); clear g5; refine zk7 ?_; go_wp2_with (go_at_call 110; refine (HC6.out _ HF14.out).mono ?_; rintro r w6 ⟨b, rfl, hb, hf⟩; refine Hid.out ?_)
 have HF16 := zk7 (HF14.out.same hf); have HG' := zk7 (HG.out.same hf); have HBB6 := zk7 hb; clear hb hf HG y0 y1 y2 y3 y4 y5 y6; have HG := HG'; clear HG'; obtain ⟨y0, y1, y2, y3, y4, y5, y6⟩ := zam (HB.out.fr HG.out (fun e => e)); rcases b with _ | _
 ·refine zk7 ?_
  go_wp2; go_ret; exact ⟨false, rfl, zlE (by intro h; cases h) (fun h => absurd (HBB6.out.2 (HPP.out.1 h).2.2.2.2.2.2) (by decide)), HF16.out⟩
 refine zk7 ?_; go_wp2; go_ret; exact ⟨true, rfl, zlF rfl (HPP.out.2 ⟨HBB0.out.1 (by first | rfl | trivial), G1.out, HBB2.out.1 (by first | rfl | trivial), HBB3.out.1 (by first | rfl | trivial), HBB4.out.1 (by first | rfl | trivial), G5.out, HBB6.out.1 (by first | rfl | trivial)⟩), HF16.out⟩
theorem zkJ (P : Nat → Prop) (q : Prt) (s0 s1 s2 s3 s4 s5 s6 : Value) (w : World) (h : q.At P w s0 s1 s2 s3 s4 s5 s6) (hw : q.Wide) :
 Calls Tryz.prog 34 #[.agg #[s0, s1, s2, s3, s4, s5, s6]] w (zau q.Fits w) := by
 have hM := max_small; have Hser := (fun (W : World) (hF : Fr (fun _ => False) w W) => zkH P s0 q.ser W (h.ser.fr hF (fun _ _ e => e)) (by have := hw.n0; omega) (fun p hp => ⟨by have := (hw.ser p hp).2.1; omega, fun l hl => by have := (hw.ser p hp).2.2 l hl; omega⟩))
 have Hsto := (fun (W : World) (hF : Fr (fun _ => False) w W) => zkF P s2 q.sto W (h.sto.fr hF (fun _ _ e => e)) (by have := hw.n2; omega) (fun p hp => by have := (hw.sto p hp).2.1; omega))
 have Hexm := (fun (W : World) (hF : Fr (fun _ => False) w W) => zkD P s3 q.exm W (h.exm.fr hF (fun _ _ e => e)) (by have := hw.n3; omega) (fun p hp => ⟨by have := (hw.exm p hp).2.1; omega, fun l hl => by have := (hw.exm p hp).2.2 l hl; omega⟩))
 have Hmta := (fun (W : World) (hF : Fr (fun _ => False) w W) => zkB P s4 q.mta W (h.mta.fr hF (fun _ _ e => e)) (by have := hw.n4; omega) (fun p hp => ⟨by have := (hw.mta p hp).2.1; omega, by have := (hw.mta p hp).2.2; omega⟩)); have Hhis := (fun (W : World) (hF : Fr (fun _ => False) w W) => zkz P s6 q.his W (h.his.fr hF (fun _ _ e => e)) (by have := hw.n6; omega))
 obtain ⟨A0, c0, rfl⟩ := h.ser.1.shape; obtain ⟨A1, c1, rfl⟩ := h.smp.shape; obtain ⟨A2, c2, rfl⟩ := h.sto.1.shape; obtain ⟨A3, c3, rfl⟩ := h.exm.1.shape; obtain ⟨A4, c4, rfl⟩ := h.mta.shape; obtain ⟨A5, c5, rfl⟩ := h.mrk.shape; obtain ⟨A6, c6, rfl⟩ := h.his.1.shape
 exact zkI A0 A1 A2 A3 A4 A5 A6 c0 c1 c2 c3 c4 c5 c6 _ _ _ _ _ _ _ _ _ _ _ _ q.Fits w ⟨fun k => ⟨k.ser, k.smp, k.sto, k.exm, k.mta, k.mrk, k.his⟩, fun ⟨a, b, c, d, e, f, g⟩ => ⟨a, b, c, d, e, f, g⟩⟩ Hser Hsto Hexm Hmta Hhis
theorem zjl (s : ByteArray) (w : World) : Calls Tryz.prog 56 #[.agg #[.string s]] w fun r w' => r = .returned (.bool (decide (s.size = 0))) ∧ Fr (fun _ => False) w w' := by
 by_cases h : s.size = 0
 ·have h' : (s.size : Int) = 0 := by omega
  rw [decide_eq_true h]; go_enter Tryz.func56, Tryz.ntmps56; go_wp2; go_ret; exact ⟨rfl, (zlW _ w).alloc _⟩
 ·have h' : ((s.size : Int) == 0) = false := by rw [beq_eq_false_iff_ne]; omega
  rw [decide_eq_false h]; go_enter Tryz.func56, Tryz.ntmps56; go_wp2; go_ret; exact ⟨rfl, (zlW _ w).alloc _⟩
theorem ze5 (b0 d : Nat) (l : List Lab) (w : World) (h : Bld w b0 d l ⟨#[]⟩) (hl : l.length ≤ 4096) (hs : ∀ p ∈ l, p.1.size ≤ 1048576 ∧ p.2.size ≤ 1048576) :
 Calls Tryz.prog 132 #[.pointer (some ⟨d, 0, none⟩)] w fun r w' => r = .returned (.agg #[.string (zas l)]) ∧ Bld w' b0 d l (zas l) ∧ Fr (fun k => k = d) w w' := by
 obtain ⟨v, z, hb, ho⟩ := h; obtain ⟨A, c, rfl⟩ := zaa ho; have hdw := hb.lt; have HNE := zk7 (zak ho hb (by decide)); have F1 : Fr (fun _ => False) w (w.alloc (.cells #[.string ⟨#[]⟩] 99)) := (zlW _ w).alloc _; have hB1 : Blk (w.alloc (.cells #[.string ⟨#[]⟩] 99)) w.heap.size 99 #[.string ⟨#[]⟩] := Blk.new w 99 _; have hQ := zjl ⟨#[]⟩ (w.alloc (.cells #[.string ⟨#[]⟩] 99))
 have hD1 := hb.fr F1 (fun e => e); have k1 := hD1.cell 1; simp at k1; have HO := zk7 ho; have HD1 := zk7 hD1; have HB1 := zk7 hB1; have HF1 := zk7 F1; have HS := zk7 hs; have hle : zaA l ≤ 1099511627776 := by
  have := zdF l hs; have h : l.length * 2097160 ≤ 4096 * 2097160 := zlk _ hl; omega
 obtain ⟨n, hn⟩ : ∃ n, zaA l = n := ⟨_, rfl⟩; rw [hn] at hle; obtain ⟨m, hm⟩ : ∃ m, l.length = m := ⟨_, rfl⟩; have HM := zk7 hm; have HN := zk7 hn; rw [hm] at hl; rw [decide_eq_true (show (⟨#[]⟩ : ByteArray).size = 0 from rfl)] at hQ
 have hmk : ∀ W : World, (Instr.makeSlice 44 (.int .i64 (n : Int)) (.int .i64 (n : Int))).run Tryz.prog W = .ok (.slice (some ⟨W.heap.size, 0, none⟩) n n) (W.alloc (.cells (madeCells #[.int .u8 0] n) 5)) := fun W =>
  run_make_row' (P := Tryz.prog) 44 5 (.int .u8 0) 1 Tryz.underlying44 Tryz.info5 rfl .i64 .i64 n (by omega) (by omega) W
 clear hb ho hs hm hn hB1 F1 hD1; go_enter Tryz.func132, Tryz.ntmps132
 go_wp2_with (first
  | (go_at_call 56; refine hQ.mono ?_; rintro r w1 ⟨rfl, hf1⟩
     have hD2 := zk7 (HD1.out.fr hf1 (fun e => e)); have k2 := hD2.out.cell 0; simp at k2; rw [HM.out] at k2; have hFF2 := zk7 (HF1.out.same hf1); have hsl2 := zk7 ((Sl.ofOwn HO.out).fr hFF2.out (fun _ _ e => e)); have hB2 := zk7 (HB1.out.fr hf1 (fun e => e)); have hZ := zeq _ _ l w1 hsl2.out (by rw [HM.out]; omega) HS.out
     rw [HM.out, HN.out] at hZ)
  | (go_at_call 208; refine hZ.mono ?_; rintro r w2 ⟨rfl, hf2⟩; refine Hid.out ?_))
 have hB3 := hB2.out.fr hf2 (fun e => e); have hD3 := hD2.out.fr hf2 (fun e => e); have hsl3 := hsl2.out.fr hf2 (fun _ _ e => e); have hF3 := hFF2.out.same hf2; have hDr := hD3.alloc (.cells (madeCells #[.int .u8 0] n) 5); have hBr := hB3.alloc (.cells (madeCells #[.int .u8 0] n) 5); have hnd : d ≠ w2.heap.size := Nat.ne_of_lt hD3.lt; have hnb : w.heap.size ≠ w2.heap.size := Nat.ne_of_lt hB3.lt
 have kd0 := hDr.cell 0; have kb0 := (World.ownsRow.lt HO.out); have hM := zdv _ _ l w2.heap.size n n (w2.alloc (.cells (madeCells #[.int .u8 0] n) 5)) (hsl3.fr ((zlW (fun _ => False) w2).alloc _) (fun _ _ e => e))
  (fun e => zlR _ (zlw ((World.ownsRow.lt HO.out) _ e).2 hF3.size)) (by rw [HM.out]; omega) HS.out (buf_new w2 n) HN.out.symm (zlj _) (by omega)
 rw [HM.out] at hM kd0; simp at kd0; have H3 := zk7 (And.intro hBr (And.intro hDr (And.intro (hF3.alloc (.cells (madeCells #[.int .u8 0] n) 5)) hF3.size))); have H5 := zk7 (And.intro hnd hnb); clear hB3 hD3 hsl3 hF3 hDr hBr hnd hnb kb0 hQ k1 k2 hZ; refine zk7 ?_
 go_wp2_with (first
  | (go_at_call 209
     refine hM.mono ?_; rintro r w4 ⟨rfl, hB4, hf4⟩; have hY := zjP w2.heap.size n n (zax l) w4 hB4; have hD4 := zk7 (H3.out.2.1.fr hf4 H5.out.1); have hR4 := zk7 (H3.out.1.fr hf4 H5.out.2); have k4 := hD4.out.cell 1; have z4 := hD4.out.frozen 1; simp at k4
     have hF4 : Hid (Fr (fun _ => False) w w4) := zk7 (H3.out.2.2.1.trans (S' := fun k => k = w2.heap.size) hf4 (fun k hk e => by have := H3.out.2.2.2; omega)))
  | (go_at_call 210; refine hY.mono ?_; rintro r w5 ⟨rfl, rfl⟩; refine Hid.out ?_))
 have hdb : w.heap.size ≠ d := by omega
 have hD5 : Blk (w4.setCell ⟨d, 1, none⟩ (.string ⟨(zax l).toArray⟩)) d 119 #[.slice A l.length c, .string ⟨(zax l).toArray⟩, z] := by simpa using hD4.out.set_ 1 (.string ⟨(zax l).toArray⟩)
 have hR5 := hR4.out.far (p := ⟨d, 1, none⟩) hdb (.string ⟨(zax l).toArray⟩); have hF5 : Fr (fun k => k = d) w (w4.setCell ⟨d, 1, none⟩ (.string ⟨(zax l).toArray⟩)) := (hF4.out.mono (S' := fun k => k = d) (fun _ _ e => e.elim)).setCell (p := ⟨d, 1, none⟩) (.inl rfl) _; have k5 := hD5.cell 1; have k6 := hR5.cell 0; have z6 := hR5.frozen 0; simp at k5 k6
 have H6 := zk7 (And.intro hD5 (And.intro hR5 hF5)); clear hD5 hR5 hF5 hM hY; refine zk7 ?_; generalize hS : (⟨(zax l).toArray⟩ : ByteArray) = s at *
 go_wp2_with fail
 obtain ⟨hD5, hR5, hF5⟩ := H6.out; have hD7 := hD5.far (p := ⟨w.heap.size, 0, none⟩) hdb.symm (.string s); have hR7 : Blk ((w4.setCell ⟨d, 1, none⟩ (.string s)).setCell ⟨w.heap.size, 0, none⟩ (.string s)) w.heap.size 99 #[.string s] := by simpa using hR5.set_ 0 (.string s)
 have hF7 : Fr (fun k => k = d) w ((w4.setCell ⟨d, 1, none⟩ (.string s)).setCell ⟨w.heap.size, 0, none⟩ (.string s)) := hF5.setCell (p := ⟨w.heap.size, 0, none⟩) (.inr (zlj _)) _; have hO7 := zah HO.out hF7 (fun g hg e => HNE.out (by rw [hg]; exact congrArg some e)); generalize (w4.setCell ⟨d, 1, none⟩ (.string s)).setCell ⟨w.heap.size, 0, none⟩ (.string s) = w7 at hD7 hR7 hF7 hO7 ⊢
 refine bodyPost_ret (results_cell_row (P := Tryz.prog) rfl _ _ w.heap.size 99 #[.string s] (0, 0) _ rfl hR7 Tryz.underlying99 rfl (by kernel_rfl)) rfl ?_; have hSS : zas l = s := hS; rw [hSS]; exact ⟨rfl, ⟨_, _, hD7, hO7⟩, hF7⟩
theorem ziu {te : TypeId} {pe : Value} {w w' : World} {d g : Nat} {cur : Array Value} {st : St} {S : Nat → Prop} (h : Dec te pe w d g cur st) (hf : Fr S w w') (h1 : ¬ S d) (h2 : ¬ S g) (h3 : ¬ S 2) : Dec te pe w' d g cur st := by
 have key : ∀ rest E, DecOk (.iface te pe) w d g cur rest E → DecOk (.iface te pe) w' d g cur rest E := by
  rintro rest E ⟨off, c, hb, hg, hl, hm, hr, hE⟩; exact ⟨off, c, hb.fr hf h1, hg.fr hf h2, hl, hm, hr, by rw [hf.cell (p := ⟨2, 0, none⟩) (zle w _ hE) h3]; exact hE⟩
 rcases st with _ | l
 ·obtain ⟨rest, h⟩ := h
  exact ⟨rest, key _ _ h⟩
 ·exact key _ _ h
theorem zb6 {te : TypeId} {pe : Value} {w : World} {d g : Nat} {cur : Array Value} {st : St} (h : Dec te pe w d g cur st) : ∃ cs, Blk w d 229 cs ∧ Blk w g 5 cur ∧ 2 < w.heap.size := by
 rcases st with _ | l
 ·obtain ⟨rest, off, c, hb, hg, hl, hm, hr, hE⟩ := h
  exact ⟨_, hb, hg, zle w _ hE⟩
 ·obtain ⟨off, c, hb, hg, hl, hm, hr, hE⟩ := h
  exact ⟨_, hb, hg, zle w _ hE⟩
def DS (w : World) (b0 d d2 k : Nat) : Prop := k = d2 ∨ zdr w b0 d k
theorem DS.back {w w' : World} {b0 d d2 : Nat} (h : Fr (DS w b0 d d2) w w') (k : Nat) (hk : k < w.heap.size) (hs : DS w' b0 d d2 k) : DS w b0 d d2 k := by
 rcases Classical.em (DS w b0 d d2 k) with hy | hn
 ·exact hy
 ·rcases hs with rfl | rfl | ⟨hb, cs, hc⟩
  ·exact .inl rfl
  ·exact .inr (.inl rfl)
  ·exact .inr (.inr ⟨hb, cs, (h.block k hk hn).symm.trans hc⟩)
theorem zhI {w : World} {b0 d k : Nat} {t : TypeId} {cs : Array Value} (h : Blk w k t cs) (h1 : k ≠ d) (h2 : t ≠ 108) : ¬ zdr w b0 d k := by
 rintro (e | ⟨_, cs', hc⟩)
 ·exact h1 e
 ·exact h2 (h.tag hc).1
theorem zha {w w' : World} {b0 d d2 : Nat} {l : List Lab} {o : ByteArray} {cs : Array Value} (h : Bld w b0 d l o) (hd : Blk w d2 229 cs) (hf : Fr (fun k => k = d2) w w') : Bld w' b0 d l o := by
 obtain ⟨v, x, hb, ho⟩ := h; exact ⟨v, x, hb.fr hf (Blk.ne_ hb hd (by decide)), zah ho hf (fun g hg e => zak ho hd (by decide) (by rw [hg]; exact congrArg some e))⟩
theorem zdy (te : TypeId) (pe : Value) (b0 d d2 g : Nat) (cur : Array Value) (l0 : List Lab) (o0 : ByteArray) (st : St) (w : World) (hB : Bld w b0 d l0 o0) (hD : Dec te pe w d2 g cur st) (hb0 : b0 ≤ w.heap.size) (h2 : 2 < b0) (hbd : b0 ≤ d)
 (n : Nat) (st1 : St) (hgu : gUv st = (n, st1)) (hn : n ≤ 4096) (hu : ∀ k, k < n → (gUv (za9 st1 k).2).1 < 9223372036854775808 ∧ (gUv (zch (za9 st1 k).2).2).1 < 9223372036854775808)
 (hs : ∀ p ∈ (za9 st1 n).1, p.1.size ≤ 1048576 ∧ p.2.size ≤ 1048576) (hlen : ∀ k, (za9 st1 k).1.length = k) :
 Calls Tryz.prog 117 #[.pointer (some ⟨d, 0, none⟩), .pointer (some ⟨d2, 0, none⟩)] w fun r w' => r = .returned (.agg #[.string (zas (za9 st1 n).1)]) ∧ Dec te pe w' d2 g cur (za9 st1 n).2 ∧ Fr (DS w b0 d d2) w w' ∧ Bld w' b0 d (za9 st1 n).1 (zas (za9 st1 n).1) := by
 have hi : i64 n = n := by unfold i64 wrap64; omega
 have F1 : Fr (fun _ => False) w (w.alloc (.cells #[.string ⟨#[]⟩] 99)) := (zlW _ w).alloc _; have hR1 : Blk (w.alloc (.cells #[.string ⟨#[]⟩] 99)) w.heap.size 99 #[.string ⟨#[]⟩] := Blk.new w 99 _; have hdl : d < w.heap.size := let ⟨_, _, h, _⟩ := hB; h.lt
 have hB1 : Bld (w.alloc (.cells #[.string ⟨#[]⟩] 99)) b0 d l0 o0 := hB.fr F1 (fun e => e) (fun _ _ _ e => e); have hD1 := ziu hD F1 (fun e => e) (fun e => e) (fun e => e); have hReset := reset_any b0 d l0 o0 _ hB1; have HF1 := zk7 F1; have HR1 := zk7 hR1; have HD1 := zk7 hD1; have HBB := zk7 hB1; have HU := zk7 hu; have HS := zk7 hs; have HL := zk7 hlen
 have HG := zk7 hgu; clear F1 hR1 hB1 hD1 hu hs hlen hB hD hgu; go_enter Tryz.func117, Tryz.ntmps117
 go_wp2_with (first
  | (go_at_call 202
     refine hReset.mono ?_; rintro r w1 ⟨rfl, hB2, hf2⟩; have hD2 : Dec te pe w1 d2 g cur st := by
      obtain ⟨cs, hb2, hg2, hlt2⟩ := zb6 HD1.out; obtain ⟨_, _, hbb, _⟩ := HBB.out; exact ziu HD1.out hf2 (fun e => Blk.ne_ hb2 hbb (by decide) e) (fun e => Blk.ne_ hg2 hbb (by decide) e) (by omega)
     have hU := zbg te pe d2 g cur st w1 hD2; rw [HG.out] at hU; dsimp only at hU
     rw [hi] at hU)
  | (go_at_call 172; refine hU.mono ?_; rintro r w2 ⟨rfl, hD3, hf3⟩; refine Hid.out ?_))
 obtain ⟨cs2, hb2, hg2, hlt2⟩ := zb6 hD2; have hB3 := zha hB2 hb2 hf3; have hR3 : Blk w2 w.heap.size 99 #[.string ⟨#[]⟩] := (HR1.out.fr hf2 (by omega)).fr hf3 (fun e => Blk.ne_ (HR1.out.fr hf2 (by omega)) hb2 (by decide) e); have hF3 : Fr (DS w b0 d d2) w w2 := ((HF1.out.mono (S' := DS w b0 d d2) (fun _ _ e => e.elim)).trans hf2 (fun k _ e => .inr (.inl e))).trans hf3 (fun k _ e => .inl e)
 have HB3 := zk7 hB3; have HD3 := zk7 hD3; have HR3 := zk7 hR3; have HF3 := zk7 hF3; have hdd : d2 ≠ d := by
  obtain ⟨_, _, hbb, _⟩ := hB2; exact Blk.ne_ hb2 hbb (by decide)
 have hgd : g ≠ d := by
  obtain ⟨_, _, hbb, _⟩ := hB2; exact Blk.ne_ hg2 hbb (by decide)
 clear hB3 hD3 hR3 hF3 hb2 hg2 hB2 hD2 hf2 hf3 hU hReset HF1 HR1 HD1; refine zk7 ?_; go_wp2_with fail
 go_loopw [6] (fun vi wr => ∃ k : Nat, k ≤ n ∧ vi = .int .i64 k ∧ Hid (Bld wr b0 d (za9 st1 k).1 ⟨#[]⟩) ∧ Hid (Dec te pe wr d2 g cur (za9 st1 k).2) ∧ Hid (Fr (DS w b0 d d2) w wr) ∧ Hid (Blk wr w.heap.size 99 #[.string ⟨#[]⟩])) (fun vi _ => n - (intOf vi).toNat)
 case atStart => exact ⟨0, zli _, rfl, HB3, HD3, HF3, HR3⟩
 case round =>
  obtain ⟨k, hk, rfl, JB, JD, JF, JR⟩ := hrel; by_cases hlt : k < n
  ·obtain ⟨hu1, hu2⟩ := HU.out k hlt
   have hlk := HL.out k; obtain ⟨lk, hlkk⟩ : ∃ lk, (za9 st1 k).1 = lk := ⟨_, rfl⟩; obtain ⟨sk, hskk⟩ : ∃ sk, (za9 st1 k).2 = sk := ⟨_, rfl⟩; have hnext : za9 st1 (k + 1) = (lk ++ [((zch sk).1, (zch (zch sk).2).1)], (zch (zch sk).2).2) := by
    show ((za9 st1 k).1 ++ [(gLab (za9 st1 k).2).1], (gLab (za9 st1 k).2).2) = _; rw [hlkk, hskk]; rfl
   rw [hlkk] at JB hlk; rw [hskk] at JD hu1 hu2; have q1 := zhF te pe d2 g cur sk wr JD.out hu1; have HNX := zk7 hnext; clear hnext hlkk hskk; have hszw := JF.out.size
   go_wp2_with (first
    | (go_at_call 203
       refine (hQ2).mono ?_; rintro r w2 ⟨g2', o2, c2, rfl, hne2, hcell2, hD2, hf2⟩; have hB2 := zha hB1 hbb1 hf2
       have hq3 := zhe b0 d lk ⟨#[]⟩ ((zch sk).1, (zch (zch sk).2).1) g1' o1 c1 g2' o2 c2 w2 hB2 (by have := hf1.size; have := hf2.size; omega) (by omega) (fun j b hj => by
        have h1 := hcell1 j b hj
        rw [hf2.cell (p := ⟨g1', o1 + j, none⟩) (zle _ _ h1) hne1]; exact h1) hcell2)
    | (go_at_call 203
       refine q1.mono ?_; rintro r w1 ⟨g1', o1, c1, rfl, hne1, hcell1, hD1, hf1⟩; have hQ2 := zhF te pe d2 g cur (zch sk).2 w1 hD1 hu2; obtain ⟨cs1, hbb0, _, _⟩ := zb6 JD.out; obtain ⟨cs1', hbb1, _, _⟩ := zb6 hD1
       have hB1 := zha JB.out hbb0 hf1)
    | (go_at_call 204; refine hq3.mono ?_; rintro r w3 ⟨rfl, hB3, hf3⟩; refine Hid.out ?_))
   obtain ⟨cs3, hbb3, hgb3, _⟩ := zb6 hD2; have F2 : Fr (DS w b0 d d2) w w2 := (JF.out.trans hf1 (fun k _ e => .inl e)).trans hf2 (fun k _ e => .inl e); have hR2 : Blk w2 w.heap.size 99 #[.string ⟨#[]⟩] := (JR.out.fr hf1 (fun e => Blk.ne_ JR.out hbb0 (by decide) e)).fr hf2 (fun e => Blk.ne_ (JR.out.fr hf1 (fun e => Blk.ne_ JR.out hbb0 (by decide) e)) hbb1 (by decide) e)
   have NB : Hid (Bld w3 b0 d (za9 st1 (k + 1)).1 ⟨#[]⟩) := zk7 (by rw [HNX.out]; exact hB3)
   have ND : Hid (Dec te pe w3 d2 g cur (za9 st1 (k + 1)).2) := zk7 (by
    rw [HNX.out]
    exact ziu hD2 hf3 (zhI hbb3 hdd (by decide)) (zhI hgb3 hgd (by decide)) (fun e => by rcases e with e | ⟨e, _⟩ <;> omega))
   have NF : Hid (Fr (DS w b0 d d2) w w3) := zk7 (Fr.trans F2 hf3 (fun k hk e => DS.back F2 k hk (.inr e))); have NR : Hid (Blk w3 w.heap.size 99 #[.string ⟨#[]⟩]) := zk7 (hR2.fr hf3 (zhI hR2 (by omega) (by decide))); clear hB3 hf3 hD2 hf2 hB2 hq3 hcell2 hQ2 hD1 hcell1 hf1 hB1 hbb0 hbb1 hbb3 hgb3 F2 hR2 q1; refine zk7 ?_; go_wp2_with fail
   go_roundw
   case rel => exact ⟨k + 1, by omega, by go_num, NB, ND, NF, NR⟩
   case measure => simp [intOf]; omega
  ·obtain rfl : k = n := by omega
   have hL := ze5 b0 d (za9 st1 k).1 wr JB.out (by rw [HL.out]; omega) HS.out; obtain ⟨cs, hbb, hgb, _⟩ := zb6 JD.out; have HBQ := zk7 hbb; have HGQ := zk7 hgb; clear hbb hgb
   go_wp2_with (go_at_call 132
                refine hL.mono ?_; rintro r w4 ⟨rfl, hB4, hf4⟩; have hR4 := JR.out.fr hf4 (show ¬ w.heap.size = d by omega); have k4 := hR4.cell 0; have z4 := hR4.frozen 0
                simp at k4)
   have hR5 : Blk (w4.setCell ⟨w.heap.size, 0, none⟩ (.string (zas (za9 st1 k).1))) w.heap.size 99 #[.string (zas (za9 st1 k).1)] := by simpa using hR4.set_ 0 (.string (zas (za9 st1 k).1))
   have hF5 : Fr (DS w b0 d d2) w (w4.setCell ⟨w.heap.size, 0, none⟩ (.string (zas (za9 st1 k).1))) := (JF.out.trans hf4 (fun k _ e => .inr (.inl e))).setCell (p := ⟨w.heap.size, 0, none⟩) (.inr (zlj _)) _; have hc2 : d2 ≠ w.heap.size := Blk.ne_ HBQ.out JR.out (by decide); have hcg : g ≠ w.heap.size := Blk.ne_ HGQ.out JR.out (by decide)
   have hD5 : Dec te pe (w4.setCell ⟨w.heap.size, 0, none⟩ (.string (zas (za9 st1 k).1))) d2 g cur (za9 st1 k).2 :=
    ziu (ziu JD.out hf4 hdd hgd (by omega)) (Fr.at_ w4 w.heap.size 0 _) hc2 hcg (by omega)
   have hB5 : Bld (w4.setCell ⟨w.heap.size, 0, none⟩ (.string (zas (za9 st1 k).1))) b0 d (za9 st1 k).1 (zas (za9 st1 k).1) := hB4.fr (Fr.at_ w4 w.heap.size 0 _) (by omega) (fun g' _ hg e => by
    obtain ⟨cs, hg⟩ := hg
    exact Blk.ne_ hg hR4 (by decide) e)
   generalize w4.setCell ⟨w.heap.size, 0, none⟩ (.string (zas (za9 st1 k).1)) = w7 at hR5 hF5 hD5 hB5 ⊢; refine bodyPost_ret (results_cell_row (P := Tryz.prog) rfl _ _ w.heap.size 99 #[.string (zas (za9 st1 k).1)] (0, 0) _ rfl hR5 Tryz.underlying99 rfl (by kernel_rfl)) rfl ?_; exact ⟨rfl, hD5, hF5, hB5⟩
end Go.Proofs.YtbkookiigkckdaaGreatDoor
