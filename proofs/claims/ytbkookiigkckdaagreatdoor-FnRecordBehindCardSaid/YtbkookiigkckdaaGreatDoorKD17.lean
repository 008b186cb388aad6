/- Merged. -/
import Derived.Test.YtbkookiigkckdaaGreatDoorKD15
set_option linter.unusedVariables false
set_option linter.unusedSimpArgs false
set_option maxRecDepth 100000
set_option maxHeartbeats 8000000
namespace Go.Proofs.YtbkookiigkckdaaGreatDoor
open Go.RowKit Go.Proofs.Tryz
theorem rightG_3 (A0 A1 A2 A3 A4 A5 A6 : Option Addr) (c0 c1 c2 c3 c4 c5 c6 : Nat) (n0 n1 n2 n3 n4 n5 n6 n : Nat) (h0 : n0 <= 1099511627776) (h1 : n1 <= 1099511627776) (h2 : n2 <= 1099511627776) (h3 : n3 <= 1099511627776) (h4 : n4 <= 1099511627776) (h5 : n5 <= 1099511627776) (h6 : n6 <= 1099511627776) (hn : n = n0 + n1 + n2 + n3 + n4 + n5 + n6) (w : World) (P : Nat -> Prop) (lv : List (Ston × Value)) (hs : SlS P w (.slice A2 n2 c2) lv) (hl : lv.length = n2) (hi : ∀ p ∈ lv, p.1.ivs.length <= 1099511627776) :
 Calls prog 30 #[.int .i64 3, .agg #[.slice A0 n0 c0, .slice A1 n1 c1, .slice A2 n2 c2, .slice A3 n3 c3, .slice A4 n4 c4, .slice A5 n5 c5, .slice A6 n6 c6]] w (zas (n <= 12 /\ n = n2 /\ ∀ p ∈ lv, p.1.ivs.length <= 6) w) := by
 have hC := zc9 A0 A1 A2 A3 A4 A5 A6 c0 c1 c2 c3 c4 c5 c6 n0 n1 n2 n3 n4 n5 n6 n h0 h1 h2 h3 h4 h5 h6 hn (w.alloc (.cells #[.slice A0 n0 c0, .slice A1 n1 c1, .slice A2 n2 c2, .slice A3 n3 c3, .slice A4 n4 c4, .slice A5 n5 c5, .slice A6 n6 c6] 54)); have bQ : n2 <= n := by omega
 clear hn; by_cases h12 : n <= 12
 ·have h1x : ¬ (12 : Int) < (n : Int) := by omega
  have HS := zmh hs; have HN := zmh hl; have HI := zmh hi; clear hs hl hi; go_enter func30, ntmps30; go_wp2_with (go_at_call 40; refine hC.mono ?_; rintro r w1 ⟨rfl, ah⟩; obtain ⟨x0, x1, x2, x3, x4, x5, x6⟩ := zad ((znm w 54 #[.slice A0 n0 c0, .slice A1 n1 c1, .slice A2 n2 c2, .slice A3 n3 c3, .slice A4 n4 c4, .slice A5 n5 c5, .slice A6 n6 c6]).fr ah id))
  have HF := zmh (((znl (fun _ => False) w).alloc (.cells #[.slice A0 n0 c0, .slice A1 n1 c1, .slice A2 n2 c2, .slice A3 n3 c3, .slice A4 n4 c4, .slice A5 n5 c5, .slice A6 n6 c6] 54)).same ah); have kP := HF.out.size
  have HB := zmh ((znm w 54 #[.slice A0 n0 c0, .slice A1 n1 c1, .slice A2 n2 c2, .slice A3 n3 c3, .slice A4 n4 c4, .slice A5 n5 c5, .slice A6 n6 c6]).fr ah id); clear ah hC; go_loopw [7] (fun i wr => ∃ k : Nat, k <= n2 /\ i = .int .i64 k /\ Hid (z_F w1 wr) /\ Hid (∀ j p, j < k -> lv[j]? = some p -> p.1.ivs.length <= 6)) (fun i _ => n2 - (intOf i).toNat)
  case atStart => exact ⟨0, zms _, rfl, zmh (znl _ _), zmh (fun j p h => absurd h (zm2 _))⟩
  case round =>
   obtain ⟨k, hk, rfl, RF, RG⟩ := hrel; obtain ⟨y0, y1, y2, y3, y4, y5, y6⟩ := zad (HB.out.fr RF.out id); clear x0 x1 x2 x3 x4 x5 x6; by_cases hlt : k < n2
   ·have hS := HS.out.fr (HF.out.same RF.out) z_i
    obtain ⟨⟨A, c, e2, _, hc, hr⟩, qc⟩ := hS; injection e2 with e2 iV iW; obtain ⟨g, off, rfl, _, aa⟩ := hr (by have := HN.out; omega); obtain ⟨x, hx⟩ : ∃ x, lv[k]? = some x := ⟨_, zmj (by rw [HN.out]; exact hlt)⟩; have aF := zmp hx
    have c1 : wr.cell? ⟨g, off + k * 2 + 1, none⟩ = some x.2 := aa (k * 2 + 1) _ (by rw [zby stc (fun _ => rfl) lv k x hx 1 (by omega)]; rfl); have aY := qc x aF; have aP := HI.out x aF; have fx := zmh aF; have HX := zmh hx; clear hx aF qc; obtain ⟨⟨ref, ivs⟩, iv⟩ := x; simp only [] at c1 aY aP; obtain ⟨Ai, ci, rfl, _, _, _⟩ := aY; subst e2; clear aa hr iV iW
    by_cases h6 : ivs.length <= 6
    ·have hil2 : ¬ (6 : Int) < (ivs.length : Int) := by omega
     go_wp2_with fail
     go_roundw
     case rel => exact ⟨k + 1, by omega, by go_num, RF, zmh (fun j p h h2 => by
      rcases zmK j k with h3 | h3
      ·exact RG.out j p h3 h2
      ·obtain rfl : j = k := by omega
       have h4 := h2.symm.trans HX.out; injection h4 with h4; rw [h4]
       exact h6)⟩
     case measure => simp [intOf]; omega
    ·have hil2 : (6 : Int) < (ivs.length : Int) := by omega
     go_wp2; go_ret; exact ⟨false, rfl, ⟨fun h => (by cases h), fun h => absurd (h.2.2 _ fx.out) h6⟩, HF.out.same RF.out⟩
   ·obtain rfl : k = n2 := by omega
    have aS : Hid (∀ p ∈ lv, p.1.ivs.length <= 6) := zmh (fun p hp => by
     obtain ⟨j, hj, e⟩ := znc hp
     exact RG.out j p (by rw [<- HN.out]; exact hj) (by rw [zmj hj, e]))
    by_cases he : n = k
    ·have HE := zmh he
     have hz : ((n : Int) - (k : Int) == 0) = true := by simp; omega
     clear he; go_wp2; go_ret; refine ⟨_, rfl, ⟨fun _ => ⟨h12, HE.out, aS.out⟩, fun _ => by first | rfl | exact hz | (have := HE.out; simp; omega)⟩, HF.out.same RF.out⟩
    ·have hz : ((n : Int) - (k : Int) == 0) = false := by simp; omega
     go_wp2; go_ret; exact ⟨_, rfl, ⟨fun h => (by first | (cases h; done) | (simp at h; done) | (simp at h; omega)), fun h => absurd h.2.1 he⟩, HF.out.same RF.out⟩
 ·have hx : (12 : Int) < (n : Int) := by omega
  go_enter func30, ntmps30; go_wp2_with (go_at_call 40; refine hC.mono ?_; rintro r w1 ⟨rfl, ah⟩)
  go_ret; exact ⟨false, rfl, ⟨fun h => (by cases h), fun h => absurd h.1 h12⟩, ((znl _ w).alloc _).same ah⟩
theorem rightG_6 (A0 A1 A2 A3 A4 A5 A6 : Option Addr) (c0 c1 c2 c3 c4 c5 c6 : Nat) (n0 n1 n2 n3 n4 n5 n6 n : Nat) (h0 : n0 <= 1099511627776) (h1 : n1 <= 1099511627776) (h2 : n2 <= 1099511627776) (h3 : n3 <= 1099511627776) (h4 : n4 <= 1099511627776) (h5 : n5 <= 1099511627776) (h6 : n6 <= 1099511627776) (hn : n = n0 + n1 + n2 + n3 + n4 + n5 + n6) (w : World) (P : Nat -> Prop) (lv : List Mta) (hs : Sl P w (.slice A4 n4 c4) 4 lv.length (lv.flatMap Mta.c)) (hl : lv.length = n4) (hi : ∀ p ∈ lv, p.unit.size <= 1099511627776 /\ p.help.size <= 1099511627776) :
 Calls prog 30 #[.int .i64 6, .agg #[.slice A0 n0 c0, .slice A1 n1 c1, .slice A2 n2 c2, .slice A3 n3 c3, .slice A4 n4 c4, .slice A5 n5 c5, .slice A6 n6 c6]] w (zas (n <= 12 /\ n = n4 /\ ∀ p ∈ lv, p.unit.size + p.help.size <= 600) w) := by
 have hC := zc9 A0 A1 A2 A3 A4 A5 A6 c0 c1 c2 c3 c4 c5 c6 n0 n1 n2 n3 n4 n5 n6 n h0 h1 h2 h3 h4 h5 h6 hn (w.alloc (.cells #[.slice A0 n0 c0, .slice A1 n1 c1, .slice A2 n2 c2, .slice A3 n3 c3, .slice A4 n4 c4, .slice A5 n5 c5, .slice A6 n6 c6] 54)); have bQ : n4 <= n := by omega
 clear hn; by_cases h12 : n <= 12
 ·have h1x : ¬ (12 : Int) < (n : Int) := by omega
  have HS := zmh hs; have HN := zmh hl; have HI := zmh hi; clear hs hl hi; go_enter func30, ntmps30; go_wp2_with (go_at_call 40; refine hC.mono ?_; rintro r w1 ⟨rfl, ah⟩; obtain ⟨x0, x1, x2, x3, x4, x5, x6⟩ := zad ((znm w 54 #[.slice A0 n0 c0, .slice A1 n1 c1, .slice A2 n2 c2, .slice A3 n3 c3, .slice A4 n4 c4, .slice A5 n5 c5, .slice A6 n6 c6]).fr ah id))
  have HF := zmh (((znl (fun _ => False) w).alloc (.cells #[.slice A0 n0 c0, .slice A1 n1 c1, .slice A2 n2 c2, .slice A3 n3 c3, .slice A4 n4 c4, .slice A5 n5 c5, .slice A6 n6 c6] 54)).same ah); have kP := HF.out.size
  have HB := zmh ((znm w 54 #[.slice A0 n0 c0, .slice A1 n1 c1, .slice A2 n2 c2, .slice A3 n3 c3, .slice A4 n4 c4, .slice A5 n5 c5, .slice A6 n6 c6]).fr ah id); clear ah hC; go_loopw [9] (fun i wr => ∃ k : Nat, k <= n4 /\ i = .int .i64 k /\ Hid (z_F w1 wr) /\ Hid (∀ j p, j < k -> lv[j]? = some p -> p.unit.size + p.help.size <= 600)) (fun i _ => n4 - (intOf i).toNat)
  case atStart => exact ⟨0, zms _, rfl, zmh (znl _ _), zmh (fun j p h => absurd h (zm2 _))⟩
  case round =>
   obtain ⟨k, hk, rfl, RF, RG⟩ := hrel; obtain ⟨y0, y1, y2, y3, y4, y5, y6⟩ := zad (HB.out.fr RF.out id); clear x0 x1 x2 x3 x4 x5 x6; by_cases hlt : k < n4
   ·have hS := HS.out.fr (HF.out.same RF.out) z_i
    obtain ⟨A, c, e2, _, hc, hr⟩ := hS; injection e2 with e2 iV iW; obtain ⟨g, off, rfl, _, aa⟩ := hr (by have := HN.out; omega); obtain ⟨x, hx⟩ : ∃ x, lv[k]? = some x := ⟨_, zmj (by rw [HN.out]; exact hlt)⟩; have aF := zmp hx
    have q2 : wr.cell? ⟨g, off + k * 4 + 2, none⟩ = some (.string x.unit) := aa (k * 4 + 2) _ (by rw [zdy Mta.c (fun _ => rfl) lv k x hx 2 (by omega)]; rfl); have q3 : wr.cell? ⟨g, off + k * 4 + 3, none⟩ = some (.string x.help) := aa (k * 4 + 3) _ (by rw [zdy Mta.c (fun _ => rfl) lv k x hx 3 (by omega)]; rfl); have aP := HI.out x aF; have fx := zmh aF; have HX := zmh hx
    clear hx aF; subst e2; have eT := zmh q2; have c8 := zmh q3; have oU := zmh y4; clear aa hr iV iW; have hwp : IntKind.i64.wrap ((x.unit.size : Int) + (x.help.size : Int)) = (x.unit.size : Int) + (x.help.size : Int) := by rw [IntKind.wrap_i64]; omega
    by_cases h6 : x.unit.size + x.help.size <= 600
    ·have h6i : ¬ (600 : Int) < IntKind.i64.wrap ((x.unit.size : Int) + (x.help.size : Int)) := by rw [hwp]; omega
     clear hwp; go_wp2_with fail
     go_region_held3 (fun w' => w'.cell? ⟨w.heap.size, 4, none⟩ = some (.slice (some ⟨g, off, none⟩) n4 c4) /\ w'.cell? ⟨g, off + k * 4 + 2, none⟩ = some (.string x.unit) /\ w'.cell? ⟨g, off + k * 4 + 3, none⟩ = some (.string x.help))
      ((first | (go_split_ands; refine ⟨?_, ?_, ?_⟩ <;> first | exact oU.out | exact eT.out | exact c8.out) | go_keep))
      (fail)
     go_wp2; go_roundw
     case rel => exact ⟨k + 1, by omega, by go_num, zmh RF.out.drew, zmh (fun j p h h2 => by
      rcases zmK j k with h3 | h3
      ·exact RG.out j p h3 h2
      ·obtain rfl : j = k := by omega
       have h4 := h2.symm.trans HX.out; injection h4 with h4; rw [h4]
       exact h6)⟩
     case measure => simp [intOf]; omega
    ·have h6i : (600 : Int) < IntKind.i64.wrap ((x.unit.size : Int) + (x.help.size : Int)) := by rw [hwp]; omega
     clear hwp; go_wp2_with fail
     go_region_held3 (fun w' => w'.cell? ⟨w.heap.size, 4, none⟩ = some (.slice (some ⟨g, off, none⟩) n4 c4) /\ w'.cell? ⟨g, off + k * 4 + 2, none⟩ = some (.string x.unit) /\ w'.cell? ⟨g, off + k * 4 + 3, none⟩ = some (.string x.help))
      ((first | (go_split_ands; refine ⟨?_, ?_, ?_⟩ <;> first | exact oU.out | exact eT.out | exact c8.out) | go_keep))
      (fail)
     go_wp2; go_ret; exact ⟨false, rfl, ⟨fun h => (by cases h), fun h => absurd (h.2.2 _ fx.out) h6⟩, HF.out.same RF.out.drew⟩
   ·obtain rfl : k = n4 := by omega
    have aS : Hid (∀ p ∈ lv, p.unit.size + p.help.size <= 600) := zmh (fun p hp => by
     obtain ⟨j, hj, e⟩ := znc hp
     exact RG.out j p (by rw [<- HN.out]; exact hj) (by rw [zmj hj, e]))
    by_cases he : n = k
    ·have HE := zmh he
     have hz : ((n : Int) - (k : Int) == 0) = true := by simp; omega
     clear he; go_wp2; go_ret; refine ⟨_, rfl, ⟨fun _ => ⟨h12, HE.out, aS.out⟩, fun _ => by first | rfl | exact hz | (have := HE.out; simp; omega)⟩, HF.out.same RF.out⟩
    ·have hz : ((n : Int) - (k : Int) == 0) = false := by simp; omega
     go_wp2; go_ret; exact ⟨_, rfl, ⟨fun h => (by first | (cases h; done) | (simp at h; done) | (simp at h; omega)), fun h => absurd h.2.1 he⟩, HF.out.same RF.out⟩
 ·have hx : (12 : Int) < (n : Int) := by omega
  go_enter func30, ntmps30; go_wp2_with (go_at_call 40; refine hC.mono ?_; rintro r w1 ⟨rfl, ah⟩)
  go_ret; exact ⟨false, rfl, ⟨fun h => (by cases h), fun h => absurd h.1 h12⟩, ((znl _ w).alloc _).same ah⟩
end Go.Proofs.YtbkookiigkckdaaGreatDoor
