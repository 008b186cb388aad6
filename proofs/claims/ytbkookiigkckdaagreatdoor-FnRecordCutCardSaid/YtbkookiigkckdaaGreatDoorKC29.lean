/- Texts of this seat, merged and shortened. -/
import Derived.Test.YtbkookiigkckdaaGreatDoorKC27
import Derived.Test.YtbkookiigkckdaaGreatDoorKC28
set_option linter.unusedVariables false
set_option linter.unusedSimpArgs false
set_option maxRecDepth 100000
set_option maxHeartbeats 8000000
namespace Go.Proofs.YtbkookiigkckdaaGreatDoor
open Go.RowKit Go.Proofs.Tryz
theorem rightG_3 (A0 A1 A2 A3 A4 A5 A6 : Option Addr) (c0 c1 c2 c3 c4 c5 c6 : Nat) (n0 n1 n2 n3 n4 n5 n6 n : Nat) (h0 : n0 <= 1099511627776) (h1 : n1 <= 1099511627776) (h2 : n2 <= 1099511627776) (h3 : n3 <= 1099511627776) (h4 : n4 <= 1099511627776) (h5 : n5 <= 1099511627776) (h6 : n6 <= 1099511627776) (hn : n = n0 + n1 + n2 + n3 + n4 + n5 + n6) (w : World) (P : Nat -> Prop) (lv : List (Ston × Value)) (hs : SlS P w (.slice A2 n2 c2) lv) (hl : lv.length = n2) (hi : ∀ p ∈ lv, p.1.ivs.length <= 1099511627776) :
 Calls prog 30 #[.int .i64 3, .agg #[.slice A0 n0 c0, .slice A1 n1 c1, .slice A2 n2 c2, .slice A3 n3 c3, .slice A4 n4 c4, .slice A5 n5 c5, .slice A6 n6 c6]] w (zav (n <= 12 /\ n = n2 /\ ∀ p ∈ lv, p.1.ivs.length <= 6) w) := by
 have hC := zcU A0 A1 A2 A3 A4 A5 A6 c0 c1 c2 c3 c4 c5 c6 n0 n1 n2 n3 n4 n5 n6 n h0 h1 h2 h3 h4 h5 h6 hn (w.alloc (.cells #[.slice A0 n0 c0, .slice A1 n1 c1, .slice A2 n2 c2, .slice A3 n3 c3, .slice A4 n4 c4, .slice A5 n5 c5, .slice A6 n6 c6] 54)); have bN : n2 <= n := by omega
 clear hn; by_cases h12 : n <= 12
 ·have h1x : ¬ (12 : Int) < (n : Int) := by omega
  have HS := zmk hs; have HN := zmk hl; have HI := zmk hi; clear hs hl hi; go_enter func30, ntmps30; go_wp2_with (go_at_call 40; refine hC.mono ?_; rintro r w1 ⟨rfl, ai⟩; obtain ⟨x0, x1, x2, x3, x4, x5, x6⟩ := zah ((znr w 54 #[.slice A0 n0 c0, .slice A1 n1 c1, .slice A2 n2 c2, .slice A3 n3 c3, .slice A4 n4 c4, .slice A5 n5 c5, .slice A6 n6 c6]).fr ai (fun e => e)))
  have HF := zmk (((znq (fun _ => False) w).alloc (.cells #[.slice A0 n0 c0, .slice A1 n1 c1, .slice A2 n2 c2, .slice A3 n3 c3, .slice A4 n4 c4, .slice A5 n5 c5, .slice A6 n6 c6] 54)).same ai); have kG := HF.out.size
  have HB := zmk ((znr w 54 #[.slice A0 n0 c0, .slice A1 n1 c1, .slice A2 n2 c2, .slice A3 n3 c3, .slice A4 n4 c4, .slice A5 n5 c5, .slice A6 n6 c6]).fr ai (fun e => e)); clear ai hC; go_loopw [7] (fun i wr => ∃ k : Nat, k <= n2 /\ i = .int .i64 k /\ Hid (Fr (fun _ => False) w1 wr) /\ Hid (∀ j p, j < k -> lv[j]? = some p -> p.1.ivs.length <= 6)) (fun i _ => n2 - (intOf i).toNat)
  case atStart => exact ⟨0, zmv _, rfl, zmk (znq _ _), zmk (fun j p h => absurd h (zm5 _))⟩
  case round =>
   obtain ⟨k, hk, rfl, RF, RG⟩ := hrel; obtain ⟨y0, y1, y2, y3, y4, y5, y6⟩ := zah (HB.out.fr RF.out (fun e => e)); clear x0 x1 x2 x3 x4 x5 x6; by_cases hlt : k < n2
   ·have hS := HS.out.fr (HF.out.same RF.out) (fun _ _ e => e)
    obtain ⟨⟨A, c, e2, _, hc, hr⟩, pH⟩ := hS; injection e2 with e2 iL iM; obtain ⟨g, off, rfl, _, aa⟩ := hr (by have := HN.out; omega); obtain ⟨x, hx⟩ : ∃ x, lv[k]? = some x := ⟨_, zmm (by rw [HN.out]; exact hlt)⟩; have aH := zms hx
    have c1 : wr.cell? ⟨g, off + k * 2 + 1, none⟩ = some x.2 := aa (k * 2 + 1) _ (by rw [zbE stc (fun _ => rfl) lv k x hx 1 (by omega)]; rfl); have b8 := pH x aH; have aP := HI.out x aH; have ft := zmk aH; have HX := zmk hx; clear hx aH pH; obtain ⟨⟨ref, ivs⟩, iv⟩ := x; simp only [] at c1 b8 aP; obtain ⟨Ai, ci, rfl, _, _, _⟩ := b8; subst e2; clear aa hr iL iM
    by_cases h6 : ivs.length <= 6
    ·have hil2 : ¬ (6 : Int) < (ivs.length : Int) := by omega
     go_wp2_with fail
     go_roundw
     case rel => exact ⟨k + 1, by omega, by go_num, RF, zmk (fun j p h h2 => by
      rcases zmN j k with h3 | h3
      ·exact RG.out j p h3 h2
      ·obtain rfl : j = k := by omega
       have h4 := h2.symm.trans HX.out; injection h4 with h4; rw [h4]
       exact h6)⟩
     case measure => simp [intOf]; omega
    ·have hil2 : (6 : Int) < (ivs.length : Int) := by omega
     go_wp2; go_ret; exact ⟨false, rfl, ⟨fun h => (by cases h), fun h => absurd (h.2.2 _ ft.out) h6⟩, HF.out.same RF.out⟩
   ·obtain rfl : k = n2 := by omega
    have bw : Hid (∀ p ∈ lv, p.1.ivs.length <= 6) := zmk (fun p hp => by
     obtain ⟨j, hj, e⟩ := zng hp
     exact RG.out j p (by rw [<- HN.out]; exact hj) (by rw [zmm hj, e]))
    by_cases he : n = k
    ·have HE := zmk he
     have hz : ((n : Int) - (k : Int) == 0) = true := by simp; omega
     clear he; go_wp2; go_ret; refine ⟨_, rfl, ⟨fun _ => ⟨h12, HE.out, bw.out⟩, fun _ => by first | rfl | exact hz | (have := HE.out; simp; omega)⟩, HF.out.same RF.out⟩
    ·have hz : ((n : Int) - (k : Int) == 0) = false := by simp; omega
     go_wp2; go_ret; exact ⟨_, rfl, ⟨fun h => (by first | (cases h; done) | (simp at h; done) | (simp at h; omega)), fun h => absurd h.2.1 he⟩, HF.out.same RF.out⟩
 ·have hx : (12 : Int) < (n : Int) := by omega
  go_enter func30, ntmps30; go_wp2_with (go_at_call 40; refine hC.mono ?_; rintro r w1 ⟨rfl, ai⟩)
  go_ret; exact ⟨false, rfl, ⟨fun h => (by cases h), fun h => absurd h.1 h12⟩, ((znq _ w).alloc _).same ai⟩
theorem rightG_6 (A0 A1 A2 A3 A4 A5 A6 : Option Addr) (c0 c1 c2 c3 c4 c5 c6 : Nat) (n0 n1 n2 n3 n4 n5 n6 n : Nat) (h0 : n0 <= 1099511627776) (h1 : n1 <= 1099511627776) (h2 : n2 <= 1099511627776) (h3 : n3 <= 1099511627776) (h4 : n4 <= 1099511627776) (h5 : n5 <= 1099511627776) (h6 : n6 <= 1099511627776) (hn : n = n0 + n1 + n2 + n3 + n4 + n5 + n6) (w : World) (P : Nat -> Prop) (lv : List Mta) (hs : Sl P w (.slice A4 n4 c4) 4 lv.length (lv.flatMap Mta.c)) (hl : lv.length = n4) (hi : ∀ p ∈ lv, p.unit.size <= 1099511627776 /\ p.help.size <= 1099511627776) :
 Calls prog 30 #[.int .i64 6, .agg #[.slice A0 n0 c0, .slice A1 n1 c1, .slice A2 n2 c2, .slice A3 n3 c3, .slice A4 n4 c4, .slice A5 n5 c5, .slice A6 n6 c6]] w (zav (n <= 12 /\ n = n4 /\ ∀ p ∈ lv, p.unit.size + p.help.size <= 600) w) := by
 have hC := zcU A0 A1 A2 A3 A4 A5 A6 c0 c1 c2 c3 c4 c5 c6 n0 n1 n2 n3 n4 n5 n6 n h0 h1 h2 h3 h4 h5 h6 hn (w.alloc (.cells #[.slice A0 n0 c0, .slice A1 n1 c1, .slice A2 n2 c2, .slice A3 n3 c3, .slice A4 n4 c4, .slice A5 n5 c5, .slice A6 n6 c6] 54)); have bN : n4 <= n := by omega
 clear hn; by_cases h12 : n <= 12
 ·have h1x : ¬ (12 : Int) < (n : Int) := by omega
  have HS := zmk hs; have HN := zmk hl; have HI := zmk hi; clear hs hl hi; go_enter func30, ntmps30; go_wp2_with (go_at_call 40; refine hC.mono ?_; rintro r w1 ⟨rfl, ai⟩; obtain ⟨x0, x1, x2, x3, x4, x5, x6⟩ := zah ((znr w 54 #[.slice A0 n0 c0, .slice A1 n1 c1, .slice A2 n2 c2, .slice A3 n3 c3, .slice A4 n4 c4, .slice A5 n5 c5, .slice A6 n6 c6]).fr ai (fun e => e)))
  have HF := zmk (((znq (fun _ => False) w).alloc (.cells #[.slice A0 n0 c0, .slice A1 n1 c1, .slice A2 n2 c2, .slice A3 n3 c3, .slice A4 n4 c4, .slice A5 n5 c5, .slice A6 n6 c6] 54)).same ai); have kG := HF.out.size
  have HB := zmk ((znr w 54 #[.slice A0 n0 c0, .slice A1 n1 c1, .slice A2 n2 c2, .slice A3 n3 c3, .slice A4 n4 c4, .slice A5 n5 c5, .slice A6 n6 c6]).fr ai (fun e => e)); clear ai hC; go_loopw [9] (fun i wr => ∃ k : Nat, k <= n4 /\ i = .int .i64 k /\ Hid (Fr (fun _ => False) w1 wr) /\ Hid (∀ j p, j < k -> lv[j]? = some p -> p.unit.size + p.help.size <= 600)) (fun i _ => n4 - (intOf i).toNat)
  case atStart => exact ⟨0, zmv _, rfl, zmk (znq _ _), zmk (fun j p h => absurd h (zm5 _))⟩
  case round =>
   obtain ⟨k, hk, rfl, RF, RG⟩ := hrel; obtain ⟨y0, y1, y2, y3, y4, y5, y6⟩ := zah (HB.out.fr RF.out (fun e => e)); clear x0 x1 x2 x3 x4 x5 x6; by_cases hlt : k < n4
   ·have hS := HS.out.fr (HF.out.same RF.out) (fun _ _ e => e)
    obtain ⟨A, c, e2, _, hc, hr⟩ := hS; injection e2 with e2 iL iM; obtain ⟨g, off, rfl, _, aa⟩ := hr (by have := HN.out; omega); obtain ⟨x, hx⟩ : ∃ x, lv[k]? = some x := ⟨_, zmm (by rw [HN.out]; exact hlt)⟩; have aH := zms hx
    have q2 : wr.cell? ⟨g, off + k * 4 + 2, none⟩ = some (.string x.unit) := aa (k * 4 + 2) _ (by rw [zdA Mta.c (fun _ => rfl) lv k x hx 2 (by omega)]; rfl); have q3 : wr.cell? ⟨g, off + k * 4 + 3, none⟩ = some (.string x.help) := aa (k * 4 + 3) _ (by rw [zdA Mta.c (fun _ => rfl) lv k x hx 3 (by omega)]; rfl); have aP := HI.out x aH; have ft := zmk aH; have HX := zmk hx
    clear hx aH; subst e2; have eS := zmk q2; have bZ := zmk q3; have oy := zmk y4; clear aa hr iL iM; have hwp : IntKind.i64.wrap ((x.unit.size : Int) + (x.help.size : Int)) = (x.unit.size : Int) + (x.help.size : Int) := by rw [IntKind.wrap_i64]; omega
    by_cases h6 : x.unit.size + x.help.size <= 600
    ·have h6i : ¬ (600 : Int) < IntKind.i64.wrap ((x.unit.size : Int) + (x.help.size : Int)) := by rw [hwp]; omega
     clear hwp; go_wp2_with fail
     go_region_held3 (fun w' => w'.cell? ⟨w.heap.size, 4, none⟩ = some (.slice (some ⟨g, off, none⟩) n4 c4) /\ w'.cell? ⟨g, off + k * 4 + 2, none⟩ = some (.string x.unit) /\ w'.cell? ⟨g, off + k * 4 + 3, none⟩ = some (.string x.help))
      ((first | (go_split_ands; refine ⟨?_, ?_, ?_⟩ <;> first | exact oy.out | exact eS.out | exact bZ.out) | go_keep))
      (fail)
     go_wp2; go_roundw
     case rel => exact ⟨k + 1, by omega, by go_num, zmk RF.out.drew, zmk (fun j p h h2 => by
      rcases zmN j k with h3 | h3
      ·exact RG.out j p h3 h2
      ·obtain rfl : j = k := by omega
       have h4 := h2.symm.trans HX.out; injection h4 with h4; rw [h4]
       exact h6)⟩
     case measure => simp [intOf]; omega
    ·have h6i : (600 : Int) < IntKind.i64.wrap ((x.unit.size : Int) + (x.help.size : Int)) := by rw [hwp]; omega
     clear hwp; go_wp2_with fail
     go_region_held3 (fun w' => w'.cell? ⟨w.heap.size, 4, none⟩ = some (.slice (some ⟨g, off, none⟩) n4 c4) /\ w'.cell? ⟨g, off + k * 4 + 2, none⟩ = some (.string x.unit) /\ w'.cell? ⟨g, off + k * 4 + 3, none⟩ = some (.string x.help))
      ((first | (go_split_ands; refine ⟨?_, ?_, ?_⟩ <;> first | exact oy.out | exact eS.out | exact bZ.out) | go_keep))
      (fail)
     go_wp2; go_ret; exact ⟨false, rfl, ⟨fun h => (by cases h), fun h => absurd (h.2.2 _ ft.out) h6⟩, HF.out.same RF.out.drew⟩
   ·obtain rfl : k = n4 := by omega
    have bw : Hid (∀ p ∈ lv, p.unit.size + p.help.size <= 600) := zmk (fun p hp => by
     obtain ⟨j, hj, e⟩ := zng hp
     exact RG.out j p (by rw [<- HN.out]; exact hj) (by rw [zmm hj, e]))
    by_cases he : n = k
    ·have HE := zmk he
     have hz : ((n : Int) - (k : Int) == 0) = true := by simp; omega
     clear he; go_wp2; go_ret; refine ⟨_, rfl, ⟨fun _ => ⟨h12, HE.out, bw.out⟩, fun _ => by first | rfl | exact hz | (have := HE.out; simp; omega)⟩, HF.out.same RF.out⟩
    ·have hz : ((n : Int) - (k : Int) == 0) = false := by simp; omega
     go_wp2; go_ret; exact ⟨_, rfl, ⟨fun h => (by first | (cases h; done) | (simp at h; done) | (simp at h; omega)), fun h => absurd h.2.1 he⟩, HF.out.same RF.out⟩
 ·have hx : (12 : Int) < (n : Int) := by omega
  go_enter func30, ntmps30; go_wp2_with (go_at_call 40; refine hC.mono ?_; rintro r w1 ⟨rfl, ai⟩)
  go_ret; exact ⟨false, rfl, ⟨fun h => (by cases h), fun h => absurd h.1 h12⟩, ((znq _ w).alloc _).same ai⟩
theorem lo_bounds {lo lv : List (Ston × Value)} (hm : lo.map Prod.fst = lv.map Prod.fst) (au : lv.length <= 4096) (aP : ∀ s ∈ lv.map Prod.fst, s.ivs.length <= 4096) (aG : ∀ s ∈ lv.map Prod.fst, s.wf) :
 lo.length <= 4096 /\ (∀ p ∈ lo, p.1.ivs.length <= 4096) /\ (∀ s ∈ lo.map Prod.fst, s.wf) := by
 have h1 : lo.length = lv.length := by have := znb List.length hm; simpa using this
 refine ⟨by omega, fun p hp => aP _ ?_, fun s hs => aG _ ?_⟩
 ·rw [<- hm]; exact zmQ.2 ⟨p, hp, rfl⟩
 ·rw [<- hm]; exact hs
theorem zjR {w w1 : World} {v : Value} {m : Nat} {ys : List Value} (h : w.ownsRow 0 5 1 v m ys) : ∀ g, (w.drew.heap.size <= g /\ g < w1.heap.size) -> g < w1.heap.size /\ some g ≠ v.ownBlock := fun g hg =>
 ⟨hg.2, fun e => by have h1 := zas h e.symm; have h2 : w.heap.size <= g := hg.1; omega⟩
theorem zhZ (bk bp bb br : Nat) (ep lp : Value) (P : Nat -> Prop) (s0 s1 s2 s3 s4 s5 s6 v z : Value) (xs : List UInt8) (lv : List (Ston × Value)) (w : World) (hk : Blk w bk 3 #[.int .i64 3]) (hp : Blk w bp 54 #[s0, s1, s2, s3, s4, s5, s6]) (hb : Blk w bb 44 #[v]) (hr : Blk w br 44 #[z])
 (ab : w.ownsRow 0 5 1 v xs.length (bc xs)) (hs : SlS P w s2 lv) (hl : xs.length <= 1073741824) (au : lv.length <= 4096) (aP : ∀ s ∈ lv.map Prod.fst, s.ivs.length <= 4096) (aG : ∀ s ∈ lv.map Prod.fst, s.wf) (bL : bb ≠ br) :
 Calls prog 90 #[.pointer (some ⟨bk, 0, none⟩), ep, .pointer (some ⟨bp, 0, none⟩), .pointer (some ⟨bb, 0, none⟩), .pointer (some ⟨br, 0, none⟩), lp] w (zcu w br v.ownBlock (xs ++ za9 (lv.map Prod.fst))) := by
 have iq : bp ≠ br := zns hp hr (by decide); have k0 := hk.cell 0; have p1 := hp.cell 2; have b0 := hb.cell 0; simp at k0 p1 b0; obtain ⟨a', n', k', rfl⟩ := zac ab; have bA : ∃ A m c, s2 = .slice A m c := let ⟨A, c, h, _⟩ := hs.1; ⟨A, _, c, h⟩
 obtain ⟨A, m, c, rfl⟩ := bA; have hQ := ze1 P (.slice A m c) lv w.drew hs (by omega) (fun p hp => by have := aP p.1 (zmQ.2 ⟨p, hp, rfl⟩); omega); have HB := zmk hb; have HP := zmk hp; have HR := zmk hr; have HO := zmk ab; have gr : w.drew.cell? ⟨bp, 2, none⟩ = some (.slice A m c) := p1; have gV : w.drew.cell? ⟨bb, 0, none⟩ = some (.slice a' n' k') := b0
 clear hk hp hb hr ab hs; go_enter func90, ntmps90; go_wp2_with fail
 have HW := zmk aG; clear aG; go_region_held3 (fun w' => w'.cell? ⟨bp, 2, none⟩ = some (.slice A m c) /\ w'.cell? ⟨bb, 0, none⟩ = some (.slice a' n' k'))
  ((first | (go_split_ands; refine ⟨?_, ?_⟩ <;> first | exact ((HP.out.drew).fr ai (fun e => e)).cell 2 | exact ((HB.out.drew).fr ai (fun e => e)).cell 0) | (go_split_ands; refine ⟨?_, ?_⟩ <;> first | exact KP.out.cell 2 | exact KB.out.cell 0) | (go_split_ands; refine ⟨?_, ?_⟩ <;> first | exact (KP.out.far (p := ⟨br, 0, none⟩) iq _).cell 2 | exact (KB.out.far (p := ⟨br, 0, none⟩) bL _).cell 0) | go_keep))
  ((first
    | (go_at_call 75; refine hQ.mono ?_; rintro r1 w1 ⟨v1, lo, rfl, jv, an, ai⟩; have LB := lo_bounds jv au aP HW.out)
    | (go_at_call 93; refine (ziq ep v1 _ (.slice a' n' k') xs lo w1 an.sl (zaj (World.ownsRow.drew HO.out) ai (fun _ _ e => e)) hl LB.1 LB.2.1 LB.2.2 (zjR HO.out)).mono ?_; rintro r2 w2 ⟨v2, rfl, af, ar, bu⟩; rw [jv] at af; obtain ⟨KP, KB, KR⟩ := zbj HP.out HB.out HR.out HO.out ai ar; have q0 := KR.out.cell 0; simp at q0; have q1 := KR.out.frozen 0; obtain ⟨a2, n2, k2, rfl⟩ := zac af)))
 have HE : Fr (fun k => some k = (Value.slice a' n' k').ownBlock ∨ k = br) w (w2.setCell ⟨br, 0, none⟩ (.slice a2 n2 k2)) :=
  ((((znq (fun k => some k = (Value.slice a' n' k').ownBlock ∨ k = br) w).drew).trans ai (fun _ _ e => e.elim)).trans ar (fun _ _ e => .inl e)).setCell (p := ⟨br, 0, none⟩) (.inl (.inr rfl)) _
 have HV : Blk (w2.setCell ⟨br, 0, none⟩ (.slice a2 n2 k2)) br 44 #[.slice a2 n2 k2] := by simpa using KR.out.set_ 0 (.slice a2 n2 k2)
 have HF := zmk HE; have iN := zmk HV; have eT : (w2.setCell ⟨br, 0, none⟩ (.slice a2 n2 k2)).ownsRow 0 5 1 (.slice a2 n2 k2) (xs ++ za9 (lv.map Prod.fst)).length (bc (xs ++ za9 (lv.map Prod.fst))) := zaj af (Fr.put_ w2 br 0 _) (fun g hg e => zak af KR.out (by decide) (by rw [hg, e])); have dO := zmk eT; have bG := ai.size; have gd := zmk bu
 clear HE HV eT an ai af ar bu q0 q1 hQ p1 gr b0 gV; go_wp2; go_end0; refine ⟨rfl, _, iN.out, dO.out, HF.out, ?_⟩; rcases gd.out with h | ⟨k, h, hk⟩
 ·exact .inl h
 ·exact .inr ⟨k, h, by simp at bG; omega⟩
theorem ze3 (s0 s1 s2 s3 s4 s5 s6 bv : Value) (xs : List UInt8) (lv : List (Ston × Value)) (P : Nat -> Prop) (w : World) (hb : Sl P w bv 1 xs.length (bc xs)) (bh : xs.length <= 1073741824)
 (au : ∀ s ∈ [s0, s1, s2, s3, s4, s5, s6], ∃ A m c, s = .slice A m c) (hs : SlS P w s2 lv) (dh : lv.length <= 4096) (aP : ∀ s ∈ lv.map Prod.fst, s.ivs.length <= 4096) (aG : ∀ s ∈ lv.map Prod.fst, s.wf) :
 Calls prog 31 #[.int .i64 3, .agg #[s0, s1, s2, s3, s4, s5, s6], bv] w (zbO (fun lv _ => lv = .slice none 0 0) w (xs ++ za9 (lv.map Prod.fst))) := by
 refine zaS 3 s0 s1 s2 s3 s4 s5 s6 bv xs _ P _ w hb bh au (by rintro lv W rfl; exact ⟨_, _, _, rfl⟩) (fun _ _ _ h _ => h) ?_; intro bk be bp bb br bl v W hk hp bK hr hl ab bL hF
 exact (zhZ bk bp bb br _ _ P s0 s1 s2 s3 s4 s5 s6 v _ xs lv W hk hp bK hr (zai ab (zmv _)) (hs.fr hF (fun _ _ e => e)) bh dh aP aG bL).mono fun r w' h => zde (zai ab (zmv _)) hr hl h
theorem zeG (P : Nat -> Prop) (W : World) : Sl P W (.slice none 0 0) 1 ([] : List UInt8).length (bc []) := ⟨none, 0, rfl, rfl, zmw _, fun h => absurd h (zm4 _)⟩
theorem LabOk.wide {l : List Lab} (h : LabOk l 8 300) : LabOk l 12 600 := ⟨zm3 h.1 (by omega), fun p hp => by have := h.2.1 p hp; exact ⟨this.1, by omega, by omega⟩, h.2.2⟩
theorem zip {h : Hst} (k : h.few 2147483647) : h.few 1099511627776 := by
 obtain ⟨a, b, c, d, e, f, g⟩ := k; exact ⟨by omega, by omega, by omega, by omega, by omega, by omega, by omega⟩
theorem zd2 {p : Rhs} {fl : Bool} (h : (p.ref < 18446744073709551616 /\ -9223372036854775808 <= p.t /\ p.t <= 9223372036854775807) /\ p.h.wide) (hs : zb5 fl p.h) : p.ok :=
 ⟨h.1.1, h.1.2.1, h.1.2.2, h.2.ok (by have h1 := hs.1; unfold Hst.total at h1; exact ⟨by omega, by omega, by omega, by omega, by omega, by omega, by omega⟩)⟩
end Go.Proofs.YtbkookiigkckdaaGreatDoor
namespace Go.Proofs.YtbkookiigkckdaaGreatDoor
open Go Go.ChangeShapes Go.WideShapes Go.ChangeAt Go.RowKit Go.Proofs.Tryz
theorem c46 : prog.cellsOf 46 = 1 := by kernel_rfl
theorem c47 : prog.cellsOf 47 = 1 := by kernel_rfl
theorem c48 : prog.cellsOf 48 = 1 := by kernel_rfl
theorem c49 : prog.cellsOf 49 = 1 := by kernel_rfl
theorem c50 : prog.cellsOf 50 = 1 := by kernel_rfl
theorem c51 : prog.cellsOf 51 = 1 := by kernel_rfl
theorem c52 : prog.cellsOf 52 = 1 := by kernel_rfl
theorem parts_in {H : Type} {enc : TypeId × Value -> H} {W : World} {cs : Array Value} {d : DataW H} {p : List MemPlace}
 (h : DataW.Trod enc prog W 0 (fun _ => true) true 54 (.agg cs) d p) (bG : cs.size = 7) : ∃ (q : Prt) (s0 s1 s2 s3 s4 s5 s6 : Value), cs = #[s0, s1, s2, s3, s4, s5, s6] /\ q.At (Old W) W s0 s1 s2 s3 s4 s5 s6 /\ q.Wide := by
 obtain ⟨fuel, fj⟩ := h; have ai : zby enc W fuel 54 cs.toList (d, p) := fj; obtain ⟨n, _, hf⟩ := zbM underlying54 ai; obtain ⟨l⟩ := cs; have hl : l.length = 7 := by simpa using bG
 match l, hl with
 | [a0, a1, a2, a3, a4, a5, a6], _ =>
   obtain ⟨y0, h0⟩ := hf 0 _ a0 rfl c46 rfl; obtain ⟨y1, h1⟩ := hf 1 _ a1 rfl c47 rfl; obtain ⟨y2, h2⟩ := hf 2 _ a2 rfl c48 rfl; obtain ⟨y3, h3⟩ := hf 3 _ a3 rfl c49 rfl; obtain ⟨y4, h4⟩ := hf 4 _ a4 rfl c50 rfl; obtain ⟨y5, h5⟩ := hf 5 _ a5 rfl c51 rfl; obtain ⟨y6, h6⟩ := hf 6 _ a6 rfl c52 rfl; obtain ⟨l0, m0, w0, z0⟩ := in_series h0; obtain ⟨l1, m1, w1, z1⟩ := zlv h1
   obtain ⟨l2, m2, w2, z2⟩ := in_stones h2; obtain ⟨l3, m3, w3, z3⟩ := zi6 h3; obtain ⟨l4, m4, w4, z4⟩ := zkm h4; obtain ⟨l5, m5, w5, z5⟩ := zlw h5; obtain ⟨l6, m6, w6, z6⟩ := zil h6; exact ⟨⟨l0, l1, l2, l3, l4, l5, l6⟩, a0, a1, a2, a3, a4, a5, a6, rfl, ⟨z0, z1, z2, z3, z4, z5, z6⟩, ⟨m0, m1, m2, m3, m4, m5, m6, w0, w1, w2, w3, w4, w5, w6⟩⟩
theorem u16_wf {z : Int} (h : (Lit.int .u16 z).wf = true) : (0 : Int) <= z /\ z <= 65535 := by
 simp only [Lit.wf, Bool.and_eq_true, decide_eq_true_eq] at h; exact h
theorem cut_walk (te : TypeId) (pe : Value) (P : Nat -> Prop) (bD av : Nat) (hc : bD <= 255) (hav : av <= 65535) (q : Prt) (s0 s1 s2 s3 s4 s5 s6 : Value) (w : World) (hq : q.At P w s0 s1 s2 s3 s4 s5 s6) (hw : q.Wide)
 (hE : w.cell? ⟨2, 0, none⟩ = some (.iface te pe)) :
 Calls prog 10 #[.int .u8 bD, .agg #[s0, s1, s2, s3, s4, s5, s6], .int .u16 av] w (zap w) := by
 have iK : ∀ W, Fr (fun _ => False) w W -> Calls prog 34 #[.agg #[s0, s1, s2, s3, s4, s5, s6]] W (zav q.Fits W) := fun W hF => zlS P q s0 s1 s2 s3 s4 s5 s6 W (hq.fr hF (fun _ _ e => e)) hw; obtain ⟨A0, c0, rfl⟩ := hq.ser.1.shape; obtain ⟨A1, c1, rfl⟩ := hq.smp.shape; obtain ⟨A2, c2, rfl⟩ := hq.sto.1.shape; obtain ⟨A3, c3, rfl⟩ := hq.exm.1.shape; obtain ⟨A4, c4, rfl⟩ := hq.mta.shape
 obtain ⟨A5, c5, rfl⟩ := hq.mrk.shape; obtain ⟨A6, c6, rfl⟩ := hq.his.1.shape; have b0 : q.Fits -> q.ser.length <= 1099511627776 := fun hf => by have := hf.ser.1; omega
 have b1 : q.Fits -> q.smp.length <= 1099511627776 := fun hf => by have := hf.smp; omega
 have b2 : q.Fits -> q.sto.length <= 1099511627776 := fun hf => by have := hf.sto.1; omega
 have b3 : q.Fits -> q.exm.length <= 1099511627776 := fun hf => by have := hf.exm.1; omega
 have b4 : q.Fits -> q.mta.length <= 1099511627776 := fun hf => by have := hf.mta.1; omega
 have b5 : q.Fits -> q.mrk.length <= 1099511627776 := fun hf => by have := hf.mrk; omega
 have b6 : q.Fits -> q.his.length <= 1099511627776 := fun hf => by have := hf.his.1; omega
 have sh : ∀ s ∈ [Value.slice A0 q.ser.length c0, .slice A1 q.smp.length c1, .slice A2 q.sto.length c2, .slice A3 q.exm.length c3, .slice A4 q.mta.length c4, .slice A5 q.mrk.length c5, .slice A6 q.his.length c6], ∃ A m c, s = .slice A m c := by
  intro s hs; simp only [zmY, zmX, or_false] at hs; rcases hs with rfl | rfl | rfl | rfl | rfl | rfl | rfl <;> exact ⟨_, _, _, rfl⟩
 have hm : bD % 10 = 0 ∨ bD % 10 = 1 ∨ bD % 10 = 2 ∨ bD % 10 = 3 ∨ bD % 10 = 4 ∨ bD % 10 = 5 ∨ bD % 10 = 6 ∨ bD % 10 = 7 ∨ bD % 10 = 8 ∨ bD % 10 = 9 := by omega
 rcases hm with hm | hm | hm | hm | hm | hm | hm | hm | hm | hm
 ·exact zcN 1 bD av (by omega) (by omega) (by omega) _ q.Fits A0 A1 A2 A3 A4 A5 A6 c0 c1 c2 c3 c4 c5 c6 _ _ _ _ _ _ _ w te pe { Dat.none with ser := (q.ser.map Prod.fst).map fun s => ⟨s.ref, zaG s.labs⟩ } (wrD 1 q.dat) (fun u _ => u = .slice none 0 0) ([] ++ zbF (q.ser.map Prod.fst)) hE iK
   (fun hf W hF => rightG_1 A0 A1 A2 A3 A4 A5 A6 c0 c1 c2 c3 c4 c5 c6 _ _ _ _ _ _ _ _ (b0 hf) (b1 hf) (b2 hf) (b3 hf) (b4 hf) (b5 hf) (b6 hf) rfl W P q.ser (hq.ser.fr hF (fun _ _ e => e)) rfl (fun p hp => by have := (hf.ser.2 p hp).1; omega))
   (fun hf hp m => ct_ser (q.ser.map Prod.fst) (fun s hs => by obtain ⟨p, aE, rfl⟩ := zmQ.1 hs; exact SerR.ok ⟨(hw.ser p aE).1, (hp.2.2 p aE).wide⟩) (by rw [zmI]; have := hp.1; have := hp.2.1; omega) m)
   (fun hf hp => len_ser (q.ser.map Prod.fst) (fun s hs => by obtain ⟨p, aE, rfl⟩ := zmQ.1 hs; exact SerR.ok ⟨(hw.ser p aE).1, (hp.2.2 p aE).wide⟩) (by rw [zmI]; have := hp.1; have := hp.2.1; omega)) (fun hf hp => (same_1 q hp.1 hp.2.1 hp.2.2).2.1) (by rintro u V rfl; exact ⟨_, _, _, rfl⟩)
   (fun hf hp W hF => ze4 _ _ _ _ _ _ _ _ [] q.ser P W (zeG P W) (by simp) sh (hq.ser.fr hF (fun _ _ e => e)) (by rw [zmI]; have := hp.1; have := hp.2.1; omega) (fun s hs => by obtain ⟨p, aE, rfl⟩ := zmQ.1 hs; exact ⟨(hw.ser p aE).1, (hp.2.2 p aE).wide⟩))
   (fun hf hp W hF => zbv 1 (by decide) q _ _ _ _ _ _ _ W (hq.fr hF (fun _ _ e => e)).yes (by have := hp.1; omega) (fun p aE => by have hz : q.sto.length = 0 := (by have := hp.1; have := hp.2.1; omega); rw [zmM hz] at aE; cases aE) (by have := hp.1; omega))
   (fun hf hp n W ps qs r1 r2 => let ⟨a, b, c⟩ := same_1 q hp.1 hp.2.1 hp.2.2; zaZ r1 r2 (a.first n) (b.first n) (c.first n))
 ·exact zcN 2 bD av (by omega) (by omega) (by omega) _ q.Fits A0 A1 A2 A3 A4 A5 A6 c0 c1 c2 c3 c4 c5 c6 _ _ _ _ _ _ _ w te pe { Dat.none with smp := q.smp } (wrD 2 q.dat) (fun u _ => u = .slice none 0 0) ([] ++ zaC q.smp) hE iK
   (fun hf W hF => rightG_2 A0 A1 A2 A3 A4 A5 A6 c0 c1 c2 c3 c4 c5 c6 _ _ _ _ _ _ _ _ (b0 hf) (b1 hf) (b2 hf) (b3 hf) (b4 hf) (b5 hf) (b6 hf) rfl W)
   (fun hf hp m => ct_smp q.smp hw.smp (by have := hp.1; have := hp.2; omega) m)
   (fun hf hp => len_smp q.smp hw.smp (by have := hp.1; have := hp.2; omega)) (fun hf hp => (same_2 q hp.1 hp.2).2.1) (by rintro u V rfl; exact ⟨_, _, _, rfl⟩)
   (fun hf hp W hF => zc5 _ _ _ _ _ _ _ _ [] q.smp P W (zeG P W) (by simp) sh (hq.smp.fr hF (fun _ _ e => e)) (by have := hp.1; have := hp.2; omega) hw.smp)
   (fun hf hp W hF => zbv 2 (by decide) q _ _ _ _ _ _ _ W (hq.fr hF (fun _ _ e => e)).yes (by have := hp.1; omega) (fun p aE => by have hz : q.sto.length = 0 := (by have := hp.1; have := hp.2; omega); rw [zmM hz] at aE; cases aE) (by have := hp.1; omega))
   (fun hf hp n W ps qs r1 r2 => let ⟨a, b, c⟩ := same_2 q hp.1 hp.2; zaZ r1 r2 (a.first n) (b.first n) (c.first n))
 ·exact zcN 3 bD av (by omega) (by omega) (by omega) _ q.Fits A0 A1 A2 A3 A4 A5 A6 c0 c1 c2 c3 c4 c5 c6 _ _ _ _ _ _ _ w te pe { Dat.none with sto := (zbY (q.sto.map Prod.fst)).map one } (wrD 3 q.dat) (fun u _ => u = .slice none 0 0) ([] ++ za9 (q.sto.map Prod.fst)) hE iK
   (fun hf W hF => rightG_3 A0 A1 A2 A3 A4 A5 A6 c0 c1 c2 c3 c4 c5 c6 _ _ _ _ _ _ _ _ (b0 hf) (b1 hf) (b2 hf) (b3 hf) (b4 hf) (b5 hf) (b6 hf) rfl W P q.sto (hq.sto.fr hF (fun _ _ e => e)) rfl (fun p hp => by have := hf.sto.2 p hp; omega))
   (fun hf hp m => ct_sto (q.sto.map Prod.fst) (fun s hs => by obtain ⟨p, aE, rfl⟩ := zmQ.1 hs; exact ⟨(hw.sto p aE).1, (hw.sto p aE).2.2⟩) (by rw [zmI]; have := hp.1; have := hp.2.1; omega) (fun s hs => by obtain ⟨p, aE, rfl⟩ := zmQ.1 hs; have := hp.2.2 p aE; omega) m)
   (fun hf hp => len_sto (q.sto.map Prod.fst) (fun s hs => by obtain ⟨p, aE, rfl⟩ := zmQ.1 hs; exact ⟨(hw.sto p aE).1, (hw.sto p aE).2.2⟩) (by rw [zmI]; have := hp.1; have := hp.2.1; omega) (fun s hs => by obtain ⟨p, aE, rfl⟩ := zmQ.1 hs; have := hp.2.2 p aE; omega)) (fun hf hp => (same_3 q hp.1 hp.2.1 hp.2.2).2.1) (by rintro u V rfl; exact ⟨_, _, _, rfl⟩)
   (fun hf hp W hF => ze3 _ _ _ _ _ _ _ _ [] q.sto P W (zeG P W) (by simp) sh (hq.sto.fr hF (fun _ _ e => e)) (by have := hp.1; have := hp.2.1; omega) (fun s hs => by obtain ⟨p, aE, rfl⟩ := zmQ.1 hs; have := hp.2.2 p aE; omega) (fun s hs => by obtain ⟨p, aE, rfl⟩ := zmQ.1 hs; exact ⟨(hw.sto p aE).1, (hw.sto p aE).2.2⟩))
   (fun hf hp W hF => zbv 3 (by decide) q _ _ _ _ _ _ _ W (hq.fr hF (fun _ _ e => e)).yes (by have := hp.1; omega) (fun p aE => by have := hp.2.2 p aE; omega) (by have := hp.1; omega))
   (fun hf hp n W ps qs r1 r2 => let ⟨a, b, c⟩ := same_3 q hp.1 hp.2.1 hp.2.2; zaZ r1 r2 (a.first n) (b.first n) (c.first n))
 ·exact zcN 4 bD av (by omega) (by omega) (by omega) _ q.Fits A0 A1 A2 A3 A4 A5 A6 c0 c1 c2 c3 c4 c5 c6 _ _ _ _ _ _ _ w te pe { Dat.none with exm := (q.exm.map Prod.fst).map fun s => ⟨s.ref, s.t, s.v, zaG s.labs⟩ } (wrD 4 q.dat) (fun u _ => u = .slice none 0 0) ([] ++ zbh (q.exm.map Prod.fst)) hE iK
   (fun hf W hF => rightG_4 A0 A1 A2 A3 A4 A5 A6 c0 c1 c2 c3 c4 c5 c6 _ _ _ _ _ _ _ _ (b0 hf) (b1 hf) (b2 hf) (b3 hf) (b4 hf) (b5 hf) (b6 hf) rfl W P q.exm (hq.exm.fr hF (fun _ _ e => e)) rfl (fun p hp => by have := (hf.exm.2 p hp).1; omega))
   (fun hf hp m => ct_exm (q.exm.map Prod.fst) (fun s hs => by obtain ⟨p, aE, rfl⟩ := zmQ.1 hs; exact ExmR.ok ⟨(hw.exm p aE).1, (hp.2.2 p aE).wide⟩) (by rw [zmI]; have := hp.1; have := hp.2.1; omega) m)
   (fun hf hp => len_exm (q.exm.map Prod.fst) (fun s hs => by obtain ⟨p, aE, rfl⟩ := zmQ.1 hs; exact ExmR.ok ⟨(hw.exm p aE).1, (hp.2.2 p aE).wide⟩) (by rw [zmI]; have := hp.1; have := hp.2.1; omega)) (fun hf hp => (same_4 q hp.1 hp.2.1 hp.2.2).2.1) (by rintro u V rfl; exact ⟨_, _, _, rfl⟩)
   (fun hf hp W hF => zej _ _ _ _ _ _ _ _ [] q.exm P W (zeG P W) (by simp) sh (hq.exm.fr hF (fun _ _ e => e)) (by rw [zmI]; have := hp.1; have := hp.2.1; omega) (fun s hs => by obtain ⟨p, aE, rfl⟩ := zmQ.1 hs; exact ⟨(hw.exm p aE).1, (hp.2.2 p aE).wide⟩))
   (fun hf hp W hF => zbv 4 (by decide) q _ _ _ _ _ _ _ W (hq.fr hF (fun _ _ e => e)).yes (by have := hp.1; omega) (fun p aE => by have hz : q.sto.length = 0 := (by have := hp.1; have := hp.2.1; omega); rw [zmM hz] at aE; cases aE) (by have := hp.1; omega))
   (fun hf hp n W ps qs r1 r2 => let ⟨a, b, c⟩ := same_4 q hp.1 hp.2.1 hp.2.2; zaZ r1 r2 (a.first n) (b.first n) (c.first n))
 ·exact zcN 5 bD av (by omega) (by omega) (by omega) _ q.Fits A0 A1 A2 A3 A4 A5 A6 c0 c1 c2 c3 c4 c5 c6 _ _ _ _ _ _ _ w te pe { Dat.none with mrk := q.mrk } (wrD 5 q.dat) (fun u _ => u = .slice none 0 0) ([] ++ zaU q.mrk) hE iK
   (fun hf W hF => rightG_5 A0 A1 A2 A3 A4 A5 A6 c0 c1 c2 c3 c4 c5 c6 _ _ _ _ _ _ _ _ (b0 hf) (b1 hf) (b2 hf) (b3 hf) (b4 hf) (b5 hf) (b6 hf) rfl W)
   (fun hf hp m => ct_mrk q.mrk hw.mrk (by have := hp.1; have := hp.2; omega) m)
   (fun hf hp => len_mrk q.mrk hw.mrk (by have := hp.1; have := hp.2; omega)) (fun hf hp => (same_5 q hp.1 hp.2).2.1) (by rintro u V rfl; exact ⟨_, _, _, rfl⟩)
   (fun hf hp W hF => zeN _ _ _ _ _ _ _ _ [] q.mrk P W (zeG P W) (by simp) sh (hq.mrk.fr hF (fun _ _ e => e)) (by have := hp.1; have := hp.2; omega) hw.mrk)
   (fun hf hp W hF => zbv 5 (by decide) q _ _ _ _ _ _ _ W (hq.fr hF (fun _ _ e => e)).yes (by have := hp.1; omega) (fun p aE => by have hz : q.sto.length = 0 := (by have := hp.1; have := hp.2; omega); rw [zmM hz] at aE; cases aE) (by have := hp.1; omega))
   (fun hf hp n W ps qs r1 r2 => let ⟨a, b, c⟩ := same_5 q hp.1 hp.2; zaZ r1 r2 (a.first n) (b.first n) (c.first n))
 ·exact zcN 6 bD av (by omega) (by omega) (by omega) _ q.Fits A0 A1 A2 A3 A4 A5 A6 c0 c1 c2 c3 c4 c5 c6 _ _ _ _ _ _ _ w te pe { Dat.none with mta := q.mta } (wrD 6 q.dat) (fun u _ => u = .slice none 0 0) ([] ++ zbp q.mta) hE iK
   (fun hf W hF => rightG_6 A0 A1 A2 A3 A4 A5 A6 c0 c1 c2 c3 c4 c5 c6 _ _ _ _ _ _ _ _ (b0 hf) (b1 hf) (b2 hf) (b3 hf) (b4 hf) (b5 hf) (b6 hf) rfl W P q.mta (hq.mta.fr hF (fun _ _ e => e)) rfl (fun p hp => by have h1 := (hf.mta.2 p hp).1; have h2 := (hf.mta.2 p hp).2; exact ⟨by omega, by omega⟩))
   (fun hf hp m => ct_mta q.mta (fun s hs => by have := hp.2.2 s hs; exact ⟨(hw.mta s hs).1, by omega, by omega⟩) (by have := hp.1; have := hp.2.1; omega) m)
   (fun hf hp => len_mta q.mta (fun s hs => by have := hp.2.2 s hs; exact ⟨(hw.mta s hs).1, by omega, by omega⟩) (by have := hp.1; have := hp.2.1; omega)) (fun hf hp => (same_6 q hp.1 hp.2.1).2.1) (by rintro u V rfl; exact ⟨_, _, _, rfl⟩)
   (fun hf hp W hF => zez _ _ _ _ _ _ _ _ [] q.mta P W (zeG P W) (by simp) sh (hq.mta.fr hF (fun _ _ e => e)) (by have := hp.1; have := hp.2.1; omega) (fun s hs => by have := hp.2.2 s hs; exact ⟨(hw.mta s hs).1, by omega, by omega⟩))
   (fun hf hp W hF => zbv 6 (by decide) q _ _ _ _ _ _ _ W (hq.fr hF (fun _ _ e => e)).yes (by have := hp.1; omega) (fun p aE => by have hz : q.sto.length = 0 := (by have := hp.1; have := hp.2.1; omega); rw [zmM hz] at aE; cases aE) (by have := hp.1; omega))
   (fun hf hp n W ps qs r1 r2 => let ⟨a, b, c⟩ := same_6 q hp.1 hp.2.1; zaZ r1 r2 (a.first n) (b.first n) (c.first n))
 ·exact zcN 7 bD av (by omega) (by omega) (by omega) _ q.Fits A0 A1 A2 A3 A4 A5 A6 c0 c1 c2 c3 c4 c5 c6 _ _ _ _ _ _ _ w te pe { Dat.none with his := (q.his.map Prod.fst).filter (fun s => !za7 s) } (wrD 7 q.dat) (fun u _ => ∃ A m c, u = .slice A m c) ([] ++ zbf 7 (fun s => !za7 s) (q.his.map Prod.fst)) hE iK
   (fun hf W hF => rightG_7 A0 A1 A2 A3 A4 A5 A6 c0 c1 c2 c3 c4 c5 c6 _ _ _ _ _ _ _ _ (b0 hf) (b1 hf) (b2 hf) (b3 hf) (b4 hf) (b5 hf) (b6 hf) rfl W P q.his (hq.his.fr hF (fun _ _ e => e)) rfl (fun p hp => zip (hf.his.2 p hp)))
   (fun hf hp m => ct_hsW 7 (by decide) (fun s => !za7 s) (q.his.map Prod.fst) (fun s hs => by obtain ⟨p, aE, rfl⟩ := zmQ.1 hs; exact zd2 (hw.his p aE) (hp.2.2.1 p aE)) (by rw [zmI]; have := hp.1; have := hp.2.1; omega) (fun s hs => by obtain ⟨p, aE, rfl⟩ := zmQ.1 hs; exact hp.2.2.1 p aE) m)
   (fun hf hp => zkf 7 (fun s => !za7 s) (q.his.map Prod.fst) (fun s hs => by obtain ⟨p, aE, rfl⟩ := zmQ.1 hs; exact zd2 (hw.his p aE) (hp.2.2.1 p aE)) (by rw [zmI]; have := hp.1; have := hp.2.1; omega)) (fun hf hp => (same_7 q hp.1 hp.2.1 hp.2.2.1).2.1) (fun _ _ h => h)
   (fun hf hp W hF => (zgw _ _ _ _ _ _ _ _ [] q.his P W (zeG P W) (by simp) sh (hq.his.fr hF (fun _ _ e => e)) (by have := hp.1; have := hp.2.1; omega) (fun s hs => by obtain ⟨p, aE, rfl⟩ := zmQ.1 hs; exact zd2 (hw.his p aE) (hp.2.2.1 p aE)) (by rcases hp.2.2.2 with h | ⟨p, h1, h2⟩; exact .inl (by rw [h]; rfl); exact .inr ⟨p.1, zmQ.2 ⟨p, h1, rfl⟩, h2⟩)).mono fun r w' h => by obtain ⟨bv, lv, e, g, ab, hfr⟩ := h; exact ⟨bv, lv, e, g.shape, ab, hfr⟩)
   (fun hf hp W hF => zbv 7 (by decide) q _ _ _ _ _ _ _ W (hq.fr hF (fun _ _ e => e)).yes (by have := hp.1; omega) (fun p aE => by have hz : q.sto.length = 0 := (by have := hp.1; have := hp.2.1; omega); rw [zmM hz] at aE; cases aE) (by have := hp.1; omega))
   (fun hf hp n W ps qs r1 r2 => let ⟨a, b, c⟩ := same_7 q hp.1 hp.2.1 hp.2.2.1; zaZ r1 r2 (a.first n) (b.first n) (c.first n))
 ·exact zcN 8 bD av (by omega) (by omega) (by omega) _ q.Fits A0 A1 A2 A3 A4 A5 A6 c0 c1 c2 c3 c4 c5 c6 _ _ _ _ _ _ _ w te pe { Dat.none with his := (q.his.map Prod.fst).filter (fun s => !za7 s) } (wrD 8 q.dat) (fun u _ => ∃ A m c, u = .slice A m c) ([] ++ zbg 8 (fun s => !za7 s) (q.his.map Prod.fst)) hE iK
   (fun hf W hF => rightG_8 A0 A1 A2 A3 A4 A5 A6 c0 c1 c2 c3 c4 c5 c6 _ _ _ _ _ _ _ _ (b0 hf) (b1 hf) (b2 hf) (b3 hf) (b4 hf) (b5 hf) (b6 hf) rfl W P q.his (hq.his.fr hF (fun _ _ e => e)) rfl (fun p hp => zip (hf.his.2 p hp)))
   (fun hf hp m => ct_hsF 8 (by decide) (fun s => !za7 s) (q.his.map Prod.fst) (fun s hs => by obtain ⟨p, aE, rfl⟩ := zmQ.1 hs; exact zd2 (hw.his p aE) (hp.2.2.1 p aE)) (by rw [zmI]; have := hp.1; have := hp.2.1; omega) (fun s hs => by obtain ⟨p, aE, rfl⟩ := zmQ.1 hs; exact hp.2.2.1 p aE) m)
   (fun hf hp => zkg 8 (fun s => !za7 s) (q.his.map Prod.fst) (fun s hs => by obtain ⟨p, aE, rfl⟩ := zmQ.1 hs; exact zd2 (hw.his p aE) (hp.2.2.1 p aE)) (by rw [zmI]; have := hp.1; have := hp.2.1; omega)) (fun hf hp => (same_8 q hp.1 hp.2.1 hp.2.2.1).2.1) (fun _ _ h => h)
   (fun hf hp W hF => (zgx _ _ _ _ _ _ _ _ [] q.his P W (zeG P W) (by simp) sh (hq.his.fr hF (fun _ _ e => e)) (by have := hp.1; have := hp.2.1; omega) (fun s hs => by obtain ⟨p, aE, rfl⟩ := zmQ.1 hs; exact zd2 (hw.his p aE) (hp.2.2.1 p aE)) (by rcases hp.2.2.2 with h | ⟨p, h1, h2⟩; exact .inl (by rw [h]; rfl); exact .inr ⟨p.1, zmQ.2 ⟨p, h1, rfl⟩, h2⟩)).mono fun r w' h => by obtain ⟨bv, lv, e, g, ab, hfr⟩ := h; exact ⟨bv, lv, e, g.shape, ab, hfr⟩)
   (fun hf hp W hF => zbv 8 (by decide) q _ _ _ _ _ _ _ W (hq.fr hF (fun _ _ e => e)).yes (by have := hp.1; omega) (fun p aE => by have hz : q.sto.length = 0 := (by have := hp.1; have := hp.2.1; omega); rw [zmM hz] at aE; cases aE) (by have := hp.1; omega))
   (fun hf hp n W ps qs r1 r2 => let ⟨a, b, c⟩ := same_8 q hp.1 hp.2.1 hp.2.2.1; zaZ r1 r2 (a.first n) (b.first n) (c.first n))
 ·exact zcN 9 bD av (by omega) (by omega) (by omega) _ q.Fits A0 A1 A2 A3 A4 A5 A6 c0 c1 c2 c3 c4 c5 c6 _ _ _ _ _ _ _ w te pe { Dat.none with his := (q.his.map Prod.fst).filter (fun _ => true) } (wrD 9 q.dat) (fun u _ => u = .slice none 0 0) ([] ++ zbf 9 (fun _ => true) (q.his.map Prod.fst)) hE iK
   (fun hf W hF => rightG_9 A0 A1 A2 A3 A4 A5 A6 c0 c1 c2 c3 c4 c5 c6 _ _ _ _ _ _ _ _ (b0 hf) (b1 hf) (b2 hf) (b3 hf) (b4 hf) (b5 hf) (b6 hf) rfl W P q.his (hq.his.fr hF (fun _ _ e => e)) rfl (fun p hp => zip (hf.his.2 p hp)))
   (fun hf hp m => ct_hsW 9 (by decide) (fun _ => true) (q.his.map Prod.fst) (fun s hs => by obtain ⟨p, aE, rfl⟩ := zmQ.1 hs; exact zd2 (hw.his p aE) (hp.2.2.1 p aE)) (by rw [zmI]; have := hp.1; have := hp.2.1; omega) (fun s hs => by obtain ⟨p, aE, rfl⟩ := zmQ.1 hs; exact hp.2.2.1 p aE) m)
   (fun hf hp => zkf 9 (fun _ => true) (q.his.map Prod.fst) (fun s hs => by obtain ⟨p, aE, rfl⟩ := zmQ.1 hs; exact zd2 (hw.his p aE) (hp.2.2.1 p aE)) (by rw [zmI]; have := hp.1; have := hp.2.1; omega)) (fun hf hp => (same_9 q hp.1 hp.2.1 hp.2.2.1).2.1) (by rintro u V rfl; exact ⟨_, _, _, rfl⟩)
   (fun hf hp W hF => zfQ _ _ _ _ _ _ _ _ [] q.his P W (zeG P W) (by simp) sh (hq.his.fr hF (fun _ _ e => e)) (by have := hp.1; have := hp.2.1; omega) (fun s hs => by obtain ⟨p, aE, rfl⟩ := zmQ.1 hs; exact zd2 (hw.his p aE) (hp.2.2.1 p aE)))
   (fun hf hp W hF => zbv 9 (by decide) q _ _ _ _ _ _ _ W (hq.fr hF (fun _ _ e => e)).yes (by have := hp.1; omega) (fun p aE => by have hz : q.sto.length = 0 := (by have := hp.1; have := hp.2.1; omega); rw [zmM hz] at aE; cases aE) (by have := hp.1; omega))
   (fun hf hp n W ps qs r1 r2 => let ⟨a, b, c⟩ := same_9 q hp.1 hp.2.1 hp.2.2.1; zaZ r1 r2 (a.first n) (b.first n) (c.first n))
 ·exact zcN 10 bD av (by omega) (by omega) (by omega) _ q.Fits A0 A1 A2 A3 A4 A5 A6 c0 c1 c2 c3 c4 c5 c6 _ _ _ _ _ _ _ w te pe { Dat.none with his := (q.his.map Prod.fst).filter (fun _ => true) } (wrD 10 q.dat) (fun u _ => u = .slice none 0 0) ([] ++ zbg 10 (fun _ => true) (q.his.map Prod.fst)) hE iK
   (fun hf W hF => rightG_10 A0 A1 A2 A3 A4 A5 A6 c0 c1 c2 c3 c4 c5 c6 _ _ _ _ _ _ _ _ (b0 hf) (b1 hf) (b2 hf) (b3 hf) (b4 hf) (b5 hf) (b6 hf) rfl W P q.his (hq.his.fr hF (fun _ _ e => e)) rfl (fun p hp => zip (hf.his.2 p hp)))
   (fun hf hp m => ct_hsF 10 (by decide) (fun _ => true) (q.his.map Prod.fst) (fun s hs => by obtain ⟨p, aE, rfl⟩ := zmQ.1 hs; exact zd2 (hw.his p aE) (hp.2.2.1 p aE)) (by rw [zmI]; have := hp.1; have := hp.2.1; omega) (fun s hs => by obtain ⟨p, aE, rfl⟩ := zmQ.1 hs; exact hp.2.2.1 p aE) m)
   (fun hf hp => zkg 10 (fun _ => true) (q.his.map Prod.fst) (fun s hs => by obtain ⟨p, aE, rfl⟩ := zmQ.1 hs; exact zd2 (hw.his p aE) (hp.2.2.1 p aE)) (by rw [zmI]; have := hp.1; have := hp.2.1; omega)) (fun hf hp => (same_10 q hp.1 hp.2.1 hp.2.2.1).2.1) (by rintro u V rfl; exact ⟨_, _, _, rfl⟩)
   (fun hf hp W hF => zfR _ _ _ _ _ _ _ _ [] q.his P W (zeG P W) (by simp) sh (hq.his.fr hF (fun _ _ e => e)) (by have := hp.1; have := hp.2.1; omega) (fun s hs => by obtain ⟨p, aE, rfl⟩ := zmQ.1 hs; exact zd2 (hw.his p aE) (hp.2.2.1 p aE)))
   (fun hf hp W hF => zbv 10 (by decide) q _ _ _ _ _ _ _ W (hq.fr hF (fun _ _ e => e)).yes (by have := hp.1; omega) (fun p aE => by have hz : q.sto.length = 0 := (by have := hp.1; have := hp.2.1; omega); rw [zmM hz] at aE; cases aE) (by have := hp.1; omega))
   (fun hf hp n W ps qs r1 r2 => let ⟨a, b, c⟩ := same_10 q hp.1 hp.2.1 hp.2.2.1; zaZ r1 r2 (a.first n) (b.first n) (c.first n))
theorem cut_lifted (os : Os) (kB : os.Started) (H : Type) (enc : TypeId × Value -> H) :
 ReturnsInHanded {} checked os 10 .any (fun w args => (Rows.fnRecordCutSpec.pre enc prog f10 [] false w args /\ laidMetH prog Rows.fnRecordCutRow.laid w) /\ sizedMet enc prog f10 (OpenSpec.ofChange Rows.fnRecordCutSpec) false w args)
  (Rows.fnRecordCutSpec.post enc prog f10 false true false false) := by
 refine returnsInHanded_of_change_and (C := checked) (X := fun w _ => laidMetH prog Rows.fnRecordCutRow.laid w) (fun _ _ _ hh h => h.of_heap hh) ownKnobs kB (by kernel_rfl) func10
  (ChangeSpec.witness_shaped (enc := enc) (C := checked) (os := os) (X := fun w _ => laidMetH prog Rows.fnRecordCutRow.laid w) false (World.doorLaid prog 400 os) #[.int .u8 0, .agg #[.slice none 0 0, .slice none 0 0, .slice none 0 0, .slice none 0 0, .slice none 0 0, .slice none 0 0, .slice none 0 0], .int .u16 0] 8 rfl (World.shaped_of_RefB (by kernel_rfl) (by kernel_rfl)) (by kernel_rfl) (by kernel_rfl) (by kernel_rfl) (door_met os _)) ?_
 intro W base args ds gs before lR hW _ _ hL _; have kH : ∀ (j : Nat) t v, f10.params[j]? = some t -> args[j]? = some v -> Value.okWide prog W .any base t v := lR; have hW' := hW; obtain ⟨p, q, hA0, hV, rfl, hfz, hnd⟩ := hW; have hA : DataW.TrodAll enc prog W 0 (fun _ => true) true f10.params.toList args.toList ds p := hA0; rw [params10] at hA kH
 obtain ⟨v0, vs0, d0, ds0, p0, q0, hargs, rfl, rfl, h0, r0⟩ := trodAll_cons hA; obtain ⟨v1, vs1, d1, ds1, p1, q1, rfl, rfl, rfl, h1, r1⟩ := trodAll_cons r0; obtain ⟨v2, vs2, d2, ds2, p2, q2, rfl, rfl, rfl, h2, r2⟩ := trodAll_cons r1; obtain ⟨rfl, rfl, rfl⟩ := trodAll_nil r2; obtain rfl : args = #[v0, v1, v2] := by cases args; simp_all
 obtain ⟨rfl, rfl⟩ := trodVars_none hV; obtain ⟨k, rfl, rfl, rfl, wk⟩ := open_int underlying5 (kH 0 5 v0 rfl rfl) h0; obtain ⟨k', rfl, rfl, rfl, wk'⟩ := open_int underlying70 (kH 2 70 v2 rfl rfl) h2; obtain ⟨cs, rfl, bG⟩ := okWide_struct underlying54 (kH 1 54 v1 rfl rfl); have k1 := h1
 have lt1 : ∀ x ∈ p1, x.block < W.heap.size := by obtain ⟨m, hm⟩ := k1; exact DataW.trod_lt m _ _ _ hm
 obtain ⟨qq, s0, s1, s2, s3, s4, s5, s6, rfl, hq, hw⟩ := parts_in h1 (bG.trans (by kernel_rfl)); obtain ⟨te, pe, hE⟩ := errCell hL; have hk0 := u8_wf wk; obtain ⟨m, rfl⟩ : ∃ m : Nat, k = m := ⟨k.toNat, by omega⟩; have nb := u16_wf wk'; obtain ⟨m', rfl⟩ : ∃ m' : Nat, k' = m' := ⟨k'.toNat, by omega⟩; clear hA0 lR
 refine (cut_walk te pe _ m m' (by omega) (by omega) qq s0 s1 s2 s3 s4 s5 s6 W hq hw hE).mono fun e W' ⟨he, hf⟩ => ?_; subst he; have hB := hf.none_toBelow
 exact ⟨_, rfl, _, _, _, [], _, [], hW', trodAll_mk1 (shut_bool underlying4 _), (trodAll_cons_mk (shut_int underlying5 wk) (trodAll_cons_mk (Below.trod zlu (by kernel_rfl) (of_decide_eq_true (by kernel_rfl)) k1 hB lt1) (trodAll_cons_mk (shut_int underlying70 wk') trodAll_mk0))), rfl, hB.frame _, fun h => by cases h⟩
end Go.Proofs.YtbkookiigkckdaaGreatDoor
