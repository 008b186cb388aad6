/- Texts of this seat, merged and shortened. -/
import Derived.Test.YtbkookiigkckdaaGreatDoorK21
set_option linter.unusedVariables false
set_option linter.unusedSimpArgs false
set_option maxRecDepth 100000
set_option maxHeartbeats 8000000
namespace Go.Proofs.YtbkookiigkckdaaGreatDoor
open Go.RowKit Go.Proofs.Tryz
theorem zag {w : World} {b : Nat} {a0 a1 a2 a3 a4 a5 a6 : Value} (h : Blk w b 54 #[a0, a1, a2, a3, a4, a5, a6]) :
 w.cell? ⟨b, 0, none⟩ = some a0 /\ w.cell? ⟨b, 1, none⟩ = some a1 /\ w.cell? ⟨b, 2, none⟩ = some a2 /\ w.cell? ⟨b, 3, none⟩ = some a3 /\ w.cell? ⟨b, 4, none⟩ = some a4 /\ w.cell? ⟨b, 5, none⟩ = some a5 /\ w.cell? ⟨b, 6, none⟩ = some a6 :=
 ⟨h.cell 0, h.cell 1, h.cell 2, h.cell 3, h.cell 4, h.cell 5, h.cell 6⟩
def zkn (n : Int) (w : World) (r : Ending) (w' : World) : Prop := r = .returned (.int .i64 n) /\ Fr (fun _ => False) w w'
theorem zg2 (c : Nat) (hc : c < 256) (w : World) :
 Calls prog 35 #[.int .u8 c] w (zkn (1 + (c : Int) % 10) w) := by
 have h0 : (0 : Int) <= (c : Int) := by omega
 have h1 : (c : Int) < 256 := by omega
 go_enter func35, ntmps35; go_wp2; go_ret; exact ⟨rfl, zmR _ w⟩
def zen (l : List Lab) : Prop := l.length <= 2147483647 /\ ∀ p ∈ l, Fit p
def ze8 (l : List Lab) : Prop := l.length <= 9223372036854775807 /\ ∀ p ∈ l, p.1.size <= 9223372036854775807 /\ p.2.size <= 9223372036854775807
theorem zlj (P : Nat -> Prop) (ref : Nat) (v : Value) (l : List Lab) (w : World) (h : Sl P w v 2 l.length (l.flatMap zaI)) (hs : ze8 l) :
 Calls prog 193 #[.agg #[.int .u64 ref, v]] w (zau (zen l) w) := by
 have hC := zhu P v l (w.alloc (.cells #[.int .u64 ref, v] 130)) (h.fr ((zmR (fun _ => False) w).alloc _) (fun _ _ e => e)) hs.1 hs.2; obtain ⟨A, c, rfl, _, _, _⟩ := h; go_enter func193, ntmps193; go_wp2_with (go_at_call 21; refine hC.mono ?_; rintro r w1 ⟨b, rfl, hb, ag⟩; refine Hid.out ?_)
 have HF := zlM (((zmR (fun _ => False) w).alloc (.cells #[.int .u64 ref, .slice A l.length c] 130)).same ag); have HB := zlM hb; clear ag hb hC; rcases b with _ | _
 ·refine zlM ?_
  go_wp2; go_ret; exact ⟨false, rfl, HB.out, HF.out⟩
 ·refine zlM ?_
  go_wp2; go_ret; exact ⟨true, rfl, ⟨fun _ => HB.out.1 (by trivial), fun _ => rfl⟩, HF.out⟩
theorem zlk (P : Nat -> Prop) (v : Value) (lv : List (Ser × Value)) (w : World) (h : SlR P w v lv) (hl : lv.length <= 9223372036854775807) (hs : ∀ p ∈ lv, ze8 p.1.labs) :
 Calls prog 106 #[v] w (zau (lv.length <= 2147483647 /\ ∀ p ∈ lv, zen p.1.labs) w) := by
 have HS := zlM h; obtain ⟨⟨A, c, rfl, _, hc, hr⟩, _⟩ := h; obtain ⟨n, hn⟩ := exE lv.length; rw [hn] at hr hc hl HS ⊢; have HN := zlM hn; have HI := zlM hs; clear hn hr hs; by_cases hbig : 2147483647 < n
 ·have cP : (2147483647 : Int) < n := by omega
  go_enter func106, ntmps106; go_wp2; go_ret; exact ⟨false, rfl, ⟨fun h => (by cases h), fun h => absurd h.1 (by omega)⟩, zmR _ _⟩
 ·have cP : ¬ (2147483647 : Int) < n := by omega
  go_enter func106, ntmps106; go_wp2; go_loopw [10] (fun vi wr => ∃ k : Nat, k <= n /\ vi = .int .i64 k /\ Hid (∀ j p, j < k -> lv[j]? = some p -> zen p.1.labs) /\ Hid (Fr (fun _ => False) w wr)) (fun vi _ => n - (intOf vi).toNat)
  case atStart => exact ⟨0, zlX _, rfl, zlM (fun j p h => absurd h (zmx _)), zlM (zmR _ _)⟩
  case round =>
   obtain ⟨k, hk, rfl, RG, RF⟩ := hrel; by_cases hlt : k < n
   ·have hS := HS.out.fr RF.out (fun _ _ e => e)
    have aX := hS.2; obtain ⟨⟨A', c', e2, _, hc', hr⟩, _⟩ := hS; injection e2 with e2 iQ iR; obtain ⟨g, off, rfl, _, aa⟩ := hr (by have := HN.out; omega); obtain ⟨x, hx⟩ : ∃ x, lv[k]? = some x := ⟨_, zlO (by rw [HN.out]; exact hlt)⟩; have aH := zlU hx
    have q0 : wr.cell? ⟨g, off + k * 2, none⟩ = some (.int .u64 x.1.ref) := by simpa using aa (k * 2 + 0) _ (by rw [zbB zim (fun _ => rfl) lv k x hx 0 (by omega)]; rfl)
    have q1 : wr.cell? ⟨g, off + k * 2 + 1, none⟩ = some x.2 := aa (k * 2 + 1) _ (by rw [zbB zim (fun _ => rfl) lv k x hx 1 (by omega)]; rfl); have bm := aX x aH; have aQ := HI.out x aH; have fx := zlM aH; have HX := zlM hx; clear aX hx aH; obtain ⟨⟨ref, labs⟩, iv⟩ := x; simp only [] at q0 q1 bm aQ
    have hC := zlj P ref iv labs (wr.alloc (.cells #[.int .u64 ref, iv] 130)) (bm.fr ((zmR (fun _ => False) wr).alloc _) (fun _ _ e => e)) aQ; obtain ⟨Ai, ci, rfl, _, _, _⟩ := bm; subst e2; clear aa hr iQ iR aQ; go_wp2_with (go_at_call 193; refine hC.mono ?_; rintro r5 w5 ⟨b, rfl, ch, aq⟩; refine Hid.out ?_)
    have H5 := zlM ((RF.out.alloc (.cells #[.int .u64 ref, .slice Ai labs.length ci] 130)).same aq); have cA := zlM ch; clear aq ch hC q0 q1; rcases b with _ | _
    ·refine zlM ?_
     go_wp2; go_ret; exact ⟨false, rfl, ⟨fun h => (by cases h), fun h => absurd (cA.out.2 (h.2 _ fx.out)) (by decide)⟩, H5.out⟩
    ·refine zlM ?_
     go_wp2; go_roundw
     case rel => exact ⟨k + 1, by omega, by go_num, zlM (fun j p h h2 => by
      rcases zmf j k with h3 | h3
      ·exact RG.out j p h3 h2
      ·obtain rfl : j = k := by omega
       have h4 := h2.symm.trans HX.out; injection h4 with h4; rw [h4]
       exact cA.out.1 rfl), H5⟩
     case measure => simp [intOf]; omega
   ·obtain rfl : k = n := by omega
    go_wp2; go_ret; refine ⟨true, rfl, ⟨fun _ => ⟨by omega, fun p hp => ?_⟩, fun _ => rfl⟩, RF.out⟩; obtain ⟨j, hj, e⟩ := zmH hp; exact RG.out j p (by rw [<- HN.out]; exact hj) (by rw [zlO hj, e])
theorem zlf (P : Nat -> Prop) (ref : Nat) (t : Int) (vv : Nat) (v : Value) (l : List Lab) (w : World) (h : Sl P w v 2 l.length (l.flatMap zaI)) (hs : ze8 l) :
 Calls prog 195 #[.agg #[.int .u64 ref, .int .i64 t, .int .u64 vv, v]] w (zau (zen l) w) := by
 have hC := zhu P v l (w.alloc (.cells #[.int .u64 ref, .int .i64 t, .int .u64 vv, v] 159)) (h.fr ((zmR (fun _ => False) w).alloc _) (fun _ _ e => e)) hs.1 hs.2; obtain ⟨A, c, rfl, _, _, _⟩ := h; go_enter func195, ntmps195; go_wp2_with (go_at_call 21; refine hC.mono ?_; rintro r w1 ⟨b, rfl, hb, ag⟩; refine Hid.out ?_)
 have HF := zlM (((zmR (fun _ => False) w).alloc (.cells #[.int .u64 ref, .int .i64 t, .int .u64 vv, .slice A l.length c] 159)).same ag); have HB := zlM hb; clear ag hb hC; rcases b with _ | _
 ·refine zlM ?_
  go_wp2; go_ret; exact ⟨false, rfl, HB.out, HF.out⟩
 ·refine zlM ?_
  go_wp2; go_ret; exact ⟨true, rfl, ⟨fun _ => HB.out.1 (by trivial), fun _ => rfl⟩, HF.out⟩
theorem zlg (P : Nat -> Prop) (v : Value) (lv : List (Exm × Value)) (w : World) (h : SlX P w v lv) (hl : lv.length <= 9223372036854775807) (hs : ∀ p ∈ lv, ze8 p.1.labs) :
 Calls prog 108 #[v] w (zau (lv.length <= 2147483647 /\ ∀ p ∈ lv, zen p.1.labs) w) := by
 have HS := zlM h; obtain ⟨⟨A, c, rfl, _, hc, hr⟩, _⟩ := h; obtain ⟨n, hn⟩ := exE lv.length; rw [hn] at hr hc hl HS ⊢; have HN := zlM hn; have HI := zlM hs; clear hn hr hs; by_cases hbig : 2147483647 < n
 ·have cP : (2147483647 : Int) < n := by omega
  go_enter func108, ntmps108; go_wp2; go_ret; exact ⟨false, rfl, ⟨fun h => (by cases h), fun h => absurd h.1 (by omega)⟩, zmR _ _⟩
 ·have cP : ¬ (2147483647 : Int) < n := by omega
  go_enter func108, ntmps108; go_wp2; go_loopw [10] (fun vi wr => ∃ k : Nat, k <= n /\ vi = .int .i64 k /\ Hid (∀ j p, j < k -> lv[j]? = some p -> zen p.1.labs) /\ Hid (Fr (fun _ => False) w wr)) (fun vi _ => n - (intOf vi).toNat)
  case atStart => exact ⟨0, zlX _, rfl, zlM (fun j p h => absurd h (zmx _)), zlM (zmR _ _)⟩
  case round =>
   obtain ⟨k, hk, rfl, RG, RF⟩ := hrel; by_cases hlt : k < n
   ·have hS := HS.out.fr RF.out (fun _ _ e => e)
    have aX := hS.2; obtain ⟨⟨A', c', e2, _, hc', hr⟩, _⟩ := hS; injection e2 with e2 iQ iR; obtain ⟨g, off, rfl, _, aa⟩ := hr (by have := HN.out; omega); obtain ⟨x, hx⟩ : ∃ x, lv[k]? = some x := ⟨_, zlO (by rw [HN.out]; exact hlt)⟩; have aH := zlU hx
    have q0 : wr.cell? ⟨g, off + k * 4, none⟩ = some (.int .u64 x.1.ref) := by simpa using aa (k * 4 + 0) _ (by rw [zdB exc (fun _ => rfl) lv k x hx 0 (by omega)]; rfl)
    have q1 : wr.cell? ⟨g, off + k * 4 + 1, none⟩ = some (.int .i64 x.1.t) := aa (k * 4 + 1) _ (by rw [zdB exc (fun _ => rfl) lv k x hx 1 (by omega)]; rfl); have q2 : wr.cell? ⟨g, off + k * 4 + 2, none⟩ = some (.int .u64 x.1.v) := aa (k * 4 + 2) _ (by rw [zdB exc (fun _ => rfl) lv k x hx 2 (by omega)]; rfl)
    have q3 : wr.cell? ⟨g, off + k * 4 + 3, none⟩ = some x.2 := aa (k * 4 + 3) _ (by rw [zdB exc (fun _ => rfl) lv k x hx 3 (by omega)]; rfl); have bm := aX x aH; have aQ := HI.out x aH; have fx := zlM aH; have HX := zlM hx; clear aX hx aH; obtain ⟨⟨ref, t, vv, labs⟩, iv⟩ := x; simp only [] at q0 q1 q2 q3 bm aQ
    have hC := zlf P ref t vv iv labs (wr.alloc (.cells #[.int .u64 ref, .int .i64 t, .int .u64 vv, iv] 159)) (bm.fr ((zmR (fun _ => False) wr).alloc _) (fun _ _ e => e)) aQ; obtain ⟨Ai, ci, rfl, _, _, _⟩ := bm; subst e2; clear aa hr iQ iR aQ; go_wp2_with (go_at_call 195; refine hC.mono ?_; rintro r5 w5 ⟨b, rfl, ch, aq⟩; refine Hid.out ?_)
    have H5 := zlM ((RF.out.alloc (.cells #[.int .u64 ref, .int .i64 t, .int .u64 vv, .slice Ai labs.length ci] 159)).same aq); have cA := zlM ch; clear aq ch hC q0 q1 q2 q3; rcases b with _ | _
    ·refine zlM ?_
     go_wp2; go_ret; exact ⟨false, rfl, ⟨fun h => (by cases h), fun h => absurd (cA.out.2 (h.2 _ fx.out)) (by decide)⟩, H5.out⟩
    ·refine zlM ?_
     go_wp2; go_roundw
     case rel => exact ⟨k + 1, by omega, by go_num, zlM (fun j p h h2 => by
      rcases zmf j k with h3 | h3
      ·exact RG.out j p h3 h2
      ·obtain rfl : j = k := by omega
       have h4 := h2.symm.trans HX.out; injection h4 with h4; rw [h4]
       exact cA.out.1 rfl), H5⟩
     case measure => simp [intOf]; omega
   ·obtain rfl : k = n := by omega
    go_wp2; go_ret; refine ⟨true, rfl, ⟨fun _ => ⟨by omega, fun p hp => ?_⟩, fun _ => rfl⟩, RF.out⟩; obtain ⟨j, hj, e⟩ := zmH hp; exact RG.out j p (by rw [<- HN.out]; exact hj) (by rw [zlO hj, e])
end Go.Proofs.YtbkookiigkckdaaGreatDoor
