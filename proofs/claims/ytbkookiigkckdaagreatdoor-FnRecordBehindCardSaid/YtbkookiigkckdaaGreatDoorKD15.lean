/- Merged. -/
import Derived.Test.YtbkookiigkckdaaGreatDoorKD11
set_option linter.unusedVariables false
set_option linter.unusedSimpArgs false
set_option maxRecDepth 100000
set_option maxHeartbeats 8000000
namespace Go.Proofs.YtbkookiigkckdaaGreatDoor
open Go.RowKit Go.Proofs.Tryz
def Fit (p : Lab) : Prop := p.1.size <= 2147483647 /\ p.2.size <= 2147483647
def zas (p : Prop) (w : World) (r : Ending) (w' : World) : Prop := ∃ b : Bool, r = .returned (.bool b) /\ (b = true ↔ p) /\ z_F w w'
theorem bool_yes {p : Prop} (h : p) {w : World} {f : FuncId} {args : Array Value} (hc : Calls prog f args w (zas p w)) : Calls prog f args w fun r w' => r = .returned (.bool true) /\ z_F w w' :=
 hc.mono fun r w' ⟨b, hr, hb, hf⟩ => ⟨by rw [hr, hb.2 h], hf⟩
theorem bool_no {p : Prop} (h : ¬ p) {w : World} {f : FuncId} {args : Array Value} (hc : Calls prog f args w (zas p w)) : Calls prog f args w fun r w' => r = .returned (.bool false) /\ z_F w w' :=
 hc.mono fun r w' ⟨b, hr, hb, hf⟩ => ⟨by rw [hr, Bool.eq_false_iff.2 (fun e => h (hb.1 e))], hf⟩
theorem zlM (x : Lab) (h1 : x.1.size <= 9223372036854775807) (h2 : x.2.size <= 9223372036854775807) (w : World) : Calls prog 52 #[.agg #[.string x.1, .string x.2]] w (zas (Fit x) w) := by
 obtain ⟨a, b⟩ := x; dsimp only at h1 h2; unfold Fit; by_cases ha : 2147483647 < a.size
 ·have oP : (2147483647 : Int) < a.size := by omega
  go_enter func52, ntmps52; go_wp2; go_ret; exact ⟨false, rfl, ⟨fun h => (by cases h), fun h => absurd h.1 (by show ¬ a.size <= _; omega)⟩, (znl _ w).alloc _⟩
 ·have oP : ¬ (2147483647 : Int) < a.size := by omega
  by_cases hb : 2147483647 < b.size
  ·have bJ : (2147483647 : Int) < b.size := by omega
   go_enter func52, ntmps52; go_wp2; go_ret; exact ⟨false, rfl, ⟨fun h => (by cases h), fun h => absurd h.2 (by show ¬ b.size <= _; omega)⟩, (znl _ w).alloc _⟩
  ·have bJ : ¬ (2147483647 : Int) < b.size := by omega
   go_enter func52, ntmps52; go_wp2; go_ret; exact ⟨true, rfl, ⟨fun _ => ⟨by show a.size <= _; omega, by show b.size <= _; omega⟩, fun _ => rfl⟩, (znl _ w).alloc _⟩
theorem zhy (P : Nat -> Prop) (v : Value) (l : List Lab) (w : World) (h : Sl P w v 2 l.length (l.flatMap zaK)) (hl : l.length <= 9223372036854775807) (hs : ∀ p ∈ l, p.1.size <= 9223372036854775807 /\ p.2.size <= 9223372036854775807) :
 Calls prog 21 #[v] w (zas (l.length <= 2147483647 /\ ∀ p ∈ l, Fit p) w) := by
 obtain ⟨A, c, rfl, _, hc, hr⟩ := h; obtain ⟨n, hn⟩ := exE l.length; rw [hn] at hr hc hl ⊢; have HN := zmh hn; have HR := zmh hr; have HS := zmh hs; clear hn hr hs; by_cases hbig : 2147483647 < n
 ·have cJ : (2147483647 : Int) < n := by omega
  go_enter func21, ntmps21; go_wp2; go_ret; exact ⟨false, rfl, ⟨fun h => (by cases h), fun h => absurd h.1 (by omega)⟩, znl _ _⟩
 ·have cJ : ¬ (2147483647 : Int) < n := by omega
  go_enter func21, ntmps21; go_wp2; go_loopw [10] (fun vi wr => ∃ k : Nat, k <= n /\ vi = .int .i64 k /\ Hid (∀ p ∈ l.take k, Fit p) /\ Hid (z_F w wr)) (fun vi _ => n - (intOf vi).toNat)
  case atStart => exact ⟨0, zms _, rfl, zmh (fun p hp => by simp at hp), zmh (znl _ _)⟩
  case round =>
   obtain ⟨k, hk, rfl, HP, HF⟩ := hrel; by_cases hlt : k < n
   ·obtain ⟨g, off, rfl, _, aa⟩ := HR.out (by omega)
    obtain ⟨x, hx⟩ : ∃ x, l[k]? = some x := ⟨_, zmj (by rw [HN.out]; exact hlt)⟩; have cc : ∀ j, j < 2 -> ∀ u, (zaK x)[j]? = some u -> wr.cell? ⟨g, off + (k * 2 + j), none⟩ = some u := fun j hj u hu => by
     have := aa (k * 2 + j) u (by rw [zby zaK (fun _ => rfl) l k x hx j hj]; exact hu); rw [HF.out.cell (p := ⟨g, off + (k * 2 + j), none⟩) (zmo w _ this) id]; exact this
    have c0 : wr.cell? ⟨g, off + k * 2, none⟩ = some (.string x.1) := cc 0 (by omega) _ rfl; have c1 : wr.cell? ⟨g, off + k * 2 + 1, none⟩ = some (.string x.2) := cc 1 (by omega) _ rfl; have aF := zmp hx; have hq := fun W => zlM x (HS.out x aF).1 (HS.out x aF).2 W; have HX := zmh hx; clear aa cc hx; by_cases hfit : Fit x
    ·have gj := zmh hfit
     clear hfit; go_wp2_with (go_at_call 52; refine (bool_yes gj.out (hq _)).mono ?_; rintro r w1 ⟨rfl, ah⟩)
     go_roundw
     case rel =>
      refine ⟨k + 1, by omega, by go_num, zmh ?_, zmh ((HF.out.alloc _).same ah)⟩; intro p hp; rw [zmS, HX.out, zmX] at hp; rcases hp with hp | hp
      ·exact HP.out p hp
      ·simp at hp; rw [hp]; exact gj.out
     case measure => simp [intOf]; omega
    ·have gj := zmh hfit
     clear hfit; go_wp2_with (go_at_call 52; refine (bool_no gj.out (hq _)).mono ?_; rintro r w1 ⟨rfl, ah⟩)
     go_ret; exact ⟨false, rfl, ⟨fun h => (by cases h), fun h => absurd (h.2 x aF) gj.out⟩, (HF.out.alloc _).same ah⟩
   ·obtain rfl : k = n := by omega
    go_wp2; go_ret; have e : l.take k = l := zmq (by rw [HN.out]; exact zmt _); have hp := HP.out; rw [e] at hp; exact ⟨true, rfl, ⟨fun _ => ⟨by omega, hp⟩, fun _ => rfl⟩, HF.out⟩
theorem zjM (w : World) : Calls prog 129 #[.int .i64 0] w (zgW (fun v w' => ∃ g, v = .agg #[.slice (some ⟨g, 0, none⟩) 0 0, .string ⟨#[]⟩, .slice none 0 0] /\ w'.ownsRow w.heap.size 108 2 (.slice (some ⟨g, 0, none⟩) 0 0) 0 []) w) := by
 obtain ⟨i0, aC, az, ay, aB⟩ := info_parts zh7; have ms : ∀ W : World, (Instr.makeSlice 115 (.int .i64 0) (.int .i64 0)).run prog W = .ok (.slice (some ⟨W.heap.size, 0, none⟩) 0 0) (W.alloc (.cells #[] 108)) := fun W => by
  have h := run_make (P := prog) W 115 108 i0 _ underlying115 aC az .i64 .i64 0 0 (by omega) (by omega) (by omega) (by omega); simp [madeCells, ay, Array.range_zero'] at h; exact h
 go_enter func129, ntmps129; go_wp2_with fail
 simp [Exit.then, bodyPost, results, results129, go_sem]; refine ⟨_, rfl, ⟨w.heap.size + 1, rfl, ?_⟩, (((znl _ w).alloc _).alloc _)⟩; have h := znk (base := w.heap.size) (e := 108) (size := 2) (w.alloc (.cells #[.slice (some ⟨w.heap.size + 1, 0, none⟩) 0 0, .string ⟨#[]⟩, .slice none 0 0] 117)) #[] 0 (by simp) (zms _) rfl; simpa using h
theorem zll (v : Value) (w : World) : Calls prog 67 #[v] w (zgW (fun v w' => ∃ g, v = .agg #[.slice (some ⟨g, 0, none⟩) 0 0, .string ⟨#[]⟩, .slice none 0 0] /\ w'.ownsRow w.heap.size 108 2 (.slice (some ⟨g, 0, none⟩) 0 0) 0 []) w) := by
 have hS := zjM (w.alloc (.cells #[.slice none 0 0, .string ⟨#[]⟩, .slice none 0 0] 119)); go_enter func67, ntmps67; go_wp2_with (refine hS.mono ?_; rintro r w1 ⟨v1, rfl, ⟨a, rfl, dK⟩, ah⟩; refine Hid.out ?_)
 have hB := (znm w 119 #[.slice none 0 0, .string ⟨#[]⟩, .slice none 0 0]).fr ah id; have k0 := hB.cell 0; have k1 := hB.cell 1; have k2 := hB.cell 2; have z0 := hB.frozen 0; have z1 := hB.frozen 1; have z2 := hB.frozen 2; simp at k0 k1 k2; have m1 := hB.set_ 0 (.slice (some ⟨a, 0, none⟩) 0 0); have m2 := m1.set_ 1 (.string ⟨#[]⟩); have m3 := m2.set_ 2 (.slice none 0 0)
 have e0 := m1.cell 0; have e1 := m2.cell 1; have e2 := m3.cell 2; simp only [List.size_toArray, zmz, zml, zmm, zmn, zmC, zmA, zmB] at e0 e1 e2; have HF := zmh ((((znl (fun _ => False) w).alloc _).same ah)); have HB := zmh hB; clear hS ah hB m1 m2 m3
 refine zmh ?_; go_wp2_with fail
 simp [Exit.then, bodyPost, results, results67, go_sem, e0, e1, e2]; refine ⟨_, rfl, ⟨a, rfl, ?_⟩, ((HF.out.setCell (p := ⟨w.heap.size, 0, none⟩) (.inr (zmt _)) _).setCell (p := ⟨w.heap.size, 1, none⟩) (.inr (zmt _)) _).setCell (p := ⟨w.heap.size, 2, none⟩) (.inr (zmt _)) _⟩; have hO := zah dK (show w.heap.size <= _ by simp)
 exact zai (S := fun k => k = w.heap.size) hO (((Fr.at_ w1 w.heap.size 0 _).setCell (p := ⟨w.heap.size, 1, none⟩) (.inl rfl) _).setCell (p := ⟨w.heap.size, 2, none⟩) (.inl rfl) _) (fun g hg e => zak dK HB.out (by decide) (by rw [hg]; exact zm7 some e))
def zfO (s : Exm) : Prop := s.ref < 18446744073709551616 /\ -9223372036854775808 <= s.t /\ s.t <= 9223372036854775807 /\ s.v < 18446744073709551616 /\ s.labs.length <= 12 /\ (∀ p ∈ s.labs, p.1.size <= 600 /\ p.2.size <= 600) /\ s.labs.Pairwise (fun a b => a.1 ≠ b.1)
def xRef (f s : Exm) : Int := wrap64 (wrap64 s.ref - wrap64 f.ref)
def xT (f s : Exm) : Int := wrap64 (s.t - f.t)
def zbm (f s : Exm) : List UInt8 := Lib.uvarint (Lib.zigzag (xRef f s)) ++ (Lib.uvarint (Lib.zigzag (xT f s)) ++ (Lib.beBytes 8 s.v ++ zbj (zaI s.labs)))
def zbI (f : Exm) : List UInt8 := Lib.beBytes 8 f.ref ++ Lib.beBytes 8 (u64 f.t)
def encXs : List Exm -> List UInt8
 | [] => []
 | f :: r => zbI f ++ (f :: r).flatMap (zbm f)
theorem zhJ (f s : Exm) (h : zfO s) : (zbm f s).length <= 20000 := by
 have hp := (zbW ltL zc4 zcx zcw s.labs).2; have h0 := ze4 (zaI s.labs) (by rw [zaZ]; exact h.2.2.2.2.1) (fun p hm => h.2.2.2.2.2.1 p (hp.mem_iff.mp hm)); have h1 := zdV (xRef f s) (zae _).1 (zae _).2; have h2 := zdV (xT f s) (zae _).1 (zae _).2; simp only [zbm, zmi, zmr]; omega
theorem zlO (ep : Value) (sv : Value) (P : Nat -> Prop) (e : Nat) (o : Option Nat) (xs : List UInt8) (f : Exm) (r : List Exm) (w : World) (h : Sl P w sv 4 (r.length + 1) ((f :: r).flatMap exo)) (hE : Enc w e o xs) (hl : xs.length <= 536870913)
 (au : r.length + 1 <= 12) (aD : ∀ s ∈ f :: r, zfO s) (hP : ∀ g, P g -> g < w.heap.size /\ ¬ (g = e ∨ some g = o)) :
 Calls prog 184 #[ep, sv, .pointer (some ⟨e, 0, none⟩)] w (zbZ w e o xs (encXs (f :: r))) := by
 obtain ⟨A, c, rfl, ai, aQ, hr⟩ := h; obtain ⟨n, hn⟩ := exE (r.length + 1); rw [hn] at aQ hr au ⊢; obtain ⟨g, off, rfl, ga, aa⟩ := hr (by omega); have hg := hP g ga; have HN := zmh hn; have c0 : w.cell? ⟨g, off, none⟩ = some (.int .u64 f.ref) := by simpa using aa 0 _ rfl
 have c1 : w.cell? ⟨g, off + 1, none⟩ = some (.int .i64 f.t) := aa 1 _ rfl; have c2 : w.cell? ⟨g, off + 2, none⟩ = some (.float .f64 f.v) := aa 2 _ rfl; have c3 : w.cell? ⟨g, off + 3, none⟩ = some (.string (zau (zaI f.labs))) := aa 3 _ rfl; obtain ⟨sf, pG⟩ := exE (zau (zaI f.labs)); rw [pG] at c3; have eM : (0 : Int) < (n : Int) := by omega
 have dW := zmh aa; have hsf := zbU
 have hBF := znm w 157 #[.int .u64 f.ref, .int .i64 f.t, .float .f64 f.v, .string sf]; have R0 := Put.refl (hE.alloc (.cells #[.int .u64 f.ref, .int .i64 f.t, .float .f64 f.v, .string sf] 157)); have hEA := hE.alloc (.cells #[.int .u64 f.ref, .int .i64 f.t, .float .f64 f.v, .string sf] 157); have HEA := zmh hEA; have kh := zmh hBF; have og := zmh R0
 have elt : e < w.heap.size := by obtain ⟨_, _, hb, _⟩ := hE; exact hb.lt
 have HE := zmh hE; have py := aD f (zna ..); have HW0 := zmh py; clear hr hn ai aa hBF R0 hEA hE py pG; go_enter func184, ntmps184
 go_wp2_with (go_at_call 181; refine (zag og.out (f := 181) (args := #[.pointer (some ⟨e, 0, none⟩), .int .u64 f.ref]) (zs := Lib.beBytes 8 f.ref) (fun o2 he => zcl _ o2 _ _ HW0.out.1 _ he (by rw [zmi, zm9]; omega))).mono ?_; rintro r1 w1 ⟨rfl, R1, K1⟩; refine Hid.out ?_)
 have ax := K1.out _ _ _ (by decide) (by decide) kh.out; have b0 := ax.cell 0; have b1 := ax.cell 1; simp at b0 b1; have cE := zmh ax; have cR := zmh R1; clear ax R1 K1 c0 c1 c2 c3; refine zmh ?_
 go_wp2_with (go_at_call 182; refine (zag cR.out (f := 182) (args := #[.pointer (some ⟨e, 0, none⟩), .int .i64 f.t]) (zs := Lib.beBytes 8 (u64 f.t)) (fun o2 he => zdj _ o2 _ f.t _ he (by simp [zmr]; omega))).mono ?_; rintro r2 w2 ⟨rfl, R2, K2⟩; refine Hid.out ?_)
 have bn := K2.out _ _ _ (by decide) (by decide) cE.out; have bj := zmh R2; clear bn R2 K2 b0 b1 cE cR; refine zmh ?_; go_wp2_with fail
 have cL : Fr (fun k => k = e ∨ some k = o) w (w.alloc (.cells #[.int .u64 f.ref, .int .i64 f.t, .float .f64 f.v, .string sf] 157)) := (znl _ w).alloc _; have hws : w.heap.size < (w.alloc (.cells #[.int .u64 f.ref, .int .i64 f.t, .float .f64 f.v, .string sf] 157)).heap.size := by simp
 clear og; generalize dZ : w.alloc (.cells #[.int .u64 f.ref, .int .i64 f.t, .float .f64 f.v, .string sf] 157) = WB at bj HEA kh cL hws; clear dZ; have cS := zmh cL; clear cL; go_loopw [22] (fun i wr => ∃ k : Nat, k <= n /\ i = .int .i64 k /\ Put WB e o xs (zbI f ++ ((f :: r).take k).flatMap (zbm f)) wr) (fun i _ => n - (intOf i).toNat)
 case atStart => exact ⟨0, zms _, rfl, by simpa [zbI] using bj.out⟩
 case round =>
  obtain ⟨k, hk, rfl, R⟩ := hrel; by_cases hlt : k < n
  ·obtain ⟨x, hx⟩ : ∃ x, (f :: r)[k]? = some x := ⟨_, zmj (by rw [zmz, HN.out]; exact hlt)⟩
   have eW := aD x (zmp hx); have dM : Fr (fun k => k = e ∨ some k = o) w wr := cS.out.trans R.fr (fun k hk h => h); have cc : ∀ j, j < 4 -> ∀ u, (exo x)[j]? = some u -> wr.cell? ⟨g, off + (k * 4 + j), none⟩ = some u := fun j hj u hu => by
    rw [dM.cell (p := ⟨g, off + (k * 4 + j), none⟩) hg.1 hg.2]; exact dW.out (k * 4 + j) u (by rw [zdy exo (fun _ => rfl) (f :: r) k x hx j hj]; exact hu)
   have d0 : wr.cell? ⟨g, off + k * 4, none⟩ = some (.int .u64 x.ref) := cc 0 (by omega) _ rfl; have d1 : wr.cell? ⟨g, off + k * 4 + 1, none⟩ = some (.int .i64 x.t) := cc 1 (by omega) _ rfl; have d2 : wr.cell? ⟨g, off + k * 4 + 2, none⟩ = some (.float .f64 x.v) := cc 2 (by omega) _ rfl; have d3 : wr.cell? ⟨g, off + k * 4 + 3, none⟩ = some (.string (zau (zaI x.labs))) := cc 3 (by omega) _ rfl
   have kt := R.blk HEA.out kh.out (by decide) (by decide); have b0 := kt.cell 0; have b1 := kt.cell 1; simp at b0 b1; have hws2 := kt.lt; have bI : (zbI f ++ ((f :: r).take k).flatMap (zbm f)).length <= 16 + k * 20000 := by
    have h1 := za0 (zbm f) 20000 ((f :: r).take k) (fun s hs => zhJ f s (aD s (zne hs))); have h2 : ((f :: r).take k).length <= k := znh _ _; have h3 : ((f :: r).take k).length * 20000 <= k * 20000 := zmu _ h2; have h4 : (zbI f).length = 16 := by simp [zbI, zmr]
    rw [zmi, h4]; omega
   have ct : k * 20000 <= 12 * 20000 := zmu _ (by omega); obtain ⟨Y, hY⟩ := exE (zbI f ++ ((f :: r).take k).flatMap (zbm f)); rw [hY] at bI; rw [hY] at R; have HY := zmh hY; have HX := zmh hx; obtain ⟨st, bg⟩ := exE (zau (zaI x.labs)); rw [bg] at d3; have dd := znm wr 157 #[.int .u64 x.ref, .int .i64 x.t, .float .f64 x.v, .string st]
   have RA := R.alloc (.cells #[.int .u64 x.ref, .int .i64 x.t, .float .f64 x.v, .string st] 157); have dG := zmh (kt.alloc (.cells #[.int .u64 x.ref, .int .i64 x.t, .float .f64 x.v, .string st] 157)); have cT := zmh dd; have bV := zmh RA; have kN : Y.length <= 240016 := by omega
   have HW := zmh eW
   have rR := zmh (fun (e : Nat) (o : Option Nat) (zs : List UInt8) (W : World) (h : Enc W e o zs) (hz : zs.length <= 1073741824) => by
    have := zd2 e o zs (zaI x.labs) W h hz (by rw [zaZ]; have := eW.2.2.2.2.1; omega) (fun p hp => by have := eW.2.2.2.2.2.1 p ((zbW ltL zc4 zcx zcw x.labs).2.mem_iff.mp hp); omega); rw [bg] at this
    exact this)
   obtain ⟨Q1, ee⟩ := exE (Lib.uvarint (Lib.zigzag (xRef f x))); obtain ⟨Q2, dc⟩ := exE (Lib.uvarint (Lib.zigzag (xT f x))); have iG := zdV (xRef f x) (zae _).1 (zae _).2; have iF := zdV (xT f x) (zae _).1 (zae _).2; rw [ee] at iG; rw [dc] at iF; have ie := zmh ee; have eT := zmh dc; have hr8 := ziD
   clear hx dM cc dd kt hY R RA bI ct aD eW bg ee dc dW
   go_wp2_with (first
    | (go_at_call 183; refine (zag bV.out (f := 183) (args := #[.pointer (some ⟨e, 0, none⟩), .int .i64 (xRef f x)]) (zs := Q1) (fun o2 he => by have := zaz _ o2 _ (xRef f x) (zae _).1 (zae _).2 _ he (by rw [zmi]; omega); rw [ie.out] at this; exact this)).mono ?_; rintro rA wA ⟨rfl, R1, K1⟩
       have ax := K1.out _ _ _ (by decide) (by decide) cT.out; have bn := K1.out _ _ _ (by decide) (by decide) dG.out; have p1 := ax.cell 1; have q1 := bn.cell 1; simp at p1 q1; have dB := zmh ax; have bj := zmh R1; have bd : (Y ++ Q1).length <= 240026 := by rw [zmi]; omega
       clear R1 K1 ax bn bV b0 b1)
    | (go_at_call 183; refine (zag bj.out (f := 183) (args := #[.pointer (some ⟨e, 0, none⟩), .int .i64 (xT f x)]) (zs := Q2) (fun o2 he => by have := zaz _ o2 _ (xT f x) (zae _).1 (zae _).2 _ he (by rw [zmi]; omega); rw [eT.out] at this; exact this)).mono ?_; rintro rB wB ⟨rfl, R1, K1⟩
       have ax := K1.out _ _ _ (by decide) (by decide) dB.out; have p2 := ax.cell 2; simp at p2; have sr := zmh ax; have bG := zmh R1; have eX : (Y ++ Q1 ++ Q2).length <= 240036 := by rw [zmi]; omega
       clear R1 K1 ax p1 q1 bj bd dB)
    | (go_at_call 181; refine (zag bG.out (f := 181) (args := #[.pointer (some ⟨e, 0, none⟩), .int .u64 x.v]) (zs := Lib.beBytes 8 x.v) (fun o2 he => zcl _ o2 _ _ HW.out.2.2.2.1 _ he (by rw [zmi]; omega))).mono ?_; rintro rC wC ⟨rfl, R1, K1⟩
       have ax := K1.out _ _ _ (by decide) (by decide) sr.out; have p3 := ax.cell 3; simp at p3; have jZ := zmh R1; have pz : (Y ++ Q1 ++ Q2 ++ Lib.beBytes 8 x.v).length <= 240044 := by rw [zmi, zmr]; omega
       clear R1 K1 ax p2 bG eX sr)
    | (go_at_call 115; refine (zag jZ.out (f := 115) (args := #[.pointer (some ⟨e, 0, none⟩), .agg #[.string st]]) (zs := zbj (zaI x.labs)) (fun o2 he => rR.out _ o2 _ _ he (by rw [zmi]; omega))).mono ?_; rintro rD wD ⟨rfl, R1, K1⟩
       have bT := zmh R1
       clear R1 K1 jZ))
   have RE : Put WB e o xs (zbI f ++ ((f :: r).take (k + 1)).flatMap (zbm f)) wD := by
    rw [zal (zbm f) (f :: r) k x HX.out, <- zmk, HY.out]; unfold zbm; rw [ie.out, eT.out]; simpa [zmk] using bT.out
   have cM := zmh RE; clear RE bT; go_wp2; go_roundw
   case rel => exact ⟨k + 1, by omega, by go_num, cM.out⟩
   case measure => simp [intOf]; omega
  ·obtain rfl : k = n := by omega
   go_wp2; go_end0; have e1 : (f :: r).take k = f :: r := zmq (by rw [zmz, HN.out]; exact zmt _); rw [e1] at R; obtain ⟨oZ, dx, dX, fS⟩ := R; refine ⟨rfl, oZ, dx, cS.out.trans dX (fun k hk h => h), ?_⟩; rcases fS with h | ⟨k2, h, cI⟩
   ·exact .inl h
   ·exact .inr ⟨k2, h, by omega⟩
def zbA (l : List Exm) : List UInt8 := 4 :: encXs l
theorem zkl (ep : Value) (sv : Value) (P : Nat -> Prop) (v : Value) (xs : List UInt8) (l : List Exm) (w : World) (h : Sl P w sv 4 l.length (l.flatMap exo)) (ab : w.ownsRow 0 5 1 v xs.length (bc xs)) (hl : xs.length <= 536870912)
 (au : l.length <= 12) (aD : ∀ s ∈ l, zfO s) (hP : ∀ g, P g -> g < w.heap.size /\ some g ≠ v.ownBlock) :
 Calls prog 94 #[ep, sv, v] w (zbP w v.ownBlock (xs ++ zbA l)) := by
 have hsv : ∃ A m c, sv = .slice A m c := let ⟨A, c, h, _⟩ := h; ⟨A, _, c, h⟩
 have HS := zmh h; obtain ⟨A, c, rfl, ai, aQ, hr⟩ := h; obtain ⟨a', n', k', rfl⟩ := zab ab; have hE := Enc.made (z := .int .u8 0) ab _ rfl; have hQ := zck w.heap.size _ xs 4 _ hE (by omega); have e2 : ((4 : UInt8).toNat : Int) = 4 := rfl; rw [e2] at hQ; have HE := zmh hE; clear hE e2 ai hr hsv
 have cL : Fr (fun k => some k = (Value.slice a' n' k').ownBlock) w (w.alloc (.cells #[.slice a' n' k', .int .u8 0, .int .u8 0, .int .u8 0, .int .u8 0, .int .u8 0, .int .u8 0, .int .u8 0, .int .u8 0, .int .u8 0, .int .u8 0] 224)) := (znl _ w).alloc _; have cS := zmh cL; clear cL; rcases l with _ | ⟨f, r⟩
 ·go_enter func94, ntmps94
  go_wp2_with (first | (go_at_call 180; refine hQ.mono ?_; rintro r1 w1 ⟨rfl, R⟩; obtain ⟨o1, eF, ah, dK⟩ := R; have hG := zd4 _ _ _ _ eF) | (go_at_call 116; refine hG.mono ?_; rintro r w2 ⟨v2, rfl, rfl, af, bd⟩))
  go_ret; refine ⟨v2, rfl, by simpa [zbA, encXs] using af, zdl (o1 := o1) ah, ?_⟩; rw [bd]; rcases dK with h | ⟨k, h, hk⟩
  ·exact .inl h
  ·exact .inr ⟨k, h, by simp at hk; omega⟩
 ·obtain ⟨n, hn⟩ := exE ((f :: r).length)
  have hn2 : n = r.length + 1 := by rw [<- hn]; rfl
  have HN := zmh hn2; rw [hn] at HS aQ au ⊢; have fT : ((n : Int) == 0) = false := by simp; omega
  have HP := zmh hP; have HW := zmh aD; clear hn hn2 hP aD; go_enter func94, ntmps94
  go_wp2_with (first
   | (go_at_call 180; refine hQ.mono ?_; rintro r1 w1 ⟨rfl, R⟩
      have hws : w.heap.size < w1.heap.size := by have := R.fr.size; simp at this; omega
      obtain ⟨o1, eF, ah, dK⟩ := R; have hB : ∀ g, P g -> g < w1.heap.size /\ ¬ (g = w.heap.size ∨ some g = o1) := fun g hg => by
       have h1 := HP.out g hg; refine ⟨by omega, ?_⟩; rintro (rfl | h)
       ·omega
       ·rcases dK with h2 | ⟨k, h2, hk⟩
        ·exact h1.2 (h.trans h2)
        ·rw [h2] at h; injection h with h; simp at hk; omega
      have dE := zdl (o1 := o1) ah; have nK := HS.out.fr dE (fun g hg => (HP.out g hg).2); rw [HN.out] at nK; have hX := zlO ep (.slice A n c) P w.heap.size o1 (xs ++ [4]) f r w1 (by rw [HN.out]; exact nK) eF (by rw [zmi, zmy]; omega) (by have := HN.out; omega) HW.out hB; have bX := zmh dE; have de := zmh dK
      clear nK hB dE dK ah eF)
   | (go_at_call 184; refine hX.mono ?_; rintro r2 w2 ⟨rfl, oZ, dx, dX, fS⟩; have hG := zd4 _ _ _ _ dx; have HZ := zmh dX; clear hX dX)
   | (go_at_call 116; refine hG.mono ?_; rintro r w3 ⟨v2, rfl, rfl, af, bd⟩))
  go_ret; refine ⟨v2, rfl, by simpa [zbA, zmk] using af, bX.out.trans HZ.out (fun k hk e => ?_), ?_⟩
  ·rcases e with e | e
   ·omega
   ·rcases de.out with h2 | ⟨k2, h2, cI⟩
    ·rw [e, h2]
    ·rw [h2] at e; injection e with e; simp at cI; omega
  ·rw [bd]
   rcases fS with h | ⟨k2, h, cI⟩
   ·rw [h]
    rcases de.out with h2 | ⟨k3, h2, hk3⟩
    ·exact .inl h2
    ·exact .inr ⟨k3, h2, by simp at hk3; omega⟩
   ·exact .inr ⟨k2, h, by omega⟩
def SerR (s : Ser) : Prop := s.ref < 18446744073709551616 /\ LabOk s.labs 12 600
def ExmR (s : Exm) : Prop := (s.ref < 18446744073709551616 /\ -9223372036854775808 <= s.t /\ s.t <= 9223372036854775807 /\ s.v < 18446744073709551616) /\ LabOk s.labs 12 600
theorem SerR.lab {s : Ser} (h : SerR s) : LabOk s.labs 12 600 := h.2
theorem ExmR.lab {s : Exm} (h : ExmR s) : LabOk s.labs 12 600 := h.2
theorem SerR.ok {s : Ser} (h : SerR s) : zhh s := ⟨h.1, h.2.1, fun p hp => (h.2.2.1 p hp).2, h.2.2.2⟩
theorem ExmR.ok {s : Exm} (h : ExmR s) : zfO s := ⟨h.1.1, h.1.2.1, h.1.2.2.1, h.1.2.2.2, h.2.1, fun p hp => (h.2.2.1 p hp).2, h.2.2.2⟩
theorem zhM (bk bp bb br : Nat) (ep lp : Value) (P : Nat -> Prop) (s0 s1 s2 s3 s4 s5 s6 v z : Value) (xs : List UInt8) (lv : List (Ser × Value)) (w : World) (hk : Blk w bk 3 #[.int .i64 1]) (hp : Blk w bp 54 #[s0, s1, s2, s3, s4, s5, s6]) (hb : Blk w bb 44 #[v]) (hr : Blk w br 44 #[z])
 (ab : w.ownsRow 0 5 1 v xs.length (bc xs)) (hs : SlR P w s0 lv) (hl : xs.length <= 536870912) (au : (lv.map Prod.fst).length <= 12) (aD : ∀ s ∈ (lv.map Prod.fst), SerR s) (bM : bb ≠ br) :
 Calls prog 90 #[.pointer (some ⟨bk, 0, none⟩), ep, .pointer (some ⟨bp, 0, none⟩), .pointer (some ⟨bb, 0, none⟩), .pointer (some ⟨br, 0, none⟩), lp] w (zcs w br v.ownBlock (xs ++ zbY (lv.map Prod.fst))) := by
 have iC : bp ≠ br := znn hp hr (by decide); have k0 := hk.cell 0; have p1 := hp.cell 0; have b0 := hb.cell 0; simp at k0 p1 b0; obtain ⟨a', n', k', rfl⟩ := zab ab; have bh : ∃ A m c, s0 = .slice A m c := let ⟨A, c, h, _⟩ := hs.1; ⟨A, _, c, h⟩
 obtain ⟨A, m, c, rfl⟩ := bh; have hQ := zeR P (.slice A m c) lv w.drew hs (by rw [zmF] at au; omega) (fun p hp => (aD p.1 (zmN.2 ⟨p, hp, rfl⟩)).lab); have HB := zmh hb; have HP := zmh hp; have HR := zmh hr; have HO := zmh ab; have gA : w.drew.cell? ⟨bp, 0, none⟩ = some (.slice A m c) := p1
 have ib : w.drew.cell? ⟨bb, 0, none⟩ = some (.slice a' n' k') := b0; clear hk hp hb hr ab hs; go_enter func90, ntmps90; go_wp2_with fail
 have HW := zmh aD; clear aD; go_region_held3 (fun w' => w'.cell? ⟨bp, 0, none⟩ = some (.slice A m c) /\ w'.cell? ⟨bb, 0, none⟩ = some (.slice a' n' k'))
  ((first | (go_split_ands; refine ⟨?_, ?_⟩ <;> first | exact ((HP.out.drew).fr ah id).cell 0 | exact ((HB.out.drew).fr ah id).cell 0) | (go_split_ands; refine ⟨?_, ?_⟩ <;> first | exact KP.out.cell 0 | exact KB.out.cell 0) | (go_split_ands; refine ⟨?_, ?_⟩ <;> first | exact (KP.out.far (p := ⟨br, 0, none⟩) iC _).cell 0 | exact (KB.out.far (p := ⟨br, 0, none⟩) bM _).cell 0) | go_keep))
  ((first
    | (go_at_call 69; refine hQ.mono ?_; rintro r1 w1 ⟨v1, rfl, am, ah⟩)
    | (go_at_call 91; refine (zkj ep v1 (fun g => v1.ownBlock = some g) (.slice a' n' k') xs (lv.map Prod.fst) w1 (zno am) (zai (World.ownsRow.drew HO.out) ah z_i) hl au (fun s hs => (HW.out s hs).ok) (zcY am HO.out (zmt _))).mono ?_; rintro r2 w2 ⟨v2, rfl, af, aq, bA⟩; obtain ⟨KP, KB, KR⟩ := za7 HP.out HB.out HR.out HO.out ah aq; have q0 := KR.out.cell 0; simp at q0; have q1 := KR.out.frozen 0; obtain ⟨a2, n2, k2, rfl⟩ := zab af)))
 have HE : Fr (fun k => some k = (Value.slice a' n' k').ownBlock ∨ k = br) w (w2.setCell ⟨br, 0, none⟩ (.slice a2 n2 k2)) :=
  ((((znl (fun k => some k = (Value.slice a' n' k').ownBlock ∨ k = br) w).drew).trans ah (fun _ _ e => e.elim)).trans aq (fun _ _ e => .inl e)).setCell (p := ⟨br, 0, none⟩) (.inl (.inr rfl)) _
 have HV : Blk (w2.setCell ⟨br, 0, none⟩ (.slice a2 n2 k2)) br 44 #[.slice a2 n2 k2] := by simpa using KR.out.set_ 0 (.slice a2 n2 k2)
 have HF := zmh HE; have iX := zmh HV; have eU : (w2.setCell ⟨br, 0, none⟩ (.slice a2 n2 k2)).ownsRow 0 5 1 (.slice a2 n2 k2) (xs ++ zbY (lv.map Prod.fst)).length (bc (xs ++ zbY (lv.map Prod.fst))) := zai af (Fr.put_ w2 br 0 _) (fun g hg e => zak af KR.out (by decide) (by rw [hg, e])); have dO := zmh eU; have bD := ah.size; have gl := zmh bA
 clear HE HV eU am ah af aq bA q0 q1 hQ p1 gA b0 ib; go_wp2; go_end0; refine ⟨rfl, _, iX.out, dO.out, HF.out, ?_⟩; rcases gl.out with h | ⟨k, h, hk⟩
 ·exact .inl h
 ·exact .inr ⟨k, h, by simp at bD; omega⟩
theorem zeT (s0 s1 s2 s3 s4 s5 s6 bv : Value) (xs : List UInt8) (lv : List (Ser × Value)) (P : Nat -> Prop) (w : World) (hb : Sl P w bv 1 xs.length (bc xs)) (bm : xs.length <= 536870912)
 (au : ∀ s ∈ [s0, s1, s2, s3, s4, s5, s6], ∃ A m c, s = .slice A m c) (hs : SlR P w s0 lv) (dh : (lv.map Prod.fst).length <= 12) (aD : ∀ s ∈ (lv.map Prod.fst), SerR s) :
 Calls prog 31 #[.int .i64 1, .agg #[s0, s1, s2, s3, s4, s5, s6], bv] w (za5 (fun lv _ => lv = .slice none 0 0) w (xs ++ zbY (lv.map Prod.fst))) := by
 refine zaP 1 s0 s1 s2 s3 s4 s5 s6 bv xs _ P _ w hb (by omega) au (by rintro lv W rfl; exact ⟨_, _, _, rfl⟩) (fun _ _ _ h _ => h) ?_; intro bk be bp bb br bl v W hk hp bJ hr hl ab bM hF
 exact (zhM bk bp bb br _ _ P s0 s1 s2 s3 s4 s5 s6 v _ xs lv W hk hp bJ hr (zah ab (zms _)) (hs.fr hF z_i) bm dh aD bM).mono fun r w' h => zdd (zah ab (zms _)) hr hl h
theorem zfD (bk bp bb br : Nat) (ep lp : Value) (P : Nat -> Prop) (s0 s1 s2 s3 s4 s5 s6 v z : Value) (xs : List UInt8) (lv : List (Exm × Value)) (w : World) (hk : Blk w bk 3 #[.int .i64 4]) (hp : Blk w bp 54 #[s0, s1, s2, s3, s4, s5, s6]) (hb : Blk w bb 44 #[v]) (hr : Blk w br 44 #[z])
 (ab : w.ownsRow 0 5 1 v xs.length (bc xs)) (hs : SlX P w s3 lv) (hl : xs.length <= 536870912) (au : (lv.map Prod.fst).length <= 12) (aD : ∀ s ∈ (lv.map Prod.fst), ExmR s) (bM : bb ≠ br) :
 Calls prog 90 #[.pointer (some ⟨bk, 0, none⟩), ep, .pointer (some ⟨bp, 0, none⟩), .pointer (some ⟨bb, 0, none⟩), .pointer (some ⟨br, 0, none⟩), lp] w (zcs w br v.ownBlock (xs ++ zbA (lv.map Prod.fst))) := by
 have iC : bp ≠ br := znn hp hr (by decide); have k0 := hk.cell 0; have p1 := hp.cell 3; have b0 := hb.cell 0; simp at k0 p1 b0; obtain ⟨a', n', k', rfl⟩ := zab ab; have bh : ∃ A m c, s3 = .slice A m c := let ⟨A, c, h, _⟩ := hs.1; ⟨A, _, c, h⟩
 obtain ⟨A, m, c, rfl⟩ := bh; have hQ := zdY P (.slice A m c) lv w.drew hs (by rw [zmF] at au; omega) (fun p hp => (aD p.1 (zmN.2 ⟨p, hp, rfl⟩)).lab); have HB := zmh hb; have HP := zmh hp; have HR := zmh hr; have HO := zmh ab; have gA : w.drew.cell? ⟨bp, 3, none⟩ = some (.slice A m c) := p1
 have ib : w.drew.cell? ⟨bb, 0, none⟩ = some (.slice a' n' k') := b0; clear hk hp hb hr ab hs; go_enter func90, ntmps90; go_wp2_with fail
 have HW := zmh aD; clear aD; go_region_held3 (fun w' => w'.cell? ⟨bp, 3, none⟩ = some (.slice A m c) /\ w'.cell? ⟨bb, 0, none⟩ = some (.slice a' n' k'))
  ((first | (go_split_ands; refine ⟨?_, ?_⟩ <;> first | exact ((HP.out.drew).fr ah id).cell 3 | exact ((HB.out.drew).fr ah id).cell 0) | (go_split_ands; refine ⟨?_, ?_⟩ <;> first | exact KP.out.cell 3 | exact KB.out.cell 0) | (go_split_ands; refine ⟨?_, ?_⟩ <;> first | exact (KP.out.far (p := ⟨br, 0, none⟩) iC _).cell 3 | exact (KB.out.far (p := ⟨br, 0, none⟩) bM _).cell 0) | go_keep))
  ((first
    | (go_at_call 78; refine hQ.mono ?_; rintro r1 w1 ⟨v1, rfl, am, ah⟩)
    | (go_at_call 94; refine (zkl ep v1 (fun g => v1.ownBlock = some g) (.slice a' n' k') xs (lv.map Prod.fst) w1 (zno am) (zai (World.ownsRow.drew HO.out) ah z_i) hl au (fun s hs => (HW.out s hs).ok) (zcY am HO.out (zmt _))).mono ?_; rintro r2 w2 ⟨v2, rfl, af, aq, bA⟩; obtain ⟨KP, KB, KR⟩ := za7 HP.out HB.out HR.out HO.out ah aq; have q0 := KR.out.cell 0; simp at q0; have q1 := KR.out.frozen 0; obtain ⟨a2, n2, k2, rfl⟩ := zab af)))
 have HE : Fr (fun k => some k = (Value.slice a' n' k').ownBlock ∨ k = br) w (w2.setCell ⟨br, 0, none⟩ (.slice a2 n2 k2)) :=
  ((((znl (fun k => some k = (Value.slice a' n' k').ownBlock ∨ k = br) w).drew).trans ah (fun _ _ e => e.elim)).trans aq (fun _ _ e => .inl e)).setCell (p := ⟨br, 0, none⟩) (.inl (.inr rfl)) _
 have HV : Blk (w2.setCell ⟨br, 0, none⟩ (.slice a2 n2 k2)) br 44 #[.slice a2 n2 k2] := by simpa using KR.out.set_ 0 (.slice a2 n2 k2)
 have HF := zmh HE; have iX := zmh HV; have eU : (w2.setCell ⟨br, 0, none⟩ (.slice a2 n2 k2)).ownsRow 0 5 1 (.slice a2 n2 k2) (xs ++ zbA (lv.map Prod.fst)).length (bc (xs ++ zbA (lv.map Prod.fst))) := zai af (Fr.put_ w2 br 0 _) (fun g hg e => zak af KR.out (by decide) (by rw [hg, e])); have dO := zmh eU; have bD := ah.size; have gl := zmh bA
 clear HE HV eU am ah af aq bA q0 q1 hQ p1 gA b0 ib; go_wp2; go_end0; refine ⟨rfl, _, iX.out, dO.out, HF.out, ?_⟩; rcases gl.out with h | ⟨k, h, hk⟩
 ·exact .inl h
 ·exact .inr ⟨k, h, by simp at bD; omega⟩
theorem zeb (s0 s1 s2 s3 s4 s5 s6 bv : Value) (xs : List UInt8) (lv : List (Exm × Value)) (P : Nat -> Prop) (w : World) (hb : Sl P w bv 1 xs.length (bc xs)) (bm : xs.length <= 536870912)
 (au : ∀ s ∈ [s0, s1, s2, s3, s4, s5, s6], ∃ A m c, s = .slice A m c) (hs : SlX P w s3 lv) (dh : (lv.map Prod.fst).length <= 12) (aD : ∀ s ∈ (lv.map Prod.fst), ExmR s) :
 Calls prog 31 #[.int .i64 4, .agg #[s0, s1, s2, s3, s4, s5, s6], bv] w (za5 (fun lv _ => lv = .slice none 0 0) w (xs ++ zbA (lv.map Prod.fst))) := by
 refine zaP 4 s0 s1 s2 s3 s4 s5 s6 bv xs _ P _ w hb (by omega) au (by rintro lv W rfl; exact ⟨_, _, _, rfl⟩) (fun _ _ _ h _ => h) ?_; intro bk be bp bb br bl v W hk hp bJ hr hl ab bM hF
 exact (zfD bk bp bb br _ _ P s0 s1 s2 s3 s4 s5 s6 v _ xs lv W hk hp bJ hr (zah ab (zms _)) (hs.fr hF z_i) bm dh aD bM).mono fun r w' h => zdd (zah ab (zms _)) hr hl h
theorem zfZ (bk bp bb br : Nat) (ep lp : Value) (P : Nat -> Prop) (s0 s1 s2 s3 s4 s5 s6 v z : Value) (xs : List UInt8) (l : List Mta) (w : World) (hk : Blk w bk 3 #[.int .i64 6]) (hp : Blk w bp 54 #[s0, s1, s2, s3, s4, s5, s6]) (hb : Blk w bb 44 #[v]) (hr : Blk w br 44 #[z])
 (ab : w.ownsRow 0 5 1 v xs.length (bc xs)) (hs : Sl P w s4 4 l.length (l.flatMap Mta.c)) (hl : xs.length <= 536870912) (au : l.length <= 1048576) (aD : ∀ s ∈ l, s.wf) (bM : bb ≠ br) :
 Calls prog 90 #[.pointer (some ⟨bk, 0, none⟩), ep, .pointer (some ⟨bp, 0, none⟩), .pointer (some ⟨bb, 0, none⟩), .pointer (some ⟨br, 0, none⟩), lp] w (zcs w br v.ownBlock (xs ++ zbJ l)) := by
 have iC : bp ≠ br := znn hp hr (by decide); have k0 := hk.cell 0; have p1 := hp.cell 4; have b0 := hb.cell 0; simp at k0 p1 b0; obtain ⟨a', n', k', rfl⟩ := zab ab; have bh : ∃ A m c, s4 = .slice A m c := let ⟨A, c, h, _⟩ := hs; ⟨A, _, c, h⟩
 obtain ⟨A, m, c, rfl⟩ := bh; have hQ := zea P (.slice A m c) l w.drew hs (by omega); have HB := zmh hb; have HP := zmh hp; have HR := zmh hr; have HO := zmh ab; have gA : w.drew.cell? ⟨bp, 4, none⟩ = some (.slice A m c) := p1; have ib : w.drew.cell? ⟨bb, 0, none⟩ = some (.slice a' n' k') := b0; clear hk hp hb hr ab hs; go_enter func90, ntmps90
 go_wp2_with fail
 have HW := zmh aD; clear aD; go_region_held3 (fun w' => w'.cell? ⟨bp, 4, none⟩ = some (.slice A m c) /\ w'.cell? ⟨bb, 0, none⟩ = some (.slice a' n' k'))
  ((first | (go_split_ands; refine ⟨?_, ?_⟩ <;> first | exact ((HP.out.drew).fr ah id).cell 4 | exact ((HB.out.drew).fr ah id).cell 0) | (go_split_ands; refine ⟨?_, ?_⟩ <;> first | exact KP.out.cell 4 | exact KB.out.cell 0) | (go_split_ands; refine ⟨?_, ?_⟩ <;> first | exact (KP.out.far (p := ⟨br, 0, none⟩) iC _).cell 4 | exact (KB.out.far (p := ⟨br, 0, none⟩) bM _).cell 0) | go_keep))
  ((first
    | (go_at_call 82; refine hQ.mono ?_; rintro r1 w1 ⟨v1, rfl, am, ah⟩)
    | (go_at_call 96; refine (zi4 ep v1 (fun g => v1.ownBlock = some g) (.slice a' n' k') xs l w1 (zno am) (zai (World.ownsRow.drew HO.out) ah z_i) (by omega) au HW.out (zcY am HO.out (zmt _))).mono ?_; rintro r2 w2 ⟨v2, rfl, af, aq, bA⟩; obtain ⟨KP, KB, KR⟩ := za7 HP.out HB.out HR.out HO.out ah aq; have q0 := KR.out.cell 0; simp at q0; have q1 := KR.out.frozen 0; obtain ⟨a2, n2, k2, rfl⟩ := zab af)))
 have HE : Fr (fun k => some k = (Value.slice a' n' k').ownBlock ∨ k = br) w (w2.setCell ⟨br, 0, none⟩ (.slice a2 n2 k2)) :=
  ((((znl (fun k => some k = (Value.slice a' n' k').ownBlock ∨ k = br) w).drew).trans ah (fun _ _ e => e.elim)).trans aq (fun _ _ e => .inl e)).setCell (p := ⟨br, 0, none⟩) (.inl (.inr rfl)) _
 have HV : Blk (w2.setCell ⟨br, 0, none⟩ (.slice a2 n2 k2)) br 44 #[.slice a2 n2 k2] := by simpa using KR.out.set_ 0 (.slice a2 n2 k2)
 have HF := zmh HE; have iX := zmh HV; have eU : (w2.setCell ⟨br, 0, none⟩ (.slice a2 n2 k2)).ownsRow 0 5 1 (.slice a2 n2 k2) (xs ++ zbJ l).length (bc (xs ++ zbJ l)) := zai af (Fr.put_ w2 br 0 _) (fun g hg e => zak af KR.out (by decide) (by rw [hg, e])); have dO := zmh eU; have bD := ah.size; have gl := zmh bA
 clear HE HV eU am ah af aq bA q0 q1 hQ p1 gA b0 ib; go_wp2; go_end0; refine ⟨rfl, _, iX.out, dO.out, HF.out, ?_⟩; rcases gl.out with h | ⟨k, h, hk⟩
 ·exact .inl h
 ·exact .inr ⟨k, h, by simp at bD; omega⟩
theorem zeq (s0 s1 s2 s3 s4 s5 s6 bv : Value) (xs : List UInt8) (l : List Mta) (P : Nat -> Prop) (w : World) (hb : Sl P w bv 1 xs.length (bc xs)) (bm : xs.length <= 536870912)
 (au : ∀ s ∈ [s0, s1, s2, s3, s4, s5, s6], ∃ A m c, s = .slice A m c) (hs : Sl P w s4 4 l.length (l.flatMap Mta.c)) (dh : l.length <= 1048576) (aD : ∀ s ∈ l, s.wf) :
 Calls prog 31 #[.int .i64 6, .agg #[s0, s1, s2, s3, s4, s5, s6], bv] w (za5 (fun lv _ => lv = .slice none 0 0) w (xs ++ zbJ l)) := by
 refine zaP 6 s0 s1 s2 s3 s4 s5 s6 bv xs _ P _ w hb (by omega) au (by rintro lv W rfl; exact ⟨_, _, _, rfl⟩) (fun _ _ _ h _ => h) ?_; intro bk be bp bb br bl v W hk hp bJ hr hl ab bM hF
 exact (zfZ bk bp bb br _ _ P s0 s1 s2 s3 s4 s5 s6 v _ xs l W hk hp bJ hr (zah ab (zms _)) (hs.fr hF z_i) bm dh aD bM).mono fun r w' h => zdd (zah ab (zms _)) hr hl h
theorem zg5 (c : Nat) (hc : c < 256) (w : World) :
 Calls prog 35 #[.int .u8 c] w (zkC (1 + (c : Int) % 10) w) := by
 have h0 : (0 : Int) <= (c : Int) := by omega
 have h1 : (c : Int) < 256 := by omega
 go_enter func35, ntmps35; go_wp2; go_ret; exact ⟨rfl, znl _ w⟩
def zel (l : List Lab) : Prop := l.length <= 2147483647 /\ ∀ p ∈ l, Fit p
def ze9 (l : List Lab) : Prop := l.length <= 9223372036854775807 /\ ∀ p ∈ l, p.1.size <= 9223372036854775807 /\ p.2.size <= 9223372036854775807
theorem zlJ (P : Nat -> Prop) (ref : Nat) (v : Value) (l : List Lab) (w : World) (h : Sl P w v 2 l.length (l.flatMap zaK)) (hs : ze9 l) :
 Calls prog 193 #[.agg #[.int .u64 ref, v]] w (zas (zel l) w) := by
 have hC := zhy P v l (w.alloc (.cells #[.int .u64 ref, v] 130)) (h.fr ((znl (fun _ => False) w).alloc _) z_i) hs.1 hs.2; obtain ⟨A, c, rfl, _, _, _⟩ := h; go_enter func193, ntmps193; go_wp2_with (go_at_call 21; refine hC.mono ?_; rintro r w1 ⟨b, rfl, hb, ah⟩; refine Hid.out ?_)
 have HF := zmh (((znl (fun _ => False) w).alloc (.cells #[.int .u64 ref, .slice A l.length c] 130)).same ah); have HB := zmh hb; clear ah hb hC; rcases b with _ | _
 ·refine zmh ?_
  go_wp2; go_ret; exact ⟨false, rfl, HB.out, HF.out⟩
 ·refine zmh ?_
  go_wp2; go_ret; exact ⟨true, rfl, ⟨fun _ => HB.out.1 (by trivial), fun _ => rfl⟩, HF.out⟩
theorem zlK (P : Nat -> Prop) (v : Value) (lv : List (Ser × Value)) (w : World) (h : SlR P w v lv) (hl : lv.length <= 9223372036854775807) (hs : ∀ p ∈ lv, ze9 p.1.labs) :
 Calls prog 106 #[v] w (zas (lv.length <= 2147483647 /\ ∀ p ∈ lv, zel p.1.labs) w) := by
 have HS := zmh h; obtain ⟨⟨A, c, rfl, _, hc, hr⟩, _⟩ := h; obtain ⟨n, hn⟩ := exE lv.length; rw [hn] at hr hc hl HS ⊢; have HN := zmh hn; have HI := zmh hs; clear hn hr hs; by_cases hbig : 2147483647 < n
 ·have cJ : (2147483647 : Int) < n := by omega
  go_enter func106, ntmps106; go_wp2; go_ret; exact ⟨false, rfl, ⟨fun h => (by cases h), fun h => absurd h.1 (by omega)⟩, znl _ _⟩
 ·have cJ : ¬ (2147483647 : Int) < n := by omega
  go_enter func106, ntmps106; go_wp2; go_loopw [10] (fun vi wr => ∃ k : Nat, k <= n /\ vi = .int .i64 k /\ Hid (∀ j p, j < k -> lv[j]? = some p -> zel p.1.labs) /\ Hid (z_F w wr)) (fun vi _ => n - (intOf vi).toNat)
  case atStart => exact ⟨0, zms _, rfl, zmh (fun j p h => absurd h (zm2 _)), zmh (znl _ _)⟩
  case round =>
   obtain ⟨k, hk, rfl, RG, RF⟩ := hrel; by_cases hlt : k < n
   ·have hS := HS.out.fr RF.out z_i
    have aY := hS.2; obtain ⟨⟨A', c', e2, _, hc', hr⟩, _⟩ := hS; injection e2 with e2 iV iW; obtain ⟨g, off, rfl, _, aa⟩ := hr (by have := HN.out; omega); obtain ⟨x, hx⟩ : ∃ x, lv[k]? = some x := ⟨_, zmj (by rw [HN.out]; exact hlt)⟩; have aF := zmp hx
    have q0 : wr.cell? ⟨g, off + k * 2, none⟩ = some (.int .u64 x.1.ref) := by simpa using aa (k * 2 + 0) _ (by rw [zby zfP (fun _ => rfl) lv k x hx 0 (by omega)]; rfl)
    have q1 : wr.cell? ⟨g, off + k * 2 + 1, none⟩ = some x.2 := aa (k * 2 + 1) _ (by rw [zby zfP (fun _ => rfl) lv k x hx 1 (by omega)]; rfl); have bz := aY x aF; have aP := HI.out x aF; have fx := zmh aF; have HX := zmh hx; clear aY hx aF; obtain ⟨⟨ref, labs⟩, iv⟩ := x; simp only [] at q0 q1 bz aP
    have hC := zlJ P ref iv labs (wr.alloc (.cells #[.int .u64 ref, iv] 130)) (bz.fr ((znl (fun _ => False) wr).alloc _) z_i) aP; obtain ⟨Ai, ci, rfl, _, _, _⟩ := bz; subst e2; clear aa hr iV iW aP; go_wp2_with (go_at_call 193; refine hC.mono ?_; rintro r5 w5 ⟨b, rfl, cg, ap⟩; refine Hid.out ?_)
    have H5 := zmh ((RF.out.alloc (.cells #[.int .u64 ref, .slice Ai labs.length ci] 130)).same ap); have cj := zmh cg; clear ap cg hC q0 q1; rcases b with _ | _
    ·refine zmh ?_
     go_wp2; go_ret; exact ⟨false, rfl, ⟨fun h => (by cases h), fun h => absurd (cj.out.2 (h.2 _ fx.out)) (by decide)⟩, H5.out⟩
    ·refine zmh ?_
     go_wp2; go_roundw
     case rel => exact ⟨k + 1, by omega, by go_num, zmh (fun j p h h2 => by
      rcases zmK j k with h3 | h3
      ·exact RG.out j p h3 h2
      ·obtain rfl : j = k := by omega
       have h4 := h2.symm.trans HX.out; injection h4 with h4; rw [h4]
       exact cj.out.1 rfl), H5⟩
     case measure => simp [intOf]; omega
   ·obtain rfl : k = n := by omega
    go_wp2; go_ret; refine ⟨true, rfl, ⟨fun _ => ⟨by omega, fun p hp => ?_⟩, fun _ => rfl⟩, RF.out⟩; obtain ⟨j, hj, e⟩ := znc hp; exact RG.out j p (by rw [<- HN.out]; exact hj) (by rw [zmj hj, e])
theorem zlF (P : Nat -> Prop) (ref : Nat) (t : Int) (vv : Nat) (v : Value) (l : List Lab) (w : World) (h : Sl P w v 2 l.length (l.flatMap zaK)) (hs : ze9 l) :
 Calls prog 195 #[.agg #[.int .u64 ref, .int .i64 t, .int .u64 vv, v]] w (zas (zel l) w) := by
 have hC := zhy P v l (w.alloc (.cells #[.int .u64 ref, .int .i64 t, .int .u64 vv, v] 159)) (h.fr ((znl (fun _ => False) w).alloc _) z_i) hs.1 hs.2; obtain ⟨A, c, rfl, _, _, _⟩ := h; go_enter func195, ntmps195; go_wp2_with (go_at_call 21; refine hC.mono ?_; rintro r w1 ⟨b, rfl, hb, ah⟩; refine Hid.out ?_)
 have HF := zmh (((znl (fun _ => False) w).alloc (.cells #[.int .u64 ref, .int .i64 t, .int .u64 vv, .slice A l.length c] 159)).same ah); have HB := zmh hb; clear ah hb hC; rcases b with _ | _
 ·refine zmh ?_
  go_wp2; go_ret; exact ⟨false, rfl, HB.out, HF.out⟩
 ·refine zmh ?_
  go_wp2; go_ret; exact ⟨true, rfl, ⟨fun _ => HB.out.1 (by trivial), fun _ => rfl⟩, HF.out⟩
theorem zlG (P : Nat -> Prop) (v : Value) (lv : List (Exm × Value)) (w : World) (h : SlX P w v lv) (hl : lv.length <= 9223372036854775807) (hs : ∀ p ∈ lv, ze9 p.1.labs) :
 Calls prog 108 #[v] w (zas (lv.length <= 2147483647 /\ ∀ p ∈ lv, zel p.1.labs) w) := by
 have HS := zmh h; obtain ⟨⟨A, c, rfl, _, hc, hr⟩, _⟩ := h; obtain ⟨n, hn⟩ := exE lv.length; rw [hn] at hr hc hl HS ⊢; have HN := zmh hn; have HI := zmh hs; clear hn hr hs; by_cases hbig : 2147483647 < n
 ·have cJ : (2147483647 : Int) < n := by omega
  go_enter func108, ntmps108; go_wp2; go_ret; exact ⟨false, rfl, ⟨fun h => (by cases h), fun h => absurd h.1 (by omega)⟩, znl _ _⟩
 ·have cJ : ¬ (2147483647 : Int) < n := by omega
  go_enter func108, ntmps108; go_wp2; go_loopw [10] (fun vi wr => ∃ k : Nat, k <= n /\ vi = .int .i64 k /\ Hid (∀ j p, j < k -> lv[j]? = some p -> zel p.1.labs) /\ Hid (z_F w wr)) (fun vi _ => n - (intOf vi).toNat)
  case atStart => exact ⟨0, zms _, rfl, zmh (fun j p h => absurd h (zm2 _)), zmh (znl _ _)⟩
  case round =>
   obtain ⟨k, hk, rfl, RG, RF⟩ := hrel; by_cases hlt : k < n
   ·have hS := HS.out.fr RF.out z_i
    have aY := hS.2; obtain ⟨⟨A', c', e2, _, hc', hr⟩, _⟩ := hS; injection e2 with e2 iV iW; obtain ⟨g, off, rfl, _, aa⟩ := hr (by have := HN.out; omega); obtain ⟨x, hx⟩ : ∃ x, lv[k]? = some x := ⟨_, zmj (by rw [HN.out]; exact hlt)⟩; have aF := zmp hx
    have q0 : wr.cell? ⟨g, off + k * 4, none⟩ = some (.int .u64 x.1.ref) := by simpa using aa (k * 4 + 0) _ (by rw [zdy exc (fun _ => rfl) lv k x hx 0 (by omega)]; rfl)
    have q1 : wr.cell? ⟨g, off + k * 4 + 1, none⟩ = some (.int .i64 x.1.t) := aa (k * 4 + 1) _ (by rw [zdy exc (fun _ => rfl) lv k x hx 1 (by omega)]; rfl); have q2 : wr.cell? ⟨g, off + k * 4 + 2, none⟩ = some (.int .u64 x.1.v) := aa (k * 4 + 2) _ (by rw [zdy exc (fun _ => rfl) lv k x hx 2 (by omega)]; rfl)
    have q3 : wr.cell? ⟨g, off + k * 4 + 3, none⟩ = some x.2 := aa (k * 4 + 3) _ (by rw [zdy exc (fun _ => rfl) lv k x hx 3 (by omega)]; rfl); have bz := aY x aF; have aP := HI.out x aF; have fx := zmh aF; have HX := zmh hx; clear aY hx aF; obtain ⟨⟨ref, t, vv, labs⟩, iv⟩ := x; simp only [] at q0 q1 q2 q3 bz aP
    have hC := zlF P ref t vv iv labs (wr.alloc (.cells #[.int .u64 ref, .int .i64 t, .int .u64 vv, iv] 159)) (bz.fr ((znl (fun _ => False) wr).alloc _) z_i) aP; obtain ⟨Ai, ci, rfl, _, _, _⟩ := bz; subst e2; clear aa hr iV iW aP; go_wp2_with (go_at_call 195; refine hC.mono ?_; rintro r5 w5 ⟨b, rfl, cg, ap⟩; refine Hid.out ?_)
    have H5 := zmh ((RF.out.alloc (.cells #[.int .u64 ref, .int .i64 t, .int .u64 vv, .slice Ai labs.length ci] 159)).same ap); have cj := zmh cg; clear ap cg hC q0 q1 q2 q3; rcases b with _ | _
    ·refine zmh ?_
     go_wp2; go_ret; exact ⟨false, rfl, ⟨fun h => (by cases h), fun h => absurd (cj.out.2 (h.2 _ fx.out)) (by decide)⟩, H5.out⟩
    ·refine zmh ?_
     go_wp2; go_roundw
     case rel => exact ⟨k + 1, by omega, by go_num, zmh (fun j p h h2 => by
      rcases zmK j k with h3 | h3
      ·exact RG.out j p h3 h2
      ·obtain rfl : j = k := by omega
       have h4 := h2.symm.trans HX.out; injection h4 with h4; rw [h4]
       exact cj.out.1 rfl), H5⟩
     case measure => simp [intOf]; omega
   ·obtain rfl : k = n := by omega
    go_wp2; go_ret; refine ⟨true, rfl, ⟨fun _ => ⟨by omega, fun p hp => ?_⟩, fun _ => rfl⟩, RF.out⟩; obtain ⟨j, hj, e⟩ := znc hp; exact RG.out j p (by rw [<- HN.out]; exact hj) (by rw [zmj hj, e])
def MFit (x : Mta) : Prop := x.unit.size <= 2147483647 /\ x.help.size <= 2147483647
def MSmall (x : Mta) : Prop := x.unit.size <= 9223372036854775807 /\ x.help.size <= 9223372036854775807
theorem zlD (x : Mta) (w : World) (hs : MSmall x) :
 Calls prog 196 #[.agg #[.int .u64 x.ref, .int .u8 x.ty.toNat, .string x.unit, .string x.help]] w (zas (MFit x) w) := by
 obtain ⟨bh, ek⟩ := hs; by_cases hb : 2147483647 < x.unit.size
 ·have bJ : (2147483647 : Int) < (x.unit.size : Int) := by omega
  go_enter func196, ntmps196; go_wp2; go_ret; exact ⟨false, rfl, ⟨fun h => (by cases h), fun h => absurd hb (by have := h.1; omega)⟩, (znl _ w).alloc _⟩
 ·have bJ : ¬ (2147483647 : Int) < (x.unit.size : Int) := by omega
  by_cases hd : 2147483647 < x.help.size
  ·have hd' : (2147483647 : Int) < (x.help.size : Int) := by omega
   go_enter func196, ntmps196; go_wp2; go_ret; exact ⟨false, rfl, ⟨fun h => (by cases h), fun h => absurd hd (by have := h.2; omega)⟩, (znl _ w).alloc _⟩
  ·have hd' : ¬ (2147483647 : Int) < (x.help.size : Int) := by omega
   go_enter func196, ntmps196; go_wp2; go_ret; exact ⟨true, rfl, ⟨fun _ => ⟨by omega, by omega⟩, fun _ => rfl⟩, (znl _ w).alloc _⟩
theorem zlE (P : Nat -> Prop) (v : Value) (lv : List Mta) (w : World) (h : Sl P w v 4 lv.length (lv.flatMap Mta.c)) (hl : lv.length <= 9223372036854775807) (hs : ∀ p ∈ lv, MSmall p) :
 Calls prog 109 #[v] w (zas (lv.length <= 2147483647 /\ ∀ p ∈ lv, MFit p) w) := by
 have HS := zmh h; obtain ⟨A, c, rfl, _, hc, hr⟩ := h; obtain ⟨n, hn⟩ := exE lv.length; rw [hn] at hr hc hl ⊢; rw [hn] at HS; have HN := zmh hn; have HI := zmh hs; clear hn hr hs; by_cases hbig : 2147483647 < n
 ·have cJ : (2147483647 : Int) < n := by omega
  go_enter func109, ntmps109; go_wp2; go_ret; exact ⟨false, rfl, ⟨fun h => (by cases h), fun h => absurd h.1 (by omega)⟩, znl _ _⟩
 ·have cJ : ¬ (2147483647 : Int) < n := by omega
  go_enter func109, ntmps109; go_wp2; go_loopw [10] (fun vi wr => ∃ k : Nat, k <= n /\ vi = .int .i64 k /\ Hid (∀ j p, j < k -> lv[j]? = some p -> MFit p) /\ Hid (z_F w wr)) (fun vi _ => n - (intOf vi).toNat)
  case atStart => exact ⟨0, zms _, rfl, zmh (fun j p h => absurd h (zm2 _)), zmh (znl _ _)⟩
  case round =>
   obtain ⟨k, hk, rfl, RG, RF⟩ := hrel; by_cases hlt : k < n
   ·have hS := HS.out.fr RF.out z_i
    obtain ⟨A', c', e2, _, hc', hr⟩ := hS; injection e2 with e2 iV iW; obtain ⟨g, off, rfl, _, aa⟩ := hr (by have := HN.out; omega); obtain ⟨x, hx⟩ : ∃ x, lv[k]? = some x := ⟨_, zmj (by rw [HN.out]; exact hlt)⟩; have aF := zmp hx
    have q0 : wr.cell? ⟨g, off + k * 4, none⟩ = some (.int .u64 x.ref) := by simpa using aa (k * 4 + 0) _ (by rw [zdy Mta.c (fun _ => rfl) lv k x hx 0 (by omega)]; rfl)
    have q1 : wr.cell? ⟨g, off + k * 4 + 1, none⟩ = some (.int .u8 x.ty.toNat) := aa (k * 4 + 1) _ (by rw [zdy Mta.c (fun _ => rfl) lv k x hx 1 (by omega)]; rfl); have q2 : wr.cell? ⟨g, off + k * 4 + 2, none⟩ = some (.string x.unit) := aa (k * 4 + 2) _ (by rw [zdy Mta.c (fun _ => rfl) lv k x hx 2 (by omega)]; rfl)
    have q3 : wr.cell? ⟨g, off + k * 4 + 3, none⟩ = some (.string x.help) := aa (k * 4 + 3) _ (by rw [zdy Mta.c (fun _ => rfl) lv k x hx 3 (by omega)]; rfl); have aP := HI.out x aF; have fx := zmh aF; have HX := zmh hx; clear hx aF; have hC := zlD x (wr.alloc (.cells (Mta.c x).toArray 176)) aP; subst e2; clear aa hr iV iW aP
    go_wp2_with (go_at_call 196; refine hC.mono ?_; rintro r5 w5 ⟨b, rfl, cg, ap⟩; refine Hid.out ?_)
    have H5 := zmh ((RF.out.alloc (.cells (Mta.c x).toArray 176)).same ap); have cj := zmh cg; clear ap cg hC q0 q1 q2 q3; rcases b with _ | _
    ·refine zmh ?_
     go_wp2; go_ret; exact ⟨false, rfl, ⟨fun h => (by cases h), fun h => absurd (cj.out.2 (h.2 _ fx.out)) (by decide)⟩, H5.out⟩
    ·refine zmh ?_
     go_wp2; go_roundw
     case rel => exact ⟨k + 1, by omega, by go_num, zmh (fun j p h h2 => by
      rcases zmK j k with h3 | h3
      ·exact RG.out j p h3 h2
      ·obtain rfl : j = k := by omega
       have h4 := h2.symm.trans HX.out; injection h4 with h4; rw [h4]
       exact cj.out.1 rfl), H5⟩
     case measure => simp [intOf]; omega
   ·obtain rfl : k = n := by omega
    go_wp2; go_ret; refine ⟨true, rfl, ⟨fun _ => ⟨by omega, fun p hp => ?_⟩, fun _ => rfl⟩, RF.out⟩; obtain ⟨j, hj, e⟩ := znc hp; exact RG.out j p (by rw [<- HN.out]; exact hj) (by rw [zmj hj, e])
theorem zlH (P : Nat -> Prop) (ref : Nat) (v : Value) (l : List (Int × Int)) (w : World) (h : ∃ A c, v = .slice A l.length c) (hs : l.length <= 9223372036854775807) :
 Calls prog 194 #[.agg #[.int .u64 ref, v]] w (zas (l.length <= 2147483647) w) := by
 obtain ⟨A, c, rfl⟩ := h; by_cases hb : 2147483647 < l.length
 ·have bJ : (2147483647 : Int) < (l.length : Int) := by omega
  go_enter func194, ntmps194; go_wp2; go_ret; exact ⟨false, rfl, ⟨fun h => (by cases h), fun h => absurd hb (by omega)⟩, (znl _ w).alloc _⟩
 ·have bJ : ¬ (2147483647 : Int) < (l.length : Int) := by omega
  go_enter func194, ntmps194; go_wp2; go_ret; exact ⟨true, rfl, ⟨fun _ => by omega, fun _ => rfl⟩, (znl _ w).alloc _⟩
theorem zlI (P : Nat -> Prop) (v : Value) (lv : List (Ston × Value)) (w : World) (h : SlS P w v lv) (hl : lv.length <= 9223372036854775807) (hs : ∀ p ∈ lv, p.1.ivs.length <= 9223372036854775807) :
 Calls prog 107 #[v] w (zas (lv.length <= 2147483647 /\ ∀ p ∈ lv, p.1.ivs.length <= 2147483647) w) := by
 have HS := zmh h; obtain ⟨⟨A, c, rfl, _, hc, hr⟩, _⟩ := h; obtain ⟨n, hn⟩ := exE lv.length; rw [hn] at hr hc hl HS ⊢; have HN := zmh hn; have HI := zmh hs; clear hn hr hs; by_cases hbig : 2147483647 < n
 ·have cJ : (2147483647 : Int) < n := by omega
  go_enter func107, ntmps107; go_wp2; go_ret; exact ⟨false, rfl, ⟨fun h => (by cases h), fun h => absurd h.1 (by omega)⟩, znl _ _⟩
 ·have cJ : ¬ (2147483647 : Int) < n := by omega
  go_enter func107, ntmps107; go_wp2; go_loopw [10] (fun vi wr => ∃ k : Nat, k <= n /\ vi = .int .i64 k /\ Hid (∀ j p, j < k -> lv[j]? = some p -> p.1.ivs.length <= 2147483647) /\ Hid (z_F w wr)) (fun vi _ => n - (intOf vi).toNat)
  case atStart => exact ⟨0, zms _, rfl, zmh (fun j p h => absurd h (zm2 _)), zmh (znl _ _)⟩
  case round =>
   obtain ⟨k, hk, rfl, RG, RF⟩ := hrel; by_cases hlt : k < n
   ·have hS := HS.out.fr RF.out z_i
    have aY := hS.2; obtain ⟨⟨A', c', e2, _, hc', hr⟩, _⟩ := hS; injection e2 with e2 iV iW; obtain ⟨g, off, rfl, _, aa⟩ := hr (by have := HN.out; omega); obtain ⟨x, hx⟩ : ∃ x, lv[k]? = some x := ⟨_, zmj (by rw [HN.out]; exact hlt)⟩; have aF := zmp hx
    have q0 : wr.cell? ⟨g, off + k * 2, none⟩ = some (.int .u64 x.1.ref) := by simpa using aa (k * 2 + 0) _ (by rw [zby stc (fun _ => rfl) lv k x hx 0 (by omega)]; rfl)
    have q1 : wr.cell? ⟨g, off + k * 2 + 1, none⟩ = some x.2 := aa (k * 2 + 1) _ (by rw [zby stc (fun _ => rfl) lv k x hx 1 (by omega)]; rfl); have bz := aY x aF; have aP := HI.out x aF; have fx := zmh aF; have HX := zmh hx; clear aY hx aF; obtain ⟨⟨ref, ivs⟩, iv⟩ := x; simp only [] at q0 q1 bz aP
    have hC := zlH P ref iv ivs (wr.alloc (.cells #[.int .u64 ref, iv] 151)) (let ⟨A, c, h, _⟩ := bz; ⟨A, c, h⟩) aP; obtain ⟨Ai, ci, rfl, _, _, _⟩ := bz; subst e2; clear aa hr iV iW aP; go_wp2_with (go_at_call 194; refine hC.mono ?_; rintro r5 w5 ⟨b, rfl, cg, ap⟩; refine Hid.out ?_)
    have H5 := zmh ((RF.out.alloc (.cells #[.int .u64 ref, .slice Ai ivs.length ci] 151)).same ap); have cj := zmh cg; clear ap cg hC q0 q1; rcases b with _ | _
    ·refine zmh ?_
     go_wp2; go_ret; exact ⟨false, rfl, ⟨fun h => (by cases h), fun h => absurd (cj.out.2 (h.2 _ fx.out)) (by decide)⟩, H5.out⟩
    ·refine zmh ?_
     go_wp2; go_roundw
     case rel => exact ⟨k + 1, by omega, by go_num, zmh (fun j p h h2 => by
      rcases zmK j k with h3 | h3
      ·exact RG.out j p h3 h2
      ·obtain rfl : j = k := by omega
       have h4 := h2.symm.trans HX.out; injection h4 with h4; rw [h4]
       exact cj.out.1 rfl), H5⟩
     case measure => simp [intOf]; omega
   ·obtain rfl : k = n := by omega
    go_wp2; go_ret; refine ⟨true, rfl, ⟨fun _ => ⟨by omega, fun p hp => ?_⟩, fun _ => rfl⟩, RF.out⟩; obtain ⟨j, hj, e⟩ := znc hp; exact RG.out j p (by rw [<- HN.out]; exact hj) (by rw [zmj hj, e])
theorem zc9 (A0 A1 A2 A3 A4 A5 A6 : Option Addr) (c0 c1 c2 c3 c4 c5 c6 : Nat) (n0 n1 n2 n3 n4 n5 n6 n : Nat) (h0 : n0 <= 1099511627776) (h1 : n1 <= 1099511627776) (h2 : n2 <= 1099511627776) (h3 : n3 <= 1099511627776) (h4 : n4 <= 1099511627776) (h5 : n5 <= 1099511627776) (h6 : n6 <= 1099511627776) (hn : n = n0 + n1 + n2 + n3 + n4 + n5 + n6) (w : World) :
 Calls prog 40 #[.agg #[.slice A0 n0 c0, .slice A1 n1 c1, .slice A2 n2 c2, .slice A3 n3 c3, .slice A4 n4 c4, .slice A5 n5 c5, .slice A6 n6 c6]] w (zkC n w) := by
 go_enter func40, ntmps40; go_wp2; go_ret; refine ⟨?_, (znl _ w).alloc _⟩; rw [show (n : Int) = ((((((n0 : Int) + n1) + n2) + n3) + n4) + n5) + n6 by omega]; rfl
theorem rightG_2 (A0 A1 A2 A3 A4 A5 A6 : Option Addr) (c0 c1 c2 c3 c4 c5 c6 : Nat) (n0 n1 n2 n3 n4 n5 n6 n : Nat) (h0 : n0 <= 1099511627776) (h1 : n1 <= 1099511627776) (h2 : n2 <= 1099511627776) (h3 : n3 <= 1099511627776) (h4 : n4 <= 1099511627776) (h5 : n5 <= 1099511627776) (h6 : n6 <= 1099511627776) (hn : n = n0 + n1 + n2 + n3 + n4 + n5 + n6) (w : World) :
 Calls prog 30 #[.int .i64 2, .agg #[.slice A0 n0 c0, .slice A1 n1 c1, .slice A2 n2 c2, .slice A3 n3 c3, .slice A4 n4 c4, .slice A5 n5 c5, .slice A6 n6 c6]] w (zas (n <= 12 /\ n = n1) w) := by
 have hC := zc9 A0 A1 A2 A3 A4 A5 A6 c0 c1 c2 c3 c4 c5 c6 n0 n1 n2 n3 n4 n5 n6 n h0 h1 h2 h3 h4 h5 h6 hn (w.alloc (.cells #[.slice A0 n0 c0, .slice A1 n1 c1, .slice A2 n2 c2, .slice A3 n3 c3, .slice A4 n4 c4, .slice A5 n5 c5, .slice A6 n6 c6] 54)); have bQ : n1 <= n := by omega
 clear hn; by_cases h12 : n <= 12
 ·have hx : ¬ (12 : Int) < (n : Int) := by omega
  by_cases he : n = n1
  ·subst he
   go_enter func30, ntmps30; go_wp2_with (go_at_call 40; refine hC.mono ?_; rintro r w1 ⟨rfl, ah⟩; obtain ⟨x0, x1, x2, x3, x4, x5, x6⟩ := zad ((znm w 54 #[.slice A0 n0 c0, .slice A1 n c1, .slice A2 n2 c2, .slice A3 n3 c3, .slice A4 n4 c4, .slice A5 n5 c5, .slice A6 n6 c6]).fr ah id))
   go_ret; exact ⟨_, rfl, ⟨fun _ => ⟨h12, by trivial⟩, fun _ => by simp⟩, ((znl _ w).alloc _).same ah⟩
  ·have hz : ((n : Int) - (n1 : Int) == 0) = false := by simp; omega
   go_enter func30, ntmps30; go_wp2_with (go_at_call 40; refine hC.mono ?_; rintro r w1 ⟨rfl, ah⟩; obtain ⟨x0, x1, x2, x3, x4, x5, x6⟩ := zad ((znm w 54 #[.slice A0 n0 c0, .slice A1 n1 c1, .slice A2 n2 c2, .slice A3 n3 c3, .slice A4 n4 c4, .slice A5 n5 c5, .slice A6 n6 c6]).fr ah id))
   go_ret; exact ⟨_, rfl, ⟨fun h => (by first | (cases h; done) | (simp at h; done) | (simp at h; omega)), fun h => absurd h.2 he⟩, ((znl _ w).alloc _).same ah⟩
 ·have hx : (12 : Int) < (n : Int) := by omega
  go_enter func30, ntmps30; go_wp2_with (go_at_call 40; refine hC.mono ?_; rintro r w1 ⟨rfl, ah⟩)
  go_ret; exact ⟨false, rfl, ⟨fun h => (by cases h), fun h => absurd h.1 h12⟩, ((znl _ w).alloc _).same ah⟩
theorem rightG_5 (A0 A1 A2 A3 A4 A5 A6 : Option Addr) (c0 c1 c2 c3 c4 c5 c6 : Nat) (n0 n1 n2 n3 n4 n5 n6 n : Nat) (h0 : n0 <= 1099511627776) (h1 : n1 <= 1099511627776) (h2 : n2 <= 1099511627776) (h3 : n3 <= 1099511627776) (h4 : n4 <= 1099511627776) (h5 : n5 <= 1099511627776) (h6 : n6 <= 1099511627776) (hn : n = n0 + n1 + n2 + n3 + n4 + n5 + n6) (w : World) :
 Calls prog 30 #[.int .i64 5, .agg #[.slice A0 n0 c0, .slice A1 n1 c1, .slice A2 n2 c2, .slice A3 n3 c3, .slice A4 n4 c4, .slice A5 n5 c5, .slice A6 n6 c6]] w (zas (n <= 12 /\ n = n5) w) := by
 have hC := zc9 A0 A1 A2 A3 A4 A5 A6 c0 c1 c2 c3 c4 c5 c6 n0 n1 n2 n3 n4 n5 n6 n h0 h1 h2 h3 h4 h5 h6 hn (w.alloc (.cells #[.slice A0 n0 c0, .slice A1 n1 c1, .slice A2 n2 c2, .slice A3 n3 c3, .slice A4 n4 c4, .slice A5 n5 c5, .slice A6 n6 c6] 54)); have bQ : n5 <= n := by omega
 clear hn; by_cases h12 : n <= 12
 ·have hx : ¬ (12 : Int) < (n : Int) := by omega
  by_cases he : n = n5
  ·subst he
   go_enter func30, ntmps30; go_wp2_with (go_at_call 40; refine hC.mono ?_; rintro r w1 ⟨rfl, ah⟩; obtain ⟨x0, x1, x2, x3, x4, x5, x6⟩ := zad ((znm w 54 #[.slice A0 n0 c0, .slice A1 n1 c1, .slice A2 n2 c2, .slice A3 n3 c3, .slice A4 n4 c4, .slice A5 n c5, .slice A6 n6 c6]).fr ah id))
   go_ret; exact ⟨_, rfl, ⟨fun _ => ⟨h12, by trivial⟩, fun _ => by simp⟩, ((znl _ w).alloc _).same ah⟩
  ·have hz : ((n : Int) - (n5 : Int) == 0) = false := by simp; omega
   go_enter func30, ntmps30; go_wp2_with (go_at_call 40; refine hC.mono ?_; rintro r w1 ⟨rfl, ah⟩; obtain ⟨x0, x1, x2, x3, x4, x5, x6⟩ := zad ((znm w 54 #[.slice A0 n0 c0, .slice A1 n1 c1, .slice A2 n2 c2, .slice A3 n3 c3, .slice A4 n4 c4, .slice A5 n5 c5, .slice A6 n6 c6]).fr ah id))
   go_ret; exact ⟨_, rfl, ⟨fun h => (by first | (cases h; done) | (simp at h; done) | (simp at h; omega)), fun h => absurd h.2 he⟩, ((znl _ w).alloc _).same ah⟩
 ·have hx : (12 : Int) < (n : Int) := by omega
  go_enter func30, ntmps30; go_wp2_with (go_at_call 40; refine hC.mono ?_; rintro r w1 ⟨rfl, ah⟩)
  go_ret; exact ⟨false, rfl, ⟨fun h => (by cases h), fun h => absurd h.1 h12⟩, ((znl _ w).alloc _).same ah⟩
theorem zdF : (∀ (_ : True) (A0 A1 A2 A3 A4 A5 A6 : Option Addr) (c0 c1 c2 c3 c4 c5 c6 : Nat) (n0 n1 n2 n3 n4 n5 n6 n : Nat) (h0 : n0 <= 1099511627776) (h1 : n1 <= 1099511627776) (h2 : n2 <= 1099511627776) (h3 : n3 <= 1099511627776) (h4 : n4 <= 1099511627776) (h5 : n5 <= 1099511627776) (h6 : n6 <= 1099511627776) (hn : n = n0 + n1 + n2 + n3 + n4 + n5 + n6) (w : World) (P : Nat -> Prop) (lv : List (Ser × Value)) (hs : SlR P w (.slice A0 n0 c0) lv) (hl : lv.length = n0) (hi : ∀ p ∈ lv, p.1.labs.length <= 1099511627776),
 Calls prog 30 #[.int .i64 1, .agg #[.slice A0 n0 c0, .slice A1 n1 c1, .slice A2 n2 c2, .slice A3 n3 c3, .slice A4 n4 c4, .slice A5 n5 c5, .slice A6 n6 c6]] w (zas (n <= 12 /\ n = n0 /\ ∀ p ∈ lv, LabOk p.1.labs 8 300) w)) /\ (∀ (_ : True) (A0 A1 A2 A3 A4 A5 A6 : Option Addr) (c0 c1 c2 c3 c4 c5 c6 : Nat) (n0 n1 n2 n3 n4 n5 n6 n : Nat) (h0 : n0 <= 1099511627776) (h1 : n1 <= 1099511627776) (h2 : n2 <= 1099511627776) (h3 : n3 <= 1099511627776) (h4 : n4 <= 1099511627776) (h5 : n5 <= 1099511627776) (h6 : n6 <= 1099511627776) (hn : n = n0 + n1 + n2 + n3 + n4 + n5 + n6) (w : World) (P : Nat -> Prop) (lv : List (Exm × Value)) (hs : SlX P w (.slice A3 n3 c3) lv) (hl : lv.length = n3) (hi : ∀ p ∈ lv, p.1.labs.length <= 1099511627776),
 Calls prog 30 #[.int .i64 4, .agg #[.slice A0 n0 c0, .slice A1 n1 c1, .slice A2 n2 c2, .slice A3 n3 c3, .slice A4 n4 c4, .slice A5 n5 c5, .slice A6 n6 c6]] w (zas (n <= 12 /\ n = n3 /\ ∀ p ∈ lv, LabOk p.1.labs 8 300) w)) := by
 refine ⟨fun ag A0 A1 A2 A3 A4 A5 A6 c0 c1 c2 c3 c4 c5 c6 n0 n1 n2 n3 n4 n5 n6 n h0 h1 h2 h3 h4 h5 h6 hn w P lv hs hl hi => ?_, fun bU A0 A1 A2 A3 A4 A5 A6 c0 c1 c2 c3 c4 c5 c6 n0 n1 n2 n3 n4 n5 n6 n h0 h1 h2 h3 h4 h5 h6 hn w P lv hs hl hi => ?_⟩; all_goals
  have hC := zc9 A0 A1 A2 A3 A4 A5 A6 c0 c1 c2 c3 c4 c5 c6 n0 n1 n2 n3 n4 n5 n6 n h0 h1 h2 h3 h4 h5 h6 hn (w.alloc (.cells #[.slice A0 n0 c0, .slice A1 n1 c1, .slice A2 n2 c2, .slice A3 n3 c3, .slice A4 n4 c4, .slice A5 n5 c5, .slice A6 n6 c6] 54))
  first | (guard_hyp ag; have bQ : n0 <= n := by omega) | (have bQ : n3 <= n := by omega)
  clear hn; by_cases h12 : n <= 12
  ·have h1x : ¬ (12 : Int) < (n : Int) := by omega
   have HS := zmh hs; have HN := zmh hl; have HI := zmh hi; clear hs hl hi; go_enter func30, ntmps30; go_wp2_with (go_at_call 40; refine hC.mono ?_; rintro r w1 ⟨rfl, ah⟩; obtain ⟨x0, x1, x2, x3, x4, x5, x6⟩ := zad ((znm w 54 #[.slice A0 n0 c0, .slice A1 n1 c1, .slice A2 n2 c2, .slice A3 n3 c3, .slice A4 n4 c4, .slice A5 n5 c5, .slice A6 n6 c6]).fr ah id))
   have HF := zmh (((znl (fun _ => False) w).alloc (.cells #[.slice A0 n0 c0, .slice A1 n1 c1, .slice A2 n2 c2, .slice A3 n3 c3, .slice A4 n4 c4, .slice A5 n5 c5, .slice A6 n6 c6] 54)).same ah); have kP := HF.out.size
   have HB := zmh ((znm w 54 #[.slice A0 n0 c0, .slice A1 n1 c1, .slice A2 n2 c2, .slice A3 n3 c3, .slice A4 n4 c4, .slice A5 n5 c5, .slice A6 n6 c6]).fr ah id); clear ah hC
   first | (guard_hyp ag; go_loopw [6] (fun i wr => ∃ k : Nat, k <= n0 /\ i = .int .i64 k /\ Hid (z_F w1 wr) /\ Hid (∀ j p, j < k -> lv[j]? = some p -> LabOk p.1.labs 8 300)) (fun i _ => n0 - (intOf i).toNat)) | (go_loopw [8] (fun i wr => ∃ k : Nat, k <= n3 /\ i = .int .i64 k /\ Hid (z_F w1 wr) /\ Hid (∀ j p, j < k -> lv[j]? = some p -> LabOk p.1.labs 8 300)) (fun i _ => n3 - (intOf i).toNat))
   case atStart => exact ⟨0, zms _, rfl, zmh (znl _ _), zmh (fun j p h => absurd h (zm2 _))⟩
   case round =>
    obtain ⟨k, hk, rfl, RF, RG⟩ := hrel; obtain ⟨y0, y1, y2, y3, y4, y5, y6⟩ := zad (HB.out.fr RF.out id); clear x0 x1 x2 x3 x4 x5 x6
    first | (guard_hyp ag; by_cases hlt : k < n0) | (by_cases hlt : k < n3)
    ·have hS := HS.out.fr (HF.out.same RF.out) z_i
     have aY := hS.2; obtain ⟨⟨A, c, e2, _, hc, hr⟩, _⟩ := hS; injection e2 with e2 iV iW; obtain ⟨g, off, rfl, _, aa⟩ := hr (by have := HN.out; omega); obtain ⟨x, hx⟩ : ∃ x, lv[k]? = some x := ⟨_, zmj (by rw [HN.out]; exact hlt)⟩; have aF := zmp hx
     first | (guard_hyp ag; have c1 : wr.cell? ⟨g, off + k * 2 + 1, none⟩ = some x.2 := aa (k * 2 + 1) _ (by rw [zby zfP (fun _ => rfl) lv k x hx 1 (by omega)]; rfl)) | (have c1 : wr.cell? ⟨g, off + k * 4 + 3, none⟩ = some x.2 := aa (k * 4 + 3) _ (by rw [zdy exc (fun _ => rfl) lv k x hx 3 (by omega)]; rfl))
     have bz := aY x aF; have aP := HI.out x aF; have fx := zmh aF; have HX := zmh hx; clear aY hx aF
     first | (guard_hyp ag; obtain ⟨⟨ref, labs⟩, iv⟩ := x) | (obtain ⟨⟨ref, t, vv, labs⟩, iv⟩ := x)
     simp only [] at c1 bz aP; have hC := zgv P iv labs 8 300 wr bz aP (by omega) (by omega); obtain ⟨Ai, ci, rfl, _, _, _⟩ := bz; subst e2; clear aa hr iV iW aP; go_wp2_with (go_at_call 53; refine hC.mono ?_; rintro r5 w5 ⟨b, rfl, cg, ap⟩; refine Hid.out ?_)
     have H5 := zmh (RF.out.same ap); have cj := zmh cg; obtain ⟨z0, z1, z2, z3, z4, z5, z6⟩ := zad (HB.out.fr H5.out id); clear ap cg y0 y1 y2 y3 y4 y5 y6 hC c1; rcases b with _ | _
     ·refine zmh ?_
      go_wp2; go_ret; exact ⟨false, rfl, ⟨fun h => (by cases h), fun h => absurd (cj.out.2 (h.2.2 _ fx.out)) (by decide)⟩, HF.out.same H5.out⟩
     ·refine zmh ?_
      go_wp2; go_roundw
      case rel => exact ⟨k + 1, by omega, by go_num, H5, zmh (fun j p h h2 => by
       rcases zmK j k with h3 | h3
       ·exact RG.out j p h3 h2
       ·obtain rfl : j = k := by omega
        have h4 := h2.symm.trans HX.out; injection h4 with h4; rw [h4]
        exact cj.out.1 rfl)⟩
      case measure => simp [intOf]; omega
    ·first | (guard_hyp ag; obtain rfl : k = n0 := by omega) | (obtain rfl : k = n3 := by omega)
     have aS : Hid (∀ p ∈ lv, LabOk p.1.labs 8 300) := zmh (fun p hp => by
      obtain ⟨j, hj, e⟩ := znc hp
      exact RG.out j p (by rw [<- HN.out]; exact hj) (by rw [zmj hj, e]))
     by_cases he : n = k
     ·have HE := zmh he
      have hz : ((n : Int) - (k : Int) == 0) = true := by simp; omega
      clear he; go_wp2; go_ret; refine ⟨_, rfl, ⟨fun _ => ⟨h12, HE.out, aS.out⟩, fun _ => by first | rfl | exact hz | (have := HE.out; simp; omega)⟩, HF.out.same RF.out⟩
     ·have hz : ((n : Int) - (k : Int) == 0) = false := by simp; omega
      go_wp2; go_ret; exact ⟨_, rfl, ⟨fun h => (by first | (cases h; done) | (simp at h; done) | (simp at h; omega)), fun h => absurd h.2.1 he⟩, HF.out.same RF.out⟩
  ·have hx : (12 : Int) < (n : Int) := by omega
   go_enter func30, ntmps30; go_wp2_with (go_at_call 40; refine hC.mono ?_; rintro r w1 ⟨rfl, ah⟩)
   go_ret; exact ⟨false, rfl, ⟨fun h => (by cases h), fun h => absurd h.1 h12⟩, ((znl _ w).alloc _).same ah⟩
theorem rightG_1 : type_of% (zdF.1 trivial) := zdF.1 trivial
theorem rightG_4 : type_of% (zdF.2 trivial) := zdF.2 trivial
end Go.Proofs.YtbkookiigkckdaaGreatDoor
