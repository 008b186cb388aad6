/- Texts of this seat, merged and shortened. -/
import Derived.Test.YtbkookiigkckdaaGreatDoorK24
set_option linter.unusedVariables false
set_option linter.unusedSimpArgs false
set_option maxRecDepth 100000
set_option maxHeartbeats 8000000
namespace Go.Proofs.YtbkookiigkckdaaGreatDoor
open Go.RowKit Go.Proofs.Tryz
def Hst.total (h : Hst) : Nat := h.pos.length + h.neg.length + h.ups.length + h.downs.length + h.fups.length + h.fdowns.length + h.cus.length
def zbG (fl : Bool) (h : Hst) : Prop :=
 h.total <= 60 /\ (h.schema = -53 ∨ (-4 <= h.schema /\ h.schema <= 8 /\ h.cus.length = 0)) /\ (if fl then h.ups.length + h.downs.length = 0 else h.fups.length + h.fdowns.length = 0)
theorem short_raw (fl : Bool) (hint : UInt8) (schema : Int) (thr sum zc cnt : Nat) (A1 A2 A3 A4 A5 A6 A7 : Option Addr) (n1 n2 n3 n4 n5 n6 n7 c1 c2 c3 c4 c5 c6 c7 : Nat) (w : World) (p : Prop) (hp : p ↔ (n1 + n2 + n3 + n4 + n5 + n6 + n7 <= 60 /\ (schema = -53 ∨ (-4 <= schema /\ schema <= 8 /\ n7 = 0)) /\ (if fl then n3 + n4 = 0 else n5 + n6 = 0)))
 (h1 : n1 <= 1099511627776) (h2 : n2 <= 1099511627776) (h3 : n3 <= 1099511627776) (h4 : n4 <= 1099511627776) (h5 : n5 <= 1099511627776) (h6 : n6 <= 1099511627776) (h7 : n7 <= 1099511627776) :
 Calls prog 89 #[.agg #[.int .u8 hint.toNat, .int .i32 schema, .int .u64 thr, .int .u64 sum, .int .u64 zc, .int .u64 cnt, .slice A1 n1 c1, .slice A2 n2 c2, .slice A3 n3 c3, .slice A4 n4 c4, .slice A5 n5 c5, .slice A6 n6 c6, .slice A7 n7 c7], .bool fl] w (zau p w) := by
 have HP := zlM hp; clear hp; by_cases ht : n1 + n2 + n3 + n4 + n5 + n6 + n7 <= 60
 ·have hx : ¬ (60 : Int) < (n1 : Int) + n2 + n3 + n4 + n5 + n6 + n7 := by omega
  have HT := zlM ht; clear ht; by_cases hs : schema = -53
  ·subst hs
   cases fl
   ·by_cases he : n5 + n6 = 0
    ·have HE := zlM he
     have hz : ((n5 : Int) + n6 == 0) = true := by simp; omega
     clear he; go_enter func89, ntmps89; go_wp2; go_ret; refine ⟨_, rfl, ?_, (zmR _ w).alloc _⟩; rw [HP.out]; exact zmk (by first | rfl | exact hz | (simp <;> omega) | (simp at hz ⊢; omega)) ⟨HT.out, .inl (by first | rfl | trivial), by simpa using HE.out⟩
    ·have HE := zlM he
     have hz : ((n5 : Int) + n6 == 0) = false := by simp; omega
     clear he; go_enter func89, ntmps89; go_wp2; go_ret; refine ⟨_, rfl, ?_, (zmR _ w).alloc _⟩; rw [HP.out]; exact zmj (by first | (intro h; cases h; done) | (rw [hz]; decide) | (simp <;> omega) | (simp at hz ⊢; omega)) (fun h => absurd h.2.2 (by simpa using HE.out))
   ·by_cases he : n3 + n4 = 0
    ·have HE := zlM he
     have hz : ((n3 : Int) + n4 == 0) = true := by simp; omega
     clear he; go_enter func89, ntmps89; go_wp2; go_ret; refine ⟨_, rfl, ?_, (zmR _ w).alloc _⟩; rw [HP.out]; exact zmk (by first | rfl | exact hz | (simp <;> omega) | (simp at hz ⊢; omega)) ⟨HT.out, .inl (by first | rfl | trivial), by simpa using HE.out⟩
    ·have HE := zlM he
     have hz : ((n3 : Int) + n4 == 0) = false := by simp; omega
     clear he; go_enter func89, ntmps89; go_wp2; go_ret; refine ⟨_, rfl, ?_, (zmR _ w).alloc _⟩; rw [HP.out]; exact zmj (by first | (intro h; cases h; done) | (rw [hz]; decide) | (simp <;> omega) | (simp at hz ⊢; omega)) (fun h => absurd h.2.2 (by simpa using HE.out))
  ·have gi : (schema != -53) = true := by simpa using hs
   have HS := zlM hs; clear hs; by_cases hlo : schema < -4
   ·have HA := zlM hlo
    go_enter func89, ntmps89; go_wp2; go_ret; refine ⟨_, rfl, ?_, (zmR _ w).alloc _⟩; rw [HP.out]; exact zmj (by intro h; cases h) (fun h => by have := HS.out; have := HA.out; rcases h.2.1 with h | h <;> omega)
   ·by_cases hhi : 8 < schema
    ·have HA := zlM hhi
     go_enter func89, ntmps89; go_wp2; go_ret; refine ⟨_, rfl, ?_, (zmR _ w).alloc _⟩; rw [HP.out]; exact zmj (by intro h; cases h) (fun h => by have := HS.out; have := HA.out; rcases h.2.1 with h | h <;> omega)
    ·by_cases h70 : (0 : Int) < (n7 : Int)
     ·have HA := zlM h70
      go_enter func89, ntmps89; go_wp2; go_ret; refine ⟨_, rfl, ?_, (zmR _ w).alloc _⟩; rw [HP.out]; exact zmj (by intro h; cases h) (fun h => by have := HS.out; have := HA.out; rcases h.2.1 with h | h <;> omega)
     ·have HOK : Hid (-4 <= schema /\ schema <= 8 /\ n7 = 0) := zlM ⟨by omega, by omega, by omega⟩
      cases fl
      ·by_cases he : n5 + n6 = 0
       ·have HE := zlM he
        have hz : ((n5 : Int) + n6 == 0) = true := by simp; omega
        clear he; go_enter func89, ntmps89; go_wp2; go_ret; refine ⟨_, rfl, ?_, (zmR _ w).alloc _⟩; rw [HP.out]; exact zmk (by first | rfl | exact hz | (simp <;> omega) | (simp at hz ⊢; omega)) ⟨HT.out, .inr HOK.out, by simpa using HE.out⟩
       ·have HE := zlM he
        have hz : ((n5 : Int) + n6 == 0) = false := by simp; omega
        clear he; go_enter func89, ntmps89; go_wp2; go_ret; refine ⟨_, rfl, ?_, (zmR _ w).alloc _⟩; rw [HP.out]; exact zmj (by first | (intro h; cases h; done) | (rw [hz]; decide) | (simp <;> omega) | (simp at hz ⊢; omega)) (fun h => absurd h.2.2 (by simpa using HE.out))
      ·by_cases he : n3 + n4 = 0
       ·have HE := zlM he
        have hz : ((n3 : Int) + n4 == 0) = true := by simp; omega
        clear he; go_enter func89, ntmps89; go_wp2; go_ret; refine ⟨_, rfl, ?_, (zmR _ w).alloc _⟩; rw [HP.out]; exact zmk (by first | rfl | exact hz | (simp <;> omega) | (simp at hz ⊢; omega)) ⟨HT.out, .inr HOK.out, by simpa using HE.out⟩
       ·have HE := zlM he
        have hz : ((n3 : Int) + n4 == 0) = false := by simp; omega
        clear he; go_enter func89, ntmps89; go_wp2; go_ret; refine ⟨_, rfl, ?_, (zmR _ w).alloc _⟩; rw [HP.out]; exact zmj (by first | (intro h; cases h; done) | (rw [hz]; decide) | (simp <;> omega) | (simp at hz ⊢; omega)) (fun h => absurd h.2.2 (by simpa using HE.out))
 ·have hx : (60 : Int) < (n1 : Int) + n2 + n3 + n4 + n5 + n6 + n7 := by omega
  have HT := zlM ht; clear ht; go_enter func89, ntmps89; go_wp2; go_ret; refine ⟨_, rfl, ?_, (zmR _ w).alloc _⟩; rw [HP.out]; exact zmj (by intro h; cases h) (fun h => absurd h.1 HT.out)
theorem zeR (fl : Bool) (P : Nat -> Prop) (h : Hst) (s : Hsl) (w : World) (hs : SlHs P w h s) (hl : h.few 1099511627776) :
 Calls prog 89 #[.agg (hic h s).toArray, .bool fl] w (zau (zbG fl h) w) := by
 obtain ⟨z1, z2, z3, z4, z5, z6, z7⟩ := hs; obtain ⟨sp, sn, su, sd, lK, lL, sc⟩ := s; obtain ⟨l1, l2, l3, l4, l5, l6, l7⟩ := hl; simp only [] at z1 z2 z3 z4 z5 z6 z7; obtain ⟨A1, c1, rfl⟩ := z1.shape; obtain ⟨A2, c2, rfl⟩ := z2.shape; obtain ⟨A3, c3, rfl⟩ := z3.shape; obtain ⟨A4, c4, rfl⟩ := z4.shape; obtain ⟨A5, c5, rfl⟩ := z5.shape; obtain ⟨A6, c6, rfl⟩ := z6.shape
 obtain ⟨A7, c7, rfl⟩ := z7.shape; exact short_raw fl h.hint h.schema h.thr h.sum h.zc h.cnt A1 A2 A3 A4 A5 A6 A7 _ _ _ _ _ _ _ c1 c2 c3 c4 c5 c6 c7 w _ Iff.rfl l1 l2 l3 l4 l5 l6 l7
def za0 (c : Bool) (p : Rhs × Hsl) : Bool := zaP p.1 == c
def zlI (w : World) (lc : List (Rhs × Hsl)) (r : Ending) (w' : World) : Prop :=
 ∃ v, r = .returned v /\ w'.ownsRow w.heap.size 194 15 v lc.length (lc.flatMap hsc) /\ Fr (fun _ => False) w w'
theorem zdD (c : Bool) (P : Nat -> Prop) (v : Value) (lv : List (Rhs × Hsl)) (w : World) (h : SlH P w v lv) (hl : lv.length <= 1048576) :
 Calls prog 36 #[v, .bool c] w (zlI w (lv.filter (za0 c))) := by
 obtain ⟨⟨A, cp, rfl, ai, aR, hr⟩, co⟩ := h; obtain ⟨n, hn⟩ := exE lv.length; rw [hn] at hr aR hl ⊢; have HN := zlM hn; have HR := zlM hr; have HI := zlM co
 obtain ⟨i0, aB, ay, ax, aA⟩ := info_parts info194; clear hn hr ai co
 go_enter func36, ntmps36; go_wp2; go_loopw [5, 6] (fun v i wr => ∃ (k m : Nat), k <= n /\ i = .int .i64 k /\ m <= k /\ Hid (((lv.take k).filter (za0 c)).length = m) /\ Hid (wr.ownsRow w.heap.size 194 15 v m (((lv.take k).filter (za0 c)).flatMap hsc)) /\ Hid (Fr (fun _ => False) w wr)) (fun _ i _ => n - (intOf i).toNat)
 case atStart => exact ⟨0, 0, zlX _, rfl, zlY _, zlM rfl, zlM (zl0 _ _ _ _), zlM (zmR _ _)⟩
 case round =>
  obtain ⟨k, m, hk, rfl, eC, HM, HO, HF⟩ := hrel; by_cases hlt : k < n
  ·obtain ⟨g, off, rfl, _, aa⟩ := HR.out (by omega)
   obtain ⟨x, hx⟩ : ∃ x, lv[k]? = some x := ⟨_, zlO (by rw [HN.out]; exact hlt)⟩; have cc : ∀ j, j < 15 -> ∀ u, (hsc x)[j]? = some u -> wr.cell? ⟨g, off + (k * 15 + j), none⟩ = some u := fun j hj u hu => by
    have := aa (k * 15 + j) u (by rw [zgA 15 hsc (fun _ => rfl) lv k x hx j hj]; exact hu); rw [HF.out.cell (p := ⟨g, off + (k * 15 + j), none⟩) (zlT w _ this) (fun e => e)]; exact this
   have mx : wr.cell? ⟨g, off + k * 15, none⟩ = some (.int .u64 x.1.ref) := cc 0 (by omega) _ rfl; have mu : wr.cell? ⟨g, off + k * 15 + 1, none⟩ = some (.int .i64 x.1.t) := cc 1 (by omega) _ rfl; have mt : wr.cell? ⟨g, off + k * 15 + 2, none⟩ = some (.int .u8 x.1.h.hint.toNat) := cc 2 (by omega) _ rfl
   have qC : wr.cell? ⟨g, off + k * 15 + 3, none⟩ = some (.int .i32 x.1.h.schema) := cc 3 (by omega) _ rfl; have qB : wr.cell? ⟨g, off + k * 15 + 4, none⟩ = some (.int .u64 x.1.h.thr) := cc 4 (by omega) _ rfl; have c50 : wr.cell? ⟨g, off + k * 15 + 5, none⟩ = some (.int .u64 x.1.h.sum) := cc 5 (by omega) _ rfl
   have qz : wr.cell? ⟨g, off + k * 15 + 6, none⟩ = some (.int .u64 x.1.h.zc) := cc 6 (by omega) _ rfl; have qy : wr.cell? ⟨g, off + k * 15 + 7, none⟩ = some (.int .u64 x.1.h.cnt) := cc 7 (by omega) _ rfl; have nM : wr.cell? ⟨g, off + k * 15 + 8, none⟩ = some x.2.p := cc 8 (by omega) _ rfl; have nL : wr.cell? ⟨g, off + k * 15 + 9, none⟩ = some x.2.n := cc 9 (by omega) _ rfl
   have gW : wr.cell? ⟨g, off + k * 15 + 10, none⟩ = some x.2.u := cc 10 (by omega) _ rfl; have gV : wr.cell? ⟨g, off + k * 15 + 11, none⟩ = some x.2.d := cc 11 (by omega) _ rfl; have gU : wr.cell? ⟨g, off + k * 15 + 12, none⟩ = some x.2.fu := cc 12 (by omega) _ rfl; have gT : wr.cell? ⟨g, off + k * 15 + 13, none⟩ = some x.2.fd := cc 13 (by omega) _ rfl
   have gS : wr.cell? ⟨g, off + k * 15 + 14, none⟩ = some x.2.c := cc 14 (by omega) _ rfl; have aX := HI.out x (zlU hx); have HX := zlM hx; rcases oA : za0 c x with _ | _
   ·have hee : ((x.1.h.schema == -53) == c) = false := oA
    have HK := zlM oA; clear aa cc hx aX oA; go_wp2; go_roundw
    case rel => exact ⟨k + 1, m, by omega, by go_num, by omega, zlM (by rw [zfg (za0 c) lv k x HX.out HK.out]; exact HM.out), zlM (by rw [zfg (za0 c) lv k x HX.out HK.out]; exact HO.out), HF⟩
    case measure => simp [intOf]; omega
   ·have hee : ((x.1.h.schema == -53) == c) = true := oA
    have HK := zlM oA; have bF := HF.out.size; obtain ⟨y, hy⟩ : ∃ y, y = x := ⟨_, rfl⟩; rw [<- hy] at HX HK; have HY := zlM hy; clear oA hy; obtain ⟨⟨ref, t, ⟨hint, schema, thr, sum, zc, cnt, pos, neg, ups, downs, fups, fdowns, cus⟩⟩, ⟨sp, sn, su, sd, lK, lL, sc⟩⟩ := x; obtain ⟨z1, z2, z3, z4, z5, z6, z7⟩ := aX
    simp only [] at mx mu mt qC qB c50 qz qy nM nL gW gV gU gT gS hee z1 z2 z3 z4 z5 z6 z7; obtain ⟨A1, c1, rfl⟩ := z1.shape; obtain ⟨A2, c2, rfl⟩ := z2.shape; obtain ⟨A3, c3, rfl⟩ := z3.shape; obtain ⟨A4, c4, rfl⟩ := z4.shape; obtain ⟨A5, c5, rfl⟩ := z5.shape; obtain ⟨A6, c6, rfl⟩ := z6.shape; obtain ⟨A7, c7, rfl⟩ := z7.shape; obtain ⟨m1, e1⟩ := exE pos.length; rw [e1] at nM
    obtain ⟨m2, e2⟩ := exE neg.length; rw [e2] at nL; obtain ⟨m3, e3⟩ := exE ups.length; rw [e3] at gW; obtain ⟨m4, e4⟩ := exE downs.length; rw [e4] at gV; obtain ⟨m5, e5⟩ := exE fups.length; rw [e5] at gU; obtain ⟨m6, e6⟩ := exE fdowns.length; rw [e6] at gT; obtain ⟨m7, e7⟩ := exE cus.length; rw [e7] at gS
    have HE := zlM (zmD e1 (zmD e2 (zmD e3 (zmD e4 (zmD e5 (zmD e6 e7)))))); obtain ⟨a', n', k', rfl⟩ := zab HO.out; clear aa cc hx z1 z2 z3 z4 z5 z6 z7 e1 e2 e3 e4 e5 e6 e7; go_wp2_with (at_builtin; refine Hid.out ?_)
    refine zlM ?_
    refine zae _ rfl _ _ 52 52 rfl w.heap.size 194 i0 _ 15 224 underlying52 aB ay ax aA rfl (by decide) _ m (((lv.take k).filter (za0 c)).flatMap hsc) rfl (HO.out.alloc _) _ 1 [.int .u64 ref, .int .i64 t, .int .u8 hint.toNat, .int .i32 schema, .int .u64 thr, .int .u64 sum, .int .u64 zc, .int .u64 cnt, .slice A1 m1 c1, .slice A2 m2 c2, .slice A3 m3 c3, .slice A4 m4 c4, .slice A5 m5 c5, .slice A6 m6 c6, .slice A7 m7 c7] rfl (zaF underlying52 (zmS wr 194 #[.int .u64 ref, .int .i64 t, .int .u8 hint.toNat, .int .i32 schema, .int .u64 thr, .int .u64 sum, .int .u64 zc, .int .u64 cnt, .slice A1 m1 c1, .slice A2 m2 c2, .slice A3 m3 c3, .slice A4 m4 c4, .slice A5 m5 c5, .slice A6 m6 c6, .slice A7 m7 c7]) rfl (by simp [Value.oneCell'])) (by unfold maxLen; omega) (by omega) (by simp; omega) ?_
    intro v' w2 ac ad aw
    have HM8 : Hid (((lv.take (k + 1)).filter (za0 c)).length = m + 1) := zlM (by
     rw [zdS (za0 c) lv k _ HX.out HK.out, zlN, HM.out]; rfl)
    have HN8 : Hid (w2.ownsRow w.heap.size 194 15 v' (m + 1) (((lv.take (k + 1)).filter (za0 c)).flatMap hsc)) := zlM (by
     obtain ⟨rfl, rfl, rfl, rfl, rfl, rfl, rfl⟩ := HE.out; rw [zdS (za0 c) lv k _ HX.out HK.out, zml, HY.out, zl1, List.flatMap_nil, zl8]
     exact ac)
    have jV := zlM ((HF.out.alloc (.cells #[.int .u64 ref, .int .i64 t, .int .u8 hint.toNat, .int .i32 schema, .int .u64 thr, .int .u64 sum, .int .u64 zc, .int .u64 cnt, .slice A1 m1 c1, .slice A2 m2 c2, .slice A3 m3 c3, .slice A4 m4 c4, .slice A5 m5 c5, .slice A6 m6 c6, .slice A7 m7 c7] 194)).grown ad (fun g hg => .inr ((HO.out.lt g hg).1)))
    clear ac ad aw mx mu mt qC qB c50 qz qy nM nL gW gV gU gT gS; go_wp2; go_roundw
    case rel => exact ⟨k + 1, m + 1, by omega, by go_num, by omega, HM8, HN8, jV⟩
    case measure => simp [intOf]; omega
  ·obtain rfl : k = n := by omega
   go_wp2; go_ret; have e1 : lv.take k = lv := zlV (by rw [HN.out]; exact zlY _); have ho := HO.out; have hm := HM.out; rw [e1] at ho hm; exact ⟨_, rfl, by rw [hm]; exact ho, HF.out⟩
def zdw (d : Nat) (xs : List UInt8) (D : Dat) : Prop :=
 ∀ (te : TypeId) (pe bv : Value) (P : Nat -> Prop) (w : World), Sl P w bv 1 xs.length (bc xs) -> (∀ g, P g -> g < w.heap.size) -> w.cell? ⟨2, 0, none⟩ = some (.iface te pe) ->
  Calls prog 29 #[.int .i64 d, bv, .agg #[.slice none 0 0, .slice none 0 0, .slice none 0 0, .slice none 0 0, .slice none 0 0, .slice none 0 0, .slice none 0 0]] w (fun r w' => ∃ ps, r = .returned (.tuple #[.agg ps, .bool true]) /\ RP D ps w' /\ Fr (fun _ => False) w w')
theorem zdh {L : Nat -> Array Value -> World -> Prop} {d : Nat} {xs : List UInt8} {D : Dat} {okb : Bool} (hb : okb = true) (k : ∀ b ps W, L b ps W -> RP D ps W)
 (h : ∀ (te : TypeId) (pe bv : Value) (P : Nat -> Prop) (w : World), Sl P w bv 1 xs.length (bc xs) -> (∀ g, P g -> g < w.heap.size) -> w.cell? ⟨2, 0, none⟩ = some (.iface te pe) -> Calls prog 29 #[.int .i64 d, bv, .agg #[.slice none 0 0, .slice none 0 0, .slice none 0 0, .slice none 0 0, .slice none 0 0, .slice none 0 0, .slice none 0 0]] w (ReadDone (L w.heap.size) okb w)) : zdw d xs D := by
 subst hb; exact fun te pe bv P w h1 h2 h3 => (h te pe bv P w h1 h2 h3).mono fun r w' q => q.toRP (k w.heap.size)
theorem as_ser (l : List Ser) (hl : ∀ s ∈ l, zhd s) (hn : l.length <= 12) : zdw 1 (zb4 l) { Dat.none with ser := l.map fun s => ⟨s.ref, zaE s.labs⟩ } := by
 have ai := len_ser l hl hn; have e := zkb l hl; have hx : ∀ x ∈ ziB [] (zb4 l), x.labs.length <= 4096 /\ ∀ p ∈ x.labs, p.1.size <= 1048576 /\ p.2.size <= 1048576 := by
  unfold ziB; rw [e]; intro x hx; obtain ⟨s, hs, rfl⟩ := zmi.1 (show x ∈ l.map tos from by simpa using hx); obtain ⟨_, h2, h3, _⟩ := hl s hs; obtain ⟨q1, q2⟩ := zfK s.labs h2 h3; exact ⟨by show (zaE s.labs).length <= _; omega, fun p hp => by have := q2 p hp; omega⟩
 have hy : (ziB [] (zb4 l)).length <= 1048576 := by
  unfold ziB; rw [e]; simp only [zmo, zma]; omega
 have e2 : (ziB [] (zb4 l)).map zjs = l.map fun s => ⟨s.ref, zaE s.labs⟩ := by unfold ziB; rw [e]; show ([] ++ l.map tos).map zjs = _; rw [zmo, zmP]; rfl
 refine zdh (L := fun b => SerParts b ((ziB [] (zb4 l)).map zjs)) (okb := (zbk (zb4 l)).isSome) (by rw [e]; rfl) (fun b ps W k => by have := k.rp; rwa [e2] at this) (fun te pe bv P w hb hP hE => ?_); exact zfb te pe _ _ _ _ _ _ _ bv [] _ P w hb ai hP zef (noR P w) (by simp) (fun p hp => by cases hp) hx hy hE GoodR zk3 (goodR_rec l hl)
theorem as_exm (l : List Exm) (hl : ∀ s ∈ l, zfJ s) (hn : l.length <= 12) : zdw 4 (zbD l) { Dat.none with exm := l.map fun s => ⟨s.ref, s.t, s.v, zaE s.labs⟩ } := by
 have ai := len_exm l hl hn; obtain ⟨al, hG, aY⟩ := goodX_rec l hl; have e := zkh l hl; have hx : ∀ x ∈ ziA [] (zbD l), x.labs.length <= 4096 /\ ∀ p ∈ x.labs, p.1.size <= 1048576 /\ p.2.size <= 1048576 := by
  unfold ziA; rw [e]; intro x hx; obtain ⟨s, hs, rfl⟩ := zmi.1 (show x ∈ l.map toe from by simpa using hx); obtain ⟨_, _, _, _, h2, h3, _⟩ := hl s hs; obtain ⟨q1, q2⟩ := zfK s.labs h2 h3; exact ⟨by show (zaE s.labs).length <= _; omega, fun p hp => by have := q2 p hp; omega⟩
 have hy : (ziA [] (zbD l)).length <= 1048576 := by
  unfold ziA; rw [e]; simp only [zmo, zma]; omega
 have e2 : (ziA [] (zbD l)).map zjt = l.map fun s => ⟨s.ref, s.t, s.v, zaE s.labs⟩ := by unfold ziA; rw [e]; show ([] ++ l.map toe).map zjt = _; rw [zmo, zmP]; rfl
 refine zdh (L := fun b => ExmParts b ((ziA [] (zbD l)).map zjt)) (okb := (zbE (zbD l)).isSome) (by rw [e]; rfl) (fun b ps W k => by have := k.rp; rwa [e2] at this) (fun te pe bv P w hb hP hE => ?_); exact zgf te pe _ _ _ _ _ _ _ bv [] _ P w hb ai hP zef (noX P w) (by simp) (fun p hp => by cases hp) hx hy hE al hG aY
theorem as_smp (l : List Smp) (hl : ∀ s ∈ l, s.wf) (hn : l.length <= 12) : zdw 2 (zaD l) { Dat.none with smp := l } := by
 have ai := len_smp l hl hn; have e := dec_enc l hl; refine zdh (L := fun b => SmpParts b ((zan (zaD l)).getD [])) (okb := (zan (zaD l)).isSome) (by rw [e]; rfl) (fun b ps W k => by rw [e] at k; exact k.rp) (fun te pe bv P w hb hP hE => ?_); exact zdg te pe _ _ _ _ _ _ _ bv _ P w hb ai hP zef (za4 _ _ _) hE
theorem flatS_wf (l : List Ston) (hl : ∀ s ∈ l, s.wf) : ∀ s ∈ zbY l, s.wf := fun s hs => by
 obtain ⟨x, hx, hs⟩ := List.mem_flatMap.1 hs; obtain ⟨p, hp, rfl⟩ := zmi.1 hs; exact ⟨(hl x hx).1, (hl x hx).2 p hp⟩
theorem as_sto (l : List Ston) (hl : ∀ s ∈ l, s.wf) (hn : l.length <= 12) (hi : ∀ s ∈ l, s.ivs.length <= 4096) : zdw 3 (zbC l) { Dat.none with sto := (zbY l).map one } := by
 have ai := len_sto l hl hn hi; have e : zaJ (zbC l) = some (zbY l) := zh8 _ (flatS_wf l hl); have e2 : outS (([] : List (Ston × Value)).map Prod.fst) (zbC l) = (zbY l).map one := by unfold outS; rw [e]; rfl
 refine zdh (L := fun b => StnParts b (outS (([] : List (Ston × Value)).map Prod.fst) (zbC l))) (okb := (zaJ (zbC l)).isSome) (by rw [e]; rfl) (fun b ps W k => by rw [e2] at k; exact k.rp) (fun te pe bv P w hb hP hE => ?_); exact zfa te pe _ _ _ _ _ _ _ bv [] _ P w hb ai hP zef (noS P w) (by simp) (fun p hp => by cases hp) hE
theorem as_mrk (l : List Mrk) (hl : ∀ s ∈ l, s.wf) (hn : l.length <= 12) : zdw 5 (zbb l) { Dat.none with mrk := l } := by
 have ai := len_mrk l hl hn; have e := zhb l hl; have e2 : zlK [] (zbb l) = l := by unfold zlK; rw [e]; rfl
 refine zdh (L := fun b => MrkParts b (zlK [] (zbb l))) (okb := (zaG (zbb l)).isSome) (by rw [e]; rfl) (fun b ps W k => by rw [e2] at k; exact k.rp) (fun te pe bv P w hb hP hE => ?_); exact zeX te pe _ _ _ _ _ _ _ bv [] _ P w hb ai hP zef (za4 _ _ _) (by simp) hE
theorem as_mta (l : List Mta) (hl : ∀ s ∈ l, s.wf) (hn : l.length <= 12) : zdw 6 (zbL l) { Dat.none with mta := l } := by
 have ai := len_mta l hl hn; have e := zi2 l hl; have e2 : zlJ [] (zbL l) = l := by unfold zlJ; rw [e]; rfl
 refine zdh (L := fun b => MtaParts b (zlJ [] (zbL l))) (okb := (zaT (zbL l)).isSome) (by rw [e]; rfl) (fun b ps W k => by rw [e2] at k; exact k.rp) (fun te pe bv P w hb hP hE => ?_); exact zfC te pe _ _ _ _ _ _ _ bv [] _ P w hb ai hP zef (za4 _ _ _) (by simp) hE GoodM zk4 (goodM_rec l hl)
theorem zkQ {h : Hst} (k : zbG false h) : h.readW.cutW = h := by
 obtain ⟨_, k2, k3⟩ := k; have e1 : h.fups = [] := zme (by simp at k3; rw [k3.1]; rfl); have e2 : h.fdowns = [] := zme (by simp at k3; rw [k3.2]; rfl); have e3 : (if h.schema = -53 then h.cus else []) = h.cus := by
  split
  ·rfl
  ·rename_i bD
   rcases k2 with k2 | ⟨_, _, k2⟩
   ·exact absurd k2 bD
   ·exact (zme k2).symm
 obtain ⟨hint, schema, thr, sum, zc, cnt, pos, neg, ups, downs, fups, fdowns, cus⟩ := h; simp only [] at e1 e2 e3; subst e1 e2; simp only [Hst.readW, Hst.cutW, e3]
theorem cut_backW {h : Hst} (k : zbG false h) : h.cutW = h := by
 obtain ⟨_, k2, k3⟩ := k; have e1 : h.fups = [] := zme (by simp at k3; rw [k3.1]; rfl); have e2 : h.fdowns = [] := zme (by simp at k3; rw [k3.2]; rfl); obtain ⟨hint, schema, thr, sum, zc, cnt, pos, neg, ups, downs, fups, fdowns, cus⟩ := h; simp only [] at e1 e2; subst e1 e2; rfl
theorem as_hsW (k : Nat) (hk : k = 7 ∨ k = 9) (q : Rhs -> Bool) (l : List Rhs) (hl : ∀ s ∈ l, s.ok) (hn : l.length <= 12) (hs : ∀ s ∈ l, zbG false s.h) : zdw k (za5 (UInt8.ofNat k) q l) { Dat.none with his := l.filter q } := by
 have ai := len_hsW k q l hl hn; have e := zlx (UInt8.ofNat k) (by rcases hk with rfl | rfl <;> decide) q l hl; obtain ⟨al, hG, aY⟩ := goodW_rec (UInt8.ofNat k) q l hl; have e2 : zgk (([] : List (Rhs × Hsl)).map Prod.fst) (za5 (UInt8.ofNat k) q l) = l.filter q := by
  unfold zgk; rw [e]; show ([] ++ (l.filter q).map Rhs.readW).map _ = _; rw [zmo, zmP]
  conv => rhs; rw [<- List.map_id (l.filter q)]
  refine List.map_congr_left fun x hx => ?_; have := zkQ (hs x (zmr.1 hx).1); show ({ x with h := x.h.readW.cutW } : Rhs) = x; rw [this]
 refine zdh (L := fun b => HstParts b (zgk (([] : List (Rhs × Hsl)).map Prod.fst) (za5 (UInt8.ofNat k) q l))) (okb := (zcQ (za5 (UInt8.ofNat k) q l)).isSome) (by rw [e]; rfl) (fun b ps W k => by rw [e2] at k; exact k.rp) (fun te pe bv P w hb hP hE => ?_)
 refine zg0 te pe _ _ _ _ _ _ _ bv k hk [] _ P w hb ai hP zef (noH P w) (by simp) (fun p hp => by cases hp) ?_ hE al hG aY; rw [e]; intro l2 h2; injection h2 with h2; subst h2; refine ⟨by rw [zma]; have := zmK q l; omega, fun x hx => ?_⟩; obtain ⟨s, hs, rfl⟩ := zmi.1 hx; exact few_readW (hl s (zmr.1 hs).1).2.2.2
theorem zkR {h : Hst} (k : zbG true h) : h.readF.cutF = h := by
 obtain ⟨_, k2, k3⟩ := k; have e1 : h.ups = [] := zme (by simp at k3; rw [k3.1]; rfl); have e2 : h.downs = [] := zme (by simp at k3; rw [k3.2]; rfl); have e3 : (if h.schema = -53 then h.cus else []) = h.cus := by
  split
  ·rfl
  ·rename_i bD
   rcases k2 with k2 | ⟨_, _, k2⟩
   ·exact absurd k2 bD
   ·exact (zme k2).symm
 obtain ⟨hint, schema, thr, sum, zc, cnt, pos, neg, ups, downs, fups, fdowns, cus⟩ := h; simp only [] at e1 e2 e3; subst e1 e2; simp only [Hst.readF, Hst.cutF, e3]
theorem cut_backF {h : Hst} (k : zbG true h) : h.cutF = h := by
 obtain ⟨_, k2, k3⟩ := k; have e1 : h.ups = [] := zme (by simp at k3; rw [k3.1]; rfl); have e2 : h.downs = [] := zme (by simp at k3; rw [k3.2]; rfl); obtain ⟨hint, schema, thr, sum, zc, cnt, pos, neg, ups, downs, fups, fdowns, cus⟩ := h; simp only [] at e1 e2; subst e1 e2; rfl
theorem as_hsF (k : Nat) (hk : k = 8 ∨ k = 10) (q : Rhs -> Bool) (l : List Rhs) (hl : ∀ s ∈ l, s.ok) (hn : l.length <= 12) (hs : ∀ s ∈ l, zbG true s.h) : zdw k (za6 (UInt8.ofNat k) q l) { Dat.none with his := l.filter q } := by
 have ai := len_hsF k q l hl hn; have e := zlz (UInt8.ofNat k) (by rcases hk with rfl | rfl <;> decide) q l hl; obtain ⟨al, hG, aY⟩ := goodF_rec (UInt8.ofNat k) q l hl; have e2 : zgl (([] : List (Rhs × Hsl)).map Prod.fst) (za6 (UInt8.ofNat k) q l) = l.filter q := by
  unfold zgl; rw [e]; show ([] ++ (l.filter q).map Rhs.readF).map _ = _; rw [zmo, zmP]
  conv => rhs; rw [<- List.map_id (l.filter q)]
  refine List.map_congr_left fun x hx => ?_; have := zkR (hs x (zmr.1 hx).1); show ({ x with h := x.h.readF.cutF } : Rhs) = x; rw [this]
 refine zdh (L := fun b => HstParts b (zgl (([] : List (Rhs × Hsl)).map Prod.fst) (za6 (UInt8.ofNat k) q l))) (okb := (zcR (za6 (UInt8.ofNat k) q l)).isSome) (by rw [e]; rfl) (fun b ps W k => by rw [e2] at k; exact k.rp) (fun te pe bv P w hb hP hE => ?_)
 refine zg1 te pe _ _ _ _ _ _ _ bv k hk [] _ P w hb ai hP zef (noH P w) (by simp) (fun p hp => by cases hp) ?_ hE al hG aY; rw [e]; intro l2 h2; injection h2 with h2; subst h2; refine ⟨by rw [zma]; have := zmK q l; omega, fun x hx => ?_⟩; obtain ⟨s, hs, rfl⟩ := zmi.1 hx; exact few_readF (hl s (zmr.1 hs).1).2.2.2
theorem zch (k bB : Nat) (hk : 1 + (bB : Int) % 10 = (k : Int)) (ng : 1 <= k /\ k <= 10) (hc : bB < 256) (fF fw : Prop) (A0 A1 A2 A3 A4 A5 A6 : Option Addr) (c0 c1 c2 c3 c4 c5 c6 n0 n1 n2 n3 n4 n5 n6 : Nat) (w : World) (te : TypeId) (pe : Value) (D1 D2 : Dat) (L C : Value -> World -> Prop) (zs : List UInt8)
 (hE : w.cell? ⟨2, 0, none⟩ = some (.iface te pe))
 (iP : ∀ W, Fr (fun _ => False) w W -> Calls prog 34 #[.agg #[.slice A0 n0 c0, .slice A1 n1 c1, .slice A2 n2 c2, .slice A3 n3 c3, .slice A4 n4 c4, .slice A5 n5 c5, .slice A6 n6 c6]] W (zau fw W))
 (h30 : fw -> ∀ W, Fr (fun _ => False) w W -> Calls prog 30 #[.int .i64 k, .agg #[.slice A0 n0 c0, .slice A1 n1 c1, .slice A2 n2 c2, .slice A3 n3 c3, .slice A4 n4 c4, .slice A5 n5 c5, .slice A6 n6 c6]] W (zau fF W))
 (h29 : fw -> fF -> zdw k zs D1)
 (qj : ∀ u V, L u V -> ∃ A m c, u = .slice A m c) (hLf : ∀ u V V', L u V -> Fr (fun _ => False) V V' -> L u V') (hCf : ∀ u V V', C u V -> Fr (fun _ => False) V V' -> C u V') (fg : ¬ (k = 7 ∨ k = 8) -> ∀ V, C (.slice none 0 0) V)
 (h31 : fw -> fF -> ∀ W, Fr (fun _ => False) w W -> Calls prog 31 #[.int .i64 k, .agg #[.slice A0 n0 c0, .slice A1 n1 c1, .slice A2 n2 c2, .slice A3 n3 c3, .slice A4 n4 c4, .slice A5 n5 c5, .slice A6 n6 c6], .slice none 0 0] W (zbP L W zs))
 (h33 : fw -> fF -> ∀ W, Fr (fun _ => False) w W -> Calls prog 33 #[.int .i64 k, .agg #[.slice A0 n0 c0, .slice A1 n1 c1, .slice A2 n2 c2, .slice A3 n3 c3, .slice A4 n4 c4, .slice A5 n5 c5, .slice A6 n6 c6]] W (fun r w' => ∃ ps, r = .returned (.agg ps) /\ RP D2 ps w' /\ Fr (fun _ => False) W w'))
 (h32 : fw -> fF -> ∀ W ps qs, RP D1 ps W -> RP D2 qs W -> Calls prog 32 #[.agg ps, .agg qs] W (zao W))
 (nE : k = 7 ∨ k = 8 -> fw -> fF -> ∀ W, Fr (fun _ => False) w W -> Calls prog 36 #[.slice A6 n6 c6, .bool true] W (fun r w' => ∃ v, r = .returned v /\ (∃ A m c, v = .slice A m c) /\ C v w' /\ Fr (fun _ => False) W w'))
 (h37 : fw -> fF -> ∀ W u v, L u W -> C v W -> Calls prog 37 #[u, v] W (zao W)) :
 Calls prog 8 #[.int .u8 bB, .agg #[.slice A0 n0 c0, .slice A1 n1 c1, .slice A2 n2 c2, .slice A3 n3 c3, .slice A4 n4 c4, .slice A5 n5 c5, .slice A6 n6 c6]] w (zao w) := by
 have HEW : Hid (∀ W, Fr (fun _ => False) w W -> W.cell? ⟨2, 0, none⟩ = some (.iface te pe)) := zlM (fun W hF => by rw [hF.cell (p := ⟨2, 0, none⟩) (zlT w _ hE) (fun e => e)]; exact hE); have HA : Hid (∀ W, Fr (fun _ => False) w W -> Calls prog 28 #[] W (zao W)) := zlM (fun W hF => zgg te pe W (HEW.out W hF))
 have HK : Hid (∀ W, Calls prog 35 #[.int .u8 bB] W (zkn (k : Int) W)) := zlM (fun W => by have := zg2 bB hc W; rwa [hk] at this); have hk3 : (k = 7 ∨ k = 8) ∨ (((k : Int) == 7) = false /\ ((k : Int) == 8) = false /\ ¬ (k = 7 ∨ k = 8)) := by
  by_cases a : k = 7 ∨ k = 8
  ·exact .inl a
  ·exact .inr ⟨by simp; omega, by simp; omega, a⟩
 have H34 := zlM iP; have H30 := zlM h30; have H29 := zlM h29; have H31 := zlM h31; have H33 := zlM h33; have H32 := zlM h32; have H36 := zlM nE; have H37 := zlM h37; have HLS := zlM qj; have HLF := zlM hLf; have HCF := zlM hCf; have HC0 := zlM fg; have nX := zlM hk3; clear iP h30 h29 h31 h33 h32 nE h37 qj hLf hCf fg hE hk hc ng hk3
 go_enter func8, ntmps8; have HB := zlM (zmS w 54 #[.slice A0 n0 c0, .slice A1 n1 c1, .slice A2 n2 c2, .slice A3 n3 c3, .slice A4 n4 c4, .slice A5 n5 c5, .slice A6 n6 c6]); have jX := zlM ((zmR (fun _ => False) w).alloc (.cells #[.slice A0 n0 c0, .slice A1 n1 c1, .slice A2 n2 c2, .slice A3 n3 c3, .slice A4 n4 c4, .slice A5 n5 c5, .slice A6 n6 c6] 54))
 go_wp2_with (go_at_call 34; refine (H34.out _ jX.out).mono ?_; rintro r w1 ⟨b, rfl, hb, hf⟩; refine Hid.out ?_)
 have cd := zlM (jX.out.same hf); have ot := zlM hb; have cI := zlM (HB.out.fr hf (fun e => e)); clear hb hf HB; rcases b with _ | _
 ·refine zlM ?_
  go_wp2; go_ret; exact ⟨rfl, cd.out⟩
 have gg : Hid fw := zlM (ot.out.1 (by first | rfl | trivial)); obtain ⟨y0, y1, y2, y3, y4, y5, y6⟩ := zag cI.out; refine zlM ?_
 go_wp2_with (first
  | (go_at_call 35; refine (HK.out _).mono ?_; rintro r w2 ⟨rfl, hf⟩; clear y0 y1 y2 y3 y4 y5 y6; have bx := zlM (cd.out.same hf); have dm := zlM (cI.out.fr hf (fun e => e)); clear hf cI; obtain ⟨y0, y1, y2, y3, y4, y5, y6⟩ := zag dm.out)
  | (go_at_call 30; refine (H30.out gg.out _ bx.out).mono ?_; rintro r w4 ⟨b, rfl, hb, hf⟩; refine Hid.out ?_))
 have iY := zlM (bx.out.same hf); have rY := zlM (dm.out.fr hf (fun e => e)); have HBC := zlM hb; clear hb hf dm y0 y1 y2 y3 y4 y5 y6; obtain ⟨y0, y1, y2, y3, y4, y5, y6⟩ := zag rY.out; rcases b with _ | _
 ·refine zlM ?_
  go_wp2_with (go_at_call 28; refine (HA.out _ iY.out).mono ?_; rintro r w5 ⟨rfl, hf⟩)
  go_ret; exact ⟨rfl, iY.out.same hf⟩
 have fz : Hid fF := zlM (HBC.out.1 (by first | rfl | trivial)); refine zlM ?_
 go_wp2_with (first
  | (go_at_call 31; refine (H31.out gg.out fz.out _ iY.out).mono ?_; rintro r w5 ⟨bv, lv, rfl, hL, ab, hf⟩; obtain ⟨b1, b2, b3, rfl⟩ := HLS.out lv w5 hL; obtain ⟨d1, d2, d3, rfl⟩ := zab ab; clear y0 y1 y2 y3 y4 y5 y6; have cA := zlM (rY.out.fr hf (fun e => e)); have jh := zlM (iY.out.same hf); have HO := zlM ab; have oN := zlM hL; clear hf hL ab)
  | (go_at_call 29; refine (H29.out gg.out fz.out te pe _ _ w5 (zmU HO.out) (fun g hg => zar HO.out hg) (HEW.out w5 jh.out)).mono ?_; rintro r w6 ⟨ps, rfl, py, hf⟩; refine Hid.out ?_))
 obtain ⟨E0, E1, E2, E3, E4, E5, E6, l0, l1, l2, l3, l4, l5, l6, e0, e1, e2, e3, e4, e5, e6, rfl⟩ := py.slices; have rJ := zlM ((jh.out.same hf).alloc (.cells #[.slice E0 l0 e0, .slice E1 l1 e1, .slice E2 l2 e2, .slice E3 l3 e3, .slice E4 l4 e4, .slice E5 l5 e5, .slice E6 l6 e6] 54))
 have rX := zlM ((cA.out.fr hf (fun e => e)).alloc (.cells #[.slice E0 l0 e0, .slice E1 l1 e1, .slice E2 l2 e2, .slice E3 l3 e3, .slice E4 l4 e4, .slice E5 l5 e5, .slice E6 l6 e6] 54)); have mz := zlM (zmS w6 54 #[.slice E0 l0 e0, .slice E1 l1 e1, .slice E2 l2 e2, .slice E3 l3 e3, .slice E4 l4 e4, .slice E5 l5 e5, .slice E6 l6 e6])
 have iU := zlM (py.fr ((zmR (fun _ => False) w6).alloc (.cells #[.slice E0 l0 e0, .slice E1 l1 e1, .slice E2 l2 e2, .slice E3 l3 e3, .slice E4 l4 e4, .slice E5 l5 e5, .slice E6 l6 e6] 54))); have jT := zlM (HLF.out _ _ _ oN.out (hf.alloc (.cells #[.slice E0 l0 e0, .slice E1 l1 e1, .slice E2 l2 e2, .slice E3 l3 e3, .slice E4 l4 e4, .slice E5 l5 e5, .slice E6 l6 e6] 54)))
 clear hf py oN cA jh HO; rcases nX.out with h78 | ⟨g7, g8, hk78⟩
 ·obtain ⟨y0, y1, y2, y3, y4, y5, y6⟩ := zag rX.out
  have H78 := zlM h78; rcases h78 with rfl | rfl; all_goals
   refine zlM ?_; go_wp2_with (go_at_call 36; refine (H36.out H78.out gg.out fz.out _ rJ.out).mono ?_; rintro r V ⟨v, rfl, ⟨A9, n9, c9, rfl⟩, hC, hf⟩; refine Hid.out ?_)
   have mC := zlM (rJ.out.same hf); have HBV := zlM (rX.out.fr hf (fun e => e)); have HQV := zlM (mz.out.fr hf (fun e => e)); have HRV := zlM (iU.out.fr hf); have HLV := zlM (HLF.out _ _ _ jT.out hf); have HCV := zlM hC; clear y0 y1 y2 y3 y4 y5 y6 hf hC rJ rX mz iU jT
   have HK : Hid (∀ w', Fr (fun _ => False) V w' -> (w'.cell? ⟨w.heap.size, 0, none⟩ = some (.slice A0 n0 c0) /\ w'.cell? ⟨w.heap.size, 1, none⟩ = some (.slice A1 n1 c1) /\ w'.cell? ⟨w.heap.size, 2, none⟩ = some (.slice A2 n2 c2) /\ w'.cell? ⟨w.heap.size, 3, none⟩ = some (.slice A3 n3 c3) /\ w'.cell? ⟨w.heap.size, 4, none⟩ = some (.slice A4 n4 c4) /\ w'.cell? ⟨w.heap.size, 5, none⟩ = some (.slice A5 n5 c5) /\ w'.cell? ⟨w.heap.size, 6, none⟩ = some (.slice A6 n6 c6) /\ w'.cell? ⟨w6.heap.size, 0, none⟩ = some (.slice E0 l0 e0) /\ w'.cell? ⟨w6.heap.size, 1, none⟩ = some (.slice E1 l1 e1) /\ w'.cell? ⟨w6.heap.size, 2, none⟩ = some (.slice E2 l2 e2) /\ w'.cell? ⟨w6.heap.size, 3, none⟩ = some (.slice E3 l3 e3) /\ w'.cell? ⟨w6.heap.size, 4, none⟩ = some (.slice E4 l4 e4) /\ w'.cell? ⟨w6.heap.size, 5, none⟩ = some (.slice E5 l5 e5) /\ w'.cell? ⟨w6.heap.size, 6, none⟩ = some (.slice E6 l6 e6))) := zlM (fun w' hF => by
    obtain ⟨a0, a1, a2, a3, a4, a5, a6⟩ := zag (HBV.out.fr hF (fun e => e)); obtain ⟨b0, b1, b2, b3, b4, b5, b6⟩ := zag (HQV.out.fr hF (fun e => e))
    exact ⟨a0, a1, a2, a3, a4, a5, a6, b0, b1, b2, b3, b4, b5, b6⟩)
   have FD : Hid (Fr (fun _ => False) V V.drew) := zlM (zmR _ V).drew; refine zlM ?_; go_wp2
   go_region_held3 (fun w' => w'.cell? ⟨w.heap.size, 0, none⟩ = some (.slice A0 n0 c0) /\ w'.cell? ⟨w.heap.size, 1, none⟩ = some (.slice A1 n1 c1) /\ w'.cell? ⟨w.heap.size, 2, none⟩ = some (.slice A2 n2 c2) /\ w'.cell? ⟨w.heap.size, 3, none⟩ = some (.slice A3 n3 c3) /\ w'.cell? ⟨w.heap.size, 4, none⟩ = some (.slice A4 n4 c4) /\ w'.cell? ⟨w.heap.size, 5, none⟩ = some (.slice A5 n5 c5) /\ w'.cell? ⟨w.heap.size, 6, none⟩ = some (.slice A6 n6 c6) /\ w'.cell? ⟨w6.heap.size, 0, none⟩ = some (.slice E0 l0 e0) /\ w'.cell? ⟨w6.heap.size, 1, none⟩ = some (.slice E1 l1 e1) /\ w'.cell? ⟨w6.heap.size, 2, none⟩ = some (.slice E2 l2 e2) /\ w'.cell? ⟨w6.heap.size, 3, none⟩ = some (.slice E3 l3 e3) /\ w'.cell? ⟨w6.heap.size, 4, none⟩ = some (.slice E4 l4 e4) /\ w'.cell? ⟨w6.heap.size, 5, none⟩ = some (.slice E5 l5 e5) /\ w'.cell? ⟨w6.heap.size, 6, none⟩ = some (.slice E6 l6 e6))
    ((first | exact HK.out _ G4.out | exact HK.out _ G3.out | exact HK.out _ G2.out | exact HK.out _ G1.out | exact HK.out _ FD.out | go_keep))
    ((first
      | (go_at_call 28; refine (HA.out _ (mC.out.same FD.out)).mono ?_; rintro r1 v1 ⟨rfl, hf⟩; have G1 := zlM (FD.out.same hf); clear hf)
      | (go_at_call 33; refine (H33.out gg.out fz.out _ (mC.out.same G1.out)).mono ?_; rintro r2 v2 ⟨qs, rfl, hq, hf⟩; obtain ⟨X0, X1, X2, X3, X4, X5, X6, j0, j1, j2, j3, j4, j5, j6, i0, i1, i2, i3, i4, i5, i6, rfl⟩ := hq.slices; have G2 := zlM (G1.out.same hf); have GQ := zlM hq; clear hf hq)
      | (go_at_call 32; refine (H32.out gg.out fz.out _ _ _ (HRV.out.fr G2.out) GQ.out).mono ?_; rintro r3 v3 ⟨rfl, hf⟩; have G3 := zlM (G2.out.same hf); clear hf)
      | (go_at_call 37; refine (H37.out gg.out fz.out _ _ _ (HLF.out _ _ _ HLV.out G3.out) (HCF.out _ _ _ HCV.out G3.out)).mono ?_; rintro r4 v4 ⟨rfl, hf⟩; have G4 := zlM (G3.out.same hf); clear hf)))
   all_goals
    go_wp2; go_ret; exact ⟨rfl, mC.out.same G4.out⟩
 ·have HCV := zlM (HC0.out hk78 (w6.alloc (.cells #[.slice E0 l0 e0, .slice E1 l1 e1, .slice E2 l2 e2, .slice E3 l3 e3, .slice E4 l4 e4, .slice E5 l5 e5, .slice E6 l6 e6] 54)))
  have mC := rJ; have HBV := rX; have HQV := mz; have HRV := iU; have HLV := jT; clear rJ rX mz iU jT; generalize hV : w6.alloc (.cells #[.slice E0 l0 e0, .slice E1 l1 e1, .slice E2 l2 e2, .slice E3 l3 e3, .slice E4 l4 e4, .slice E5 l5 e5, .slice E6 l6 e6] 54) = V at HCV mC HBV HQV HRV HLV ⊢
  have HK : Hid (∀ w', Fr (fun _ => False) V w' -> (w'.cell? ⟨w.heap.size, 0, none⟩ = some (.slice A0 n0 c0) /\ w'.cell? ⟨w.heap.size, 1, none⟩ = some (.slice A1 n1 c1) /\ w'.cell? ⟨w.heap.size, 2, none⟩ = some (.slice A2 n2 c2) /\ w'.cell? ⟨w.heap.size, 3, none⟩ = some (.slice A3 n3 c3) /\ w'.cell? ⟨w.heap.size, 4, none⟩ = some (.slice A4 n4 c4) /\ w'.cell? ⟨w.heap.size, 5, none⟩ = some (.slice A5 n5 c5) /\ w'.cell? ⟨w.heap.size, 6, none⟩ = some (.slice A6 n6 c6) /\ w'.cell? ⟨w6.heap.size, 0, none⟩ = some (.slice E0 l0 e0) /\ w'.cell? ⟨w6.heap.size, 1, none⟩ = some (.slice E1 l1 e1) /\ w'.cell? ⟨w6.heap.size, 2, none⟩ = some (.slice E2 l2 e2) /\ w'.cell? ⟨w6.heap.size, 3, none⟩ = some (.slice E3 l3 e3) /\ w'.cell? ⟨w6.heap.size, 4, none⟩ = some (.slice E4 l4 e4) /\ w'.cell? ⟨w6.heap.size, 5, none⟩ = some (.slice E5 l5 e5) /\ w'.cell? ⟨w6.heap.size, 6, none⟩ = some (.slice E6 l6 e6))) := zlM (fun w' hF => by
   obtain ⟨a0, a1, a2, a3, a4, a5, a6⟩ := zag (HBV.out.fr hF (fun e => e)); obtain ⟨b0, b1, b2, b3, b4, b5, b6⟩ := zag (HQV.out.fr hF (fun e => e))
   exact ⟨a0, a1, a2, a3, a4, a5, a6, b0, b1, b2, b3, b4, b5, b6⟩)
  have FD : Hid (Fr (fun _ => False) V V.drew) := zlM (zmR _ V).drew; refine zlM ?_; go_wp2
  go_region_held3 (fun w' => w'.cell? ⟨w.heap.size, 0, none⟩ = some (.slice A0 n0 c0) /\ w'.cell? ⟨w.heap.size, 1, none⟩ = some (.slice A1 n1 c1) /\ w'.cell? ⟨w.heap.size, 2, none⟩ = some (.slice A2 n2 c2) /\ w'.cell? ⟨w.heap.size, 3, none⟩ = some (.slice A3 n3 c3) /\ w'.cell? ⟨w.heap.size, 4, none⟩ = some (.slice A4 n4 c4) /\ w'.cell? ⟨w.heap.size, 5, none⟩ = some (.slice A5 n5 c5) /\ w'.cell? ⟨w.heap.size, 6, none⟩ = some (.slice A6 n6 c6) /\ w'.cell? ⟨w6.heap.size, 0, none⟩ = some (.slice E0 l0 e0) /\ w'.cell? ⟨w6.heap.size, 1, none⟩ = some (.slice E1 l1 e1) /\ w'.cell? ⟨w6.heap.size, 2, none⟩ = some (.slice E2 l2 e2) /\ w'.cell? ⟨w6.heap.size, 3, none⟩ = some (.slice E3 l3 e3) /\ w'.cell? ⟨w6.heap.size, 4, none⟩ = some (.slice E4 l4 e4) /\ w'.cell? ⟨w6.heap.size, 5, none⟩ = some (.slice E5 l5 e5) /\ w'.cell? ⟨w6.heap.size, 6, none⟩ = some (.slice E6 l6 e6))
   ((first | exact HK.out _ G4.out | exact HK.out _ G3.out | exact HK.out _ G2.out | exact HK.out _ G1.out | exact HK.out _ FD.out | go_keep))
   ((first
     | (go_at_call 28; refine (HA.out _ (mC.out.same FD.out)).mono ?_; rintro r1 v1 ⟨rfl, hf⟩; have G1 := zlM (FD.out.same hf); clear hf)
     | (go_at_call 33; refine (H33.out gg.out fz.out _ (mC.out.same G1.out)).mono ?_; rintro r2 v2 ⟨qs, rfl, hq, hf⟩; obtain ⟨X0, X1, X2, X3, X4, X5, X6, j0, j1, j2, j3, j4, j5, j6, i0, i1, i2, i3, i4, i5, i6, rfl⟩ := hq.slices; have G2 := zlM (G1.out.same hf); have GQ := zlM hq; clear hf hq)
     | (go_at_call 32; refine (H32.out gg.out fz.out _ _ _ (HRV.out.fr G2.out) GQ.out).mono ?_; rintro r3 v3 ⟨rfl, hf⟩; have G3 := zlM (G2.out.same hf); clear hf)
     | (go_at_call 37; refine (H37.out gg.out fz.out _ _ _ (HLF.out _ _ _ HLV.out G3.out) (HCF.out _ _ _ HCV.out G3.out)).mono ?_; rintro r4 v4 ⟨rfl, hf⟩; have G4 := zlM (G3.out.same hf); clear hf)))
  all_goals
   go_wp2; go_ret; exact ⟨rfl, mC.out.same G4.out⟩
end Go.Proofs.YtbkookiigkckdaaGreatDoor
