/- Texts of this seat, merged and shortened. -/
import Derived.Test.YtbkookiigkckdaaGreatDoorKC23
set_option linter.unusedVariables false
set_option linter.unusedSimpArgs false
set_option maxRecDepth 100000
set_option maxHeartbeats 8000000
namespace Go.Proofs.YtbkookiigkckdaaGreatDoor
open Go.RowKit Go.Proofs.Tryz
def Hst.total (h : Hst) : Nat := h.pos.length + h.neg.length + h.ups.length + h.downs.length + h.fups.length + h.fdowns.length + h.cus.length
def zb5 (fl : Bool) (h : Hst) : Prop :=
 h.total <= 60 /\ (h.schema = -53 ∨ (-4 <= h.schema /\ h.schema <= 8 /\ h.cus.length = 0)) /\ (if fl then h.ups.length + h.downs.length = 0 else h.fups.length + h.fdowns.length = 0)
theorem short_raw (fl : Bool) (hint : UInt8) (schema : Int) (thr sum zc cnt : Nat) (A1 A2 A3 A4 A5 A6 A7 : Option Addr) (n1 n2 n3 n4 n5 n6 n7 c1 c2 c3 c4 c5 c6 c7 : Nat) (w : World) (p : Prop) (hp : p ↔ (n1 + n2 + n3 + n4 + n5 + n6 + n7 <= 60 /\ (schema = -53 ∨ (-4 <= schema /\ schema <= 8 /\ n7 = 0)) /\ (if fl then n3 + n4 = 0 else n5 + n6 = 0)))
 (h1 : n1 <= 1099511627776) (h2 : n2 <= 1099511627776) (h3 : n3 <= 1099511627776) (h4 : n4 <= 1099511627776) (h5 : n5 <= 1099511627776) (h6 : n6 <= 1099511627776) (h7 : n7 <= 1099511627776) :
 Calls prog 89 #[.agg #[.int .u8 hint.toNat, .int .i32 schema, .int .u64 thr, .int .u64 sum, .int .u64 zc, .int .u64 cnt, .slice A1 n1 c1, .slice A2 n2 c2, .slice A3 n3 c3, .slice A4 n4 c4, .slice A5 n5 c5, .slice A6 n6 c6, .slice A7 n7 c7], .bool fl] w (zav p w) := by
 have HP := zmk hp; clear hp; by_cases ht : n1 + n2 + n3 + n4 + n5 + n6 + n7 <= 60
 ·have hx : ¬ (60 : Int) < (n1 : Int) + n2 + n3 + n4 + n5 + n6 + n7 := by omega
  have HT := zmk ht; clear ht; by_cases hs : schema = -53
  ·subst hs
   cases fl
   ·by_cases he : n5 + n6 = 0
    ·have HE := zmk he
     have hz : ((n5 : Int) + n6 == 0) = true := by simp; omega
     clear he; go_enter func89, ntmps89; go_wp2; go_ret; refine ⟨_, rfl, ?_, (znq _ w).alloc _⟩; rw [HP.out]; exact zmS (by first | rfl | exact hz | (simp <;> omega) | (simp at hz ⊢; omega)) ⟨HT.out, .inl (by first | rfl | trivial), by simpa using HE.out⟩
    ·have HE := zmk he
     have hz : ((n5 : Int) + n6 == 0) = false := by simp; omega
     clear he; go_enter func89, ntmps89; go_wp2; go_ret; refine ⟨_, rfl, ?_, (znq _ w).alloc _⟩; rw [HP.out]; exact zmR (by first | (intro h; cases h; done) | (rw [hz]; decide) | (simp <;> omega) | (simp at hz ⊢; omega)) (fun h => absurd h.2.2 (by simpa using HE.out))
   ·by_cases he : n3 + n4 = 0
    ·have HE := zmk he
     have hz : ((n3 : Int) + n4 == 0) = true := by simp; omega
     clear he; go_enter func89, ntmps89; go_wp2; go_ret; refine ⟨_, rfl, ?_, (znq _ w).alloc _⟩; rw [HP.out]; exact zmS (by first | rfl | exact hz | (simp <;> omega) | (simp at hz ⊢; omega)) ⟨HT.out, .inl (by first | rfl | trivial), by simpa using HE.out⟩
    ·have HE := zmk he
     have hz : ((n3 : Int) + n4 == 0) = false := by simp; omega
     clear he; go_enter func89, ntmps89; go_wp2; go_ret; refine ⟨_, rfl, ?_, (znq _ w).alloc _⟩; rw [HP.out]; exact zmR (by first | (intro h; cases h; done) | (rw [hz]; decide) | (simp <;> omega) | (simp at hz ⊢; omega)) (fun h => absurd h.2.2 (by simpa using HE.out))
  ·have ge : (schema != -53) = true := by simpa using hs
   have HS := zmk hs; clear hs; by_cases hlo : schema < -4
   ·have HA := zmk hlo
    go_enter func89, ntmps89; go_wp2; go_ret; refine ⟨_, rfl, ?_, (znq _ w).alloc _⟩; rw [HP.out]; exact zmR (by intro h; cases h) (fun h => by have := HS.out; have := HA.out; rcases h.2.1 with h | h <;> omega)
   ·by_cases hhi : 8 < schema
    ·have HA := zmk hhi
     go_enter func89, ntmps89; go_wp2; go_ret; refine ⟨_, rfl, ?_, (znq _ w).alloc _⟩; rw [HP.out]; exact zmR (by intro h; cases h) (fun h => by have := HS.out; have := HA.out; rcases h.2.1 with h | h <;> omega)
    ·by_cases h70 : (0 : Int) < (n7 : Int)
     ·have HA := zmk h70
      go_enter func89, ntmps89; go_wp2; go_ret; refine ⟨_, rfl, ?_, (znq _ w).alloc _⟩; rw [HP.out]; exact zmR (by intro h; cases h) (fun h => by have := HS.out; have := HA.out; rcases h.2.1 with h | h <;> omega)
     ·have HOK : Hid (-4 <= schema /\ schema <= 8 /\ n7 = 0) := zmk ⟨by omega, by omega, by omega⟩
      cases fl
      ·by_cases he : n5 + n6 = 0
       ·have HE := zmk he
        have hz : ((n5 : Int) + n6 == 0) = true := by simp; omega
        clear he; go_enter func89, ntmps89; go_wp2; go_ret; refine ⟨_, rfl, ?_, (znq _ w).alloc _⟩; rw [HP.out]; exact zmS (by first | rfl | exact hz | (simp <;> omega) | (simp at hz ⊢; omega)) ⟨HT.out, .inr HOK.out, by simpa using HE.out⟩
       ·have HE := zmk he
        have hz : ((n5 : Int) + n6 == 0) = false := by simp; omega
        clear he; go_enter func89, ntmps89; go_wp2; go_ret; refine ⟨_, rfl, ?_, (znq _ w).alloc _⟩; rw [HP.out]; exact zmR (by first | (intro h; cases h; done) | (rw [hz]; decide) | (simp <;> omega) | (simp at hz ⊢; omega)) (fun h => absurd h.2.2 (by simpa using HE.out))
      ·by_cases he : n3 + n4 = 0
       ·have HE := zmk he
        have hz : ((n3 : Int) + n4 == 0) = true := by simp; omega
        clear he; go_enter func89, ntmps89; go_wp2; go_ret; refine ⟨_, rfl, ?_, (znq _ w).alloc _⟩; rw [HP.out]; exact zmS (by first | rfl | exact hz | (simp <;> omega) | (simp at hz ⊢; omega)) ⟨HT.out, .inr HOK.out, by simpa using HE.out⟩
       ·have HE := zmk he
        have hz : ((n3 : Int) + n4 == 0) = false := by simp; omega
        clear he; go_enter func89, ntmps89; go_wp2; go_ret; refine ⟨_, rfl, ?_, (znq _ w).alloc _⟩; rw [HP.out]; exact zmR (by first | (intro h; cases h; done) | (rw [hz]; decide) | (simp <;> omega) | (simp at hz ⊢; omega)) (fun h => absurd h.2.2 (by simpa using HE.out))
 ·have hx : (60 : Int) < (n1 : Int) + n2 + n3 + n4 + n5 + n6 + n7 := by omega
  have HT := zmk ht; clear ht; go_enter func89, ntmps89; go_wp2; go_ret; refine ⟨_, rfl, ?_, (znq _ w).alloc _⟩; rw [HP.out]; exact zmR (by intro h; cases h) (fun h => absurd h.1 HT.out)
theorem zeZ (fl : Bool) (P : Nat -> Prop) (h : Hst) (s : Hsl) (w : World) (hs : SlHs P w h s) (hl : h.few 1099511627776) :
 Calls prog 89 #[.agg (hic h s).toArray, .bool fl] w (zav (zb5 fl h) w) := by
 obtain ⟨z1, z2, z3, z4, z5, z6, z7⟩ := hs; obtain ⟨sp, sn, su, sd, lM, lN, sc⟩ := s; obtain ⟨l1, l2, l3, l4, l5, l6, l7⟩ := hl; simp only [] at z1 z2 z3 z4 z5 z6 z7; obtain ⟨A1, c1, rfl⟩ := z1.shape; obtain ⟨A2, c2, rfl⟩ := z2.shape; obtain ⟨A3, c3, rfl⟩ := z3.shape; obtain ⟨A4, c4, rfl⟩ := z4.shape; obtain ⟨A5, c5, rfl⟩ := z5.shape; obtain ⟨A6, c6, rfl⟩ := z6.shape
 obtain ⟨A7, c7, rfl⟩ := z7.shape; exact short_raw fl h.hint h.schema h.thr h.sum h.zc h.cnt A1 A2 A3 A4 A5 A6 A7 _ _ _ _ _ _ _ c1 c2 c3 c4 c5 c6 c7 w _ Iff.rfl l1 l2 l3 l4 l5 l6 l7
def zbD (c : Bool) (p : Rhs × Hsl) : Bool := za7 p.1 == c
def zmg (w : World) (lc : List (Rhs × Hsl)) (r : Ending) (w' : World) : Prop :=
 ∃ v, r = .returned v /\ w'.ownsRow w.heap.size 194 15 v lc.length (lc.flatMap hsc) /\ Fr (fun _ => False) w w'
theorem zfx (c : Bool) (P : Nat -> Prop) (v : Value) (lv : List (Rhs × Hsl)) (w : World) (h : SlH P w v lv) (hl : lv.length <= 1048576) :
 Calls prog 36 #[v, .bool c] w (zmg w (lv.filter (zbD c))) := by
 obtain ⟨⟨A, cp, rfl, ak, aQ, hr⟩, cl⟩ := h; obtain ⟨n, hn⟩ := exE lv.length; rw [hn] at hr aQ hl ⊢; have HN := zmk hn; have HR := zmk hr; have HI := zmk cl
 obtain ⟨i0, aD, aA, az, aC⟩ := info_parts info194; clear hn hr ak cl
 go_enter func36, ntmps36; go_wp2; go_loopw [5, 6] (fun v i wr => ∃ (k m : Nat), k <= n /\ i = .int .i64 k /\ m <= k /\ Hid (((lv.take k).filter (zbD c)).length = m) /\ Hid (wr.ownsRow w.heap.size 194 15 v m (((lv.take k).filter (zbD c)).flatMap hsc)) /\ Hid (Fr (fun _ => False) w wr)) (fun _ i _ => n - (intOf i).toNat)
 case atStart => exact ⟨0, 0, zmv _, rfl, zmw _, zmk rfl, zmk (zmy _ _ _ _), zmk (znq _ _)⟩
 case round =>
  obtain ⟨k, m, hk, rfl, gy, HM, HO, HF⟩ := hrel; by_cases hlt : k < n
  ·obtain ⟨g, off, rfl, _, aa⟩ := HR.out (by omega)
   obtain ⟨x, hx⟩ : ∃ x, lv[k]? = some x := ⟨_, zmm (by rw [HN.out]; exact hlt)⟩; have cc : ∀ j, j < 15 -> ∀ u, (hsc x)[j]? = some u -> wr.cell? ⟨g, off + (k * 15 + j), none⟩ = some u := fun j hj u hu => by
    have := aa (k * 15 + j) u (by rw [zgS 15 hsc (fun _ => rfl) lv k x hx j hj]; exact hu); rw [HF.out.cell (p := ⟨g, off + (k * 15 + j), none⟩) (zmr w _ this) (fun e => e)]; exact this
   have my : wr.cell? ⟨g, off + k * 15, none⟩ = some (.int .u64 x.1.ref) := cc 0 (by omega) _ rfl; have jb : wr.cell? ⟨g, off + k * 15 + 1, none⟩ = some (.int .i64 x.1.t) := cc 1 (by omega) _ rfl; have mx : wr.cell? ⟨g, off + k * 15 + 2, none⟩ = some (.int .u8 x.1.h.hint.toNat) := cc 2 (by omega) _ rfl
   have qu : wr.cell? ⟨g, off + k * 15 + 3, none⟩ = some (.int .i32 x.1.h.schema) := cc 3 (by omega) _ rfl; have qt : wr.cell? ⟨g, off + k * 15 + 4, none⟩ = some (.int .u64 x.1.h.thr) := cc 4 (by omega) _ rfl; have c50 : wr.cell? ⟨g, off + k * 15 + 5, none⟩ = some (.int .u64 x.1.h.sum) := cc 5 (by omega) _ rfl
   have qr : wr.cell? ⟨g, off + k * 15 + 6, none⟩ = some (.int .u64 x.1.h.zc) := cc 6 (by omega) _ rfl; have qp : wr.cell? ⟨g, off + k * 15 + 7, none⟩ = some (.int .u64 x.1.h.cnt) := cc 7 (by omega) _ rfl; have nI : wr.cell? ⟨g, off + k * 15 + 8, none⟩ = some x.2.p := cc 8 (by omega) _ rfl; have nH : wr.cell? ⟨g, off + k * 15 + 9, none⟩ = some x.2.n := cc 9 (by omega) _ rfl
   have gU : wr.cell? ⟨g, off + k * 15 + 10, none⟩ = some x.2.u := cc 10 (by omega) _ rfl; have gT : wr.cell? ⟨g, off + k * 15 + 11, none⟩ = some x.2.d := cc 11 (by omega) _ rfl; have gS : wr.cell? ⟨g, off + k * 15 + 12, none⟩ = some x.2.fu := cc 12 (by omega) _ rfl; have gR : wr.cell? ⟨g, off + k * 15 + 13, none⟩ = some x.2.fd := cc 13 (by omega) _ rfl
   have gQ : wr.cell? ⟨g, off + k * 15 + 14, none⟩ = some x.2.c := cc 14 (by omega) _ rfl; have b8 := HI.out x (zms hx); have HX := zmk hx; rcases oo : zbD c x with _ | _
   ·have hee : ((x.1.h.schema == -53) == c) = false := oo
    have HK := zmk oo; clear aa cc hx b8 oo; go_wp2; go_roundw
    case rel => exact ⟨k + 1, m, by omega, by go_num, by omega, zmk (by rw [zft (zbD c) lv k x HX.out HK.out]; exact HM.out), zmk (by rw [zft (zbD c) lv k x HX.out HK.out]; exact HO.out), HF⟩
    case measure => simp [intOf]; omega
   ·have hee : ((x.1.h.schema == -53) == c) = true := oo
    have HK := zmk oo; have bG := HF.out.size; obtain ⟨y, hy⟩ : ∃ y, y = x := ⟨_, rfl⟩; rw [<- hy] at HX HK; have HY := zmk hy; clear oo hy; obtain ⟨⟨ref, t, ⟨hint, schema, thr, sum, zc, cnt, pos, neg, ups, downs, fups, fdowns, cus⟩⟩, ⟨sp, sn, su, sd, lM, lN, sc⟩⟩ := x; obtain ⟨z1, z2, z3, z4, z5, z6, z7⟩ := b8
    simp only [] at my jb mx qu qt c50 qr qp nI nH gU gT gS gR gQ hee z1 z2 z3 z4 z5 z6 z7; obtain ⟨A1, c1, rfl⟩ := z1.shape; obtain ⟨A2, c2, rfl⟩ := z2.shape; obtain ⟨A3, c3, rfl⟩ := z3.shape; obtain ⟨A4, c4, rfl⟩ := z4.shape; obtain ⟨A5, c5, rfl⟩ := z5.shape; obtain ⟨A6, c6, rfl⟩ := z6.shape; obtain ⟨A7, c7, rfl⟩ := z7.shape; obtain ⟨m1, e1⟩ := exE pos.length; rw [e1] at nI
    obtain ⟨m2, e2⟩ := exE neg.length; rw [e2] at nH; obtain ⟨m3, e3⟩ := exE ups.length; rw [e3] at gU; obtain ⟨m4, e4⟩ := exE downs.length; rw [e4] at gT; obtain ⟨m5, e5⟩ := exE fups.length; rw [e5] at gS; obtain ⟨m6, e6⟩ := exE fdowns.length; rw [e6] at gR; obtain ⟨m7, e7⟩ := exE cus.length; rw [e7] at gQ
    have HE := zmk (znc e1 (znc e2 (znc e3 (znc e4 (znc e5 (znc e6 e7)))))); obtain ⟨a', n', k', rfl⟩ := zac HO.out; clear aa cc hx z1 z2 z3 z4 z5 z6 z7 e1 e2 e3 e4 e5 e6 e7; go_wp2_with (at_builtin; refine Hid.out ?_)
    refine zmk ?_
    refine zaf _ rfl _ _ 52 52 rfl w.heap.size 194 i0 _ 15 224 underlying52 aD aA az aC rfl (by decide) _ m (((lv.take k).filter (zbD c)).flatMap hsc) rfl (HO.out.alloc _) _ 1 [.int .u64 ref, .int .i64 t, .int .u8 hint.toNat, .int .i32 schema, .int .u64 thr, .int .u64 sum, .int .u64 zc, .int .u64 cnt, .slice A1 m1 c1, .slice A2 m2 c2, .slice A3 m3 c3, .slice A4 m4 c4, .slice A5 m5 c5, .slice A6 m6 c6, .slice A7 m7 c7] rfl (zaH underlying52 (znr wr 194 #[.int .u64 ref, .int .i64 t, .int .u8 hint.toNat, .int .i32 schema, .int .u64 thr, .int .u64 sum, .int .u64 zc, .int .u64 cnt, .slice A1 m1 c1, .slice A2 m2 c2, .slice A3 m3 c3, .slice A4 m4 c4, .slice A5 m5 c5, .slice A6 m6 c6, .slice A7 m7 c7]) rfl (by simp [Value.oneCell'])) (by unfold maxLen; omega) (by omega) (by simp; omega) ?_
    intro v' w2 ac ad ax
    have HM8 : Hid (((lv.take (k + 1)).filter (zbD c)).length = m + 1) := zmk (by
     rw [zdS (zbD c) lv k _ HX.out HK.out, zml, HM.out]; rfl)
    have HN8 : Hid (w2.ownsRow w.heap.size 194 15 v' (m + 1) (((lv.take (k + 1)).filter (zbD c)).flatMap hsc)) := zmk (by
     obtain ⟨rfl, rfl, rfl, rfl, rfl, rfl, rfl⟩ := HE.out; rw [zdS (zbD c) lv k _ HX.out HK.out, zmT, HY.out, zmz, List.flatMap_nil, zmG]
     exact ac)
    have jV := zmk ((HF.out.alloc (.cells #[.int .u64 ref, .int .i64 t, .int .u8 hint.toNat, .int .i32 schema, .int .u64 thr, .int .u64 sum, .int .u64 zc, .int .u64 cnt, .slice A1 m1 c1, .slice A2 m2 c2, .slice A3 m3 c3, .slice A4 m4 c4, .slice A5 m5 c5, .slice A6 m6 c6, .slice A7 m7 c7] 194)).grown ad (fun g hg => .inr ((HO.out.lt g hg).1)))
    clear ac ad ax my jb mx qu qt c50 qr qp nI nH gU gT gS gR gQ; go_wp2; go_roundw
    case rel => exact ⟨k + 1, m + 1, by omega, by go_num, by omega, HM8, HN8, jV⟩
    case measure => simp [intOf]; omega
  ·obtain rfl : k = n := by omega
   go_wp2; go_ret; have e1 : lv.take k = lv := zmt (by rw [HN.out]; exact zmw _); have ho := HO.out; have hm := HM.out; rw [e1] at ho hm; exact ⟨_, rfl, by rw [hm]; exact ho, HF.out⟩
theorem flatS_wf (l : List Ston) (hl : ∀ s ∈ l, s.wf) : ∀ s ∈ zbY l, s.wf := fun s hs => by
 obtain ⟨x, hx, hs⟩ := List.mem_flatMap.1 hs; obtain ⟨p, hp, rfl⟩ := zmQ.1 hs; exact ⟨(hl x hx).1, (hl x hx).2 p hp⟩
theorem zlm {h : Hst} (k : zb5 false h) : h.readW.cutW = h := by
 obtain ⟨_, k2, k3⟩ := k; have e1 : h.fups = [] := zmM (by simp at k3; rw [k3.1]; rfl); have e2 : h.fdowns = [] := zmM (by simp at k3; rw [k3.2]; rfl); have e3 : (if h.schema = -53 then h.cus else []) = h.cus := by
  split
  ·rfl
  ·rename_i bB
   rcases k2 with k2 | ⟨_, _, k2⟩
   ·exact absurd k2 bB
   ·exact (zmM k2).symm
 obtain ⟨hint, schema, thr, sum, zc, cnt, pos, neg, ups, downs, fups, fdowns, cus⟩ := h; simp only [] at e1 e2 e3; subst e1 e2; simp only [Hst.readW, Hst.cutW, e3]
theorem zln {h : Hst} (k : zb5 true h) : h.readF.cutF = h := by
 obtain ⟨_, k2, k3⟩ := k; have e1 : h.ups = [] := zmM (by simp at k3; rw [k3.1]; rfl); have e2 : h.downs = [] := zmM (by simp at k3; rw [k3.2]; rfl); have e3 : (if h.schema = -53 then h.cus else []) = h.cus := by
  split
  ·rfl
  ·rename_i bB
   rcases k2 with k2 | ⟨_, _, k2⟩
   ·exact absurd k2 bB
   ·exact (zmM k2).symm
 obtain ⟨hint, schema, thr, sum, zc, cnt, pos, neg, ups, downs, fups, fdowns, cus⟩ := h; simp only [] at e1 e2 e3; subst e1 e2; simp only [Hst.readF, Hst.cutF, e3]
def Dat.first (D : Dat) (n : Nat) : Dat := ⟨D.ser.take n, D.smp.take n, D.sto.take n, D.exm.take n, D.mta.take n, D.mrk.take n, D.his.take n⟩
def Dat.count (D : Dat) : Nat := D.ser.length + D.smp.length + D.sto.length + D.exm.length + D.mta.length + D.mrk.length + D.his.length
def zcP (d : Nat) (ys : List UInt8) (D : Dat) : Prop :=
 ∀ (te : TypeId) (pe bv : Value) (P : Nat -> Prop) (w : World), Sl P w bv 1 ys.length (bc ys) -> (∀ g, P g -> g < w.heap.size) -> w.cell? ⟨2, 0, none⟩ = some (.iface te pe) ->
  Calls prog 29 #[.int .i64 d, bv, .agg #[.slice none 0 0, .slice none 0 0, .slice none 0 0, .slice none 0 0, .slice none 0 0, .slice none 0 0, .slice none 0 0]] w (fun r w' => ∃ ps okb D', r = .returned (.tuple #[.agg ps, .bool okb]) /\ RP D' ps w' /\ D' = D.first D'.count /\ Fr (fun _ => False) w w')
theorem rp_none (w : World) : RP Dat.none zib w := ⟨⟨[], [], [], [], [], [], []⟩, _, _, _, _, _, _, _, rfl, rfl, noR _ _, zaX _ _ _, noS _ _, noX _ _, zaX _ _ _, zaX _ _ _, noH _ _⟩
theorem zcR {L : Nat -> Array Value -> World -> Prop} {d : Nat} {ys : List UInt8} {D D' : Dat} {okb : Bool} (hD : D' = D.first D'.count) (k : ∀ b ps W, L b ps W -> RP D' ps W)
 (h : ∀ (te : TypeId) (pe bv : Value) (P : Nat -> Prop) (w : World), Sl P w bv 1 ys.length (bc ys) -> (∀ g, P g -> g < w.heap.size) -> w.cell? ⟨2, 0, none⟩ = some (.iface te pe) -> Calls prog 29 #[.int .i64 d, bv, .agg #[.slice none 0 0, .slice none 0 0, .slice none 0 0, .slice none 0 0, .slice none 0 0, .slice none 0 0, .slice none 0 0]] w (zcQ (L w.heap.size) okb w)) : zcP d ys D := by
 intro te pe bv P w h1 h2 h3; refine (h te pe bv P w h1 h2 h3).mono ?_; rintro r w' ⟨ps, rfl, _, hy, hn, hf⟩; rcases okb with _ | _
 ·obtain rfl := hn rfl
  refine ⟨_, _, Dat.none, rfl, rp_none w', ?_, hf⟩; simp [Dat.first, Dat.count, Dat.none]
 ·exact ⟨_, _, D', rfl, k _ _ _ (hy rfl), hD, hf⟩
theorem CutD.pre {α : Type} {f : List UInt8 -> Option (List α)} (h : CutD f) {xs : List UInt8} {L : List α} (m : Nat) (e : f xs = some L) : ∃ u, L = (f (xs.take m)).getD [] ++ u := by
 rcases h2 : f (xs.take m) with _ | L'
 ·exact ⟨L, rfl⟩
 ·exact h xs m L L' e h2
theorem zef {xs : List UInt8} {n : Nat} (m : Nat) (h : xs.length <= n) : (xs.take m).length <= n := by rw [zm7]; omega
theorem ct_ser (l : List Ser) (hl : ∀ s ∈ l, zhw s) (hn : l.length <= 12) (m : Nat) : zcP 1 ((zbF l).take m) { Dat.none with ser := l.map fun s => ⟨s.ref, zaG s.labs⟩ } := by
 have ak := zef m (len_ser l hl hn); obtain ⟨u, hu⟩ := (show CutD za8 from zga 1 cut_ser).pre m (zkD l hl); have e1 : zjF [] ((zbF l).take m) = (za8 ((zbF l).take m)).getD [] := by unfold zjF; rcases za8 ((zbF l).take m) with _ | _ <;> rfl
 rw [<- e1] at hu; have hx : ∀ x ∈ zjF [] ((zbF l).take m), x.labs.length <= 4096 /\ ∀ p ∈ x.labs, p.1.size <= 1048576 /\ p.2.size <= 1048576 := fun x hx => by
  obtain ⟨s, hs, rfl⟩ := zmQ.1 (show x ∈ l.map tos by rw [hu]; exact zm0.2 (.inl hx)); obtain ⟨_, h2, h3, _⟩ := hl s hs; obtain ⟨q1, q2⟩ := zf0 s.labs h2 h3; exact ⟨by show (zaG s.labs).length <= _; omega, fun p hp => by have := q2 p hp; omega⟩
 have hy : (zjF [] ((zbF l).take m)).length <= 1048576 := by have := znb List.length hu; rw [zmI, zml] at this; omega
 have e2 : (l.map fun s => (⟨s.ref, zaG s.labs⟩ : Ser)) = (zjF [] ((zbF l).take m)).map zjP ++ u.map zjP := by rw [<- zmK, <- hu, zno]; rfl
 refine zcR (L := fun b => SerParts b ((zjF [] ((zbF l).take m)).map zjP)) (okb := (za8 ((zbF l).take m)).isSome) (by rw [e2]; simp [Dat.first, Dat.count, Dat.none]) (fun b ps W k => k.rp) (fun te pe bv P w hb hP hE => ?_)
 exact zfm te pe _ _ _ _ _ _ _ bv [] _ P w hb ak hP zem (noR P w) (by simp) (fun p hp => by cases hp) hx hy hE _ (zfq cut_ser (fun _ _ => zjX) zlz) (zi8 m (goodR_rec l hl))
theorem ct_exm (l : List Exm) (hl : ∀ s ∈ l, zfZ s) (hn : l.length <= 12) (m : Nat) : zcP 4 ((zbh l).take m) { Dat.none with exm := l.map fun s => ⟨s.ref, s.t, s.v, zaG s.labs⟩ } := by
 have ak := zef m (len_exm l hl hn); obtain ⟨aj, hG, aZ⟩ := zgN (fun b => b = 4) (zbh l) m cut_exm (fun _ _ => zlV) (let ⟨G, a, b⟩ := goodX_rec l hl; ⟨G, fun kd rest e hk => a rest (hk ▸ e), fun kd rest e hk => b rest (hk ▸ e)⟩); obtain ⟨u, hu⟩ := cutd_exm.pre m (zkJ l hl)
 have e1 : zjE [] ((zbh l).take m) = (zbl ((zbh l).take m)).getD [] := by unfold zjE; rcases zbl ((zbh l).take m) with _ | _ <;> rfl
 rw [<- e1] at hu; have hx : ∀ x ∈ zjE [] ((zbh l).take m), x.labs.length <= 4096 /\ ∀ p ∈ x.labs, p.1.size <= 1048576 /\ p.2.size <= 1048576 := fun x hx => by
  obtain ⟨s, hs, rfl⟩ := zmQ.1 (show x ∈ l.map toe by rw [hu]; exact zm0.2 (.inl hx)); obtain ⟨_, _, _, _, h2, h3, _⟩ := hl s hs; obtain ⟨q1, q2⟩ := zf0 s.labs h2 h3; exact ⟨by show (zaG s.labs).length <= _; omega, fun p hp => by have := q2 p hp; omega⟩
 have hy : (zjE [] ((zbh l).take m)).length <= 1048576 := by have := znb List.length hu; rw [zmI, zml] at this; omega
 have e2 : (l.map fun s => (⟨s.ref, s.t, s.v, zaG s.labs⟩ : Exm)) = (zjE [] ((zbh l).take m)).map zjQ ++ u.map zjQ := by rw [<- zmK, <- hu, zno]; rfl
 refine zcR (L := fun b => ExmParts b ((zjE [] ((zbh l).take m)).map zjQ)) (okb := (zbl ((zbh l).take m)).isSome) (by rw [e2]; simp [Dat.first, Dat.count, Dat.none]) (fun b ps W k => k.rp) (fun te pe bv P w hb hP hE => ?_)
 exact zgy te pe _ _ _ _ _ _ _ bv [] _ P w hb ak hP zem (noX P w) (by simp) (fun p hp => by cases hp) hx hy hE aj (fun rest e => hG 4 rest e rfl) (fun rest e => aZ 4 rest e rfl)
theorem ct_smp (l : List Smp) (hl : ∀ s ∈ l, s.wf) (hn : l.length <= 12) (m : Nat) : zcP 2 ((zaC l).take m) { Dat.none with smp := l } := by
 have ak := zef m (len_smp l hl hn); obtain ⟨u, hu⟩ := cutd_smp.pre m (dec_enc l hl); refine zcR (L := fun b => SmpParts b ((zal ((zaC l).take m)).getD [])) (okb := (zal ((zaC l).take m)).isSome) (D' := { Dat.none with smp := (zal ((zaC l).take m)).getD [] }) ?_ (fun b ps W k => k.rp) (fun te pe bv P w hb hP hE => ?_)
 ·generalize (zal ((zaC l).take m)).getD [] = o at hu ⊢
  rw [hu]; simp [Dat.first, Dat.count, Dat.none]
 ·exact zdj te pe _ _ _ _ _ _ _ bv _ P w hb ak hP zem (zaX _ _ _) hE
theorem ct_sto (l : List Ston) (hl : ∀ s ∈ l, s.wf) (hn : l.length <= 12) (hi : ∀ s ∈ l, s.ivs.length <= 4096) (m : Nat) : zcP 3 ((za9 l).take m) { Dat.none with sto := (zbY l).map one } := by
 have ak := zef m (len_sto l hl hn hi); have e : zaF (za9 l) = some (zbY l) := zit _ (flatS_wf l hl); obtain ⟨u, hu⟩ := (show CutD zaF from zga 3 cut_stn).pre m e
 have e1 : outS (([] : List (Ston × Value)).map Prod.fst) ((za9 l).take m) = ((zaF ((za9 l).take m)).getD []).map one := by unfold outS; rcases zaF ((za9 l).take m) with _ | _ <;> rfl
 refine zcR (L := fun b => StnParts b (outS (([] : List (Ston × Value)).map Prod.fst) ((za9 l).take m))) (okb := (zaF ((za9 l).take m)).isSome) ?_ (fun b ps W k => k.rp) (fun te pe bv P w hb hP hE => ?_)
 ·rw [e1]
  generalize (zaF ((za9 l).take m)).getD [] = o at hu ⊢; rw [hu]; simp [Dat.first, Dat.count, Dat.none]
 ·exact zfl te pe _ _ _ _ _ _ _ bv [] _ P w hb ak hP zem (noS P w) (by simp) (fun p hp => by cases hp) hE
theorem ct_mrk (l : List Mrk) (hl : ∀ s ∈ l, s.wf) (hn : l.length <= 12) (m : Nat) : zcP 5 ((zaU l).take m) { Dat.none with mrk := l } := by
 have ak := zef m (len_mrk l hl hn); obtain ⟨u, hu⟩ := (show CutD zaz from zga 5 cut_mrk).pre m (zhu l hl); have e1 : zmi [] ((zaU l).take m) = (zaz ((zaU l).take m)).getD [] := by unfold zmi; rcases zaz ((zaU l).take m) with _ | _ <;> rfl
 refine zcR (L := fun b => MrkParts b (zmi [] ((zaU l).take m))) (okb := (zaz ((zaU l).take m)).isSome) ?_ (fun b ps W k => k.rp) (fun te pe bv P w hb hP hE => ?_)
 ·rw [e1]
  generalize (zaz ((zaU l).take m)).getD [] = o at hu ⊢; rw [hu]; simp [Dat.first, Dat.count, Dat.none]
 ·exact ze5 te pe _ _ _ _ _ _ _ bv [] _ P w hb ak hP zem (zaX _ _ _) (by simp) hE
theorem ct_mta (l : List Mta) (hl : ∀ s ∈ l, s.wf) (hn : l.length <= 12) (m : Nat) : zcP 6 ((zbp l).take m) { Dat.none with mta := l } := by
 have ak := zef m (len_mta l hl hn); obtain ⟨u, hu⟩ := (show CutD zaM from zga 6 cut_mta).pre m (zjr l hl); have e1 : zmh [] ((zbp l).take m) = (zaM ((zbp l).take m)).getD [] := by unfold zmh; rcases zaM ((zbp l).take m) with _ | _ <;> rfl
 refine zcR (L := fun b => MtaParts b (zmh [] ((zbp l).take m))) (okb := (zaM ((zbp l).take m)).isSome) ?_ (fun b ps W k => k.rp) (fun te pe bv P w hb hP hE => ?_)
 ·rw [e1]
  generalize (zaM ((zbp l).take m)).getD [] = o at hu ⊢; rw [hu]; simp [Dat.first, Dat.count, Dat.none]
 ·exact zfS te pe _ _ _ _ _ _ _ bv [] _ P w hb ak hP zem (zaX _ _ _) (by simp) hE _ (zfq cut_mta (fun _ _ => zka) zlA) (zi8 m (goodM_rec l hl))
theorem ct_hsW (k : Nat) (hk : k = 7 ∨ k = 9) (q : Rhs -> Bool) (l : List Rhs) (hl : ∀ s ∈ l, s.ok) (hn : l.length <= 12) (hs : ∀ s ∈ l, zb5 false s.h) (m : Nat) : zcP k ((zbf (UInt8.ofNat k) q l).take m) { Dat.none with his := l.filter q } := by
 have ak := zef m (zkf k q l hl hn); obtain ⟨aj, hG, aZ⟩ := zgN (fun kd => kd = 7 ∨ kd = 9) (zbf (UInt8.ofNat k) q l) m cut_hsW (fun _ _ => zkr) (goodW_rec (UInt8.ofNat k) q l hl); obtain ⟨u, hu⟩ := cutd_hsW.pre m (zl4 (UInt8.ofNat k) (by rcases hk with rfl | rfl <;> decide) q l hl); obtain ⟨ys, oU⟩ := exE ((zbf (UInt8.ofNat k) q l).take m)
 rw [oU] at ak hG aZ hu ⊢; have e2 : l.filter q = zfD (([] : List (Rhs × Hsl)).map Prod.fst) ys ++ u.map (fun x => { x with h := x.h.cutW }) := by
  have e1 : zfD (([] : List (Rhs × Hsl)).map Prod.fst) ys = ((zci ys).getD []).map (fun x => { x with h := x.h.cutW }) := by unfold zfD; rcases zci ys with _ | _ <;> rfl
  rw [e1, <- zmK, <- hu, zno]
  conv => lhs; rw [<- List.map_id (l.filter q)]
  refine List.map_congr_left fun x hx => ?_; have := zlm (hs x (zmZ.1 hx).1); show x = ({ x with h := x.h.readW.cutW } : Rhs); rw [this]
 refine zcR (L := fun b => HstParts b (zfD (([] : List (Rhs × Hsl)).map Prod.fst) ys)) (okb := (zci ys).isSome) (by rw [e2]; simp [Dat.first, Dat.count, Dat.none]) (fun b ps W k => k.rp) (fun te pe bv P w hb hP hE => ?_); refine zhi te pe _ _ _ _ _ _ _ bv k hk [] _ P w hb ak hP zem (noH P w) (by simp) (fun p hp => by cases hp) (fun l2 h2 => ?_) hE aj hG aZ
 rw [h2] at hu; have h3 := znb List.length hu; rw [zmI, zml] at h3; refine ⟨by have := znj q l; have h4 : (Option.some l2).getD [] = l2 := rfl; rw [h4] at h3; omega, fun x hx => ?_⟩; obtain ⟨s, hs, rfl⟩ := zmQ.1 (show x ∈ (l.filter q).map Rhs.readW by rw [hu]; exact zm0.2 (.inl hx))
 exact few_readW (hl s (zmZ.1 hs).1).2.2.2
theorem ct_hsF (k : Nat) (hk : k = 8 ∨ k = 10) (q : Rhs -> Bool) (l : List Rhs) (hl : ∀ s ∈ l, s.ok) (hn : l.length <= 12) (hs : ∀ s ∈ l, zb5 true s.h) (m : Nat) : zcP k ((zbg (UInt8.ofNat k) q l).take m) { Dat.none with his := l.filter q } := by
 have ak := zef m (zkg k q l hl hn); obtain ⟨aj, hG, aZ⟩ := zgN (fun kd => kd = 8 ∨ kd = 10) (zbg (UInt8.ofNat k) q l) m cut_hsF (fun _ _ => zks) (goodF_rec (UInt8.ofNat k) q l hl); obtain ⟨u, hu⟩ := cutd_hsF.pre m (zl6 (UInt8.ofNat k) (by rcases hk with rfl | rfl <;> decide) q l hl); obtain ⟨ys, oU⟩ := exE ((zbg (UInt8.ofNat k) q l).take m)
 rw [oU] at ak hG aZ hu ⊢; have e2 : l.filter q = zfE (([] : List (Rhs × Hsl)).map Prod.fst) ys ++ u.map (fun x => { x with h := x.h.cutF }) := by
  have e1 : zfE (([] : List (Rhs × Hsl)).map Prod.fst) ys = ((zcj ys).getD []).map (fun x => { x with h := x.h.cutF }) := by unfold zfE; rcases zcj ys with _ | _ <;> rfl
  rw [e1, <- zmK, <- hu, zno]
  conv => lhs; rw [<- List.map_id (l.filter q)]
  refine List.map_congr_left fun x hx => ?_; have := zln (hs x (zmZ.1 hx).1); show x = ({ x with h := x.h.readF.cutF } : Rhs); rw [this]
 refine zcR (L := fun b => HstParts b (zfE (([] : List (Rhs × Hsl)).map Prod.fst) ys)) (okb := (zcj ys).isSome) (by rw [e2]; simp [Dat.first, Dat.count, Dat.none]) (fun b ps W k => k.rp) (fun te pe bv P w hb hP hE => ?_); refine zhj te pe _ _ _ _ _ _ _ bv k hk [] _ P w hb ak hP zem (noH P w) (by simp) (fun p hp => by cases hp) (fun l2 h2 => ?_) hE aj hG aZ
 rw [h2] at hu; have h3 := znb List.length hu; rw [zmI, zml] at h3; refine ⟨by have := znj q l; have h4 : (Option.some l2).getD [] = l2 := rfl; rw [h4] at h3; omega, fun x hx => ?_⟩; obtain ⟨s, hs, rfl⟩ := zmQ.1 (show x ∈ (l.filter q).map Rhs.readF by rw [hu]; exact zm0.2 (.inl hx))
 exact few_readF (hl s (zmZ.1 hs).1).2.2.2
theorem zcU (A0 A1 A2 A3 A4 A5 A6 : Option Addr) (c0 c1 c2 c3 c4 c5 c6 : Nat) (n0 n1 n2 n3 n4 n5 n6 n : Nat) (h0 : n0 <= 1099511627776) (h1 : n1 <= 1099511627776) (h2 : n2 <= 1099511627776) (h3 : n3 <= 1099511627776) (h4 : n4 <= 1099511627776) (h5 : n5 <= 1099511627776) (h6 : n6 <= 1099511627776) (hn : n = n0 + n1 + n2 + n3 + n4 + n5 + n6) (w : World) :
 Calls prog 40 #[.agg #[.slice A0 n0 c0, .slice A1 n1 c1, .slice A2 n2 c2, .slice A3 n3 c3, .slice A4 n4 c4, .slice A5 n5 c5, .slice A6 n6 c6]] w (ziK n w) := by
 go_enter func40, ntmps40; go_wp2; go_ret; refine ⟨?_, (znq _ w).alloc _⟩; rw [show (n : Int) = ((((((n0 : Int) + n1) + n2) + n3) + n4) + n5) + n6 by omega]; rfl
theorem rightG_2 (A0 A1 A2 A3 A4 A5 A6 : Option Addr) (c0 c1 c2 c3 c4 c5 c6 : Nat) (n0 n1 n2 n3 n4 n5 n6 n : Nat) (h0 : n0 <= 1099511627776) (h1 : n1 <= 1099511627776) (h2 : n2 <= 1099511627776) (h3 : n3 <= 1099511627776) (h4 : n4 <= 1099511627776) (h5 : n5 <= 1099511627776) (h6 : n6 <= 1099511627776) (hn : n = n0 + n1 + n2 + n3 + n4 + n5 + n6) (w : World) :
 Calls prog 30 #[.int .i64 2, .agg #[.slice A0 n0 c0, .slice A1 n1 c1, .slice A2 n2 c2, .slice A3 n3 c3, .slice A4 n4 c4, .slice A5 n5 c5, .slice A6 n6 c6]] w (zav (n <= 12 /\ n = n1) w) := by
 have hC := zcU A0 A1 A2 A3 A4 A5 A6 c0 c1 c2 c3 c4 c5 c6 n0 n1 n2 n3 n4 n5 n6 n h0 h1 h2 h3 h4 h5 h6 hn (w.alloc (.cells #[.slice A0 n0 c0, .slice A1 n1 c1, .slice A2 n2 c2, .slice A3 n3 c3, .slice A4 n4 c4, .slice A5 n5 c5, .slice A6 n6 c6] 54)); have bN : n1 <= n := by omega
 clear hn; by_cases h12 : n <= 12
 ·have hx : ¬ (12 : Int) < (n : Int) := by omega
  by_cases he : n = n1
  ·subst he
   go_enter func30, ntmps30; go_wp2_with (go_at_call 40; refine hC.mono ?_; rintro r w1 ⟨rfl, ai⟩; obtain ⟨x0, x1, x2, x3, x4, x5, x6⟩ := zah ((znr w 54 #[.slice A0 n0 c0, .slice A1 n c1, .slice A2 n2 c2, .slice A3 n3 c3, .slice A4 n4 c4, .slice A5 n5 c5, .slice A6 n6 c6]).fr ai (fun e => e)))
   go_ret; exact ⟨_, rfl, ⟨fun _ => ⟨h12, by trivial⟩, fun _ => by simp⟩, ((znq _ w).alloc _).same ai⟩
  ·have hz : ((n : Int) - (n1 : Int) == 0) = false := by simp; omega
   go_enter func30, ntmps30; go_wp2_with (go_at_call 40; refine hC.mono ?_; rintro r w1 ⟨rfl, ai⟩; obtain ⟨x0, x1, x2, x3, x4, x5, x6⟩ := zah ((znr w 54 #[.slice A0 n0 c0, .slice A1 n1 c1, .slice A2 n2 c2, .slice A3 n3 c3, .slice A4 n4 c4, .slice A5 n5 c5, .slice A6 n6 c6]).fr ai (fun e => e)))
   go_ret; exact ⟨_, rfl, ⟨fun h => (by first | (cases h; done) | (simp at h; done) | (simp at h; omega)), fun h => absurd h.2 he⟩, ((znq _ w).alloc _).same ai⟩
 ·have hx : (12 : Int) < (n : Int) := by omega
  go_enter func30, ntmps30; go_wp2_with (go_at_call 40; refine hC.mono ?_; rintro r w1 ⟨rfl, ai⟩)
  go_ret; exact ⟨false, rfl, ⟨fun h => (by cases h), fun h => absurd h.1 h12⟩, ((znq _ w).alloc _).same ai⟩
theorem rightG_5 (A0 A1 A2 A3 A4 A5 A6 : Option Addr) (c0 c1 c2 c3 c4 c5 c6 : Nat) (n0 n1 n2 n3 n4 n5 n6 n : Nat) (h0 : n0 <= 1099511627776) (h1 : n1 <= 1099511627776) (h2 : n2 <= 1099511627776) (h3 : n3 <= 1099511627776) (h4 : n4 <= 1099511627776) (h5 : n5 <= 1099511627776) (h6 : n6 <= 1099511627776) (hn : n = n0 + n1 + n2 + n3 + n4 + n5 + n6) (w : World) :
 Calls prog 30 #[.int .i64 5, .agg #[.slice A0 n0 c0, .slice A1 n1 c1, .slice A2 n2 c2, .slice A3 n3 c3, .slice A4 n4 c4, .slice A5 n5 c5, .slice A6 n6 c6]] w (zav (n <= 12 /\ n = n5) w) := by
 have hC := zcU A0 A1 A2 A3 A4 A5 A6 c0 c1 c2 c3 c4 c5 c6 n0 n1 n2 n3 n4 n5 n6 n h0 h1 h2 h3 h4 h5 h6 hn (w.alloc (.cells #[.slice A0 n0 c0, .slice A1 n1 c1, .slice A2 n2 c2, .slice A3 n3 c3, .slice A4 n4 c4, .slice A5 n5 c5, .slice A6 n6 c6] 54)); have bN : n5 <= n := by omega
 clear hn; by_cases h12 : n <= 12
 ·have hx : ¬ (12 : Int) < (n : Int) := by omega
  by_cases he : n = n5
  ·subst he
   go_enter func30, ntmps30; go_wp2_with (go_at_call 40; refine hC.mono ?_; rintro r w1 ⟨rfl, ai⟩; obtain ⟨x0, x1, x2, x3, x4, x5, x6⟩ := zah ((znr w 54 #[.slice A0 n0 c0, .slice A1 n1 c1, .slice A2 n2 c2, .slice A3 n3 c3, .slice A4 n4 c4, .slice A5 n c5, .slice A6 n6 c6]).fr ai (fun e => e)))
   go_ret; exact ⟨_, rfl, ⟨fun _ => ⟨h12, by trivial⟩, fun _ => by simp⟩, ((znq _ w).alloc _).same ai⟩
  ·have hz : ((n : Int) - (n5 : Int) == 0) = false := by simp; omega
   go_enter func30, ntmps30; go_wp2_with (go_at_call 40; refine hC.mono ?_; rintro r w1 ⟨rfl, ai⟩; obtain ⟨x0, x1, x2, x3, x4, x5, x6⟩ := zah ((znr w 54 #[.slice A0 n0 c0, .slice A1 n1 c1, .slice A2 n2 c2, .slice A3 n3 c3, .slice A4 n4 c4, .slice A5 n5 c5, .slice A6 n6 c6]).fr ai (fun e => e)))
   go_ret; exact ⟨_, rfl, ⟨fun h => (by first | (cases h; done) | (simp at h; done) | (simp at h; omega)), fun h => absurd h.2 he⟩, ((znq _ w).alloc _).same ai⟩
 ·have hx : (12 : Int) < (n : Int) := by omega
  go_enter func30, ntmps30; go_wp2_with (go_at_call 40; refine hC.mono ?_; rintro r w1 ⟨rfl, ai⟩)
  go_ret; exact ⟨false, rfl, ⟨fun h => (by cases h), fun h => absurd h.1 h12⟩, ((znq _ w).alloc _).same ai⟩
theorem zdJ : (∀ (_ : True) (A0 A1 A2 A3 A4 A5 A6 : Option Addr) (c0 c1 c2 c3 c4 c5 c6 : Nat) (n0 n1 n2 n3 n4 n5 n6 n : Nat) (h0 : n0 <= 1099511627776) (h1 : n1 <= 1099511627776) (h2 : n2 <= 1099511627776) (h3 : n3 <= 1099511627776) (h4 : n4 <= 1099511627776) (h5 : n5 <= 1099511627776) (h6 : n6 <= 1099511627776) (hn : n = n0 + n1 + n2 + n3 + n4 + n5 + n6) (w : World) (P : Nat -> Prop) (lv : List (Ser × Value)) (hs : SlR P w (.slice A0 n0 c0) lv) (hl : lv.length = n0) (hi : ∀ p ∈ lv, p.1.labs.length <= 1099511627776),
 Calls prog 30 #[.int .i64 1, .agg #[.slice A0 n0 c0, .slice A1 n1 c1, .slice A2 n2 c2, .slice A3 n3 c3, .slice A4 n4 c4, .slice A5 n5 c5, .slice A6 n6 c6]] w (zav (n <= 12 /\ n = n0 /\ ∀ p ∈ lv, LabOk p.1.labs 8 300) w)) /\ (∀ (_ : True) (A0 A1 A2 A3 A4 A5 A6 : Option Addr) (c0 c1 c2 c3 c4 c5 c6 : Nat) (n0 n1 n2 n3 n4 n5 n6 n : Nat) (h0 : n0 <= 1099511627776) (h1 : n1 <= 1099511627776) (h2 : n2 <= 1099511627776) (h3 : n3 <= 1099511627776) (h4 : n4 <= 1099511627776) (h5 : n5 <= 1099511627776) (h6 : n6 <= 1099511627776) (hn : n = n0 + n1 + n2 + n3 + n4 + n5 + n6) (w : World) (P : Nat -> Prop) (lv : List (Exm × Value)) (hs : SlX P w (.slice A3 n3 c3) lv) (hl : lv.length = n3) (hi : ∀ p ∈ lv, p.1.labs.length <= 1099511627776),
 Calls prog 30 #[.int .i64 4, .agg #[.slice A0 n0 c0, .slice A1 n1 c1, .slice A2 n2 c2, .slice A3 n3 c3, .slice A4 n4 c4, .slice A5 n5 c5, .slice A6 n6 c6]] w (zav (n <= 12 /\ n = n3 /\ ∀ p ∈ lv, LabOk p.1.labs 8 300) w)) := by
 refine ⟨fun ag A0 A1 A2 A3 A4 A5 A6 c0 c1 c2 c3 c4 c5 c6 n0 n1 n2 n3 n4 n5 n6 n h0 h1 h2 h3 h4 h5 h6 hn w P lv hs hl hi => ?_, fun bY A0 A1 A2 A3 A4 A5 A6 c0 c1 c2 c3 c4 c5 c6 n0 n1 n2 n3 n4 n5 n6 n h0 h1 h2 h3 h4 h5 h6 hn w P lv hs hl hi => ?_⟩; all_goals
  have hC := zcU A0 A1 A2 A3 A4 A5 A6 c0 c1 c2 c3 c4 c5 c6 n0 n1 n2 n3 n4 n5 n6 n h0 h1 h2 h3 h4 h5 h6 hn (w.alloc (.cells #[.slice A0 n0 c0, .slice A1 n1 c1, .slice A2 n2 c2, .slice A3 n3 c3, .slice A4 n4 c4, .slice A5 n5 c5, .slice A6 n6 c6] 54))
  first | (guard_hyp ag; have bN : n0 <= n := by omega) | (have bN : n3 <= n := by omega)
  clear hn; by_cases h12 : n <= 12
  ·have h1x : ¬ (12 : Int) < (n : Int) := by omega
   have HS := zmk hs; have HN := zmk hl; have HI := zmk hi; clear hs hl hi; go_enter func30, ntmps30; go_wp2_with (go_at_call 40; refine hC.mono ?_; rintro r w1 ⟨rfl, ai⟩; obtain ⟨x0, x1, x2, x3, x4, x5, x6⟩ := zah ((znr w 54 #[.slice A0 n0 c0, .slice A1 n1 c1, .slice A2 n2 c2, .slice A3 n3 c3, .slice A4 n4 c4, .slice A5 n5 c5, .slice A6 n6 c6]).fr ai (fun e => e)))
   have HF := zmk (((znq (fun _ => False) w).alloc (.cells #[.slice A0 n0 c0, .slice A1 n1 c1, .slice A2 n2 c2, .slice A3 n3 c3, .slice A4 n4 c4, .slice A5 n5 c5, .slice A6 n6 c6] 54)).same ai); have kG := HF.out.size
   have HB := zmk ((znr w 54 #[.slice A0 n0 c0, .slice A1 n1 c1, .slice A2 n2 c2, .slice A3 n3 c3, .slice A4 n4 c4, .slice A5 n5 c5, .slice A6 n6 c6]).fr ai (fun e => e)); clear ai hC
   first | (guard_hyp ag; go_loopw [6] (fun i wr => ∃ k : Nat, k <= n0 /\ i = .int .i64 k /\ Hid (Fr (fun _ => False) w1 wr) /\ Hid (∀ j p, j < k -> lv[j]? = some p -> LabOk p.1.labs 8 300)) (fun i _ => n0 - (intOf i).toNat)) | (go_loopw [8] (fun i wr => ∃ k : Nat, k <= n3 /\ i = .int .i64 k /\ Hid (Fr (fun _ => False) w1 wr) /\ Hid (∀ j p, j < k -> lv[j]? = some p -> LabOk p.1.labs 8 300)) (fun i _ => n3 - (intOf i).toNat))
   case atStart => exact ⟨0, zmv _, rfl, zmk (znq _ _), zmk (fun j p h => absurd h (zm5 _))⟩
   case round =>
    obtain ⟨k, hk, rfl, RF, RG⟩ := hrel; obtain ⟨y0, y1, y2, y3, y4, y5, y6⟩ := zah (HB.out.fr RF.out (fun e => e)); clear x0 x1 x2 x3 x4 x5 x6
    first | (guard_hyp ag; by_cases hlt : k < n0) | (by_cases hlt : k < n3)
    ·have hS := HS.out.fr (HF.out.same RF.out) (fun _ _ e => e)
     have b8 := hS.2; obtain ⟨⟨A, c, e2, _, hc, hr⟩, _⟩ := hS; injection e2 with e2 iL iM; obtain ⟨g, off, rfl, _, aa⟩ := hr (by have := HN.out; omega); obtain ⟨x, hx⟩ : ∃ x, lv[k]? = some x := ⟨_, zmm (by rw [HN.out]; exact hlt)⟩; have aH := zms hx
     first | (guard_hyp ag; have c1 : wr.cell? ⟨g, off + k * 2 + 1, none⟩ = some x.2 := aa (k * 2 + 1) _ (by rw [zbE ziL (fun _ => rfl) lv k x hx 1 (by omega)]; rfl)) | (have c1 : wr.cell? ⟨g, off + k * 4 + 3, none⟩ = some x.2 := aa (k * 4 + 3) _ (by rw [zdA exc (fun _ => rfl) lv k x hx 3 (by omega)]; rfl))
     have bn := b8 x aH; have aP := HI.out x aH; have ft := zmk aH; have HX := zmk hx; clear b8 hx aH
     first | (guard_hyp ag; obtain ⟨⟨ref, labs⟩, iv⟩ := x) | (obtain ⟨⟨ref, t, vv, labs⟩, iv⟩ := x)
     simp only [] at c1 bn aP; have hC := zgJ P iv labs 8 300 wr bn aP (by omega) (by omega); obtain ⟨Ai, ci, rfl, _, _, _⟩ := bn; subst e2; clear aa hr iL iM aP; go_wp2_with (go_at_call 53; refine hC.mono ?_; rintro r5 w5 ⟨b, rfl, cg, aq⟩; refine Hid.out ?_)
     have H5 := zmk (RF.out.same aq); have cu := zmk cg; obtain ⟨z0, z1, z2, z3, z4, z5, z6⟩ := zah (HB.out.fr H5.out (fun e => e)); clear aq cg y0 y1 y2 y3 y4 y5 y6 hC c1; rcases b with _ | _
     ·refine zmk ?_
      go_wp2; go_ret; exact ⟨false, rfl, ⟨fun h => (by cases h), fun h => absurd (cu.out.2 (h.2.2 _ ft.out)) (by decide)⟩, HF.out.same H5.out⟩
     ·refine zmk ?_
      go_wp2; go_roundw
      case rel => exact ⟨k + 1, by omega, by go_num, H5, zmk (fun j p h h2 => by
       rcases zmN j k with h3 | h3
       ·exact RG.out j p h3 h2
       ·obtain rfl : j = k := by omega
        have h4 := h2.symm.trans HX.out; injection h4 with h4; rw [h4]
        exact cu.out.1 rfl)⟩
      case measure => simp [intOf]; omega
    ·first | (guard_hyp ag; obtain rfl : k = n0 := by omega) | (obtain rfl : k = n3 := by omega)
     have bw : Hid (∀ p ∈ lv, LabOk p.1.labs 8 300) := zmk (fun p hp => by
      obtain ⟨j, hj, e⟩ := zng hp
      exact RG.out j p (by rw [<- HN.out]; exact hj) (by rw [zmm hj, e]))
     by_cases he : n = k
     ·have HE := zmk he
      have hz : ((n : Int) - (k : Int) == 0) = true := by simp; omega
      clear he; go_wp2; go_ret; refine ⟨_, rfl, ⟨fun _ => ⟨h12, HE.out, bw.out⟩, fun _ => by first | rfl | exact hz | (have := HE.out; simp; omega)⟩, HF.out.same RF.out⟩
     ·have hz : ((n : Int) - (k : Int) == 0) = false := by simp; omega
      go_wp2; go_ret; exact ⟨_, rfl, ⟨fun h => (by first | (cases h; done) | (simp at h; done) | (simp at h; omega)), fun h => absurd h.2.1 he⟩, HF.out.same RF.out⟩
  ·have hx : (12 : Int) < (n : Int) := by omega
   go_enter func30, ntmps30; go_wp2_with (go_at_call 40; refine hC.mono ?_; rintro r w1 ⟨rfl, ai⟩)
   go_ret; exact ⟨false, rfl, ⟨fun h => (by cases h), fun h => absurd h.1 h12⟩, ((znq _ w).alloc _).same ai⟩
theorem rightG_1 : type_of% (zdJ.1 trivial) := zdJ.1 trivial
theorem rightG_4 : type_of% (zdJ.2 trivial) := zdJ.2 trivial
end Go.Proofs.YtbkookiigkckdaaGreatDoor
