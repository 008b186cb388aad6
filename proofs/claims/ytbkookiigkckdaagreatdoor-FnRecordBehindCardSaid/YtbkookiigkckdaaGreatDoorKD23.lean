/- Merged. -/
import Derived.Test.YtbkookiigkckdaaGreatDoorKD14
import Derived.Test.YtbkookiigkckdaaGreatDoorKD20
set_option linter.unusedVariables false
set_option linter.unusedSimpArgs false
set_option maxRecDepth 100000
set_option maxHeartbeats 8000000
namespace Go.Proofs.YtbkookiigkckdaaGreatDoor
open Go.RowKit Go.Proofs.Tryz
def Hst.total (h : Hst) : Nat := h.pos.length + h.neg.length + h.ups.length + h.downs.length + h.fups.length + h.fdowns.length + h.cus.length
def zbD (fl : Bool) (h : Hst) : Prop :=
 h.total <= 60 /\ (h.schema = -53 ∨ (-4 <= h.schema /\ h.schema <= 8 /\ h.cus.length = 0)) /\ (if fl then h.ups.length + h.downs.length = 0 else h.fups.length + h.fdowns.length = 0)
theorem short_raw (fl : Bool) (hint : UInt8) (schema : Int) (thr sum zc cnt : Nat) (A1 A2 A3 A4 A5 A6 A7 : Option Addr) (n1 n2 n3 n4 n5 n6 n7 c1 c2 c3 c4 c5 c6 c7 : Nat) (w : World) (p : Prop) (hp : p ↔ (n1 + n2 + n3 + n4 + n5 + n6 + n7 <= 60 /\ (schema = -53 ∨ (-4 <= schema /\ schema <= 8 /\ n7 = 0)) /\ (if fl then n3 + n4 = 0 else n5 + n6 = 0)))
 (h1 : n1 <= 1099511627776) (h2 : n2 <= 1099511627776) (h3 : n3 <= 1099511627776) (h4 : n4 <= 1099511627776) (h5 : n5 <= 1099511627776) (h6 : n6 <= 1099511627776) (h7 : n7 <= 1099511627776) :
 Calls prog 89 #[.agg #[.int .u8 hint.toNat, .int .i32 schema, .int .u64 thr, .int .u64 sum, .int .u64 zc, .int .u64 cnt, .slice A1 n1 c1, .slice A2 n2 c2, .slice A3 n3 c3, .slice A4 n4 c4, .slice A5 n5 c5, .slice A6 n6 c6, .slice A7 n7 c7], .bool fl] w (zas p w) := by
 have HP := zmh hp; clear hp; by_cases ht : n1 + n2 + n3 + n4 + n5 + n6 + n7 <= 60
 ·have hx : ¬ (60 : Int) < (n1 : Int) + n2 + n3 + n4 + n5 + n6 + n7 := by omega
  have HT := zmh ht; clear ht; by_cases hs : schema = -53
  ·subst hs
   cases fl
   ·by_cases he : n5 + n6 = 0
    ·have HE := zmh he
     have hz : ((n5 : Int) + n6 == 0) = true := by simp; omega
     clear he; go_enter func89, ntmps89; go_wp2; go_ret; refine ⟨_, rfl, ?_, (znl _ w).alloc _⟩; rw [HP.out]; exact zmP (by first | rfl | exact hz | (simp <;> omega) | (simp at hz ⊢; omega)) ⟨HT.out, .inl (by first | rfl | trivial), by simpa using HE.out⟩
    ·have HE := zmh he
     have hz : ((n5 : Int) + n6 == 0) = false := by simp; omega
     clear he; go_enter func89, ntmps89; go_wp2; go_ret; refine ⟨_, rfl, ?_, (znl _ w).alloc _⟩; rw [HP.out]; exact zmO (by first | (intro h; cases h; done) | (rw [hz]; decide) | (simp <;> omega) | (simp at hz ⊢; omega)) (fun h => absurd h.2.2 (by simpa using HE.out))
   ·by_cases he : n3 + n4 = 0
    ·have HE := zmh he
     have hz : ((n3 : Int) + n4 == 0) = true := by simp; omega
     clear he; go_enter func89, ntmps89; go_wp2; go_ret; refine ⟨_, rfl, ?_, (znl _ w).alloc _⟩; rw [HP.out]; exact zmP (by first | rfl | exact hz | (simp <;> omega) | (simp at hz ⊢; omega)) ⟨HT.out, .inl (by first | rfl | trivial), by simpa using HE.out⟩
    ·have HE := zmh he
     have hz : ((n3 : Int) + n4 == 0) = false := by simp; omega
     clear he; go_enter func89, ntmps89; go_wp2; go_ret; refine ⟨_, rfl, ?_, (znl _ w).alloc _⟩; rw [HP.out]; exact zmO (by first | (intro h; cases h; done) | (rw [hz]; decide) | (simp <;> omega) | (simp at hz ⊢; omega)) (fun h => absurd h.2.2 (by simpa using HE.out))
  ·have ek : (schema != -53) = true := by simpa using hs
   have HS := zmh hs; clear hs; by_cases hlo : schema < -4
   ·have HA := zmh hlo
    go_enter func89, ntmps89; go_wp2; go_ret; refine ⟨_, rfl, ?_, (znl _ w).alloc _⟩; rw [HP.out]; exact zmO (by intro h; cases h) (fun h => by have := HS.out; have := HA.out; rcases h.2.1 with h | h <;> omega)
   ·by_cases hhi : 8 < schema
    ·have HA := zmh hhi
     go_enter func89, ntmps89; go_wp2; go_ret; refine ⟨_, rfl, ?_, (znl _ w).alloc _⟩; rw [HP.out]; exact zmO (by intro h; cases h) (fun h => by have := HS.out; have := HA.out; rcases h.2.1 with h | h <;> omega)
    ·by_cases h70 : (0 : Int) < (n7 : Int)
     ·have HA := zmh h70
      go_enter func89, ntmps89; go_wp2; go_ret; refine ⟨_, rfl, ?_, (znl _ w).alloc _⟩; rw [HP.out]; exact zmO (by intro h; cases h) (fun h => by have := HS.out; have := HA.out; rcases h.2.1 with h | h <;> omega)
     ·have HOK : Hid (-4 <= schema /\ schema <= 8 /\ n7 = 0) := zmh ⟨by omega, by omega, by omega⟩
      cases fl
      ·by_cases he : n5 + n6 = 0
       ·have HE := zmh he
        have hz : ((n5 : Int) + n6 == 0) = true := by simp; omega
        clear he; go_enter func89, ntmps89; go_wp2; go_ret; refine ⟨_, rfl, ?_, (znl _ w).alloc _⟩; rw [HP.out]; exact zmP (by first | rfl | exact hz | (simp <;> omega) | (simp at hz ⊢; omega)) ⟨HT.out, .inr HOK.out, by simpa using HE.out⟩
       ·have HE := zmh he
        have hz : ((n5 : Int) + n6 == 0) = false := by simp; omega
        clear he; go_enter func89, ntmps89; go_wp2; go_ret; refine ⟨_, rfl, ?_, (znl _ w).alloc _⟩; rw [HP.out]; exact zmO (by first | (intro h; cases h; done) | (rw [hz]; decide) | (simp <;> omega) | (simp at hz ⊢; omega)) (fun h => absurd h.2.2 (by simpa using HE.out))
      ·by_cases he : n3 + n4 = 0
       ·have HE := zmh he
        have hz : ((n3 : Int) + n4 == 0) = true := by simp; omega
        clear he; go_enter func89, ntmps89; go_wp2; go_ret; refine ⟨_, rfl, ?_, (znl _ w).alloc _⟩; rw [HP.out]; exact zmP (by first | rfl | exact hz | (simp <;> omega) | (simp at hz ⊢; omega)) ⟨HT.out, .inr HOK.out, by simpa using HE.out⟩
       ·have HE := zmh he
        have hz : ((n3 : Int) + n4 == 0) = false := by simp; omega
        clear he; go_enter func89, ntmps89; go_wp2; go_ret; refine ⟨_, rfl, ?_, (znl _ w).alloc _⟩; rw [HP.out]; exact zmO (by first | (intro h; cases h; done) | (rw [hz]; decide) | (simp <;> omega) | (simp at hz ⊢; omega)) (fun h => absurd h.2.2 (by simpa using HE.out))
 ·have hx : (60 : Int) < (n1 : Int) + n2 + n3 + n4 + n5 + n6 + n7 := by omega
  have HT := zmh ht; clear ht; go_enter func89, ntmps89; go_wp2; go_ret; refine ⟨_, rfl, ?_, (znl _ w).alloc _⟩; rw [HP.out]; exact zmO (by intro h; cases h) (fun h => absurd h.1 HT.out)
theorem zeO (fl : Bool) (P : Nat -> Prop) (h : Hst) (s : Hsl) (w : World) (hs : SlHs P w h s) (hl : h.few 1099511627776) :
 Calls prog 89 #[.agg (hic h s).toArray, .bool fl] w (zas (zbD fl h) w) := by
 obtain ⟨z1, z2, z3, z4, z5, z6, z7⟩ := hs; obtain ⟨sp, sn, su, sd, lX, lY, sc⟩ := s; obtain ⟨l1, l2, l3, l4, l5, l6, l7⟩ := hl; simp only [] at z1 z2 z3 z4 z5 z6 z7; obtain ⟨A1, c1, rfl⟩ := z1.shape; obtain ⟨A2, c2, rfl⟩ := z2.shape; obtain ⟨A3, c3, rfl⟩ := z3.shape; obtain ⟨A4, c4, rfl⟩ := z4.shape; obtain ⟨A5, c5, rfl⟩ := z5.shape; obtain ⟨A6, c6, rfl⟩ := z6.shape
 obtain ⟨A7, c7, rfl⟩ := z7.shape; exact short_raw fl h.hint h.schema h.thr h.sum h.zc h.cnt A1 A2 A3 A4 A5 A6 A7 _ _ _ _ _ _ _ c1 c2 c3 c4 c5 c6 c7 w _ Iff.rfl l1 l2 l3 l4 l5 l6 l7
def zbx (c : Bool) (p : Rhs × Hsl) : Bool := zaV p.1 == c
def zma (w : World) (lc : List (Rhs × Hsl)) (r : Ending) (w' : World) : Prop :=
 ∃ v, r = .returned v /\ w'.ownsRow w.heap.size 194 15 v lc.length (lc.flatMap hsc) /\ z_F w w'
theorem zfn (c : Bool) (P : Nat -> Prop) (v : Value) (lv : List (Rhs × Hsl)) (w : World) (h : SlH P w v lv) (hl : lv.length <= 1048576) :
 Calls prog 36 #[v, .bool c] w (zma w (lv.filter (zbx c))) := by
 obtain ⟨⟨A, cp, rfl, ai, aQ, hr⟩, hin⟩ := h; obtain ⟨n, hn⟩ := exE lv.length; rw [hn] at hr aQ hl ⊢; have HN := zmh hn; have HR := zmh hr; have HI := zmh hin
 obtain ⟨i0, aC, az, ay, aB⟩ := info_parts zj7; clear hn hr ai hin
 go_enter func36, ntmps36; go_wp2; go_loopw [5, 6] (fun v i wr => ∃ (k m : Nat), k <= n /\ i = .int .i64 k /\ m <= k /\ Hid (((lv.take k).filter (zbx c)).length = m) /\ Hid (wr.ownsRow w.heap.size 194 15 v m (((lv.take k).filter (zbx c)).flatMap hsc)) /\ Hid (z_F w wr)) (fun _ i _ => n - (intOf i).toNat)
 case atStart => exact ⟨0, 0, zms _, rfl, zmt _, zmh rfl, zmh (zmv _ _ _ _), zmh (znl _ _)⟩
 case round =>
  obtain ⟨k, m, hk, rfl, gI, HM, HO, HF⟩ := hrel; by_cases hlt : k < n
  ·obtain ⟨g, off, rfl, _, aa⟩ := HR.out (by omega)
   obtain ⟨x, hx⟩ : ∃ x, lv[k]? = some x := ⟨_, zmj (by rw [HN.out]; exact hlt)⟩; have cc : ∀ j, j < 15 -> ∀ u, (hsc x)[j]? = some u -> wr.cell? ⟨g, off + (k * 15 + j), none⟩ = some u := fun j hj u hu => by
    have := aa (k * 15 + j) u (by rw [zgE 15 hsc (fun _ => rfl) lv k x hx j hj]; exact hu); rw [HF.out.cell (p := ⟨g, off + (k * 15 + j), none⟩) (zmo w _ this) id]; exact this
   have mK : wr.cell? ⟨g, off + k * 15, none⟩ = some (.int .u64 x.1.ref) := cc 0 (by omega) _ rfl; have mJ : wr.cell? ⟨g, off + k * 15 + 1, none⟩ = some (.int .i64 x.1.t) := cc 1 (by omega) _ rfl; have mI : wr.cell? ⟨g, off + k * 15 + 2, none⟩ = some (.int .u8 x.1.h.hint.toNat) := cc 2 (by omega) _ rfl
   have ra : wr.cell? ⟨g, off + k * 15 + 3, none⟩ = some (.int .i32 x.1.h.schema) := cc 3 (by omega) _ rfl; have qZ : wr.cell? ⟨g, off + k * 15 + 4, none⟩ = some (.int .u64 x.1.h.thr) := cc 4 (by omega) _ rfl; have c50 : wr.cell? ⟨g, off + k * 15 + 5, none⟩ = some (.int .u64 x.1.h.sum) := cc 5 (by omega) _ rfl
   have qY : wr.cell? ⟨g, off + k * 15 + 6, none⟩ = some (.int .u64 x.1.h.zc) := cc 6 (by omega) _ rfl; have qX : wr.cell? ⟨g, off + k * 15 + 7, none⟩ = some (.int .u64 x.1.h.cnt) := cc 7 (by omega) _ rfl; have nY : wr.cell? ⟨g, off + k * 15 + 8, none⟩ = some x.2.p := cc 8 (by omega) _ rfl; have nX : wr.cell? ⟨g, off + k * 15 + 9, none⟩ = some x.2.n := cc 9 (by omega) _ rfl
   have ia : wr.cell? ⟨g, off + k * 15 + 10, none⟩ = some x.2.u := cc 10 (by omega) _ rfl; have hN : wr.cell? ⟨g, off + k * 15 + 11, none⟩ = some x.2.d := cc 11 (by omega) _ rfl; have gZ : wr.cell? ⟨g, off + k * 15 + 12, none⟩ = some x.2.fu := cc 12 (by omega) _ rfl; have gY : wr.cell? ⟨g, off + k * 15 + 13, none⟩ = some x.2.fd := cc 13 (by omega) _ rfl
   have gX : wr.cell? ⟨g, off + k * 15 + 14, none⟩ = some x.2.c := cc 14 (by omega) _ rfl; have aY := HI.out x (zmp hx); have HX := zmh hx; rcases oK : zbx c x with _ | _
   ·have hee : ((x.1.h.schema == -53) == c) = false := oK
    have HK := zmh oK; clear aa cc hx aY oK; go_wp2; go_roundw
    case rel => exact ⟨k + 1, m, by omega, by go_num, by omega, zmh (by rw [zfj (zbx c) lv k x HX.out HK.out]; exact HM.out), zmh (by rw [zfj (zbx c) lv k x HX.out HK.out]; exact HO.out), HF⟩
    case measure => simp [intOf]; omega
   ·have hee : ((x.1.h.schema == -53) == c) = true := oK
    have HK := zmh oK; have bD := HF.out.size; obtain ⟨y, hy⟩ : ∃ y, y = x := ⟨_, rfl⟩; rw [<- hy] at HX HK; have HY := zmh hy; clear oK hy; obtain ⟨⟨ref, t, ⟨hint, schema, thr, sum, zc, cnt, pos, neg, ups, downs, fups, fdowns, cus⟩⟩, ⟨sp, sn, su, sd, lX, lY, sc⟩⟩ := x; obtain ⟨z1, z2, z3, z4, z5, z6, z7⟩ := aY
    simp only [] at mK mJ mI ra qZ c50 qY qX nY nX ia hN gZ gY gX hee z1 z2 z3 z4 z5 z6 z7; obtain ⟨A1, c1, rfl⟩ := z1.shape; obtain ⟨A2, c2, rfl⟩ := z2.shape; obtain ⟨A3, c3, rfl⟩ := z3.shape; obtain ⟨A4, c4, rfl⟩ := z4.shape; obtain ⟨A5, c5, rfl⟩ := z5.shape; obtain ⟨A6, c6, rfl⟩ := z6.shape; obtain ⟨A7, c7, rfl⟩ := z7.shape; obtain ⟨m1, e1⟩ := exE pos.length; rw [e1] at nY
    obtain ⟨m2, e2⟩ := exE neg.length; rw [e2] at nX; obtain ⟨m3, e3⟩ := exE ups.length; rw [e3] at ia; obtain ⟨m4, e4⟩ := exE downs.length; rw [e4] at hN; obtain ⟨m5, e5⟩ := exE fups.length; rw [e5] at gZ; obtain ⟨m6, e6⟩ := exE fdowns.length; rw [e6] at gY; obtain ⟨m7, e7⟩ := exE cus.length; rw [e7] at gX
    have HE := zmh (zm8 e1 (zm8 e2 (zm8 e3 (zm8 e4 (zm8 e5 (zm8 e6 e7)))))); obtain ⟨a', n', k', rfl⟩ := zab HO.out; clear aa cc hx z1 z2 z3 z4 z5 z6 z7 e1 e2 e3 e4 e5 e6 e7; go_wp2_with (at_builtin; refine Hid.out ?_)
    refine zmh ?_
    refine zaf _ rfl _ _ 52 52 rfl w.heap.size 194 i0 _ 15 224 underlying52 aC az ay aB rfl (by decide) _ m (((lv.take k).filter (zbx c)).flatMap hsc) rfl (HO.out.alloc _) _ 1 [.int .u64 ref, .int .i64 t, .int .u8 hint.toNat, .int .i32 schema, .int .u64 thr, .int .u64 sum, .int .u64 zc, .int .u64 cnt, .slice A1 m1 c1, .slice A2 m2 c2, .slice A3 m3 c3, .slice A4 m4 c4, .slice A5 m5 c5, .slice A6 m6 c6, .slice A7 m7 c7] rfl (zaF underlying52 (znm wr 194 #[.int .u64 ref, .int .i64 t, .int .u8 hint.toNat, .int .i32 schema, .int .u64 thr, .int .u64 sum, .int .u64 zc, .int .u64 cnt, .slice A1 m1 c1, .slice A2 m2 c2, .slice A3 m3 c3, .slice A4 m4 c4, .slice A5 m5 c5, .slice A6 m6 c6, .slice A7 m7 c7]) rfl (by simp [Value.oneCell'])) (by unfold maxLen; omega) (by omega) (by simp; omega) ?_
    intro v' w2 ac ad av
    have HM8 : Hid (((lv.take (k + 1)).filter (zbx c)).length = m + 1) := zmh (by
     rw [zdO (zbx c) lv k _ HX.out HK.out, zmi, HM.out]; rfl)
    have HN8 : Hid (w2.ownsRow w.heap.size 194 15 v' (m + 1) (((lv.take (k + 1)).filter (zbx c)).flatMap hsc)) := zmh (by
     obtain ⟨rfl, rfl, rfl, rfl, rfl, rfl, rfl⟩ := HE.out; rw [zdO (zbx c) lv k _ HX.out HK.out, zmQ, HY.out, zmw, List.flatMap_nil, zmD]
     exact ac)
    have fH := zmh ((HF.out.alloc (.cells #[.int .u64 ref, .int .i64 t, .int .u8 hint.toNat, .int .i32 schema, .int .u64 thr, .int .u64 sum, .int .u64 zc, .int .u64 cnt, .slice A1 m1 c1, .slice A2 m2 c2, .slice A3 m3 c3, .slice A4 m4 c4, .slice A5 m5 c5, .slice A6 m6 c6, .slice A7 m7 c7] 194)).grown ad (fun g hg => .inr ((HO.out.lt g hg).1)))
    clear ac ad av mK mJ mI ra qZ c50 qY qX nY nX ia hN gZ gY gX; go_wp2; go_roundw
    case rel => exact ⟨k + 1, m + 1, by omega, by go_num, by omega, HM8, HN8, fH⟩
    case measure => simp [intOf]; omega
  ·obtain rfl : k = n := by omega
   go_wp2; go_ret; have e1 : lv.take k = lv := zmq (by rw [HN.out]; exact zmt _); have ho := HO.out; have hm := HM.out; rw [e1] at ho hm; exact ⟨_, rfl, by rw [hm]; exact ho, HF.out⟩
end Go.Proofs.YtbkookiigkckdaaGreatDoor
