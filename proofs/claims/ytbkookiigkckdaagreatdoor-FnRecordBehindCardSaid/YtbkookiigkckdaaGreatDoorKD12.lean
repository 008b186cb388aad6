/- Merged. -/
import Derived.Test.YtbkookiigkckdaaGreatDoorKD08
import Derived.Test.YtbkookiigkckdaaGreatDoorKD10
set_option linter.unusedVariables false
set_option linter.unusedSimpArgs false
set_option maxRecDepth 100000
set_option maxHeartbeats 8000000
namespace Go.Proofs.YtbkookiigkckdaaGreatDoor
open Go.RowKit Go.Proofs.Tryz
structure Rhs where
 ref : Nat
 t : Int
 h : Hst
def hsc (p : Rhs × Hsl) : List Value := .int .u64 p.1.ref :: .int .i64 p.1.t :: hic p.1.h p.2
def rhc (p : Rhs × Value) : List Value := [.int .u64 p.1.ref, .int .i64 p.1.t, p.2]
def SlH (P : Nat -> Prop) (w : World) (v : Value) (lv : List (Rhs × Hsl)) : Prop :=
 Sl P w v 15 lv.length (lv.flatMap hsc) /\ ∀ p ∈ lv, SlHs P w p.1.h p.2
theorem SlH.fr {P S : Nat -> Prop} {w w' : World} {v : Value} {lv : List (Rhs × Hsl)} (h : SlH P w v lv) (hf : Fr S w w') (hs : ∀ g, P g -> ¬ S g) : SlH P w' v lv :=
 ⟨h.1.fr hf hs, fun p hp => (h.2 p hp).fr hf hs⟩
theorem zcf {w : World} {g t : Nat} {a0 a1 a2 a3 a4 a5 a6 a7 a8 a9 a10 : Value} (h : Blk w g t #[a0, a1, a2, a3, a4, a5, a6, a7, a8, a9, a10]) :
 w.cell? ⟨g, 0, none⟩ = some a0 /\ w.cell? ⟨g, 1, none⟩ = some a1 /\ w.cell? ⟨g, 2, none⟩ = some a2 /\ w.cell? ⟨g, 3, none⟩ = some a3 /\ w.cell? ⟨g, 4, none⟩ = some a4 /\ w.cell? ⟨g, 5, none⟩ = some a5 /\ w.cell? ⟨g, 6, none⟩ = some a6 /\
 w.cell? ⟨g, 7, none⟩ = some a7 /\ w.cell? ⟨g, 8, none⟩ = some a8 /\ w.cell? ⟨g, 9, none⟩ = some a9 /\ w.cell? ⟨g, 10, none⟩ = some a10 :=
 ⟨h.cell 0, h.cell 1, h.cell 2, h.cell 3, h.cell 4, h.cell 5, h.cell 6, h.cell 7, h.cell 8, h.cell 9, h.cell 10⟩
theorem zgT {w : World} {g t : Nat} {r0 r1 a0 a1 a2 a3 a4 a5 a6 a7 a8 a9 a10 a11 a12 : Value} (h : Blk w g t #[r0, r1, a0, a1, a2, a3, a4, a5, a6, a7, a8, a9, a10, a11, a12]) :
 w.cell? ⟨g, 0, none⟩ = some r0 /\ w.cell? ⟨g, 1, none⟩ = some r1 /\ w.cell? ⟨g, 2, none⟩ = some a0 /\ w.cell? ⟨g, 3, none⟩ = some a1 /\ w.cell? ⟨g, 4, none⟩ = some a2 /\ w.cell? ⟨g, 5, none⟩ = some a3 /\ w.cell? ⟨g, 6, none⟩ = some a4 /\ w.cell? ⟨g, 7, none⟩ = some a5 /\ w.cell? ⟨g, 8, none⟩ = some a6 /\
 w.cell? ⟨g, 9, none⟩ = some a7 /\ w.cell? ⟨g, 10, none⟩ = some a8 /\ w.cell? ⟨g, 11, none⟩ = some a9 /\ w.cell? ⟨g, 12, none⟩ = some a10 /\ w.cell? ⟨g, 13, none⟩ = some a11 /\ w.cell? ⟨g, 14, none⟩ = some a12 :=
 ⟨h.cell 0, h.cell 1, h.cell 2, h.cell 3, h.cell 4, h.cell 5, h.cell 6, h.cell 7, h.cell 8, h.cell 9, h.cell 10, h.cell 11, h.cell 12, h.cell 13, h.cell 14⟩
theorem zj6 : (prog.info? 290).map (fun i => (i.zero, i.size, i.bytes)) = some (some (.agg #[.int .u64 0, .int .i64 0, .pointer none]), 3, 24) := by kernel_rfl
def OwnHW (base : Nat) (w : World) (v : Value) (lo : List (Rhs × Value)) : Prop :=
 w.ownsRow base 290 3 v lo.length (lo.flatMap rhc) /\ ∀ p ∈ lo, OwnW base w p.1.h p.2
theorem OwnHW.nil (base : Nat) (w : World) : OwnHW base w (.slice none 0 0) [] := ⟨zmv _ _ _ _, fun p hp => by cases hp⟩
theorem OwnHW.fr {S : Nat -> Prop} {base : Nat} {w w' : World} {v : Value} {lo : List (Rhs × Value)} (h : OwnHW base w v lo) (hf : Fr S w w') (hs : ∀ k, base <= k -> k < w.heap.size -> ¬ S k) : OwnHW base w' v lo :=
 ⟨zai h.1 hf (fun g hg => hs g (h.1.lt g hg).1 (zaq h.1 hg)), fun p hp => (h.2 p hp).fr hf hs⟩
theorem OwnHW.push {base : Nat} {w w2 : World} {v v' : Value} {lo : List (Rhs × Value)} {p : Rhs × Value} (h : OwnHW base w v lo) (hp : OwnW base w p.1.h p.2) (hg : w.grownBy w2 v.ownBlock)
 (ho : w2.ownsRow base 290 3 v' (lo.length + 1) (lo.flatMap rhc ++ rhc p)) : OwnHW base w2 v' (lo ++ [p]) := by
 refine ⟨by simpa using ho, fun q hq => ?_⟩; rcases zmX.1 hq with hq | hq
 ·exact (h.2 q hq).grown h.1 hg (by decide) (by decide) (by decide) (by decide)
 ·rw [zmY] at hq
  subst hq; exact hp.grown h.1 hg (by decide) (by decide) (by decide) (by decide)
def RdHW (P : Nat -> Prop) (w : World) (v : Value) (lo : List (Rhs × Value)) : Prop :=
 Sl P w v 3 lo.length (lo.flatMap rhc) /\ ∀ p ∈ lo, RdW P w p.1.h p.2
theorem OwnHW.rd {base : Nat} {w : World} {v : Value} {lo : List (Rhs × Value)} (h : OwnHW base w v lo) : RdHW (fun g => base <= g /\ g < w.heap.size) w v lo :=
 ⟨(zno h.1).mono (fun g hg => ⟨(h.1.lt g hg).1, zaq h.1 hg⟩), fun p hp => (h.2 p hp).rd⟩
def RefHWEnds (w : World) (l : List Rhs) (r : Ending) (w' : World) : Prop :=
 ∃ v lo, r = .returned v /\ lo.map Prod.fst = l /\ OwnHW w.heap.size w' v lo /\ z_F w w'
theorem zj5 : (prog.info? 298).map (fun i => (i.zero, i.size, i.bytes)) = some (some (.agg #[.int .u64 0, .int .i64 0, .pointer none]), 3, 24) := by kernel_rfl
def OwnHF (base : Nat) (w : World) (v : Value) (lo : List (Rhs × Value)) : Prop :=
 w.ownsRow base 298 3 v lo.length (lo.flatMap rhc) /\ ∀ p ∈ lo, OwnF base w p.1.h p.2
theorem OwnHF.nil (base : Nat) (w : World) : OwnHF base w (.slice none 0 0) [] := ⟨zmv _ _ _ _, fun p hp => by cases hp⟩
theorem OwnHF.fr {S : Nat -> Prop} {base : Nat} {w w' : World} {v : Value} {lo : List (Rhs × Value)} (h : OwnHF base w v lo) (hf : Fr S w w') (hs : ∀ k, base <= k -> k < w.heap.size -> ¬ S k) : OwnHF base w' v lo :=
 ⟨zai h.1 hf (fun g hg => hs g (h.1.lt g hg).1 (zaq h.1 hg)), fun p hp => (h.2 p hp).fr hf hs⟩
theorem OwnHF.push {base : Nat} {w w2 : World} {v v' : Value} {lo : List (Rhs × Value)} {p : Rhs × Value} (h : OwnHF base w v lo) (hp : OwnF base w p.1.h p.2) (hg : w.grownBy w2 v.ownBlock)
 (ho : w2.ownsRow base 298 3 v' (lo.length + 1) (lo.flatMap rhc ++ rhc p)) : OwnHF base w2 v' (lo ++ [p]) := by
 refine ⟨by simpa using ho, fun q hq => ?_⟩; rcases zmX.1 hq with hq | hq
 ·exact (h.2 q hq).grown h.1 hg (by decide) (by decide) (by decide) (by decide)
 ·rw [zmY] at hq
  subst hq; exact hp.grown h.1 hg (by decide) (by decide) (by decide) (by decide)
def RdHF (P : Nat -> Prop) (w : World) (v : Value) (lo : List (Rhs × Value)) : Prop :=
 Sl P w v 3 lo.length (lo.flatMap rhc) /\ ∀ p ∈ lo, RdF P w p.1.h p.2
theorem OwnHF.rd {base : Nat} {w : World} {v : Value} {lo : List (Rhs × Value)} (h : OwnHF base w v lo) : RdHF (fun g => base <= g /\ g < w.heap.size) w v lo :=
 ⟨(zno h.1).mono (fun g hg => ⟨(h.1.lt g hg).1, zaq h.1 hg⟩), fun p hp => (h.2 p hp).rd⟩
def RefHFEnds (w : World) (l : List Rhs) (r : Ending) (w' : World) : Prop :=
 ∃ v lo, r = .returned v /\ lo.map Prod.fst = l /\ OwnHF w.heap.size w' v lo /\ z_F w w'
theorem zbs : (∀ (_ : True) (P : Nat -> Prop) (v : Value) (lv : List (Rhs × Hsl)) (w : World) (h : SlH P w v lv) (hl : lv.length <= 1099511627776) (aP : ∀ p ∈ lv, p.1.h.few 1099511627776),
 Calls prog 84 #[v] w (RefHWEnds w (lv.map Prod.fst))) /\ (∀ (_ : True) (P : Nat -> Prop) (v : Value) (lv : List (Rhs × Hsl)) (w : World) (h : SlH P w v lv) (hl : lv.length <= 1099511627776) (aP : ∀ p ∈ lv, p.1.h.few 1099511627776),
 Calls prog 87 #[v] w (RefHFEnds w (lv.map Prod.fst))) := by
 refine ⟨fun ag P v lv w h hl aP => ?_, fun bU P v lv w h hl aP => ?_⟩; all_goals
  have mixed : prog.follows .mixedOrders = true := by kernel_rfl
  obtain ⟨⟨A, c, rfl, ai, aQ, hr⟩, hin⟩ := h; obtain ⟨n, hn⟩ := exE lv.length; rw [hn] at hr aQ hl ⊢; have HN := zmh hn; have HR := zmh hr; have HI := zmh hin
  have gz := zmh aP
  first | (guard_hyp ag; obtain ⟨i0, aC, az, ay, aB⟩ := info_parts zj6) | (obtain ⟨i0, aC, az, ay, aB⟩ := info_parts zj5)
  clear hn hr ai hin aP
  first | (guard_hyp ag; go_enter func84, ntmps84) | (go_enter func87, ntmps87)
  go_wp2
  first | (guard_hyp ag; go_loopw [2, 7] (fun v i wr => ∃ (k : Nat) (lo : List (Rhs × Value)), k <= n /\ i = .int .i64 k /\ Hid (lo.map Prod.fst = (lv.take k).map Prod.fst) /\ Hid (lo.length = k) /\ Hid (OwnHW w.heap.size wr v lo) /\ Hid (z_F w wr)) (fun _ i _ => n - (intOf i).toNat)) | (go_loopw [2, 7] (fun v i wr => ∃ (k : Nat) (lo : List (Rhs × Value)), k <= n /\ i = .int .i64 k /\ Hid (lo.map Prod.fst = (lv.take k).map Prod.fst) /\ Hid (lo.length = k) /\ Hid (OwnHF w.heap.size wr v lo) /\ Hid (z_F w wr)) (fun _ i _ => n - (intOf i).toNat))
  case atStart => first | (guard_hyp ag; exact ⟨0, [], zms _, rfl, zmh rfl, zmh rfl, zmh (OwnHW.nil _ _), zmh (znl _ _)⟩) | (exact ⟨0, [], zms _, rfl, zmh rfl, zmh rfl, zmh (OwnHF.nil _ _), zmh (znl _ _)⟩)
  case round =>
   obtain ⟨k, lo, hk, rfl, HM, it, HO, HF⟩ := hrel; by_cases hlt : k < n
   ·obtain ⟨g, off, rfl, _, aa⟩ := HR.out (by omega)
    obtain ⟨x, hx⟩ : ∃ x, lv[k]? = some x := ⟨_, zmj (by rw [HN.out]; exact hlt)⟩; have cc : ∀ j, j < 15 -> ∀ u, (hsc x)[j]? = some u -> wr.cell? ⟨g, off + (k * 15 + j), none⟩ = some u := fun j hj u hu => by
     have := aa (k * 15 + j) u (by rw [zgE 15 hsc (fun _ => rfl) lv k x hx j hj]; exact hu); rw [HF.out.cell (p := ⟨g, off + (k * 15 + j), none⟩) (zmo w _ this) id]; exact this
    have mK : wr.cell? ⟨g, off + k * 15, none⟩ = some (.int .u64 x.1.ref) := cc 0 (by omega) _ rfl; have mJ : wr.cell? ⟨g, off + k * 15 + 1, none⟩ = some (.int .i64 x.1.t) := cc 1 (by omega) _ rfl; have mI : wr.cell? ⟨g, off + k * 15 + 2, none⟩ = some (.int .u8 x.1.h.hint.toNat) := cc 2 (by omega) _ rfl
    have ra : wr.cell? ⟨g, off + k * 15 + 3, none⟩ = some (.int .i32 x.1.h.schema) := cc 3 (by omega) _ rfl; have qZ : wr.cell? ⟨g, off + k * 15 + 4, none⟩ = some (.int .u64 x.1.h.thr) := cc 4 (by omega) _ rfl; have c50 : wr.cell? ⟨g, off + k * 15 + 5, none⟩ = some (.int .u64 x.1.h.sum) := cc 5 (by omega) _ rfl
    have qY : wr.cell? ⟨g, off + k * 15 + 6, none⟩ = some (.int .u64 x.1.h.zc) := cc 6 (by omega) _ rfl; have qX : wr.cell? ⟨g, off + k * 15 + 7, none⟩ = some (.int .u64 x.1.h.cnt) := cc 7 (by omega) _ rfl; have nY : wr.cell? ⟨g, off + k * 15 + 8, none⟩ = some x.2.p := cc 8 (by omega) _ rfl; have nX : wr.cell? ⟨g, off + k * 15 + 9, none⟩ = some x.2.n := cc 9 (by omega) _ rfl
    have ia : wr.cell? ⟨g, off + k * 15 + 10, none⟩ = some x.2.u := cc 10 (by omega) _ rfl; have hN : wr.cell? ⟨g, off + k * 15 + 11, none⟩ = some x.2.d := cc 11 (by omega) _ rfl; have gZ : wr.cell? ⟨g, off + k * 15 + 12, none⟩ = some x.2.fu := cc 12 (by omega) _ rfl; have gY : wr.cell? ⟨g, off + k * 15 + 13, none⟩ = some x.2.fd := cc 13 (by omega) _ rfl
    have gX : wr.cell? ⟨g, off + k * 15 + 14, none⟩ = some x.2.c := cc 14 (by omega) _ rfl; have aF := zmp hx; have aY := HI.out x aF; have bF := gz.out x aF; obtain ⟨⟨ref, t, ⟨hint, schema, thr, sum, zc, cnt, pos, neg, ups, downs, fups, fdowns, cus⟩⟩, ⟨sp, sn, su, sd, lX, lY, sc⟩⟩ := x
    simp only [] at mK mJ mI ra qZ c50 qY qX nY nX ia hN gZ gY gX aY bF; have ny := aY; obtain ⟨z1, z2, z3, z4, z5, z6, z7⟩ := ny; simp only [] at z1 z2 z3 z4 z5 z6 z7; obtain ⟨A1, c1, rfl⟩ := z1.shape; obtain ⟨A2, c2, rfl⟩ := z2.shape; obtain ⟨A3, c3, rfl⟩ := z3.shape; obtain ⟨A4, c4, rfl⟩ := z4.shape; obtain ⟨A5, c5, rfl⟩ := z5.shape; obtain ⟨A6, c6, rfl⟩ := z6.shape
    obtain ⟨A7, c7, rfl⟩ := z7.shape; clear z1 z2 z3 z4 z5 z6 z7; have bD := HF.out.size
    first | (guard_hyp ag; have hC := fun W (hW : z_F w W) => whole_any P ⟨hint, schema, thr, sum, zc, cnt, pos, neg, ups, downs, fups, fdowns, cus⟩ _ W (aY.fr hW z_i) bF) | (have hC := fun W (hW : z_F w W) => zl5 P ⟨hint, schema, thr, sum, zc, cnt, pos, neg, ups, downs, fups, fdowns, cus⟩ _ W (aY.fr hW z_i) bF)
    simp only [hic] at hC; obtain ⟨n1, e1⟩ := exE pos.length; obtain ⟨n2, e2⟩ := exE neg.length; obtain ⟨n3, e3⟩ := exE ups.length; obtain ⟨n4, e4⟩ := exE downs.length; obtain ⟨n5, e5⟩ := exE fups.length; obtain ⟨n6, e6⟩ := exE fdowns.length; obtain ⟨n7, e7⟩ := exE cus.length; obtain ⟨hh, mH⟩ : ∃ hh : Hst, hh = ⟨hint, schema, thr, sum, zc, cnt, pos, neg, ups, downs, fups, fdowns, cus⟩ := ⟨_, rfl⟩
    rw [<- mH] at hC; rw [e1] at hC nY; rw [e2] at hC nX; rw [e3] at hC ia; rw [e4] at hC hN; rw [e5] at hC gZ; rw [e6] at hC gY; rw [e7] at hC gX; have HX := zmh hx; have HEH := zmh mH; have HC := zmh hC; have HEE := zmh (zm8 e1 (zm8 e2 (zm8 e3 (zm8 e4 (zm8 e5 (zm8 e6 e7)))))); obtain ⟨a', n', k', rfl⟩ := zab HO.out.1
    clear aa cc hx aF hC mH e1 e2 e3 e4 e5 e6 e7 aY bF; go_wp2_with fail
    have cO := zmh (znm wr 194 #[.int .u64 ref, .int .i64 t, .int .u8 hint.toNat, .int .i32 schema, .int .u64 thr, .int .u64 sum, .int .u64 zc, .int .u64 cnt, .slice A1 n1 c1, .slice A2 n2 c2, .slice A3 n3 c3, .slice A4 n4 c4, .slice A5 n5 c5, .slice A6 n6 c6, .slice A7 n7 c7])
    have F8 := zmh ((HF.out.alloc (.cells #[.int .u64 ref, .int .i64 t, .int .u8 hint.toNat, .int .i32 schema, .int .u64 thr, .int .u64 sum, .int .u64 zc, .int .u64 cnt, .slice A1 n1 c1, .slice A2 n2 c2, .slice A3 n3 c3, .slice A4 n4 c4, .slice A5 n5 c5, .slice A6 n6 c6, .slice A7 n7 c7] 194)).drew); have rP := it.out; have jE : lo.length <= 1099511627776 := by omega
    obtain ⟨s0, s1, s2, s3, s4, s5, s6, s7, s8, s9, iz, pm, pl, s13, s14⟩ := zgT cO.out.drew
    go_region_held3 (fun w' => w'.cell? ⟨wr.heap.size, 0, none⟩ = some (.int .u64 ref) /\ w'.cell? ⟨wr.heap.size, 1, none⟩ = some (.int .i64 t) /\ w'.cell? ⟨wr.heap.size, 2, none⟩ = some (.int .u8 hint.toNat) /\ w'.cell? ⟨wr.heap.size, 3, none⟩ = some (.int .i32 schema) /\ w'.cell? ⟨wr.heap.size, 4, none⟩ = some (.int .u64 thr) /\ w'.cell? ⟨wr.heap.size, 5, none⟩ = some (.int .u64 sum) /\ w'.cell? ⟨wr.heap.size, 6, none⟩ = some (.int .u64 zc) /\ w'.cell? ⟨wr.heap.size, 7, none⟩ = some (.int .u64 cnt) /\ w'.cell? ⟨wr.heap.size, 8, none⟩ = some (.slice A1 n1 c1) /\ w'.cell? ⟨wr.heap.size, 9, none⟩ = some (.slice A2 n2 c2) /\ w'.cell? ⟨wr.heap.size, 10, none⟩ = some (.slice A3 n3 c3) /\ w'.cell? ⟨wr.heap.size, 11, none⟩ = some (.slice A4 n4 c4) /\ w'.cell? ⟨wr.heap.size, 12, none⟩ = some (.slice A5 n5 c5) /\ w'.cell? ⟨wr.heap.size, 13, none⟩ = some (.slice A6 n6 c6) /\ w'.cell? ⟨wr.heap.size, 14, none⟩ = some (.slice A7 n7 c7))
     ((first | exact zgT ef.out | exact zgT (cC.out.alloc _) | exact zgT cC.out | exact zgT cO.out.drew | go_keep))
     ((first
       | (go_at_call 175; refine (HC.out _ F8.out).mono ?_; rintro r5 w5 ⟨v5, rfl, es, ap⟩; have HP5 := es; obtain ⟨g5, q5, rfl, _⟩ := HP5; have cC := zmh (cO.out.drew.fr ap id); have F5 := zmh (F8.out.same ap); have G5 := zmh ((((znl (fun _ => False) wr).alloc (.cells #[.int .u64 ref, .int .i64 t, .int .u8 hint.toNat, .int .i32 schema, .int .u64 thr, .int .u64 sum, .int .u64 zc, .int .u64 cnt, .slice A1 n1 c1, .slice A2 n2 c2, .slice A3 n3 c3, .slice A4 n4 c4, .slice A5 n5 c5, .slice A6 n6 c6, .slice A7 n7 c7] 194)).drew).same ap); have O5 := zmh (HO.out.fr G5.out (fun _ _ _ e => e)); have j3 := zmh (es.mono F8.out.size); have lZ := F5.out.size)
       | (go_at_call 178; refine (HC.out _ F8.out).mono ?_; rintro r5 w5 ⟨v5, rfl, es, ap⟩; have HP5 := es; obtain ⟨g5, q5, rfl, _⟩ := HP5; have cC := zmh (cO.out.drew.fr ap id); have F5 := zmh (F8.out.same ap); have G5 := zmh ((((znl (fun _ => False) wr).alloc (.cells #[.int .u64 ref, .int .i64 t, .int .u8 hint.toNat, .int .i32 schema, .int .u64 thr, .int .u64 sum, .int .u64 zc, .int .u64 cnt, .slice A1 n1 c1, .slice A2 n2 c2, .slice A3 n3 c3, .slice A4 n4 c4, .slice A5 n5 c5, .slice A6 n6 c6, .slice A7 n7 c7] 194)).drew).same ap); have O5 := zmh (HO.out.fr G5.out (fun _ _ _ e => e)); have j3 := zmh (es.mono F8.out.size); have lZ := F5.out.size)
       | (refine zat _ (by rfl) _ _ 177 177 (by rfl) w.heap.size 290 i0 _ 3 24 underlying177 aC az ay aB rfl (by decide) (.slice a' n' k') lo.length (lo.flatMap rhc) (by rfl) (O5.out.1.alloc _) _ 1 [.int .u64 ref, .int .i64 t, .pointer (some ⟨g5, 0, none⟩)] (by rfl) (zaF underlying177 (znm w5 290 #[.int .u64 ref, .int .i64 t, .pointer (some ⟨g5, 0, none⟩)]) rfl (by simp [Value.oneCell'])) (by unfold maxLen; omega) (by omega) (by simp; omega) ?_; intro v' w2 ac ad av; have ef := zmh ((cC.out.alloc (.cells #[.int .u64 ref, .int .i64 t, .pointer (some ⟨g5, 0, none⟩)] 290)).grown ad (fun e => zm1 _ (zaq HO.out.1 e.symm))))
       | (refine zat _ (by rfl) _ _ 182 182 (by rfl) w.heap.size 298 i0 _ 3 24 underlying182 aC az ay aB rfl (by decide) (.slice a' n' k') lo.length (lo.flatMap rhc) (by rfl) (O5.out.1.alloc _) _ 1 [.int .u64 ref, .int .i64 t, .pointer (some ⟨g5, 0, none⟩)] (by rfl) (zaF underlying182 (znm w5 298 #[.int .u64 ref, .int .i64 t, .pointer (some ⟨g5, 0, none⟩)]) rfl (by simp [Value.oneCell'])) (by unfold maxLen; omega) (by omega) (by simp; omega) ?_; intro v' w2 ac ad av; have ef := zmh ((cC.out.alloc (.cells #[.int .u64 ref, .int .i64 t, .pointer (some ⟨g5, 0, none⟩)] 298)).grown ad (fun e => zm1 _ (zaq HO.out.1 e.symm))))))
    first
     | guard_hyp ag
       have aU : OwnHW w.heap.size w2 v' (lo ++ [(⟨ref, t, hh⟩, .pointer (some ⟨g5, 0, none⟩))]) :=
        OwnHW.push (p := (⟨ref, t, hh⟩, .pointer (some ⟨g5, 0, none⟩))) (O5.out.fr ((znl (fun _ => False) w5).alloc (.cells #[.int .u64 ref, .int .i64 t, .pointer (some ⟨g5, 0, none⟩)] 290)) (fun _ _ _ e => e)) (j3.out.fr ((znl (fun _ => False) w5).alloc (.cells #[.int .u64 ref, .int .i64 t, .pointer (some ⟨g5, 0, none⟩)] 290)) (fun _ _ _ e => e)) ad ac
     | have aU : OwnHF w.heap.size w2 v' (lo ++ [(⟨ref, t, hh⟩, .pointer (some ⟨g5, 0, none⟩))]) :=
        OwnHF.push (p := (⟨ref, t, hh⟩, .pointer (some ⟨g5, 0, none⟩))) (O5.out.fr ((znl (fun _ => False) w5).alloc (.cells #[.int .u64 ref, .int .i64 t, .pointer (some ⟨g5, 0, none⟩)] 298)) (fun _ _ _ e => e)) (j3.out.fr ((znl (fun _ => False) w5).alloc (.cells #[.int .u64 ref, .int .i64 t, .pointer (some ⟨g5, 0, none⟩)] 298)) (fun _ _ _ e => e)) ad ac
    have bN : z_F w w2 := (F5.out.alloc _).grown ad (fun g hg => .inr ((HO.out.1.lt g hg).1)); have c9 : (lo ++ [((⟨ref, t, hh⟩ : Rhs), Value.pointer (some ⟨g5, 0, none⟩))]).map Prod.fst = (lv.take (k + 1)).map Prod.fst := by
     rw [zmS, HX.out, zmH, zmH, HM.out, HEH.out]; rfl
    have cG : (lo ++ [((⟨ref, t, hh⟩ : Rhs), Value.pointer (some ⟨g5, 0, none⟩))]).length = k + 1 := by rw [zmi, it.out]; rfl
    have NO := zmh aU; have NF := zmh bN; have NM := zmh c9; have NN := zmh cG; clear aU bN c9 cG ac ad av mK mJ mI ra qZ c50 qY qX nY nX ia hN gZ gY gX s0 s1 s2 s3 s4 s5 s6 s7 s8 s9 iz pm pl s13 s14 ap ef O5 j3 es HC; go_wp2; go_roundw
    case rel => exact ⟨k + 1, _, by omega, by go_num, NM, NN, NO, NF⟩
    case measure => simp [intOf]; omega
   ·go_wp2
    go_ret; obtain rfl : k = n := by omega
    refine ⟨_, lo, rfl, ?_, HO.out, HF.out⟩; rw [HM.out, <- HN.out, zmI]
theorem zcv : type_of% (zbs.1 trivial) := zbs.1 trivial
theorem zdG : type_of% (zbs.2 trivial) := zbs.2 trivial
theorem zfh (s : ByteArray) (r : List UInt8) (h : s.size < 18446744073709551616) : (gUv (some (zaN s ++ r))).1 = s.size := by
 unfold zaN; rw [zmk, zez s.size h]
theorem zgr (s : Mta) (hs : s.wf) (r : List UInt8) : zeK (some (zb3 s ++ r)) /\ zbe (some (zb3 s ++ r)) = (s, some r) := by
 obtain ⟨w1, w2, w3⟩ := hs; obtain ⟨R6, h6⟩ := exE (zaN s.help ++ r); obtain ⟨R5, h5⟩ := exE (zaN zjo ++ R6); obtain ⟨R4, h4⟩ := exE (zaN s.unit ++ R5); obtain ⟨R3, h3⟩ := exE (zaN zjn ++ R4); obtain ⟨R2, h2⟩ := exE (Lib.uvarint 2 ++ R3); have aS : zb3 s ++ r = Lib.uvarint s.ref ++ (s.ty :: R2) := by
  rw [<- h2, <- h3, <- h4, <- h5, <- h6]; unfold zb3 zjn zjo; simp only [zmk, List.cons_append]
 rw [aS]; obtain ⟨S, hS⟩ : ∃ S : St, some (Lib.uvarint s.ref ++ (s.ty :: R2)) = S := ⟨_, rfl⟩; rw [hS]; have a1 : gUv S = (s.ref, some (s.ty :: R2)) := by rw [<- hS]; exact zez s.ref w1 _
 have a2 : zaD (gUv S).2 = (s.ty.toNat, some R2) := by rw [a1]; rfl
 have a3 : gUv (zaD (gUv S).2).2 = (2, some R3) := by rw [a2, <- h2]; exact zez 2 (by omega) R3
 have n1 : mtaN S = 2 := zm7 Prod.fst a3; have n2 : ziP S = some R3 := zm7 Prod.snd a3; have b1 : zce (some R3) = (zjn, some R4) := by rw [<- h3]; exact zdL zjn R4 (by decide)
 have b2 : zce (some R4) = (s.unit, some R5) := by rw [<- h4]; exact zdL s.unit R5 (by omega)
 have b3 : zce (some R5) = (zjo, some R6) := by rw [<- h5]; exact zdL zjo R6 (by decide)
 have b4 : zce (some R6) = (s.help, some r) := by rw [<- h6]; exact zdL s.help r (by omega)
 have f0 : zdM (some R3) 0 = ((⟨#[]⟩, ⟨#[]⟩), some R3) := rfl; have f1 : zdM (some R3) 1 = ((s.unit, ⟨#[]⟩), some R5) := by
  show gFld (zdM (some R3) 0) = _; rw [f0]; unfold gFld; simp only []; rw [b1]; simp only [if_true]; rw [b2]
 have aN : ¬ zjo = zjn := by decide
 have f2 : zdM (some R3) 2 = ((s.unit, s.help), some r) := by
  show gFld (zdM (some R3) 1) = _; rw [f1]; unfold gFld; simp only []; rw [b3]; simp only [znd aN, if_true]; rw [b4]
 refine ⟨⟨by rw [n1]; omega, fun k hk => ?_⟩, ?_⟩
 ·rw [n1] at hk
  rw [n2]; obtain rfl | rfl : k = 0 ∨ k = 1 := by omega
  ·rw [f0]
   show (gUv (some R3)).1 < _ /\ (gUv (zce (some R3)).2).1 < _; rw [b1]; show (gUv (some R3)).1 < _ /\ (gUv (some R4)).1 < _; rw [<- h3, zfh _ _ (by decide), <- h4, zfh _ _ (by omega)]; exact ⟨by decide, by omega⟩
  ·rw [f1]
   show (gUv (some R5)).1 < _ /\ (gUv (zce (some R5)).2).1 < _; rw [b3]; show (gUv (some R5)).1 < _ /\ (gUv (some R6)).1 < _; rw [<- h5, zfh _ _ (by decide), <- h6, zfh _ _ (by omega)]; exact ⟨by decide, by omega⟩
 ·unfold zbe
  rw [n1, n2, f2, a2, a1]; simp
theorem zlQ (s : Mta) : ∃ c r, zb3 s = c :: r := by
 have := Lib.uvarint_pos s.ref; unfold zb3; rcases h : Lib.uvarint s.ref with _ | ⟨c, t⟩
 ·rw [h] at this; simp at this
 ·exact ⟨c, _, rfl⟩
theorem zjd (l : List Mta) (hl : ∀ s ∈ l, s.wf) : zaU (zbJ l) = some l := by
 unfold zaU zbJ; exact zej 6 zbe zb3 Mta.wf (fun x r hx => (zgr x hx r).2) zlQ l hl
def GoodM (st : St) : Prop := st = none ∨ ∃ l : List Mta, (∀ s ∈ l, s.wf) /\ st = some (l.flatMap zb3)
theorem zlu (l : List UInt8) (h : GoodM (some l)) : zeK (some l) /\ GoodM (zbe (some l)).2 := by
 rcases h with h | ⟨l', fU, e⟩
 ·cases h
 ·injection e with e
  subst e; rcases l' with _ | ⟨s, l'⟩
  ·show zeK (some []) /\ GoodM (zbe (some [])).2
   have e0 : mtaN (some []) = 0 := rfl; exact ⟨⟨by rw [e0]; omega, fun k hk => by rw [e0] at hk; omega⟩, .inl rfl⟩
  ·obtain ⟨h1, h2⟩ := zgr s (fU s (by simp)) (l'.flatMap zb3)
   rw [zmw]; exact ⟨h1, .inr ⟨l', fun x hx => fU x (by simp [hx]), by rw [h2]⟩⟩
theorem goodM_rec (l : List Mta) (hl : ∀ s ∈ l, s.wf) (r : List UInt8) (e : zbJ l = 6 :: r) : GoodM (some r) := by
 have e2 : 6 :: l.flatMap zb3 = 6 :: r := e; injection e2 with _ e2; exact .inr ⟨l, hl, by rw [e2]⟩
end Go.Proofs.YtbkookiigkckdaaGreatDoor
