/- Texts of this seat, merged and shortened. -/
import Derived.Test.YtbkookiigkckdaaGreatDoorK09
set_option linter.unusedVariables false
set_option linter.unusedSimpArgs false
set_option maxRecDepth 100000
set_option maxHeartbeats 8000000
namespace Go.Proofs.YtbkookiigkckdaaGreatDoor
open Go.RowKit Go.Proofs.Tryz
structure Rhs where
 ref : Nat
 t : Int
 h : Hst
def hsc (p : Rhs × Hsl) : List Value := .int .u64 p.1.ref :: .int .i64 p.1.t :: hic p.1.h p.2
def rhc (p : Rhs × Value) : List Value := [.int .u64 p.1.ref, .int .i64 p.1.t, p.2]
def SlH (P : Nat -> Prop) (w : World) (v : Value) (lv : List (Rhs × Hsl)) : Prop :=
 Sl P w v 15 lv.length (lv.flatMap hsc) /\ ∀ p ∈ lv, SlHs P w p.1.h p.2
theorem SlH.fr {P S : Nat -> Prop} {w w' : World} {v : Value} {lv : List (Rhs × Hsl)} (h : SlH P w v lv) (hf : Fr S w w') (hs : ∀ g, P g -> ¬ S g) : SlH P w' v lv :=
 ⟨h.1.fr hf hs, fun p hp => (h.2 p hp).fr hf hs⟩
theorem zco {w : World} {g t : Nat} {a0 a1 a2 a3 a4 a5 a6 a7 a8 a9 a10 : Value} (h : Blk w g t #[a0, a1, a2, a3, a4, a5, a6, a7, a8, a9, a10]) :
 w.cell? ⟨g, 0, none⟩ = some a0 /\ w.cell? ⟨g, 1, none⟩ = some a1 /\ w.cell? ⟨g, 2, none⟩ = some a2 /\ w.cell? ⟨g, 3, none⟩ = some a3 /\ w.cell? ⟨g, 4, none⟩ = some a4 /\ w.cell? ⟨g, 5, none⟩ = some a5 /\ w.cell? ⟨g, 6, none⟩ = some a6 /\
 w.cell? ⟨g, 7, none⟩ = some a7 /\ w.cell? ⟨g, 8, none⟩ = some a8 /\ w.cell? ⟨g, 9, none⟩ = some a9 /\ w.cell? ⟨g, 10, none⟩ = some a10 :=
 ⟨h.cell 0, h.cell 1, h.cell 2, h.cell 3, h.cell 4, h.cell 5, h.cell 6, h.cell 7, h.cell 8, h.cell 9, h.cell 10⟩
theorem zgP {w : World} {g t : Nat} {r0 r1 a0 a1 a2 a3 a4 a5 a6 a7 a8 a9 a10 a11 a12 : Value} (h : Blk w g t #[r0, r1, a0, a1, a2, a3, a4, a5, a6, a7, a8, a9, a10, a11, a12]) :
 w.cell? ⟨g, 0, none⟩ = some r0 /\ w.cell? ⟨g, 1, none⟩ = some r1 /\ w.cell? ⟨g, 2, none⟩ = some a0 /\ w.cell? ⟨g, 3, none⟩ = some a1 /\ w.cell? ⟨g, 4, none⟩ = some a2 /\ w.cell? ⟨g, 5, none⟩ = some a3 /\ w.cell? ⟨g, 6, none⟩ = some a4 /\ w.cell? ⟨g, 7, none⟩ = some a5 /\ w.cell? ⟨g, 8, none⟩ = some a6 /\
 w.cell? ⟨g, 9, none⟩ = some a7 /\ w.cell? ⟨g, 10, none⟩ = some a8 /\ w.cell? ⟨g, 11, none⟩ = some a9 /\ w.cell? ⟨g, 12, none⟩ = some a10 /\ w.cell? ⟨g, 13, none⟩ = some a11 /\ w.cell? ⟨g, 14, none⟩ = some a12 :=
 ⟨h.cell 0, h.cell 1, h.cell 2, h.cell 3, h.cell 4, h.cell 5, h.cell 6, h.cell 7, h.cell 8, h.cell 9, h.cell 10, h.cell 11, h.cell 12, h.cell 13, h.cell 14⟩
theorem zjU : (prog.info? 290).map (fun i => (i.zero, i.size, i.bytes)) = some (some (.agg #[.int .u64 0, .int .i64 0, .pointer none]), 3, 24) := by kernel_rfl
def OwnHW (base : Nat) (w : World) (v : Value) (lo : List (Rhs × Value)) : Prop :=
 w.ownsRow base 290 3 v lo.length (lo.flatMap rhc) /\ ∀ p ∈ lo, OwnW base w p.1.h p.2
theorem OwnHW.nil (base : Nat) (w : World) : OwnHW base w (.slice none 0 0) [] := ⟨zl0 _ _ _ _, fun p hp => by cases hp⟩
theorem OwnHW.fr {S : Nat -> Prop} {base : Nat} {w w' : World} {v : Value} {lo : List (Rhs × Value)} (h : OwnHW base w v lo) (hf : Fr S w w') (hs : ∀ k, base <= k -> k < w.heap.size -> ¬ S k) : OwnHW base w' v lo :=
 ⟨zai h.1 hf (fun g hg => hs g (h.1.lt g hg).1 (zar h.1 hg)), fun p hp => (h.2 p hp).fr hf hs⟩
theorem OwnHW.push {base : Nat} {w w2 : World} {v v' : Value} {lo : List (Rhs × Value)} {p : Rhs × Value} (h : OwnHW base w v lo) (hp : OwnW base w p.1.h p.2) (hg : w.grownBy w2 v.ownBlock)
 (ho : w2.ownsRow base 290 3 v' (lo.length + 1) (lo.flatMap rhc ++ rhc p)) : OwnHW base w2 v' (lo ++ [p]) := by
 refine ⟨by simpa using ho, fun q hq => ?_⟩; rcases zms.1 hq with hq | hq
 ·exact (h.2 q hq).grown h.1 hg (by decide) (by decide) (by decide) (by decide)
 ·rw [zmt] at hq
  subst hq; exact hp.grown h.1 hg (by decide) (by decide) (by decide) (by decide)
def RdHW (P : Nat -> Prop) (w : World) (v : Value) (lo : List (Rhs × Value)) : Prop :=
 Sl P w v 3 lo.length (lo.flatMap rhc) /\ ∀ p ∈ lo, RdW P w p.1.h p.2
theorem OwnHW.rd {base : Nat} {w : World} {v : Value} {lo : List (Rhs × Value)} (h : OwnHW base w v lo) : RdHW (fun g => base <= g /\ g < w.heap.size) w v lo :=
 ⟨(zmU h.1).mono (fun g hg => ⟨(h.1.lt g hg).1, zar h.1 hg⟩), fun p hp => (h.2 p hp).rd⟩
def RefHWEnds (w : World) (l : List Rhs) (r : Ending) (w' : World) : Prop :=
 ∃ v lo, r = .returned v /\ lo.map Prod.fst = l /\ OwnHW w.heap.size w' v lo /\ Fr (fun _ => False) w w'
theorem zjT : (prog.info? 298).map (fun i => (i.zero, i.size, i.bytes)) = some (some (.agg #[.int .u64 0, .int .i64 0, .pointer none]), 3, 24) := by kernel_rfl
def OwnHF (base : Nat) (w : World) (v : Value) (lo : List (Rhs × Value)) : Prop :=
 w.ownsRow base 298 3 v lo.length (lo.flatMap rhc) /\ ∀ p ∈ lo, OwnF base w p.1.h p.2
theorem OwnHF.nil (base : Nat) (w : World) : OwnHF base w (.slice none 0 0) [] := ⟨zl0 _ _ _ _, fun p hp => by cases hp⟩
theorem OwnHF.fr {S : Nat -> Prop} {base : Nat} {w w' : World} {v : Value} {lo : List (Rhs × Value)} (h : OwnHF base w v lo) (hf : Fr S w w') (hs : ∀ k, base <= k -> k < w.heap.size -> ¬ S k) : OwnHF base w' v lo :=
 ⟨zai h.1 hf (fun g hg => hs g (h.1.lt g hg).1 (zar h.1 hg)), fun p hp => (h.2 p hp).fr hf hs⟩
theorem OwnHF.push {base : Nat} {w w2 : World} {v v' : Value} {lo : List (Rhs × Value)} {p : Rhs × Value} (h : OwnHF base w v lo) (hp : OwnF base w p.1.h p.2) (hg : w.grownBy w2 v.ownBlock)
 (ho : w2.ownsRow base 298 3 v' (lo.length + 1) (lo.flatMap rhc ++ rhc p)) : OwnHF base w2 v' (lo ++ [p]) := by
 refine ⟨by simpa using ho, fun q hq => ?_⟩; rcases zms.1 hq with hq | hq
 ·exact (h.2 q hq).grown h.1 hg (by decide) (by decide) (by decide) (by decide)
 ·rw [zmt] at hq
  subst hq; exact hp.grown h.1 hg (by decide) (by decide) (by decide) (by decide)
def RdHF (P : Nat -> Prop) (w : World) (v : Value) (lo : List (Rhs × Value)) : Prop :=
 Sl P w v 3 lo.length (lo.flatMap rhc) /\ ∀ p ∈ lo, RdF P w p.1.h p.2
theorem OwnHF.rd {base : Nat} {w : World} {v : Value} {lo : List (Rhs × Value)} (h : OwnHF base w v lo) : RdHF (fun g => base <= g /\ g < w.heap.size) w v lo :=
 ⟨(zmU h.1).mono (fun g hg => ⟨(h.1.lt g hg).1, zar h.1 hg⟩), fun p hp => (h.2 p hp).rd⟩
def RefHFEnds (w : World) (l : List Rhs) (r : Ending) (w' : World) : Prop :=
 ∃ v lo, r = .returned v /\ lo.map Prod.fst = l /\ OwnHF w.heap.size w' v lo /\ Fr (fun _ => False) w w'
theorem zbw : (∀ (_ : True) (P : Nat -> Prop) (v : Value) (lv : List (Rhs × Hsl)) (w : World) (h : SlH P w v lv) (hl : lv.length <= 1099511627776) (aQ : ∀ p ∈ lv, p.1.h.few 1099511627776),
 Calls prog 84 #[v] w (RefHWEnds w (lv.map Prod.fst))) /\ (∀ (_ : True) (P : Nat -> Prop) (v : Value) (lv : List (Rhs × Hsl)) (w : World) (h : SlH P w v lv) (hl : lv.length <= 1099511627776) (aQ : ∀ p ∈ lv, p.1.h.few 1099511627776),
 Calls prog 87 #[v] w (RefHFEnds w (lv.map Prod.fst))) := by
 refine ⟨fun aj P v lv w h hl aQ => ?_, fun cf P v lv w h hl aQ => ?_⟩; all_goals
  have mixed : prog.follows .mixedOrders = true := by kernel_rfl
  obtain ⟨⟨A, c, rfl, ai, aR, hr⟩, co⟩ := h; obtain ⟨n, hn⟩ := exE lv.length; rw [hn] at hr aR hl ⊢; have HN := zlM hn; have HR := zlM hr; have HI := zlM co
  have gr := zlM aQ
  first | (guard_hyp aj; obtain ⟨i0, aB, ay, ax, aA⟩ := info_parts zjU) | (obtain ⟨i0, aB, ay, ax, aA⟩ := info_parts zjT)
  clear hn hr ai co aQ
  first | (guard_hyp aj; go_enter func84, ntmps84) | (go_enter func87, ntmps87)
  go_wp2
  first | (guard_hyp aj; go_loopw [2, 7] (fun v i wr => ∃ (k : Nat) (lo : List (Rhs × Value)), k <= n /\ i = .int .i64 k /\ Hid (lo.map Prod.fst = (lv.take k).map Prod.fst) /\ Hid (lo.length = k) /\ Hid (OwnHW w.heap.size wr v lo) /\ Hid (Fr (fun _ => False) w wr)) (fun _ i _ => n - (intOf i).toNat)) | (go_loopw [2, 7] (fun v i wr => ∃ (k : Nat) (lo : List (Rhs × Value)), k <= n /\ i = .int .i64 k /\ Hid (lo.map Prod.fst = (lv.take k).map Prod.fst) /\ Hid (lo.length = k) /\ Hid (OwnHF w.heap.size wr v lo) /\ Hid (Fr (fun _ => False) w wr)) (fun _ i _ => n - (intOf i).toNat))
  case atStart => first | (guard_hyp aj; exact ⟨0, [], zlX _, rfl, zlM rfl, zlM rfl, zlM (OwnHW.nil _ _), zlM (zmR _ _)⟩) | (exact ⟨0, [], zlX _, rfl, zlM rfl, zlM rfl, zlM (OwnHF.nil _ _), zlM (zmR _ _)⟩)
  case round =>
   obtain ⟨k, lo, hk, rfl, HM, ip, HO, HF⟩ := hrel; by_cases hlt : k < n
   ·obtain ⟨g, off, rfl, _, aa⟩ := HR.out (by omega)
    obtain ⟨x, hx⟩ : ∃ x, lv[k]? = some x := ⟨_, zlO (by rw [HN.out]; exact hlt)⟩; have cc : ∀ j, j < 15 -> ∀ u, (hsc x)[j]? = some u -> wr.cell? ⟨g, off + (k * 15 + j), none⟩ = some u := fun j hj u hu => by
     have := aa (k * 15 + j) u (by rw [zgA 15 hsc (fun _ => rfl) lv k x hx j hj]; exact hu); rw [HF.out.cell (p := ⟨g, off + (k * 15 + j), none⟩) (zlT w _ this) (fun e => e)]; exact this
    have mx : wr.cell? ⟨g, off + k * 15, none⟩ = some (.int .u64 x.1.ref) := cc 0 (by omega) _ rfl; have mu : wr.cell? ⟨g, off + k * 15 + 1, none⟩ = some (.int .i64 x.1.t) := cc 1 (by omega) _ rfl; have mt : wr.cell? ⟨g, off + k * 15 + 2, none⟩ = some (.int .u8 x.1.h.hint.toNat) := cc 2 (by omega) _ rfl
    have qC : wr.cell? ⟨g, off + k * 15 + 3, none⟩ = some (.int .i32 x.1.h.schema) := cc 3 (by omega) _ rfl; have qB : wr.cell? ⟨g, off + k * 15 + 4, none⟩ = some (.int .u64 x.1.h.thr) := cc 4 (by omega) _ rfl; have c50 : wr.cell? ⟨g, off + k * 15 + 5, none⟩ = some (.int .u64 x.1.h.sum) := cc 5 (by omega) _ rfl
    have qz : wr.cell? ⟨g, off + k * 15 + 6, none⟩ = some (.int .u64 x.1.h.zc) := cc 6 (by omega) _ rfl; have qy : wr.cell? ⟨g, off + k * 15 + 7, none⟩ = some (.int .u64 x.1.h.cnt) := cc 7 (by omega) _ rfl; have nM : wr.cell? ⟨g, off + k * 15 + 8, none⟩ = some x.2.p := cc 8 (by omega) _ rfl; have nL : wr.cell? ⟨g, off + k * 15 + 9, none⟩ = some x.2.n := cc 9 (by omega) _ rfl
    have gW : wr.cell? ⟨g, off + k * 15 + 10, none⟩ = some x.2.u := cc 10 (by omega) _ rfl; have gV : wr.cell? ⟨g, off + k * 15 + 11, none⟩ = some x.2.d := cc 11 (by omega) _ rfl; have gU : wr.cell? ⟨g, off + k * 15 + 12, none⟩ = some x.2.fu := cc 12 (by omega) _ rfl; have gT : wr.cell? ⟨g, off + k * 15 + 13, none⟩ = some x.2.fd := cc 13 (by omega) _ rfl
    have gS : wr.cell? ⟨g, off + k * 15 + 14, none⟩ = some x.2.c := cc 14 (by omega) _ rfl; have aH := zlU hx; have aX := HI.out x aH; have bA := gr.out x aH; obtain ⟨⟨ref, t, ⟨hint, schema, thr, sum, zc, cnt, pos, neg, ups, downs, fups, fdowns, cus⟩⟩, ⟨sp, sn, su, sd, lK, lL, sc⟩⟩ := x
    simp only [] at mx mu mt qC qB c50 qz qy nM nL gW gV gU gT gS aX bA; have nh := aX; obtain ⟨z1, z2, z3, z4, z5, z6, z7⟩ := nh; simp only [] at z1 z2 z3 z4 z5 z6 z7; obtain ⟨A1, c1, rfl⟩ := z1.shape; obtain ⟨A2, c2, rfl⟩ := z2.shape; obtain ⟨A3, c3, rfl⟩ := z3.shape; obtain ⟨A4, c4, rfl⟩ := z4.shape; obtain ⟨A5, c5, rfl⟩ := z5.shape; obtain ⟨A6, c6, rfl⟩ := z6.shape
    obtain ⟨A7, c7, rfl⟩ := z7.shape; clear z1 z2 z3 z4 z5 z6 z7; have bF := HF.out.size
    first | (guard_hyp aj; have hC := fun W (hW : Fr (fun _ => False) w W) => whole_any P ⟨hint, schema, thr, sum, zc, cnt, pos, neg, ups, downs, fups, fdowns, cus⟩ _ W (aX.fr hW (fun _ _ e => e)) bA) | (have hC := fun W (hW : Fr (fun _ => False) w W) => zlF P ⟨hint, schema, thr, sum, zc, cnt, pos, neg, ups, downs, fups, fdowns, cus⟩ _ W (aX.fr hW (fun _ _ e => e)) bA)
    simp only [hic] at hC; obtain ⟨n1, e1⟩ := exE pos.length; obtain ⟨n2, e2⟩ := exE neg.length; obtain ⟨n3, e3⟩ := exE ups.length; obtain ⟨n4, e4⟩ := exE downs.length; obtain ⟨n5, e5⟩ := exE fups.length; obtain ⟨n6, e6⟩ := exE fdowns.length; obtain ⟨n7, e7⟩ := exE cus.length; obtain ⟨hh, ms⟩ : ∃ hh : Hst, hh = ⟨hint, schema, thr, sum, zc, cnt, pos, neg, ups, downs, fups, fdowns, cus⟩ := ⟨_, rfl⟩
    rw [<- ms] at hC; rw [e1] at hC nM; rw [e2] at hC nL; rw [e3] at hC gW; rw [e4] at hC gV; rw [e5] at hC gU; rw [e6] at hC gT; rw [e7] at hC gS; have HX := zlM hx; have HEH := zlM ms; have HC := zlM hC; have HEE := zlM (zmD e1 (zmD e2 (zmD e3 (zmD e4 (zmD e5 (zmD e6 e7)))))); obtain ⟨a', n', k', rfl⟩ := zab HO.out.1
    clear aa cc hx aH hC ms e1 e2 e3 e4 e5 e6 e7 aX bA; go_wp2_with fail
    have dt := zlM (zmS wr 194 #[.int .u64 ref, .int .i64 t, .int .u8 hint.toNat, .int .i32 schema, .int .u64 thr, .int .u64 sum, .int .u64 zc, .int .u64 cnt, .slice A1 n1 c1, .slice A2 n2 c2, .slice A3 n3 c3, .slice A4 n4 c4, .slice A5 n5 c5, .slice A6 n6 c6, .slice A7 n7 c7])
    have F8 := zlM ((HF.out.alloc (.cells #[.int .u64 ref, .int .i64 t, .int .u8 hint.toNat, .int .i32 schema, .int .u64 thr, .int .u64 sum, .int .u64 zc, .int .u64 cnt, .slice A1 n1 c1, .slice A2 n2 c2, .slice A3 n3 c3, .slice A4 n4 c4, .slice A5 n5 c5, .slice A6 n6 c6, .slice A7 n7 c7] 194)).drew); have ri := ip.out; have jw : lo.length <= 1099511627776 := by omega
    obtain ⟨s0, s1, s2, s3, s4, s5, s6, s7, s8, s9, iu, oT, oS, s13, s14⟩ := zgP dt.out.drew
    go_region_held3 (fun w' => w'.cell? ⟨wr.heap.size, 0, none⟩ = some (.int .u64 ref) /\ w'.cell? ⟨wr.heap.size, 1, none⟩ = some (.int .i64 t) /\ w'.cell? ⟨wr.heap.size, 2, none⟩ = some (.int .u8 hint.toNat) /\ w'.cell? ⟨wr.heap.size, 3, none⟩ = some (.int .i32 schema) /\ w'.cell? ⟨wr.heap.size, 4, none⟩ = some (.int .u64 thr) /\ w'.cell? ⟨wr.heap.size, 5, none⟩ = some (.int .u64 sum) /\ w'.cell? ⟨wr.heap.size, 6, none⟩ = some (.int .u64 zc) /\ w'.cell? ⟨wr.heap.size, 7, none⟩ = some (.int .u64 cnt) /\ w'.cell? ⟨wr.heap.size, 8, none⟩ = some (.slice A1 n1 c1) /\ w'.cell? ⟨wr.heap.size, 9, none⟩ = some (.slice A2 n2 c2) /\ w'.cell? ⟨wr.heap.size, 10, none⟩ = some (.slice A3 n3 c3) /\ w'.cell? ⟨wr.heap.size, 11, none⟩ = some (.slice A4 n4 c4) /\ w'.cell? ⟨wr.heap.size, 12, none⟩ = some (.slice A5 n5 c5) /\ w'.cell? ⟨wr.heap.size, 13, none⟩ = some (.slice A6 n6 c6) /\ w'.cell? ⟨wr.heap.size, 14, none⟩ = some (.slice A7 n7 c7))
     ((first | exact zgP ej.out | exact zgP (cK.out.alloc _) | exact zgP cK.out | exact zgP dt.out.drew | go_keep))
     ((first
       | (go_at_call 175; refine (HC.out _ F8.out).mono ?_; rintro r5 w5 ⟨v5, rfl, eu, aq⟩; have HP5 := eu; obtain ⟨g5, q5, rfl, _⟩ := HP5; have cK := zlM (dt.out.drew.fr aq (fun e => e)); have F5 := zlM (F8.out.same aq); have G5 := zlM ((((zmR (fun _ => False) wr).alloc (.cells #[.int .u64 ref, .int .i64 t, .int .u8 hint.toNat, .int .i32 schema, .int .u64 thr, .int .u64 sum, .int .u64 zc, .int .u64 cnt, .slice A1 n1 c1, .slice A2 n2 c2, .slice A3 n3 c3, .slice A4 n4 c4, .slice A5 n5 c5, .slice A6 n6 c6, .slice A7 n7 c7] 194)).drew).same aq); have O5 := zlM (HO.out.fr G5.out (fun _ _ _ e => e)); have io := zlM (eu.mono F8.out.size); have lM := F5.out.size)
       | (go_at_call 178; refine (HC.out _ F8.out).mono ?_; rintro r5 w5 ⟨v5, rfl, eu, aq⟩; have HP5 := eu; obtain ⟨g5, q5, rfl, _⟩ := HP5; have cK := zlM (dt.out.drew.fr aq (fun e => e)); have F5 := zlM (F8.out.same aq); have G5 := zlM ((((zmR (fun _ => False) wr).alloc (.cells #[.int .u64 ref, .int .i64 t, .int .u8 hint.toNat, .int .i32 schema, .int .u64 thr, .int .u64 sum, .int .u64 zc, .int .u64 cnt, .slice A1 n1 c1, .slice A2 n2 c2, .slice A3 n3 c3, .slice A4 n4 c4, .slice A5 n5 c5, .slice A6 n6 c6, .slice A7 n7 c7] 194)).drew).same aq); have O5 := zlM (HO.out.fr G5.out (fun _ _ _ e => e)); have io := zlM (eu.mono F8.out.size); have lM := F5.out.size)
       | (refine zas _ (by rfl) _ _ 177 177 (by rfl) w.heap.size 290 i0 _ 3 24 underlying177 aB ay ax aA rfl (by decide) (.slice a' n' k') lo.length (lo.flatMap rhc) (by rfl) (O5.out.1.alloc _) _ 1 [.int .u64 ref, .int .i64 t, .pointer (some ⟨g5, 0, none⟩)] (by rfl) (zaF underlying177 (zmS w5 290 #[.int .u64 ref, .int .i64 t, .pointer (some ⟨g5, 0, none⟩)]) rfl (by simp [Value.oneCell'])) (by unfold maxLen; omega) (by omega) (by simp; omega) ?_; intro v' w2 ac ad aw; have ej := zlM ((cK.out.alloc (.cells #[.int .u64 ref, .int .i64 t, .pointer (some ⟨g5, 0, none⟩)] 290)).grown ad (fun e => zmw _ (zar HO.out.1 e.symm))))
       | (refine zas _ (by rfl) _ _ 182 182 (by rfl) w.heap.size 298 i0 _ 3 24 underlying182 aB ay ax aA rfl (by decide) (.slice a' n' k') lo.length (lo.flatMap rhc) (by rfl) (O5.out.1.alloc _) _ 1 [.int .u64 ref, .int .i64 t, .pointer (some ⟨g5, 0, none⟩)] (by rfl) (zaF underlying182 (zmS w5 298 #[.int .u64 ref, .int .i64 t, .pointer (some ⟨g5, 0, none⟩)]) rfl (by simp [Value.oneCell'])) (by unfold maxLen; omega) (by omega) (by simp; omega) ?_; intro v' w2 ac ad aw; have ej := zlM ((cK.out.alloc (.cells #[.int .u64 ref, .int .i64 t, .pointer (some ⟨g5, 0, none⟩)] 298)).grown ad (fun e => zmw _ (zar HO.out.1 e.symm))))))
    first
     | guard_hyp aj
       have aT : OwnHW w.heap.size w2 v' (lo ++ [(⟨ref, t, hh⟩, .pointer (some ⟨g5, 0, none⟩))]) :=
        OwnHW.push (p := (⟨ref, t, hh⟩, .pointer (some ⟨g5, 0, none⟩))) (O5.out.fr ((zmR (fun _ => False) w5).alloc (.cells #[.int .u64 ref, .int .i64 t, .pointer (some ⟨g5, 0, none⟩)] 290)) (fun _ _ _ e => e)) (io.out.fr ((zmR (fun _ => False) w5).alloc (.cells #[.int .u64 ref, .int .i64 t, .pointer (some ⟨g5, 0, none⟩)] 290)) (fun _ _ _ e => e)) ad ac
     | have aT : OwnHF w.heap.size w2 v' (lo ++ [(⟨ref, t, hh⟩, .pointer (some ⟨g5, 0, none⟩))]) :=
        OwnHF.push (p := (⟨ref, t, hh⟩, .pointer (some ⟨g5, 0, none⟩))) (O5.out.fr ((zmR (fun _ => False) w5).alloc (.cells #[.int .u64 ref, .int .i64 t, .pointer (some ⟨g5, 0, none⟩)] 298)) (fun _ _ _ e => e)) (io.out.fr ((zmR (fun _ => False) w5).alloc (.cells #[.int .u64 ref, .int .i64 t, .pointer (some ⟨g5, 0, none⟩)] 298)) (fun _ _ _ e => e)) ad ac
    have bM : Fr (fun _ => False) w w2 := (F5.out.alloc _).grown ad (fun g hg => .inr ((HO.out.1.lt g hg).1)); have cg : (lo ++ [((⟨ref, t, hh⟩ : Rhs), Value.pointer (some ⟨g5, 0, none⟩))]).map Prod.fst = (lv.take (k + 1)).map Prod.fst := by
     rw [zmn, HX.out, zmc, zmc, HM.out, HEH.out]; rfl
    have cM : (lo ++ [((⟨ref, t, hh⟩ : Rhs), Value.pointer (some ⟨g5, 0, none⟩))]).length = k + 1 := by rw [zlN, ip.out]; rfl
    have NO := zlM aT; have NF := zlM bM; have NM := zlM cg; have NN := zlM cM; clear aT bM cg cM ac ad aw mx mu mt qC qB c50 qz qy nM nL gW gV gU gT gS s0 s1 s2 s3 s4 s5 s6 s7 s8 s9 iu oT oS s13 s14 aq ej O5 io eu HC; go_wp2; go_roundw
    case rel => exact ⟨k + 1, _, by omega, by go_num, NM, NN, NO, NF⟩
    case measure => simp [intOf]; omega
   ·go_wp2
    go_ret; obtain rfl : k = n := by omega
    refine ⟨_, lo, rfl, ?_, HO.out, HF.out⟩; rw [HM.out, <- HN.out, zmd]
theorem zcA : type_of% (zbw.1 trivial) := zbw.1 trivial
theorem zdK : type_of% (zbw.2 trivial) := zbw.2 trivial
end Go.Proofs.YtbkookiigkckdaaGreatDoor
