/- Texts of this seat, merged and shortened. -/
import Derived.Test.YtbkookiigkckdaaGreatDoorKC08
set_option linter.unusedVariables false
set_option linter.unusedSimpArgs false
set_option maxRecDepth 100000
set_option maxHeartbeats 8000000
namespace Go.Proofs.YtbkookiigkckdaaGreatDoor
open Go.RowKit Go.Proofs.Tryz
structure Rhs where
 ref : Nat
 t : Int
 h : Hst
def hsc (p : Rhs × Hsl) : List Value := .int .u64 p.1.ref :: .int .i64 p.1.t :: hic p.1.h p.2
def rhc (p : Rhs × Value) : List Value := [.int .u64 p.1.ref, .int .i64 p.1.t, p.2]
def SlH (P : Nat -> Prop) (w : World) (v : Value) (lv : List (Rhs × Hsl)) : Prop :=
 Sl P w v 15 lv.length (lv.flatMap hsc) /\ ∀ p ∈ lv, SlHs P w p.1.h p.2
theorem SlH.fr {P S : Nat -> Prop} {w w' : World} {v : Value} {lv : List (Rhs × Hsl)} (h : SlH P w v lv) (hf : Fr S w w') (hs : ∀ g, P g -> ¬ S g) : SlH P w' v lv :=
 ⟨h.1.fr hf hs, fun p hp => (h.2 p hp).fr hf hs⟩
theorem zcf {w : World} {g t : Nat} {a0 a1 a2 a3 a4 a5 a6 a7 a8 a9 a10 : Value} (h : Blk w g t #[a0, a1, a2, a3, a4, a5, a6, a7, a8, a9, a10]) :
 w.cell? ⟨g, 0, none⟩ = some a0 /\ w.cell? ⟨g, 1, none⟩ = some a1 /\ w.cell? ⟨g, 2, none⟩ = some a2 /\ w.cell? ⟨g, 3, none⟩ = some a3 /\ w.cell? ⟨g, 4, none⟩ = some a4 /\ w.cell? ⟨g, 5, none⟩ = some a5 /\ w.cell? ⟨g, 6, none⟩ = some a6 /\
 w.cell? ⟨g, 7, none⟩ = some a7 /\ w.cell? ⟨g, 8, none⟩ = some a8 /\ w.cell? ⟨g, 9, none⟩ = some a9 /\ w.cell? ⟨g, 10, none⟩ = some a10 :=
 ⟨h.cell 0, h.cell 1, h.cell 2, h.cell 3, h.cell 4, h.cell 5, h.cell 6, h.cell 7, h.cell 8, h.cell 9, h.cell 10⟩
theorem zg7 {w : World} {g t : Nat} {r0 r1 a0 a1 a2 a3 a4 a5 a6 a7 a8 a9 a10 a11 a12 : Value} (h : Blk w g t #[r0, r1, a0, a1, a2, a3, a4, a5, a6, a7, a8, a9, a10, a11, a12]) :
 w.cell? ⟨g, 0, none⟩ = some r0 /\ w.cell? ⟨g, 1, none⟩ = some r1 /\ w.cell? ⟨g, 2, none⟩ = some a0 /\ w.cell? ⟨g, 3, none⟩ = some a1 /\ w.cell? ⟨g, 4, none⟩ = some a2 /\ w.cell? ⟨g, 5, none⟩ = some a3 /\ w.cell? ⟨g, 6, none⟩ = some a4 /\ w.cell? ⟨g, 7, none⟩ = some a5 /\ w.cell? ⟨g, 8, none⟩ = some a6 /\
 w.cell? ⟨g, 9, none⟩ = some a7 /\ w.cell? ⟨g, 10, none⟩ = some a8 /\ w.cell? ⟨g, 11, none⟩ = some a9 /\ w.cell? ⟨g, 12, none⟩ = some a10 /\ w.cell? ⟨g, 13, none⟩ = some a11 /\ w.cell? ⟨g, 14, none⟩ = some a12 :=
 ⟨h.cell 0, h.cell 1, h.cell 2, h.cell 3, h.cell 4, h.cell 5, h.cell 6, h.cell 7, h.cell 8, h.cell 9, h.cell 10, h.cell 11, h.cell 12, h.cell 13, h.cell 14⟩
theorem zkk : (prog.info? 290).map (fun i => (i.zero, i.size, i.bytes)) = some (some (.agg #[.int .u64 0, .int .i64 0, .pointer none]), 3, 24) := by kernel_rfl
def OwnHW (base : Nat) (w : World) (v : Value) (lo : List (Rhs × Value)) : Prop :=
 w.ownsRow base 290 3 v lo.length (lo.flatMap rhc) /\ ∀ p ∈ lo, OwnW base w p.1.h p.2
theorem OwnHW.nil (base : Nat) (w : World) : OwnHW base w (.slice none 0 0) [] := ⟨zmy _ _ _ _, fun p hp => by cases hp⟩
theorem OwnHW.fr {S : Nat -> Prop} {base : Nat} {w w' : World} {v : Value} {lo : List (Rhs × Value)} (h : OwnHW base w v lo) (hf : Fr S w w') (hs : ∀ k, base <= k -> k < w.heap.size -> ¬ S k) : OwnHW base w' v lo :=
 ⟨zaj h.1 hf (fun g hg => hs g (h.1.lt g hg).1 (zas h.1 hg)), fun p hp => (h.2 p hp).fr hf hs⟩
theorem OwnHW.push {base : Nat} {w w2 : World} {v v' : Value} {lo : List (Rhs × Value)} {p : Rhs × Value} (h : OwnHW base w v lo) (hp : OwnW base w p.1.h p.2) (hg : w.grownBy w2 v.ownBlock)
 (ho : w2.ownsRow base 290 3 v' (lo.length + 1) (lo.flatMap rhc ++ rhc p)) : OwnHW base w2 v' (lo ++ [p]) := by
 refine ⟨by simpa using ho, fun q hq => ?_⟩; rcases zm0.1 hq with hq | hq
 ·exact (h.2 q hq).grown h.1 hg (by decide) (by decide) (by decide) (by decide)
 ·rw [zm1] at hq
  subst hq; exact hp.grown h.1 hg (by decide) (by decide) (by decide) (by decide)
def RdHW (P : Nat -> Prop) (w : World) (v : Value) (lo : List (Rhs × Value)) : Prop :=
 Sl P w v 3 lo.length (lo.flatMap rhc) /\ ∀ p ∈ lo, RdW P w p.1.h p.2
theorem OwnHW.rd {base : Nat} {w : World} {v : Value} {lo : List (Rhs × Value)} (h : OwnHW base w v lo) : RdHW (fun g => base <= g /\ g < w.heap.size) w v lo :=
 ⟨(znt h.1).mono (fun g hg => ⟨(h.1.lt g hg).1, zas h.1 hg⟩), fun p hp => (h.2 p hp).rd⟩
def RefHWEnds (w : World) (l : List Rhs) (r : Ending) (w' : World) : Prop :=
 ∃ v lo, r = .returned v /\ lo.map Prod.fst = l /\ OwnHW w.heap.size w' v lo /\ Fr (fun _ => False) w w'
theorem zkj : (prog.info? 298).map (fun i => (i.zero, i.size, i.bytes)) = some (some (.agg #[.int .u64 0, .int .i64 0, .pointer none]), 3, 24) := by kernel_rfl
def OwnHF (base : Nat) (w : World) (v : Value) (lo : List (Rhs × Value)) : Prop :=
 w.ownsRow base 298 3 v lo.length (lo.flatMap rhc) /\ ∀ p ∈ lo, OwnF base w p.1.h p.2
theorem OwnHF.nil (base : Nat) (w : World) : OwnHF base w (.slice none 0 0) [] := ⟨zmy _ _ _ _, fun p hp => by cases hp⟩
theorem OwnHF.fr {S : Nat -> Prop} {base : Nat} {w w' : World} {v : Value} {lo : List (Rhs × Value)} (h : OwnHF base w v lo) (hf : Fr S w w') (hs : ∀ k, base <= k -> k < w.heap.size -> ¬ S k) : OwnHF base w' v lo :=
 ⟨zaj h.1 hf (fun g hg => hs g (h.1.lt g hg).1 (zas h.1 hg)), fun p hp => (h.2 p hp).fr hf hs⟩
theorem OwnHF.push {base : Nat} {w w2 : World} {v v' : Value} {lo : List (Rhs × Value)} {p : Rhs × Value} (h : OwnHF base w v lo) (hp : OwnF base w p.1.h p.2) (hg : w.grownBy w2 v.ownBlock)
 (ho : w2.ownsRow base 298 3 v' (lo.length + 1) (lo.flatMap rhc ++ rhc p)) : OwnHF base w2 v' (lo ++ [p]) := by
 refine ⟨by simpa using ho, fun q hq => ?_⟩; rcases zm0.1 hq with hq | hq
 ·exact (h.2 q hq).grown h.1 hg (by decide) (by decide) (by decide) (by decide)
 ·rw [zm1] at hq
  subst hq; exact hp.grown h.1 hg (by decide) (by decide) (by decide) (by decide)
def RdHF (P : Nat -> Prop) (w : World) (v : Value) (lo : List (Rhs × Value)) : Prop :=
 Sl P w v 3 lo.length (lo.flatMap rhc) /\ ∀ p ∈ lo, RdF P w p.1.h p.2
theorem OwnHF.rd {base : Nat} {w : World} {v : Value} {lo : List (Rhs × Value)} (h : OwnHF base w v lo) : RdHF (fun g => base <= g /\ g < w.heap.size) w v lo :=
 ⟨(znt h.1).mono (fun g hg => ⟨(h.1.lt g hg).1, zas h.1 hg⟩), fun p hp => (h.2 p hp).rd⟩
def RefHFEnds (w : World) (l : List Rhs) (r : Ending) (w' : World) : Prop :=
 ∃ v lo, r = .returned v /\ lo.map Prod.fst = l /\ OwnHF w.heap.size w' v lo /\ Fr (fun _ => False) w w'
theorem zbz : (∀ (_ : True) (P : Nat -> Prop) (v : Value) (lv : List (Rhs × Hsl)) (w : World) (h : SlH P w v lv) (hl : lv.length <= 1099511627776) (aP : ∀ p ∈ lv, p.1.h.few 1099511627776),
 Calls prog 84 #[v] w (RefHWEnds w (lv.map Prod.fst))) /\ (∀ (_ : True) (P : Nat -> Prop) (v : Value) (lv : List (Rhs × Hsl)) (w : World) (h : SlH P w v lv) (hl : lv.length <= 1099511627776) (aP : ∀ p ∈ lv, p.1.h.few 1099511627776),
 Calls prog 87 #[v] w (RefHFEnds w (lv.map Prod.fst))) := by
 refine ⟨fun ag P v lv w h hl aP => ?_, fun bY P v lv w h hl aP => ?_⟩; all_goals
  have mixed : prog.follows .mixedOrders = true := by kernel_rfl
  obtain ⟨⟨A, c, rfl, ak, aQ, hr⟩, cl⟩ := h; obtain ⟨n, hn⟩ := exE lv.length; rw [hn] at hr aQ hl ⊢; have HN := zmk hn; have HR := zmk hr; have HI := zmk cl
  have gq := zmk aP
  first | (guard_hyp ag; obtain ⟨i0, aD, aA, az, aC⟩ := info_parts zkk) | (obtain ⟨i0, aD, aA, az, aC⟩ := info_parts zkj)
  clear hn hr ak cl aP
  first | (guard_hyp ag; go_enter func84, ntmps84) | (go_enter func87, ntmps87)
  go_wp2
  first | (guard_hyp ag; go_loopw [2, 7] (fun v i wr => ∃ (k : Nat) (lo : List (Rhs × Value)), k <= n /\ i = .int .i64 k /\ Hid (lo.map Prod.fst = (lv.take k).map Prod.fst) /\ Hid (lo.length = k) /\ Hid (OwnHW w.heap.size wr v lo) /\ Hid (Fr (fun _ => False) w wr)) (fun _ i _ => n - (intOf i).toNat)) | (go_loopw [2, 7] (fun v i wr => ∃ (k : Nat) (lo : List (Rhs × Value)), k <= n /\ i = .int .i64 k /\ Hid (lo.map Prod.fst = (lv.take k).map Prod.fst) /\ Hid (lo.length = k) /\ Hid (OwnHF w.heap.size wr v lo) /\ Hid (Fr (fun _ => False) w wr)) (fun _ i _ => n - (intOf i).toNat))
  case atStart => first | (guard_hyp ag; exact ⟨0, [], zmv _, rfl, zmk rfl, zmk rfl, zmk (OwnHW.nil _ _), zmk (znq _ _)⟩) | (exact ⟨0, [], zmv _, rfl, zmk rfl, zmk rfl, zmk (OwnHF.nil _ _), zmk (znq _ _)⟩)
  case round =>
   obtain ⟨k, lo, hk, rfl, HM, ii, HO, HF⟩ := hrel; by_cases hlt : k < n
   ·obtain ⟨g, off, rfl, _, aa⟩ := HR.out (by omega)
    obtain ⟨x, hx⟩ : ∃ x, lv[k]? = some x := ⟨_, zmm (by rw [HN.out]; exact hlt)⟩; have cc : ∀ j, j < 15 -> ∀ u, (hsc x)[j]? = some u -> wr.cell? ⟨g, off + (k * 15 + j), none⟩ = some u := fun j hj u hu => by
     have := aa (k * 15 + j) u (by rw [zgS 15 hsc (fun _ => rfl) lv k x hx j hj]; exact hu); rw [HF.out.cell (p := ⟨g, off + (k * 15 + j), none⟩) (zmr w _ this) (fun e => e)]; exact this
    have my : wr.cell? ⟨g, off + k * 15, none⟩ = some (.int .u64 x.1.ref) := cc 0 (by omega) _ rfl; have jb : wr.cell? ⟨g, off + k * 15 + 1, none⟩ = some (.int .i64 x.1.t) := cc 1 (by omega) _ rfl; have mx : wr.cell? ⟨g, off + k * 15 + 2, none⟩ = some (.int .u8 x.1.h.hint.toNat) := cc 2 (by omega) _ rfl
    have qu : wr.cell? ⟨g, off + k * 15 + 3, none⟩ = some (.int .i32 x.1.h.schema) := cc 3 (by omega) _ rfl; have qt : wr.cell? ⟨g, off + k * 15 + 4, none⟩ = some (.int .u64 x.1.h.thr) := cc 4 (by omega) _ rfl; have c50 : wr.cell? ⟨g, off + k * 15 + 5, none⟩ = some (.int .u64 x.1.h.sum) := cc 5 (by omega) _ rfl
    have qr : wr.cell? ⟨g, off + k * 15 + 6, none⟩ = some (.int .u64 x.1.h.zc) := cc 6 (by omega) _ rfl; have qp : wr.cell? ⟨g, off + k * 15 + 7, none⟩ = some (.int .u64 x.1.h.cnt) := cc 7 (by omega) _ rfl; have nI : wr.cell? ⟨g, off + k * 15 + 8, none⟩ = some x.2.p := cc 8 (by omega) _ rfl; have nH : wr.cell? ⟨g, off + k * 15 + 9, none⟩ = some x.2.n := cc 9 (by omega) _ rfl
    have gU : wr.cell? ⟨g, off + k * 15 + 10, none⟩ = some x.2.u := cc 10 (by omega) _ rfl; have gT : wr.cell? ⟨g, off + k * 15 + 11, none⟩ = some x.2.d := cc 11 (by omega) _ rfl; have gS : wr.cell? ⟨g, off + k * 15 + 12, none⟩ = some x.2.fu := cc 12 (by omega) _ rfl; have gR : wr.cell? ⟨g, off + k * 15 + 13, none⟩ = some x.2.fd := cc 13 (by omega) _ rfl
    have gQ : wr.cell? ⟨g, off + k * 15 + 14, none⟩ = some x.2.c := cc 14 (by omega) _ rfl; have aH := zms hx; have b8 := HI.out x aH; have bC := gq.out x aH; obtain ⟨⟨ref, t, ⟨hint, schema, thr, sum, zc, cnt, pos, neg, ups, downs, fups, fdowns, cus⟩⟩, ⟨sp, sn, su, sd, lM, lN, sc⟩⟩ := x
    simp only [] at my jb mx qu qt c50 qr qp nI nH gU gT gS gR gQ b8 bC; have nc := b8; obtain ⟨z1, z2, z3, z4, z5, z6, z7⟩ := nc; simp only [] at z1 z2 z3 z4 z5 z6 z7; obtain ⟨A1, c1, rfl⟩ := z1.shape; obtain ⟨A2, c2, rfl⟩ := z2.shape; obtain ⟨A3, c3, rfl⟩ := z3.shape; obtain ⟨A4, c4, rfl⟩ := z4.shape; obtain ⟨A5, c5, rfl⟩ := z5.shape; obtain ⟨A6, c6, rfl⟩ := z6.shape
    obtain ⟨A7, c7, rfl⟩ := z7.shape; clear z1 z2 z3 z4 z5 z6 z7; have bG := HF.out.size
    first | (guard_hyp ag; have hC := fun W (hW : Fr (fun _ => False) w W) => whole_any P ⟨hint, schema, thr, sum, zc, cnt, pos, neg, ups, downs, fups, fdowns, cus⟩ _ W (b8.fr hW (fun _ _ e => e)) bC) | (have hC := fun W (hW : Fr (fun _ => False) w W) => zmd P ⟨hint, schema, thr, sum, zc, cnt, pos, neg, ups, downs, fups, fdowns, cus⟩ _ W (b8.fr hW (fun _ _ e => e)) bC)
    simp only [hic] at hC; obtain ⟨n1, e1⟩ := exE pos.length; obtain ⟨n2, e2⟩ := exE neg.length; obtain ⟨n3, e3⟩ := exE ups.length; obtain ⟨n4, e4⟩ := exE downs.length; obtain ⟨n5, e5⟩ := exE fups.length; obtain ⟨n6, e6⟩ := exE fdowns.length; obtain ⟨n7, e7⟩ := exE cus.length; obtain ⟨hh, mu⟩ : ∃ hh : Hst, hh = ⟨hint, schema, thr, sum, zc, cnt, pos, neg, ups, downs, fups, fdowns, cus⟩ := ⟨_, rfl⟩
    rw [<- mu] at hC; rw [e1] at hC nI; rw [e2] at hC nH; rw [e3] at hC gU; rw [e4] at hC gT; rw [e5] at hC gS; rw [e6] at hC gR; rw [e7] at hC gQ; have HX := zmk hx; have HEH := zmk mu; have HC := zmk hC; have HEE := zmk (znc e1 (znc e2 (znc e3 (znc e4 (znc e5 (znc e6 e7)))))); obtain ⟨a', n', k', rfl⟩ := zac HO.out.1
    clear aa cc hx aH hC mu e1 e2 e3 e4 e5 e6 e7 b8 bC; go_wp2_with fail
    have dn := zmk (znr wr 194 #[.int .u64 ref, .int .i64 t, .int .u8 hint.toNat, .int .i32 schema, .int .u64 thr, .int .u64 sum, .int .u64 zc, .int .u64 cnt, .slice A1 n1 c1, .slice A2 n2 c2, .slice A3 n3 c3, .slice A4 n4 c4, .slice A5 n5 c5, .slice A6 n6 c6, .slice A7 n7 c7])
    have F8 := zmk ((HF.out.alloc (.cells #[.int .u64 ref, .int .i64 t, .int .u8 hint.toNat, .int .i32 schema, .int .u64 thr, .int .u64 sum, .int .u64 zc, .int .u64 cnt, .slice A1 n1 c1, .slice A2 n2 c2, .slice A3 n3 c3, .slice A4 n4 c4, .slice A5 n5 c5, .slice A6 n6 c6, .slice A7 n7 c7] 194)).drew); have qY := ii.out; have jw : lo.length <= 1099511627776 := by omega
    obtain ⟨s0, s1, s2, s3, s4, s5, s6, s7, s8, s9, im, oM, oL, s13, s14⟩ := zg7 dn.out.drew
    go_region_held3 (fun w' => w'.cell? ⟨wr.heap.size, 0, none⟩ = some (.int .u64 ref) /\ w'.cell? ⟨wr.heap.size, 1, none⟩ = some (.int .i64 t) /\ w'.cell? ⟨wr.heap.size, 2, none⟩ = some (.int .u8 hint.toNat) /\ w'.cell? ⟨wr.heap.size, 3, none⟩ = some (.int .i32 schema) /\ w'.cell? ⟨wr.heap.size, 4, none⟩ = some (.int .u64 thr) /\ w'.cell? ⟨wr.heap.size, 5, none⟩ = some (.int .u64 sum) /\ w'.cell? ⟨wr.heap.size, 6, none⟩ = some (.int .u64 zc) /\ w'.cell? ⟨wr.heap.size, 7, none⟩ = some (.int .u64 cnt) /\ w'.cell? ⟨wr.heap.size, 8, none⟩ = some (.slice A1 n1 c1) /\ w'.cell? ⟨wr.heap.size, 9, none⟩ = some (.slice A2 n2 c2) /\ w'.cell? ⟨wr.heap.size, 10, none⟩ = some (.slice A3 n3 c3) /\ w'.cell? ⟨wr.heap.size, 11, none⟩ = some (.slice A4 n4 c4) /\ w'.cell? ⟨wr.heap.size, 12, none⟩ = some (.slice A5 n5 c5) /\ w'.cell? ⟨wr.heap.size, 13, none⟩ = some (.slice A6 n6 c6) /\ w'.cell? ⟨wr.heap.size, 14, none⟩ = some (.slice A7 n7 c7))
     ((first | exact zg7 ef.out | exact zg7 (cG.out.alloc _) | exact zg7 cG.out | exact zg7 dn.out.drew | go_keep))
     ((first
       | (go_at_call 175; refine (HC.out _ F8.out).mono ?_; rintro r5 w5 ⟨v5, rfl, es, aq⟩; have HP5 := es; obtain ⟨g5, q5, rfl, _⟩ := HP5; have cG := zmk (dn.out.drew.fr aq (fun e => e)); have F5 := zmk (F8.out.same aq); have G5 := zmk ((((znq (fun _ => False) wr).alloc (.cells #[.int .u64 ref, .int .i64 t, .int .u8 hint.toNat, .int .i32 schema, .int .u64 thr, .int .u64 sum, .int .u64 zc, .int .u64 cnt, .slice A1 n1 c1, .slice A2 n2 c2, .slice A3 n3 c3, .slice A4 n4 c4, .slice A5 n5 c5, .slice A6 n6 c6, .slice A7 n7 c7] 194)).drew).same aq); have O5 := zmk (HO.out.fr G5.out (fun _ _ _ e => e)); have iR := zmk (es.mono F8.out.size); have lO := F5.out.size)
       | (go_at_call 178; refine (HC.out _ F8.out).mono ?_; rintro r5 w5 ⟨v5, rfl, es, aq⟩; have HP5 := es; obtain ⟨g5, q5, rfl, _⟩ := HP5; have cG := zmk (dn.out.drew.fr aq (fun e => e)); have F5 := zmk (F8.out.same aq); have G5 := zmk ((((znq (fun _ => False) wr).alloc (.cells #[.int .u64 ref, .int .i64 t, .int .u8 hint.toNat, .int .i32 schema, .int .u64 thr, .int .u64 sum, .int .u64 zc, .int .u64 cnt, .slice A1 n1 c1, .slice A2 n2 c2, .slice A3 n3 c3, .slice A4 n4 c4, .slice A5 n5 c5, .slice A6 n6 c6, .slice A7 n7 c7] 194)).drew).same aq); have O5 := zmk (HO.out.fr G5.out (fun _ _ _ e => e)); have iR := zmk (es.mono F8.out.size); have lO := F5.out.size)
       | (refine zat _ (by rfl) _ _ 177 177 (by rfl) w.heap.size 290 i0 _ 3 24 underlying177 aD aA az aC rfl (by decide) (.slice a' n' k') lo.length (lo.flatMap rhc) (by rfl) (O5.out.1.alloc _) _ 1 [.int .u64 ref, .int .i64 t, .pointer (some ⟨g5, 0, none⟩)] (by rfl) (zaH underlying177 (znr w5 290 #[.int .u64 ref, .int .i64 t, .pointer (some ⟨g5, 0, none⟩)]) rfl (by simp [Value.oneCell'])) (by unfold maxLen; omega) (by omega) (by simp; omega) ?_; intro v' w2 ac ad ax; have ef := zmk ((cG.out.alloc (.cells #[.int .u64 ref, .int .i64 t, .pointer (some ⟨g5, 0, none⟩)] 290)).grown ad (fun e => zm4 _ (zas HO.out.1 e.symm))))
       | (refine zat _ (by rfl) _ _ 182 182 (by rfl) w.heap.size 298 i0 _ 3 24 underlying182 aD aA az aC rfl (by decide) (.slice a' n' k') lo.length (lo.flatMap rhc) (by rfl) (O5.out.1.alloc _) _ 1 [.int .u64 ref, .int .i64 t, .pointer (some ⟨g5, 0, none⟩)] (by rfl) (zaH underlying182 (znr w5 298 #[.int .u64 ref, .int .i64 t, .pointer (some ⟨g5, 0, none⟩)]) rfl (by simp [Value.oneCell'])) (by unfold maxLen; omega) (by omega) (by simp; omega) ?_; intro v' w2 ac ad ax; have ef := zmk ((cG.out.alloc (.cells #[.int .u64 ref, .int .i64 t, .pointer (some ⟨g5, 0, none⟩)] 298)).grown ad (fun e => zm4 _ (zas HO.out.1 e.symm))))))
    first
     | guard_hyp ag
       have aU : OwnHW w.heap.size w2 v' (lo ++ [(⟨ref, t, hh⟩, .pointer (some ⟨g5, 0, none⟩))]) :=
        OwnHW.push (p := (⟨ref, t, hh⟩, .pointer (some ⟨g5, 0, none⟩))) (O5.out.fr ((znq (fun _ => False) w5).alloc (.cells #[.int .u64 ref, .int .i64 t, .pointer (some ⟨g5, 0, none⟩)] 290)) (fun _ _ _ e => e)) (iR.out.fr ((znq (fun _ => False) w5).alloc (.cells #[.int .u64 ref, .int .i64 t, .pointer (some ⟨g5, 0, none⟩)] 290)) (fun _ _ _ e => e)) ad ac
     | have aU : OwnHF w.heap.size w2 v' (lo ++ [(⟨ref, t, hh⟩, .pointer (some ⟨g5, 0, none⟩))]) :=
        OwnHF.push (p := (⟨ref, t, hh⟩, .pointer (some ⟨g5, 0, none⟩))) (O5.out.fr ((znq (fun _ => False) w5).alloc (.cells #[.int .u64 ref, .int .i64 t, .pointer (some ⟨g5, 0, none⟩)] 298)) (fun _ _ _ e => e)) (iR.out.fr ((znq (fun _ => False) w5).alloc (.cells #[.int .u64 ref, .int .i64 t, .pointer (some ⟨g5, 0, none⟩)] 298)) (fun _ _ _ e => e)) ad ac
    have bM : Fr (fun _ => False) w w2 := (F5.out.alloc _).grown ad (fun g hg => .inr ((HO.out.1.lt g hg).1)); have cf : (lo ++ [((⟨ref, t, hh⟩ : Rhs), Value.pointer (some ⟨g5, 0, none⟩))]).map Prod.fst = (lv.take (k + 1)).map Prod.fst := by
     rw [zmV, HX.out, zmK, zmK, HM.out, HEH.out]; rfl
    have cI : (lo ++ [((⟨ref, t, hh⟩ : Rhs), Value.pointer (some ⟨g5, 0, none⟩))]).length = k + 1 := by rw [zml, ii.out]; rfl
    have NO := zmk aU; have NF := zmk bM; have NM := zmk cf; have NN := zmk cI; clear aU bM cf cI ac ad ax my jb mx qu qt c50 qr qp nI nH gU gT gS gR gQ s0 s1 s2 s3 s4 s5 s6 s7 s8 s9 im oM oL s13 s14 aq ef O5 iR es HC; go_wp2; go_roundw
    case rel => exact ⟨k + 1, _, by omega, by go_num, NM, NN, NO, NF⟩
    case measure => simp [intOf]; omega
   ·go_wp2
    go_ret; obtain rfl : k = n := by omega
    refine ⟨_, lo, rfl, ?_, HO.out, HF.out⟩; rw [HM.out, <- HN.out, zmL]
theorem zcA : type_of% (zbz.1 trivial) := zbz.1 trivial
theorem zdK : type_of% (zbz.2 trivial) := zbz.2 trivial
end Go.Proofs.YtbkookiigkckdaaGreatDoor
