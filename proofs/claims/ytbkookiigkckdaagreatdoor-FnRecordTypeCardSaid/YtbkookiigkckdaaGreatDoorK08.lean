/- Texts of this seat, merged: H3, Lp, Lf. -/
import Derived.Test.YtbkookiigkckdaaGreatDoorK07
import Derived.Test.YtbkookiigkckdaaGreatDoorK05
import Derived.Test.YtbkookiigkckdaaGreatDoorK06
/- Samples of histograms in memory; impl.refHistograms, impl.refFloats. Printed by gen_h3.py. -/
namespace Go.Proofs.YtbkookiigkckdaaGreatDoor
open Go.RowKit
set_option linter.unusedVariables false
set_option linter.unusedSimpArgs false

/-- A part of a record of histograms. -/
structure Rhs where
  ref : Nat
  t : Int
  h : Hst
def hsc (p : Rhs × Hsl) : List Value := .int .u64 p.1.ref :: .int .i64 p.1.t :: hic p.1.h p.2
def rhc (p : Rhs × Value) : List Value := [.int .u64 p.1.ref, .int .i64 p.1.t, p.2]
/-- A slice that reads as samples of histograms. -/
def SlH (P : Nat → Prop) (w : World) (v : Value) (lv : List (Rhs × Hsl)) : Prop :=
  Sl P w v 15 lv.length (lv.flatMap hsc) ∧ ∀ p ∈ lv, SlHs P w p.1.h p.2
theorem SlH.fr {P S : Nat → Prop} {w w' : World} {v : Value} {lv : List (Rhs × Hsl)} (h : SlH P w v lv) (hf : Fr S w w') (hs : ∀ g, P g → ¬ S g) : SlH P w' v lv :=
  ⟨h.1.fr hf hs, fun p hp => (h.2 p hp).fr hf hs⟩
theorem cells11 {w : World} {g t : Nat} {a0 a1 a2 a3 a4 a5 a6 a7 a8 a9 a10 : Value} (h : Blk w g t #[a0, a1, a2, a3, a4, a5, a6, a7, a8, a9, a10]) :
    w.cell? ⟨g, 0, none⟩ = some a0 ∧ w.cell? ⟨g, 1, none⟩ = some a1 ∧ w.cell? ⟨g, 2, none⟩ = some a2 ∧ w.cell? ⟨g, 3, none⟩ = some a3 ∧ w.cell? ⟨g, 4, none⟩ = some a4 ∧ w.cell? ⟨g, 5, none⟩ = some a5 ∧ w.cell? ⟨g, 6, none⟩ = some a6 ∧
    w.cell? ⟨g, 7, none⟩ = some a7 ∧ w.cell? ⟨g, 8, none⟩ = some a8 ∧ w.cell? ⟨g, 9, none⟩ = some a9 ∧ w.cell? ⟨g, 10, none⟩ = some a10 :=
  ⟨h.cell 0, h.cell 1, h.cell 2, h.cell 3, h.cell 4, h.cell 5, h.cell 6, h.cell 7, h.cell 8, h.cell 9, h.cell 10⟩
theorem cells15 {w : World} {g t : Nat} {r0 r1 a0 a1 a2 a3 a4 a5 a6 a7 a8 a9 a10 a11 a12 : Value} (h : Blk w g t #[r0, r1, a0, a1, a2, a3, a4, a5, a6, a7, a8, a9, a10, a11, a12]) :
    w.cell? ⟨g, 0, none⟩ = some r0 ∧ w.cell? ⟨g, 1, none⟩ = some r1 ∧ w.cell? ⟨g, 2, none⟩ = some a0 ∧ w.cell? ⟨g, 3, none⟩ = some a1 ∧ w.cell? ⟨g, 4, none⟩ = some a2 ∧ w.cell? ⟨g, 5, none⟩ = some a3 ∧ w.cell? ⟨g, 6, none⟩ = some a4 ∧ w.cell? ⟨g, 7, none⟩ = some a5 ∧ w.cell? ⟨g, 8, none⟩ = some a6 ∧
    w.cell? ⟨g, 9, none⟩ = some a7 ∧ w.cell? ⟨g, 10, none⟩ = some a8 ∧ w.cell? ⟨g, 11, none⟩ = some a9 ∧ w.cell? ⟨g, 12, none⟩ = some a10 ∧ w.cell? ⟨g, 13, none⟩ = some a11 ∧ w.cell? ⟨g, 14, none⟩ = some a12 :=
  ⟨h.cell 0, h.cell 1, h.cell 2, h.cell 3, h.cell 4, h.cell 5, h.cell 6, h.cell 7, h.cell 8, h.cell 9, h.cell 10, h.cell 11, h.cell 12, h.cell 13, h.cell 14⟩


theorem Tryz.info290 : (Tryz.prog.info? 290).map (fun i => (i.zero, i.size, i.bytes)) = some (some (.agg #[.int .u64 0, .int .i64 0, .pointer none]), 3, 24) := by kernel_rfl
/-- A slice of them that a call made, with all that it points to. -/
def OwnHW (base : Nat) (w : World) (v : Value) (lo : List (Rhs × Value)) : Prop :=
  w.ownsRow base 290 3 v lo.length (lo.flatMap rhc) ∧ ∀ p ∈ lo, OwnW base w p.1.h p.2
theorem OwnHW.nil (base : Nat) (w : World) : OwnHW base w (.slice none 0 0) [] := ⟨World.ownsRow_nil _ _ _ _, fun p hp => by cases hp⟩
theorem OwnHW.fr {S : Nat → Prop} {base : Nat} {w w' : World} {v : Value} {lo : List (Rhs × Value)} (h : OwnHW base w v lo) (hf : Fr S w w') (hs : ∀ k, base ≤ k → k < w.heap.size → ¬ S k) : OwnHW base w' v lo :=
  ⟨own_fr h.1 hf (fun g hg => hs g (h.1.lt g hg).1 (own_lt h.1 hg)), fun p hp => (h.2 p hp).fr hf hs⟩
theorem OwnHW.push {base : Nat} {w w2 : World} {v v' : Value} {lo : List (Rhs × Value)} {p : Rhs × Value} (h : OwnHW base w v lo) (hp : OwnW base w p.1.h p.2) (hg : w.grownBy w2 v.ownBlock)
    (ho : w2.ownsRow base 290 3 v' (lo.length + 1) (lo.flatMap rhc ++ rhc p)) : OwnHW base w2 v' (lo ++ [p]) := by
  refine ⟨by simpa using ho, fun q hq => ?_⟩
  rcases List.mem_append.1 hq with hq | hq
  · exact (h.2 q hq).grown h.1 hg (by decide) (by decide) (by decide) (by decide)
  · rw [List.mem_singleton] at hq
    subst hq
    exact hp.grown h.1 hg (by decide) (by decide) (by decide) (by decide)
def RdHW (P : Nat → Prop) (w : World) (v : Value) (lo : List (Rhs × Value)) : Prop :=
  Sl P w v 3 lo.length (lo.flatMap rhc) ∧ ∀ p ∈ lo, RdW P w p.1.h p.2
theorem OwnHW.rd {base : Nat} {w : World} {v : Value} {lo : List (Rhs × Value)} (h : OwnHW base w v lo) : RdHW (fun g => base ≤ g ∧ g < w.heap.size) w v lo :=
  ⟨(Sl.ofOwn h.1).mono (fun g hg => ⟨(h.1.lt g hg).1, own_lt h.1 hg⟩), fun p hp => (h.2 p hp).rd⟩
def RefHWEnds (w : World) (l : List Rhs) (r : Ending) (w' : World) : Prop :=
  ∃ v lo, r = .returned v ∧ lo.map Prod.fst = l ∧ OwnHW w.heap.size w' v lo ∧ Fr (fun _ => False) w w'

set_option maxHeartbeats 4000000 in
set_option maxRecDepth 100000 in
theorem refHistograms_any (P : Nat → Prop) (v : Value) (lv : List (Rhs × Hsl)) (w : World) (h : SlH P w v lv) (hl : lv.length ≤ 1099511627776) (hil : ∀ p ∈ lv, p.1.h.few 1099511627776) :
    Calls Tryz.prog 84 #[v] w (RefHWEnds w (lv.map Prod.fst)) := by
  have mixed : Tryz.prog.follows .mixedOrders = true := by kernel_rfl
  obtain ⟨⟨A, c, rfl, hlen, hnc, hr⟩, hin⟩ := h
  obtain ⟨n, hn⟩ : ∃ n, lv.length = n := ⟨_, rfl⟩
  rw [hn] at hr hnc hl ⊢
  have HN := Lib.hid hn
  have HR := Lib.hid hr
  have HI := Lib.hid hin
  have HIL := Lib.hid hil
  obtain ⟨i0, hi0, hz0, hz1, hz2⟩ := info_parts Tryz.info290
  clear hn hr hlen hin hil
  go_enter Tryz.func84, Tryz.ntmps84
  go_wp2
  go_loopw [2, 7] (fun v i wr => ∃ (k : Nat) (lo : List (Rhs × Value)), k ≤ n ∧ i = .int .i64 k ∧ Hid (lo.map Prod.fst = (lv.take k).map Prod.fst) ∧ Hid (lo.length = k) ∧ Hid (OwnHW w.heap.size wr v lo) ∧ Hid (Fr (fun _ => False) w wr)) (fun _ i _ => n - (intOf i).toNat)
  case atStart => exact ⟨0, [], Nat.zero_le _, rfl, Lib.hid rfl, Lib.hid rfl, Lib.hid (OwnHW.nil _ _), Lib.hid (Fr.refl _ _)⟩
  case round =>
    obtain ⟨k, lo, hk, rfl, HM, HLO, HO, HF⟩ := hrel
    by_cases hlt : k < n
    · obtain ⟨g, off, rfl, _, hcell⟩ := HR.out (by omega)
      obtain ⟨x, hx⟩ : ∃ x, lv[k]? = some x := ⟨_, List.getElem?_eq_getElem (by rw [HN.out]; exact hlt)⟩
      have cc : ∀ j, j < 15 → ∀ u, (hsc x)[j]? = some u → wr.cell? ⟨g, off + (k * 15 + j), none⟩ = some u := fun j hj u hu => by
        have := hcell (k * 15 + j) u (by rw [flatN 15 hsc (fun _ => rfl) lv k x hx j hj]; exact hu)
        rw [HF.out.cell (p := ⟨g, off + (k * 15 + j), none⟩) (World.block_lt_of_cell? w _ this) (fun e => e)]
        exact this
      have c00 : wr.cell? ⟨g, off + k * 15, none⟩ = some (.int .u64 x.1.ref) := cc 0 (by omega) _ rfl
      have c10 : wr.cell? ⟨g, off + k * 15 + 1, none⟩ = some (.int .i64 x.1.t) := cc 1 (by omega) _ rfl
      have c20 : wr.cell? ⟨g, off + k * 15 + 2, none⟩ = some (.int .u8 x.1.h.hint.toNat) := cc 2 (by omega) _ rfl
      have c30 : wr.cell? ⟨g, off + k * 15 + 3, none⟩ = some (.int .i32 x.1.h.schema) := cc 3 (by omega) _ rfl
      have c40 : wr.cell? ⟨g, off + k * 15 + 4, none⟩ = some (.int .u64 x.1.h.thr) := cc 4 (by omega) _ rfl
      have c50 : wr.cell? ⟨g, off + k * 15 + 5, none⟩ = some (.int .u64 x.1.h.sum) := cc 5 (by omega) _ rfl
      have c60 : wr.cell? ⟨g, off + k * 15 + 6, none⟩ = some (.int .u64 x.1.h.zc) := cc 6 (by omega) _ rfl
      have c70 : wr.cell? ⟨g, off + k * 15 + 7, none⟩ = some (.int .u64 x.1.h.cnt) := cc 7 (by omega) _ rfl
      have c80 : wr.cell? ⟨g, off + k * 15 + 8, none⟩ = some x.2.p := cc 8 (by omega) _ rfl
      have c90 : wr.cell? ⟨g, off + k * 15 + 9, none⟩ = some x.2.n := cc 9 (by omega) _ rfl
      have c100 : wr.cell? ⟨g, off + k * 15 + 10, none⟩ = some x.2.u := cc 10 (by omega) _ rfl
      have c110 : wr.cell? ⟨g, off + k * 15 + 11, none⟩ = some x.2.d := cc 11 (by omega) _ rfl
      have c120 : wr.cell? ⟨g, off + k * 15 + 12, none⟩ = some x.2.fu := cc 12 (by omega) _ rfl
      have c130 : wr.cell? ⟨g, off + k * 15 + 13, none⟩ = some x.2.fd := cc 13 (by omega) _ rfl
      have c140 : wr.cell? ⟨g, off + k * 15 + 14, none⟩ = some x.2.c := cc 14 (by omega) _ rfl
      have hxm := List.mem_of_getElem? hx
      have hiv := HI.out x hxm
      have hivl := HIL.out x hxm
      obtain ⟨⟨ref, t, ⟨hint, schema, thr, sum, zc, cnt, pos, neg, ups, downs, fups, fdowns, cus⟩⟩, ⟨sp, sn, su, sd, sfu, sfd, sc⟩⟩ := x
      simp only [] at c00 c10 c20 c30 c40 c50 c60 c70 c80 c90 c100 c110 c120 c130 c140 hiv hivl
      have hiv2 := hiv
      obtain ⟨z1, z2, z3, z4, z5, z6, z7⟩ := hiv2
      simp only [] at z1 z2 z3 z4 z5 z6 z7
      obtain ⟨A1, c1, rfl⟩ := z1.shape
      obtain ⟨A2, c2, rfl⟩ := z2.shape
      obtain ⟨A3, c3, rfl⟩ := z3.shape
      obtain ⟨A4, c4, rfl⟩ := z4.shape
      obtain ⟨A5, c5, rfl⟩ := z5.shape
      obtain ⟨A6, c6, rfl⟩ := z6.shape
      obtain ⟨A7, c7, rfl⟩ := z7.shape
      clear z1 z2 z3 z4 z5 z6 z7
      have hsz := HF.out.size
      have hC := fun W (hW : Fr (fun _ => False) w W) => whole_any P ⟨hint, schema, thr, sum, zc, cnt, pos, neg, ups, downs, fups, fdowns, cus⟩ _ W (hiv.fr hW (fun _ _ e => e)) hivl
      simp only [hic] at hC
      obtain ⟨n1, e1⟩ : ∃ n, pos.length = n := ⟨_, rfl⟩
      obtain ⟨n2, e2⟩ : ∃ n, neg.length = n := ⟨_, rfl⟩
      obtain ⟨n3, e3⟩ : ∃ n, ups.length = n := ⟨_, rfl⟩
      obtain ⟨n4, e4⟩ : ∃ n, downs.length = n := ⟨_, rfl⟩
      obtain ⟨n5, e5⟩ : ∃ n, fups.length = n := ⟨_, rfl⟩
      obtain ⟨n6, e6⟩ : ∃ n, fdowns.length = n := ⟨_, rfl⟩
      obtain ⟨n7, e7⟩ : ∃ n, cus.length = n := ⟨_, rfl⟩
      obtain ⟨hh, ehh⟩ : ∃ hh : Hst, hh = ⟨hint, schema, thr, sum, zc, cnt, pos, neg, ups, downs, fups, fdowns, cus⟩ := ⟨_, rfl⟩
      rw [← ehh] at hC
      rw [e1] at hC c80
      rw [e2] at hC c90
      rw [e3] at hC c100
      rw [e4] at hC c110
      rw [e5] at hC c120
      rw [e6] at hC c130
      rw [e7] at hC c140
      have HX := Lib.hid hx
      have HEH := Lib.hid ehh
      have HC := Lib.hid hC
      have HEE := Lib.hid (And.intro e1 (And.intro e2 (And.intro e3 (And.intro e4 (And.intro e5 (And.intro e6 e7))))))
      obtain ⟨a', n', k', rfl⟩ := own_slice HO.out.1
      clear hcell cc hx hxm hC ehh e1 e2 e3 e4 e5 e6 e7 hiv hivl
      go_wp2_with fail
      have HB8 := Lib.hid (Blk.new wr 194 #[.int .u64 ref, .int .i64 t, .int .u8 hint.toNat, .int .i32 schema, .int .u64 thr, .int .u64 sum, .int .u64 zc, .int .u64 cnt, .slice A1 n1 c1, .slice A2 n2 c2, .slice A3 n3 c3, .slice A4 n4 c4, .slice A5 n5 c5, .slice A6 n6 c6, .slice A7 n7 c7])
      have F8 := Lib.hid ((HF.out.alloc (.cells #[.int .u64 ref, .int .i64 t, .int .u8 hint.toNat, .int .i32 schema, .int .u64 thr, .int .u64 sum, .int .u64 zc, .int .u64 cnt, .slice A1 n1 c1, .slice A2 n2 c2, .slice A3 n3 c3, .slice A4 n4 c4, .slice A5 n5 c5, .slice A6 n6 c6, .slice A7 n7 c7] 194)).drew)
      have HLO2 := HLO.out
      have hloz : lo.length ≤ 1099511627776 := by omega
      obtain ⟨s0, s1, s2, s3, s4, s5, s6, s7, s8, s9, s10, s11, s12, s13, s14⟩ := cells15 HB8.out.drew
      go_region_held3 (fun w' => w'.cell? ⟨wr.heap.size, 0, none⟩ = some (.int .u64 ref) ∧ w'.cell? ⟨wr.heap.size, 1, none⟩ = some (.int .i64 t) ∧ w'.cell? ⟨wr.heap.size, 2, none⟩ = some (.int .u8 hint.toNat) ∧ w'.cell? ⟨wr.heap.size, 3, none⟩ = some (.int .i32 schema) ∧ w'.cell? ⟨wr.heap.size, 4, none⟩ = some (.int .u64 thr) ∧ w'.cell? ⟨wr.heap.size, 5, none⟩ = some (.int .u64 sum) ∧ w'.cell? ⟨wr.heap.size, 6, none⟩ = some (.int .u64 zc) ∧ w'.cell? ⟨wr.heap.size, 7, none⟩ = some (.int .u64 cnt) ∧ w'.cell? ⟨wr.heap.size, 8, none⟩ = some (.slice A1 n1 c1) ∧ w'.cell? ⟨wr.heap.size, 9, none⟩ = some (.slice A2 n2 c2) ∧ w'.cell? ⟨wr.heap.size, 10, none⟩ = some (.slice A3 n3 c3) ∧ w'.cell? ⟨wr.heap.size, 11, none⟩ = some (.slice A4 n4 c4) ∧ w'.cell? ⟨wr.heap.size, 12, none⟩ = some (.slice A5 n5 c5) ∧ w'.cell? ⟨wr.heap.size, 13, none⟩ = some (.slice A6 n6 c6) ∧ w'.cell? ⟨wr.heap.size, 14, none⟩ = some (.slice A7 n7 c7))
        ((first | exact cells15 KX9.out | exact cells15 (KX5.out.alloc _) | exact cells15 KX5.out | exact cells15 HB8.out.drew | go_keep))
        ((first
          | (go_at_call 175; refine (HC.out _ F8.out).mono ?_; rintro r5 w5 ⟨v5, rfl, own5, hf5⟩; have HP5 := own5; obtain ⟨g5, q5, rfl, _⟩ := HP5; have KX5 := Lib.hid (HB8.out.drew.fr hf5 (fun e => e)); have F5 := Lib.hid (F8.out.same hf5); have G5 := Lib.hid ((((Fr.refl (fun _ => False) wr).alloc (.cells #[.int .u64 ref, .int .i64 t, .int .u8 hint.toNat, .int .i32 schema, .int .u64 thr, .int .u64 sum, .int .u64 zc, .int .u64 cnt, .slice A1 n1 c1, .slice A2 n2 c2, .slice A3 n3 c3, .slice A4 n4 c4, .slice A5 n5 c5, .slice A6 n6 c6, .slice A7 n7 c7] 194)).drew).same hf5); have O5 := Lib.hid (HO.out.fr G5.out (fun _ _ _ e => e)); have HN5 := Lib.hid (own5.mono F8.out.size); have hz5 := F5.out.size)
          | (refine step_append_src _ (by rfl) _ _ 177 177 (by rfl) w.heap.size 290 i0 _ 3 24 Tryz.underlying177 hi0 hz0 hz1 hz2 rfl (by decide) (.slice a' n' k') lo.length (lo.flatMap rhc) (by rfl) (O5.out.1.alloc _) _ 1 [.int .u64 ref, .int .i64 t, .pointer (some ⟨g5, 0, none⟩)] (by rfl) (src_blk Tryz.underlying177 (Blk.new w5 290 #[.int .u64 ref, .int .i64 t, .pointer (some ⟨g5, 0, none⟩)]) rfl (by simp [Value.oneCell'])) (by unfold maxLen; omega) (by omega) (by simp; omega) ?_; intro v' w2 hown' hgrow hat; have KX9 := Lib.hid ((KX5.out.alloc (.cells #[.int .u64 ref, .int .i64 t, .pointer (some ⟨g5, 0, none⟩)] 290)).grown hgrow (fun e => Nat.lt_irrefl _ (own_lt HO.out.1 e.symm))))))
      have newO : OwnHW w.heap.size w2 v' (lo ++ [(⟨ref, t, hh⟩, .pointer (some ⟨g5, 0, none⟩))]) :=
        OwnHW.push (p := (⟨ref, t, hh⟩, .pointer (some ⟨g5, 0, none⟩))) (O5.out.fr ((Fr.refl (fun _ => False) w5).alloc (.cells #[.int .u64 ref, .int .i64 t, .pointer (some ⟨g5, 0, none⟩)] 290)) (fun _ _ _ e => e)) (HN5.out.fr ((Fr.refl (fun _ => False) w5).alloc (.cells #[.int .u64 ref, .int .i64 t, .pointer (some ⟨g5, 0, none⟩)] 290)) (fun _ _ _ e => e)) hgrow hown'
      have newF : Fr (fun _ => False) w w2 := (F5.out.alloc _).grown hgrow (fun g hg => .inr ((HO.out.1.lt g hg).1))
      have newM : (lo ++ [((⟨ref, t, hh⟩ : Rhs), Value.pointer (some ⟨g5, 0, none⟩))]).map Prod.fst = (lv.take (k + 1)).map Prod.fst := by
        rw [List.take_add_one, HX.out, List.map_append, List.map_append, HM.out, HEH.out]
        rfl
      have newN : (lo ++ [((⟨ref, t, hh⟩ : Rhs), Value.pointer (some ⟨g5, 0, none⟩))]).length = k + 1 := by rw [List.length_append, HLO.out]; rfl
      have NO := Lib.hid newO
      have NF := Lib.hid newF
      have NM := Lib.hid newM
      have NN := Lib.hid newN
      clear newO newF newM newN hown' hgrow hat c00 c10 c20 c30 c40 c50 c60 c70 c80 c90 c100 c110 c120 c130 c140 s0 s1 s2 s3 s4 s5 s6 s7 s8 s9 s10 s11 s12 s13 s14 hf5 KX9 O5 HN5 own5 HC
      go_wp2
      go_roundw
      case rel => exact ⟨k + 1, _, by omega, by go_num, NM, NN, NO, NF⟩
      case measure => simp [intOf]; omega
    · go_wp2
      go_ret
      obtain rfl : k = n := by omega
      refine ⟨_, lo, rfl, ?_, HO.out, HF.out⟩
      rw [HM.out, ← HN.out, List.take_length]


theorem Tryz.info298 : (Tryz.prog.info? 298).map (fun i => (i.zero, i.size, i.bytes)) = some (some (.agg #[.int .u64 0, .int .i64 0, .pointer none]), 3, 24) := by kernel_rfl
/-- A slice of them that a call made, with all that it points to. -/
def OwnHF (base : Nat) (w : World) (v : Value) (lo : List (Rhs × Value)) : Prop :=
  w.ownsRow base 298 3 v lo.length (lo.flatMap rhc) ∧ ∀ p ∈ lo, OwnF base w p.1.h p.2
theorem OwnHF.nil (base : Nat) (w : World) : OwnHF base w (.slice none 0 0) [] := ⟨World.ownsRow_nil _ _ _ _, fun p hp => by cases hp⟩
theorem OwnHF.fr {S : Nat → Prop} {base : Nat} {w w' : World} {v : Value} {lo : List (Rhs × Value)} (h : OwnHF base w v lo) (hf : Fr S w w') (hs : ∀ k, base ≤ k → k < w.heap.size → ¬ S k) : OwnHF base w' v lo :=
  ⟨own_fr h.1 hf (fun g hg => hs g (h.1.lt g hg).1 (own_lt h.1 hg)), fun p hp => (h.2 p hp).fr hf hs⟩
theorem OwnHF.push {base : Nat} {w w2 : World} {v v' : Value} {lo : List (Rhs × Value)} {p : Rhs × Value} (h : OwnHF base w v lo) (hp : OwnF base w p.1.h p.2) (hg : w.grownBy w2 v.ownBlock)
    (ho : w2.ownsRow base 298 3 v' (lo.length + 1) (lo.flatMap rhc ++ rhc p)) : OwnHF base w2 v' (lo ++ [p]) := by
  refine ⟨by simpa using ho, fun q hq => ?_⟩
  rcases List.mem_append.1 hq with hq | hq
  · exact (h.2 q hq).grown h.1 hg (by decide) (by decide) (by decide) (by decide)
  · rw [List.mem_singleton] at hq
    subst hq
    exact hp.grown h.1 hg (by decide) (by decide) (by decide) (by decide)
def RdHF (P : Nat → Prop) (w : World) (v : Value) (lo : List (Rhs × Value)) : Prop :=
  Sl P w v 3 lo.length (lo.flatMap rhc) ∧ ∀ p ∈ lo, RdF P w p.1.h p.2
theorem OwnHF.rd {base : Nat} {w : World} {v : Value} {lo : List (Rhs × Value)} (h : OwnHF base w v lo) : RdHF (fun g => base ≤ g ∧ g < w.heap.size) w v lo :=
  ⟨(Sl.ofOwn h.1).mono (fun g hg => ⟨(h.1.lt g hg).1, own_lt h.1 hg⟩), fun p hp => (h.2 p hp).rd⟩
def RefHFEnds (w : World) (l : List Rhs) (r : Ending) (w' : World) : Prop :=
  ∃ v lo, r = .returned v ∧ lo.map Prod.fst = l ∧ OwnHF w.heap.size w' v lo ∧ Fr (fun _ => False) w w'

set_option maxHeartbeats 4000000 in
set_option maxRecDepth 100000 in
theorem refFloats_any (P : Nat → Prop) (v : Value) (lv : List (Rhs × Hsl)) (w : World) (h : SlH P w v lv) (hl : lv.length ≤ 1099511627776) (hil : ∀ p ∈ lv, p.1.h.few 1099511627776) :
    Calls Tryz.prog 87 #[v] w (RefHFEnds w (lv.map Prod.fst)) := by
  have mixed : Tryz.prog.follows .mixedOrders = true := by kernel_rfl
  obtain ⟨⟨A, c, rfl, hlen, hnc, hr⟩, hin⟩ := h
  obtain ⟨n, hn⟩ : ∃ n, lv.length = n := ⟨_, rfl⟩
  rw [hn] at hr hnc hl ⊢
  have HN := Lib.hid hn
  have HR := Lib.hid hr
  have HI := Lib.hid hin
  have HIL := Lib.hid hil
  obtain ⟨i0, hi0, hz0, hz1, hz2⟩ := info_parts Tryz.info298
  clear hn hr hlen hin hil
  go_enter Tryz.func87, Tryz.ntmps87
  go_wp2
  go_loopw [2, 7] (fun v i wr => ∃ (k : Nat) (lo : List (Rhs × Value)), k ≤ n ∧ i = .int .i64 k ∧ Hid (lo.map Prod.fst = (lv.take k).map Prod.fst) ∧ Hid (lo.length = k) ∧ Hid (OwnHF w.heap.size wr v lo) ∧ Hid (Fr (fun _ => False) w wr)) (fun _ i _ => n - (intOf i).toNat)
  case atStart => exact ⟨0, [], Nat.zero_le _, rfl, Lib.hid rfl, Lib.hid rfl, Lib.hid (OwnHF.nil _ _), Lib.hid (Fr.refl _ _)⟩
  case round =>
    obtain ⟨k, lo, hk, rfl, HM, HLO, HO, HF⟩ := hrel
    by_cases hlt : k < n
    · obtain ⟨g, off, rfl, _, hcell⟩ := HR.out (by omega)
      obtain ⟨x, hx⟩ : ∃ x, lv[k]? = some x := ⟨_, List.getElem?_eq_getElem (by rw [HN.out]; exact hlt)⟩
      have cc : ∀ j, j < 15 → ∀ u, (hsc x)[j]? = some u → wr.cell? ⟨g, off + (k * 15 + j), none⟩ = some u := fun j hj u hu => by
        have := hcell (k * 15 + j) u (by rw [flatN 15 hsc (fun _ => rfl) lv k x hx j hj]; exact hu)
        rw [HF.out.cell (p := ⟨g, off + (k * 15 + j), none⟩) (World.block_lt_of_cell? w _ this) (fun e => e)]
        exact this
      have c00 : wr.cell? ⟨g, off + k * 15, none⟩ = some (.int .u64 x.1.ref) := cc 0 (by omega) _ rfl
      have c10 : wr.cell? ⟨g, off + k * 15 + 1, none⟩ = some (.int .i64 x.1.t) := cc 1 (by omega) _ rfl
      have c20 : wr.cell? ⟨g, off + k * 15 + 2, none⟩ = some (.int .u8 x.1.h.hint.toNat) := cc 2 (by omega) _ rfl
      have c30 : wr.cell? ⟨g, off + k * 15 + 3, none⟩ = some (.int .i32 x.1.h.schema) := cc 3 (by omega) _ rfl
      have c40 : wr.cell? ⟨g, off + k * 15 + 4, none⟩ = some (.int .u64 x.1.h.thr) := cc 4 (by omega) _ rfl
      have c50 : wr.cell? ⟨g, off + k * 15 + 5, none⟩ = some (.int .u64 x.1.h.sum) := cc 5 (by omega) _ rfl
      have c60 : wr.cell? ⟨g, off + k * 15 + 6, none⟩ = some (.int .u64 x.1.h.zc) := cc 6 (by omega) _ rfl
      have c70 : wr.cell? ⟨g, off + k * 15 + 7, none⟩ = some (.int .u64 x.1.h.cnt) := cc 7 (by omega) _ rfl
      have c80 : wr.cell? ⟨g, off + k * 15 + 8, none⟩ = some x.2.p := cc 8 (by omega) _ rfl
      have c90 : wr.cell? ⟨g, off + k * 15 + 9, none⟩ = some x.2.n := cc 9 (by omega) _ rfl
      have c100 : wr.cell? ⟨g, off + k * 15 + 10, none⟩ = some x.2.u := cc 10 (by omega) _ rfl
      have c110 : wr.cell? ⟨g, off + k * 15 + 11, none⟩ = some x.2.d := cc 11 (by omega) _ rfl
      have c120 : wr.cell? ⟨g, off + k * 15 + 12, none⟩ = some x.2.fu := cc 12 (by omega) _ rfl
      have c130 : wr.cell? ⟨g, off + k * 15 + 13, none⟩ = some x.2.fd := cc 13 (by omega) _ rfl
      have c140 : wr.cell? ⟨g, off + k * 15 + 14, none⟩ = some x.2.c := cc 14 (by omega) _ rfl
      have hxm := List.mem_of_getElem? hx
      have hiv := HI.out x hxm
      have hivl := HIL.out x hxm
      obtain ⟨⟨ref, t, ⟨hint, schema, thr, sum, zc, cnt, pos, neg, ups, downs, fups, fdowns, cus⟩⟩, ⟨sp, sn, su, sd, sfu, sfd, sc⟩⟩ := x
      simp only [] at c00 c10 c20 c30 c40 c50 c60 c70 c80 c90 c100 c110 c120 c130 c140 hiv hivl
      have hiv2 := hiv
      obtain ⟨z1, z2, z3, z4, z5, z6, z7⟩ := hiv2
      simp only [] at z1 z2 z3 z4 z5 z6 z7
      obtain ⟨A1, c1, rfl⟩ := z1.shape
      obtain ⟨A2, c2, rfl⟩ := z2.shape
      obtain ⟨A3, c3, rfl⟩ := z3.shape
      obtain ⟨A4, c4, rfl⟩ := z4.shape
      obtain ⟨A5, c5, rfl⟩ := z5.shape
      obtain ⟨A6, c6, rfl⟩ := z6.shape
      obtain ⟨A7, c7, rfl⟩ := z7.shape
      clear z1 z2 z3 z4 z5 z6 z7
      have hsz := HF.out.size
      have hC := fun W (hW : Fr (fun _ => False) w W) => broken_any P ⟨hint, schema, thr, sum, zc, cnt, pos, neg, ups, downs, fups, fdowns, cus⟩ _ W (hiv.fr hW (fun _ _ e => e)) hivl
      simp only [hic] at hC
      obtain ⟨n1, e1⟩ : ∃ n, pos.length = n := ⟨_, rfl⟩
      obtain ⟨n2, e2⟩ : ∃ n, neg.length = n := ⟨_, rfl⟩
      obtain ⟨n3, e3⟩ : ∃ n, ups.length = n := ⟨_, rfl⟩
      obtain ⟨n4, e4⟩ : ∃ n, downs.length = n := ⟨_, rfl⟩
      obtain ⟨n5, e5⟩ : ∃ n, fups.length = n := ⟨_, rfl⟩
      obtain ⟨n6, e6⟩ : ∃ n, fdowns.length = n := ⟨_, rfl⟩
      obtain ⟨n7, e7⟩ : ∃ n, cus.length = n := ⟨_, rfl⟩
      obtain ⟨hh, ehh⟩ : ∃ hh : Hst, hh = ⟨hint, schema, thr, sum, zc, cnt, pos, neg, ups, downs, fups, fdowns, cus⟩ := ⟨_, rfl⟩
      rw [← ehh] at hC
      rw [e1] at hC c80
      rw [e2] at hC c90
      rw [e3] at hC c100
      rw [e4] at hC c110
      rw [e5] at hC c120
      rw [e6] at hC c130
      rw [e7] at hC c140
      have HX := Lib.hid hx
      have HEH := Lib.hid ehh
      have HC := Lib.hid hC
      have HEE := Lib.hid (And.intro e1 (And.intro e2 (And.intro e3 (And.intro e4 (And.intro e5 (And.intro e6 e7))))))
      obtain ⟨a', n', k', rfl⟩ := own_slice HO.out.1
      clear hcell cc hx hxm hC ehh e1 e2 e3 e4 e5 e6 e7 hiv hivl
      go_wp2_with fail
      have HB8 := Lib.hid (Blk.new wr 194 #[.int .u64 ref, .int .i64 t, .int .u8 hint.toNat, .int .i32 schema, .int .u64 thr, .int .u64 sum, .int .u64 zc, .int .u64 cnt, .slice A1 n1 c1, .slice A2 n2 c2, .slice A3 n3 c3, .slice A4 n4 c4, .slice A5 n5 c5, .slice A6 n6 c6, .slice A7 n7 c7])
      have F8 := Lib.hid ((HF.out.alloc (.cells #[.int .u64 ref, .int .i64 t, .int .u8 hint.toNat, .int .i32 schema, .int .u64 thr, .int .u64 sum, .int .u64 zc, .int .u64 cnt, .slice A1 n1 c1, .slice A2 n2 c2, .slice A3 n3 c3, .slice A4 n4 c4, .slice A5 n5 c5, .slice A6 n6 c6, .slice A7 n7 c7] 194)).drew)
      have HLO2 := HLO.out
      have hloz : lo.length ≤ 1099511627776 := by omega
      obtain ⟨s0, s1, s2, s3, s4, s5, s6, s7, s8, s9, s10, s11, s12, s13, s14⟩ := cells15 HB8.out.drew
      go_region_held3 (fun w' => w'.cell? ⟨wr.heap.size, 0, none⟩ = some (.int .u64 ref) ∧ w'.cell? ⟨wr.heap.size, 1, none⟩ = some (.int .i64 t) ∧ w'.cell? ⟨wr.heap.size, 2, none⟩ = some (.int .u8 hint.toNat) ∧ w'.cell? ⟨wr.heap.size, 3, none⟩ = some (.int .i32 schema) ∧ w'.cell? ⟨wr.heap.size, 4, none⟩ = some (.int .u64 thr) ∧ w'.cell? ⟨wr.heap.size, 5, none⟩ = some (.int .u64 sum) ∧ w'.cell? ⟨wr.heap.size, 6, none⟩ = some (.int .u64 zc) ∧ w'.cell? ⟨wr.heap.size, 7, none⟩ = some (.int .u64 cnt) ∧ w'.cell? ⟨wr.heap.size, 8, none⟩ = some (.slice A1 n1 c1) ∧ w'.cell? ⟨wr.heap.size, 9, none⟩ = some (.slice A2 n2 c2) ∧ w'.cell? ⟨wr.heap.size, 10, none⟩ = some (.slice A3 n3 c3) ∧ w'.cell? ⟨wr.heap.size, 11, none⟩ = some (.slice A4 n4 c4) ∧ w'.cell? ⟨wr.heap.size, 12, none⟩ = some (.slice A5 n5 c5) ∧ w'.cell? ⟨wr.heap.size, 13, none⟩ = some (.slice A6 n6 c6) ∧ w'.cell? ⟨wr.heap.size, 14, none⟩ = some (.slice A7 n7 c7))
        ((first | exact cells15 KX9.out | exact cells15 (KX5.out.alloc _) | exact cells15 KX5.out | exact cells15 HB8.out.drew | go_keep))
        ((first
          | (go_at_call 178; refine (HC.out _ F8.out).mono ?_; rintro r5 w5 ⟨v5, rfl, own5, hf5⟩; have HP5 := own5; obtain ⟨g5, q5, rfl, _⟩ := HP5; have KX5 := Lib.hid (HB8.out.drew.fr hf5 (fun e => e)); have F5 := Lib.hid (F8.out.same hf5); have G5 := Lib.hid ((((Fr.refl (fun _ => False) wr).alloc (.cells #[.int .u64 ref, .int .i64 t, .int .u8 hint.toNat, .int .i32 schema, .int .u64 thr, .int .u64 sum, .int .u64 zc, .int .u64 cnt, .slice A1 n1 c1, .slice A2 n2 c2, .slice A3 n3 c3, .slice A4 n4 c4, .slice A5 n5 c5, .slice A6 n6 c6, .slice A7 n7 c7] 194)).drew).same hf5); have O5 := Lib.hid (HO.out.fr G5.out (fun _ _ _ e => e)); have HN5 := Lib.hid (own5.mono F8.out.size); have hz5 := F5.out.size)
          | (refine step_append_src _ (by rfl) _ _ 182 182 (by rfl) w.heap.size 298 i0 _ 3 24 Tryz.underlying182 hi0 hz0 hz1 hz2 rfl (by decide) (.slice a' n' k') lo.length (lo.flatMap rhc) (by rfl) (O5.out.1.alloc _) _ 1 [.int .u64 ref, .int .i64 t, .pointer (some ⟨g5, 0, none⟩)] (by rfl) (src_blk Tryz.underlying182 (Blk.new w5 298 #[.int .u64 ref, .int .i64 t, .pointer (some ⟨g5, 0, none⟩)]) rfl (by simp [Value.oneCell'])) (by unfold maxLen; omega) (by omega) (by simp; omega) ?_; intro v' w2 hown' hgrow hat; have KX9 := Lib.hid ((KX5.out.alloc (.cells #[.int .u64 ref, .int .i64 t, .pointer (some ⟨g5, 0, none⟩)] 298)).grown hgrow (fun e => Nat.lt_irrefl _ (own_lt HO.out.1 e.symm))))))
      have newO : OwnHF w.heap.size w2 v' (lo ++ [(⟨ref, t, hh⟩, .pointer (some ⟨g5, 0, none⟩))]) :=
        OwnHF.push (p := (⟨ref, t, hh⟩, .pointer (some ⟨g5, 0, none⟩))) (O5.out.fr ((Fr.refl (fun _ => False) w5).alloc (.cells #[.int .u64 ref, .int .i64 t, .pointer (some ⟨g5, 0, none⟩)] 298)) (fun _ _ _ e => e)) (HN5.out.fr ((Fr.refl (fun _ => False) w5).alloc (.cells #[.int .u64 ref, .int .i64 t, .pointer (some ⟨g5, 0, none⟩)] 298)) (fun _ _ _ e => e)) hgrow hown'
      have newF : Fr (fun _ => False) w w2 := (F5.out.alloc _).grown hgrow (fun g hg => .inr ((HO.out.1.lt g hg).1))
      have newM : (lo ++ [((⟨ref, t, hh⟩ : Rhs), Value.pointer (some ⟨g5, 0, none⟩))]).map Prod.fst = (lv.take (k + 1)).map Prod.fst := by
        rw [List.take_add_one, HX.out, List.map_append, List.map_append, HM.out, HEH.out]
        rfl
      have newN : (lo ++ [((⟨ref, t, hh⟩ : Rhs), Value.pointer (some ⟨g5, 0, none⟩))]).length = k + 1 := by rw [List.length_append, HLO.out]; rfl
      have NO := Lib.hid newO
      have NF := Lib.hid newF
      have NM := Lib.hid newM
      have NN := Lib.hid newN
      clear newO newF newM newN hown' hgrow hat c00 c10 c20 c30 c40 c50 c60 c70 c80 c90 c100 c110 c120 c130 c140 s0 s1 s2 s3 s4 s5 s6 s7 s8 s9 s10 s11 s12 s13 s14 hf5 KX9 O5 HN5 own5 HC
      go_wp2
      go_roundw
      case rel => exact ⟨k + 1, _, by omega, by go_num, NM, NN, NO, NF⟩
      case measure => simp [intOf]; omega
    · go_wp2
      go_ret
      obtain rfl : k = n := by omega
      refine ⟨_, lo, rfl, ?_, HO.out, HF.out⟩
      rw [HM.out, ← HN.out, List.take_length]

end Go.Proofs.YtbkookiigkckdaaGreatDoor

/- Labels in memory; impl.pairs; the sizes of labels. The first theorem printed by gen_lp.py. -/
namespace Go.Proofs.YtbkookiigkckdaaGreatDoor
open Go.RowKit
set_option linter.unusedVariables false
set_option linter.unusedSimpArgs false

/-- A label: its name and its value. -/
abbrev Lab := ByteArray × ByteArray
def labc (p : Lab) : List Value := [.string p.1, .string p.2]
theorem Tryz.info40 : (Tryz.prog.info? 40).map (fun i => (i.zero, i.size, i.bytes)) = some (some (.agg #[.string ⟨#[]⟩, .string ⟨#[]⟩]), 2, 32) := by kernel_rfl

def LabEnds (t : TypeId) (w : World) (l : List Lab) (r : Ending) (w' : World) : Prop :=
  ∃ v, r = .returned v ∧ w'.ownsRow w.heap.size t 2 v l.length (l.flatMap labc) ∧ Fr (fun _ => False) w w'


set_option maxHeartbeats 1000000 in
set_option maxRecDepth 100000 in
theorem pairs_any (P : Nat → Prop) (v : Value) (l : List Lab) (w : World) (h : Sl P w v 2 l.length (l.flatMap labc)) (hl : l.length ≤ 1099511627776) :
    Calls Tryz.prog 149 #[v] w (LabEnds 108 w l) := by
  obtain ⟨A, c, rfl, hlen, hnc, hr⟩ := h
  obtain ⟨n, hn⟩ : ∃ n, l.length = n := ⟨_, rfl⟩
  rw [hn] at hr hnc hl ⊢
  have HN := Lib.hid hn
  have HR := Lib.hid hr
  obtain ⟨i0, hi0, hz0, hz1, hz2⟩ := info_parts Tryz.info108
  clear hn hr hlen
  go_enter Tryz.func149, Tryz.ntmps149
  go_wp2
  go_loopw [3, 8] (fun v i wr => ∃ k : Nat, k ≤ n ∧ i = .int .i64 k ∧ wr.ownsRow w.heap.size 108 2 v k ((l.take k).flatMap labc) ∧ Fr (fun _ => False) w wr) (fun _ i _ => n - (intOf i).toNat)
  case atStart => exact ⟨0, Nat.zero_le _, rfl, World.ownsRow_nil _ _ _ _, Fr.refl _ _⟩
  case round =>
    obtain ⟨k, hk, rfl, hown, hf⟩ := hrel
    by_cases hlt : k < n
    · obtain ⟨g, off, rfl, _, hcell⟩ := HR.out (by omega)
      obtain ⟨x, hx⟩ : ∃ x, l[k]? = some x := ⟨_, List.getElem?_eq_getElem (by rw [HN.out]; exact hlt)⟩
      have cc : ∀ j, j < 2 → ∀ u, (labc x)[j]? = some u → wr.cell? ⟨g, off + (k * 2 + j), none⟩ = some u := fun j hj u hu => by
        have := hcell (k * 2 + j) u (by rw [flat2 labc (fun _ => rfl) l k x hx j hj]; exact hu)
        rw [hf.cell (p := ⟨g, off + (k * 2 + j), none⟩) (World.block_lt_of_cell? w _ this) (fun e => e)]
        exact this
      have c0 : wr.cell? ⟨g, off + k * 2, none⟩ = some (.string x.1) := cc 0 (by omega) _ rfl
      have c1 : wr.cell? ⟨g, off + k * 2 + 1, none⟩ = some (.string x.2) := cc 1 (by omega) _ rfl
      have HC := Lib.hid hcell
      have HO := Lib.hid hown
      have HX := Lib.hid hx
      obtain ⟨a', n', k', rfl⟩ := own_slice hown
      clear hcell cc hown hx
      go_wp2_with (at_builtin; refine Hid.out ?_)
      refine Lib.hid ?_
      refine wpList_append_src _ rfl _ _ 115 115 rfl w.heap.size 108 i0 _ 2 32 Tryz.underlying115 hi0 hz0 hz1 hz2 rfl (by decide) _ k ((l.take k).flatMap labc) rfl ((HO.out.alloc _).alloc _) _ 1 (labc x) rfl (src_blk Tryz.underlying115 (blk_new2 wr _ 108 (labc x).toArray) rfl (by simp [labc, Value.oneCell'])) (by unfold maxLen; omega) (by omega) (by have := hf.size; simp; omega) ?_
      intro v' w2 hown' hgrow hat
      have hown2 : w2.ownsRow w.heap.size 108 2 v' (k + 1) ((l.take (k + 1)).flatMap labc) := by rw [flatMap_take_succ labc l k x HX.out]; exact hown'
      have hf2 : Fr (fun _ => False) w w2 := ((hf.alloc _).alloc _).grown hgrow (fun g hg => .inr (((HO.out.lt g hg)).1))
      have HO2 := Lib.hid hown2
      have HF2 := Lib.hid hf2
      clear hown' hgrow hown2 hf2 hf c0 c1 hat
      go_wp2
      go_roundw
      case rel => exact ⟨k + 1, by omega, by go_num, HO2.out, HF2.out⟩
      case measure => simp [intOf]; omega
    · go_wp2
      go_ret
      obtain rfl : k = n := by omega
      refine ⟨_, rfl, ?_, hf⟩
      rw [← HN.out] at hown ⊢
      rw [List.take_length] at hown
      exact hown


/-- How many bytes a length takes. -/
def lenSize (n : Nat) : Nat := if n < 255 then 1 else 4
def labSize (p : Lab) : Nat := (p.1.size + lenSize p.1.size) + (p.2.size + lenSize p.2.size)
def labsSize (l : List Lab) : Nat := (l.map labSize).sum

theorem sizeWhen_any (n : Nat) (hn : n ≤ 16777216) (w : World) : Calls Tryz.prog 271 #[.int .u64 n] w fun r w' => r = .returned (.int .i64 (lenSize n)) ∧ w = w' := by
  by_cases h : n < 255
  · have e : lenSize n = 1 := if_pos h
    have h1 : (n : Int) < 255 := by omega
    rw [e]
    go_enter Tryz.func271, Tryz.ntmps271
    go_wp2
    go_ret
    exact ⟨rfl, rfl⟩
  · have e : lenSize n = 4 := if_neg h
    have h1 : ¬ (n : Int) < 255 := by omega
    have h2 : (n : Int) ≤ 16777216 := by omega
    rw [e]
    go_enter Tryz.func271, Tryz.ntmps271
    go_wp2
    go_ret
    exact ⟨rfl, rfl⟩

set_option maxRecDepth 100000 in
theorem labelSize_any (g off : Nat) (p : Lab) (h1 : p.1.size ≤ 1048576) (h2 : p.2.size ≤ 1048576) (w : World) (c0 : w.cell? ⟨g, off, none⟩ = some (.string p.1)) (c1 : w.cell? ⟨g, off + 1, none⟩ = some (.string p.2)) :
    Calls Tryz.prog 248 #[.pointer (some ⟨g, off, none⟩)] w fun r w' => r = .returned (.int .i64 (labSize p)) ∧ w = w' := by
  have e1 : labSize p = (p.1.size + lenSize p.1.size) + (p.2.size + lenSize p.2.size) := rfl
  have hs1 : lenSize p.1.size ≤ 4 := by unfold lenSize; split <;> omega
  have hs2 : lenSize p.2.size ≤ 4 := by unfold lenSize; split <;> omega
  have q1 := sizeWhen_any p.1.size (by omega) w
  have q2 := sizeWhen_any p.2.size (by omega) w
  generalize labSize p = s at e1 ⊢
  obtain ⟨a, b⟩ := p
  simp only [] at c0 c1 h1 h2 hs1 hs2 q1 q2 e1
  generalize lenSize a.size = x at hs1 q1 e1
  generalize lenSize b.size = y at hs2 q2 e1
  have hs : (s : Int) = (a.size : Int) + x + ((b.size : Int) + y) := by omega
  clear e1
  go_enter Tryz.func248, Tryz.ntmps248
  go_wp2_with (go_at_call 271; first | (refine q1.mono ?_; rintro r w1 ⟨rfl, rfl⟩) | (refine q2.mono ?_; rintro r w1 ⟨rfl, rfl⟩))
  go_ret
  exact ⟨by rw [hs]; rfl, rfl⟩

theorem labSize_le (p : Lab) (h1 : p.1.size ≤ 1048576) (h2 : p.2.size ≤ 1048576) : labSize p ≤ 2097160 := by
  have hs1 : lenSize p.1.size ≤ 4 := by unfold lenSize; split <;> omega
  have hs2 : lenSize p.2.size ≤ 4 := by unfold lenSize; split <;> omega
  unfold labSize
  omega
theorem labsSize_take (l : List Lab) (k : Nat) (x : Lab) (h : l[k]? = some x) : labsSize (l.take (k + 1)) = labsSize (l.take k) + labSize x := by
  unfold labsSize
  rw [List.take_add_one, h]
  simp
theorem labsSize_le : ∀ (l : List Lab), (∀ p ∈ l, p.1.size ≤ 1048576 ∧ p.2.size ≤ 1048576) → labsSize l ≤ l.length * 2097160
  | [], _ => by simp [labsSize]
  | p :: l, h => by
    have h1 := labsSize_le l (fun q hq => h q (by simp [hq]))
    have h2 := labSize_le p (h p (by simp)).1 (h p (by simp)).2
    have e : labsSize (p :: l) = labSize p + labsSize l := rfl
    rw [e, List.length_cons, Nat.add_mul]
    omega

theorem sum_small (s k : Nat) (h : s ≤ k * 2097160) (hk : k ≤ 4096) : s ≤ 8589967360 := by omega

set_option maxRecDepth 100000 in
set_option maxHeartbeats 1000000 in
theorem labelsSize_any (P : Nat → Prop) (v : Value) (l : List Lab) (w : World) (h : Sl P w v 2 l.length (l.flatMap labc)) (hl : l.length ≤ 4096) (hs : ∀ p ∈ l, p.1.size ≤ 1048576 ∧ p.2.size ≤ 1048576) :
    Calls Tryz.prog 208 #[v] w fun r w' => r = .returned (.int .i64 (labsSize l)) ∧ Fr (fun _ => False) w w' := by
  obtain ⟨A, c, rfl, hlen, hnc, hr⟩ := h
  obtain ⟨n, hn⟩ : ∃ n, l.length = n := ⟨_, rfl⟩
  rw [hn] at hr hnc hl ⊢
  have HN := Lib.hid hn
  have HR := Lib.hid hr
  have HS := Lib.hid hs
  clear hn hr hlen hs
  go_enter Tryz.func208, Tryz.ntmps208
  go_wp2
  go_loopw [2, 7] (fun v i wr => ∃ k s : Nat, k ≤ n ∧ i = .int .i64 k ∧ v = .int .i64 s ∧ Hid (labsSize (l.take k) = s) ∧ s ≤ k * 2097160 ∧ Hid (Fr (fun _ => False) w wr)) (fun _ i _ => n - (intOf i).toNat)
  case atStart => exact ⟨0, 0, Nat.zero_le _, rfl, rfl, Lib.hid rfl, Nat.zero_le _, Lib.hid (Fr.refl _ _)⟩
  case round =>
    obtain ⟨k, s, hk, rfl, rfl, HM, hsb, HF⟩ := hrel
    by_cases hlt : k < n
    · obtain ⟨g, off, rfl, _, hcell⟩ := HR.out (by omega)
      obtain ⟨x, hx⟩ : ∃ x, l[k]? = some x := ⟨_, List.getElem?_eq_getElem (by rw [HN.out]; exact hlt)⟩
      have cc : ∀ j, j < 2 → ∀ u, (labc x)[j]? = some u → wr.cell? ⟨g, off + (k * 2 + j), none⟩ = some u := fun j hj u hu => by
        have := hcell (k * 2 + j) u (by rw [flat2 labc (fun _ => rfl) l k x hx j hj]; exact hu)
        rw [HF.out.cell (p := ⟨g, off + (k * 2 + j), none⟩) (World.block_lt_of_cell? w _ this) (fun e => e)]
        exact this
      have c0 : wr.cell? ⟨g, off + k * 2, none⟩ = some (.string x.1) := cc 0 (by omega) _ rfl
      have c1 : wr.cell? ⟨g, off + k * 2 + 1, none⟩ = some (.string x.2) := cc 1 (by omega) _ rfl
      have hxs := HS.out x (List.mem_of_getElem? hx)
      have hle := labSize_le x hxs.1 hxs.2
      have hB := Blk.new wr 108 #[.string x.1, .string x.2]
      have hC := labelSize_any wr.heap.size 0 x hxs.1 hxs.2 (wr.alloc (.cells #[.string x.1, .string x.2] 108)) (hB.cell 0) (hB.cell 1)
      have HT := Lib.hid (labsSize_take l k x hx)
      have hs2 : s + 2097160 ≤ (k + 1) * 2097160 := by rw [Nat.add_mul]; omega
      have hk4 : s ≤ 8589967360 := sum_small s k hsb (by omega)
      generalize labSize x = z at hle hC HT
      clear cc hx hB hxs hcell
      go_wp2_with (go_at_call 248; refine hC.mono ?_; rintro r w1 ⟨rfl, rfl⟩)
      go_roundw
      case rel => exact ⟨k + 1, s + z, by omega, by go_num, by first | rfl | go_num | (congr 1; omega), Lib.hid (by rw [HT.out, HM.out]), by omega, Lib.hid (HF.out.alloc _)⟩
      case measure => simp [intOf]; omega
    · go_wp2
      go_ret
      obtain rfl : k = n := by omega
      refine ⟨?_, HF.out⟩
      have e1 : l.take k = l := List.take_of_length_le (by rw [HN.out]; exact Nat.le_refl _)
      have h := HM.out
      rw [e1] at h
      rw [h]
      rfl
end Go.Proofs.YtbkookiigkckdaaGreatDoor

/- Labels in a record: what is written is what is read, in plain Lean. -/
namespace Go.Proofs.YtbkookiigkckdaaGreatDoor
open Go.RowKit
set_option linter.unusedVariables false
set_option linter.unusedSimpArgs false

def encStr (s : ByteArray) : List UInt8 := Lib.uvarint s.size ++ s.data.toList
def encLab (p : Lab) : List UInt8 := encStr p.1 ++ encStr p.2
/-- What EncodeLabels writes. -/
def encLabs (l : List Lab) : List UInt8 := Lib.uvarint l.length ++ l.flatMap encLab

/-- Decbuf.UvarintBytes. -/
def gStr (st : St) : ByteArray × St := match (gUv st).2 with
  | none => (⟨#[]⟩, none)
  | some r => if r.length < (gUv st).1 then (⟨#[]⟩, none) else (⟨(r.take (gUv st).1).toArray⟩, some (r.drop (gUv st).1))
theorem gStr_enc (s : ByteArray) (r : List UInt8) (h : s.size < 18446744073709551616) : gStr (some (encStr s ++ r)) = (s, some r) := by
  have e : s.data.toList.length = s.size := by rw [← Lib.size_eq]
  have e2 : some (encStr s ++ r) = some (Lib.uvarint s.size ++ (s.data.toList ++ r)) := by rw [encStr, List.append_assoc]
  unfold gStr
  rw [e2, gUv_uv _ h]
  simp only []
  rw [if_neg (by rw [List.length_append]; omega), List.take_left' e, List.drop_left' e]
theorem gStr_size (l : List UInt8) (s : ByteArray) (st : St) (h : gStr (some l) = (s, st)) : s.size ≤ l.length ∧ ∀ r, st = some r → r.length ≤ l.length := by
  unfold gStr at h
  have hle : ∀ r, (gUv (some l)).2 = some r → r.length ≤ l.length := fun r hr => by
    unfold gUv at hr
    simp only [] at hr
    split at hr
    · injection hr with hr
      rw [← hr, List.length_drop]; omega
    · cases hr
  split at h
  · injection h with h1 h2
    subst h1 h2
    exact ⟨Nat.zero_le _, fun r hr => by cases hr⟩
  · rename_i r hr
    have := hle r hr
    split at h
    · injection h with h1 h2
      subst h1 h2
      exact ⟨Nat.zero_le _, fun r hr => by cases hr⟩
    · injection h with h1 h2
      subst h1 h2
      refine ⟨?_, fun r' hr' => ?_⟩
      · show (r.take _).toArray.size ≤ _
        simp; omega
      · injection hr' with hr'
        rw [← hr', List.length_drop]; omega
def gLab (st : St) : Lab × St := (((gStr st).1, (gStr (gStr st).2).1), (gStr (gStr st).2).2)
theorem gLab_enc (p : Lab) (r : List UInt8) (h1 : p.1.size < 18446744073709551616) (h2 : p.2.size < 18446744073709551616) : gLab (some (encLab p ++ r)) = (p, some r) := by
  unfold gLab encLab
  rw [List.append_assoc, gStr_enc _ _ h1]
  simp only []
  rw [gStr_enc _ _ h2]
def gLabs (st : St) : Nat → List Lab × St
  | 0 => ([], st)
  | k + 1 => ((gLabs st k).1 ++ [(gLab (gLabs st k).2).1], (gLab (gLabs st k).2).2)
theorem gLabs_enc (l : List Lab) (r : List UInt8) (hs : ∀ p ∈ l, p.1.size < 18446744073709551616 ∧ p.2.size < 18446744073709551616) :
    ∀ k, k ≤ l.length → gLabs (some (l.flatMap encLab ++ r)) k = (l.take k, some ((l.drop k).flatMap encLab ++ r))
  | 0, _ => by simp [gLabs]
  | k + 1, hk => by
    have ih := gLabs_enc l r hs k (by omega)
    have hx : l[k]? = some l[k] := List.getElem?_eq_getElem (by omega)
    have hm := hs _ (List.mem_of_getElem? hx)
    rw [gLabs, ih]
    simp only []
    rw [List.drop_eq_getElem_cons (by omega : k < l.length), List.flatMap_cons, List.append_assoc, gLab_enc _ _ hm.1 hm.2]
    simp only []
    rw [List.take_succ_eq_append_getElem (by omega)]
end Go.Proofs.YtbkookiigkckdaaGreatDoor

