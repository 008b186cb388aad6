/- Texts of this seat, merged: H6. -/
import Derived.Test.YtbkookiigkckdaaGreatDoorK12
/- Histograms: Encoder.HistogramSamples 97, .FloatHistogramSamples 98. Printed by gen_h6.py. -/
namespace Go.Proofs.YtbkookiigkckdaaGreatDoor
open Go.RowKit
set_option linter.unusedVariables false
set_option linter.unusedSimpArgs false

def isCus (s : Rhs) : Bool := s.h.schema == -53
theorem Put.grown {w w1 w2 : World} {e : Nat} {o : Option Nat} {xs ys : List UInt8} {base te z n : Nat} {r : Value} {cs : List Value} (R : Put w e o xs ys w1) (ho : w1.ownsRow base te z r n cs) (hb : w.heap.size ≤ base) (hg : w1.grownBy w2 r.ownBlock) (h1 : te ≠ 224) (h2 : 5 ≠ te) : Put w e o xs ys w2 := by
  obtain ⟨o1, he, hf, hoo⟩ := R
  refine ⟨o1, ?_, hf.grown hg (fun k hk => .inr (Nat.le_trans hb (ho.lt k hk).1)), hoo⟩
  have hf2 : Fr (fun k => some k = r.ownBlock) w1 w2 := (Fr.refl (fun k => some k = r.ownBlock) w1).grown hg (fun k hk => .inl hk.symm)
  obtain ⟨v, cs', hb', hs, h0, hown, hv⟩ := he
  exact ⟨v, cs', hb'.fr hf2 (fun h => own_ne ho hb' h1 h.symm), hs, h0, own_fr hown hf2 (fun g hg h => own_own hown ho h2 g hg h.symm), hv⟩
theorem own_keeps {w w' : World} {base e size n : Nat} {v : Value} {xs : List Value} (h : w.ownsRow base e size v n xs) (K : Keeps w w') (h1 : e ≠ 224) (h2 : e ≠ 5) : w'.ownsRow base e size v n xs :=
  ⟨h.1, h.2.imp id fun ⟨g, cap, cur, a1, a2, a3, a4⟩ => ⟨g, cap, cur, a1, a2, K g e cur h1 h2 a3, a4⟩⟩
theorem filt_yes {α : Type} (q : α → Bool) (l : List α) (k : Nat) (x : α) (hx : l[k]? = some x) (hq : q x = true) : (l.take (k + 1)).filter q = (l.take k).filter q ++ [x] := by
  rw [List.take_add_one, hx, List.filter_append]
  simp [hq]
theorem filt_no {α : Type} (q : α → Bool) (l : List α) (k : Nat) (x : α) (hx : l[k]? = some x) (hq : q x = false) : (l.take (k + 1)).filter q = (l.take k).filter q := by
  rw [List.take_add_one, hx, List.filter_append]
  simp [hq]
theorem filter_len_le {α : Type} (q : α → Bool) (l : List α) (k : Nat) : ((l.take k).filter q).length ≤ k := Nat.le_trans (List.length_filter_le _ _) (List.length_take_le _ _)


theorem usesW_any (P : Nat → Prop) (w : World) (h : Hst) (v : Value) (hr : RdW P w h v) : Calls Tryz.prog 188 #[v] w fun r w' => r = .returned (.bool (h.schema == -53)) ∧ w = w' := by
  obtain ⟨g, s, rfl, _, hb, _⟩ := hr
  have c1 : w.cell? ⟨g, 1, none⟩ = some (.int .i32 h.schema) := hb.cell 1
  go_enter Tryz.func188, Tryz.ntmps188
  go_wp2_with (go_at_call 233; refine (isCustom_any _ _).mono ?_; rintro r w' ⟨rfl, rfl⟩)
  go_ret
  exact ⟨rfl, rfl⟩
def EncHWEnds (w : World) (o : Option Nat) (ys : List UInt8) (lc : List (Rhs × Value)) (r : Ending) (w' : World) : Prop :=
  ∃ v' cv, r = .returned (.tuple #[v', cv]) ∧ w'.ownsRow 0 5 1 v' ys.length (bc ys) ∧ w'.ownsRow w.heap.size 290 3 cv lc.length (lc.flatMap rhc) ∧ Fr (fun k => some k = o) w w' ∧ (v'.ownBlock = o ∨ ∃ k, v'.ownBlock = some k ∧ w.heap.size ≤ k)

set_option maxRecDepth 100000 in
set_option maxHeartbeats 8000000 in
theorem encHsW_any (ep : Value) (sv : Value) (P : Nat → Prop) (v : Value) (xs : List UInt8) (lo : List (Rhs × Value)) (w : World) (h : RdHW P w sv lo) (hown : w.ownsRow 0 5 1 v xs.length (bc xs)) (hl : xs.length ≤ 536870912)
    (hsl : lo.length ≤ 12) (hwf : ∀ p ∈ lo, p.1.ok) (hP : ∀ g, P g → g < w.heap.size ∧ some g ≠ v.ownBlock) (hsome : lo = [] ∨ ∃ p ∈ lo, isCus p.1 = false) :
    Calls Tryz.prog 97 #[ep, sv, v] w (EncHWEnds w v.ownBlock (xs ++ encRecW 7 (fun s => !isCus s) (lo.map Prod.fst)) (lo.filter fun p => isCus p.1)) := by
  obtain ⟨h, hin⟩ := h
  obtain ⟨A, c, rfl⟩ := h.shape
  obtain ⟨a', n', k', rfl⟩ := own_slice hown
  have hE := Enc.made (z := .int .u8 0) hown _ rfl
  have hQ := putByte w.heap.size _ xs 7 _ hE (by omega)
  have e2 : ((7 : UInt8).toNat : Int) = 7 := rfl
  rw [e2] at hQ
  have hFW : Fr (fun k => some k = (Value.slice a' n' k').ownBlock) w (w.alloc (.cells #[.slice a' n' k', .int .u8 0, .int .u8 0, .int .u8 0, .int .u8 0, .int .u8 0, .int .u8 0, .int .u8 0, .int .u8 0, .int .u8 0, .int .u8 0] 224)) := (Fr.refl _ w).alloc _
  rcases lo with _ | ⟨f, r⟩
  · clear hE hFW e2 h hin hwf hsome
    go_enter Tryz.func97, Tryz.ntmps97
    go_wp2_with (first | (go_at_call 180; refine hQ.mono ?_; rintro r1 w1 ⟨rfl, R⟩; obtain ⟨o1, hE1, hf1, ho1⟩ := R; have hG := encGet _ _ _ _ hE1) | (go_at_call 116; refine hG.mono ?_; rintro r w2 ⟨v2, rfl, rfl, hown2, hv2⟩))
    go_ret2
    refine ⟨v2, _, rfl, by simpa [encRecW] using hown2, World.ownsRow_nil _ _ _ _, made_end (o1 := o1) hf1, ?_⟩
    rw [hv2]
    rcases ho1 with h | ⟨k, h, hk⟩
    · exact .inl h
    · exact .inr ⟨k, h, by simp at hk; omega⟩
  · obtain ⟨n, hn⟩ : ∃ n, (f :: r).length = n := ⟨_, rfl⟩
    rw [hn] at h hsl ⊢
    obtain ⟨LO, hLO⟩ : ∃ LO, f :: r = LO := ⟨_, rfl⟩
    have hsome2 : ∃ p ∈ LO, isCus p.1 = false := by rw [← hLO]; exact hsome.resolve_left (by simp)
    have HSO := Lib.hid hsome2
    clear hsome hsome2
    have hn1 : (0 : Int) < (n : Int) := by rw [← hn]; simp
    have hn0 : ((n : Int) == 0) = false := by simp; omega
    have hfm : f ∈ LO := by rw [← hLO]; exact List.mem_cons_self ..
    have hf0 : LO[0]? = some f := by rw [← hLO]; rfl
    have hmap : (f :: r).map Prod.fst = f.1 :: r.map Prod.fst := rfl
    have hwf2 : ∀ p ∈ LO, p.1.ok := by rw [← hLO]; exact hwf
    have hin2 : ∀ p ∈ LO, RdW P w p.1.h p.2 := by rw [← hLO]; exact hin
    rw [hLO] at h hn
    have henc : encRecW 7 (fun s => !isCus s) ((f :: r).map Prod.fst) = [7] ++ (encHHdr f.1 ++ (LO.filter fun p => !isCus p.1).flatMap (fun p => encRhW f.1 p.1)) := by
      rw [← hLO]
      have e1 : ∀ l : List (Rhs × Value), ((l.map Prod.fst).filter fun s => !isCus s) = (l.filter fun p => !isCus p.1).map Prod.fst := fun l => by rw [List.filter_map]; rfl
      rw [hmap, encRecW, ← hmap, e1, List.flatMap_map]
    rw [henc, hLO]
    obtain ⟨hrf, htf0, htf1, _⟩ := hwf2 f hfm
    obtain ⟨g, off, rfl, hPg, hcell⟩ := h.at (by omega)
    have hg := hP g hPg
    obtain ⟨f1, fv⟩ := f
    simp only [] at hrf htf0 htf1
    have c0 : w.cell? ⟨g, off, none⟩ = some (.int .u64 f1.ref) := hcell 0 _ (by exact flat3 rhc (fun _ => rfl) LO 0 (f1, fv) hf0 0 (by omega))
    have c1 : w.cell? ⟨g, off + 1, none⟩ = some (.int .i64 f1.t) := hcell 1 _ (by exact flat3 rhc (fun _ => rfl) LO 0 (f1, fv) hf0 1 (by omega))
    have c2 : w.cell? ⟨g, off + 2, none⟩ = some fv := hcell 2 _ (by exact flat3 rhc (fun _ => rfl) LO 0 (f1, fv) hf0 2 (by omega))
    obtain ⟨gf, _, hfv, _⟩ := hin2 _ hfm
    simp only [] at hfv
    subst hfv
    have HN := Lib.hid hn
    have HP := Lib.hid hP
    have HE := Lib.hid hE
    have HFW := Lib.hid hFW
    have HCELL := Lib.hid hcell
    have HIN := Lib.hid hin2
    have HWF := Lib.hid hwf2
    clear hE hFW e2 h hin hwf hwf2 hin2 hn hmap henc hcell hLO hfm hf0 hP
    generalize hWB : w.alloc (.cells #[.slice a' n' k', .int .u8 0, .int .u8 0, .int .u8 0, .int .u8 0, .int .u8 0, .int .u8 0, .int .u8 0, .int .u8 0, .int .u8 0, .int .u8 0] 224) = WB at hQ HE HFW
    have hB : w.heap.size < WB.heap.size := by rw [← hWB]; simp
    rw [← hWB] at hQ
    have HWB := Lib.hid hWB
    clear hWB
    go_enter Tryz.func97, Tryz.ntmps97
    go_wp2_with (go_at_call 180; refine hQ.mono ?_; rintro r1 w1 ⟨rfl, R⟩; refine Hid.out ?_)
    rw [HWB.out] at R
    clear hQ HWB
    have HFT := Lib.hid (fun (W : World) (hf : Fr (fun k => k = w.heap.size ∨ some k = (Value.slice a' n' k').ownBlock) WB W) => HFW.out.trans hf (fun k hk e => by
      rcases e with e | e
      · omega
      · exact e))
    have hF1 := HFT.out w1 R.fr
    have d0 : w1.cell? ⟨g, off, none⟩ = some (.int .u64 f1.ref) := by rw [hF1.cell (p := ⟨g, off, none⟩) hg.1 hg.2]; exact c0
    have d1 : w1.cell? ⟨g, off + 1, none⟩ = some (.int .i64 f1.t) := by rw [hF1.cell (p := ⟨g, off + 1, none⟩) hg.1 hg.2]; exact c1
    have d2 : w1.cell? ⟨g, off + 2, none⟩ = some (.pointer (some ⟨gf, 0, none⟩)) := by rw [hF1.cell (p := ⟨g, off + 2, none⟩) hg.1 hg.2]; exact c2
    have HR1 := Lib.hid (R.alloc (.cells #[.int .u64 f1.ref, .int .i64 f1.t, .pointer (some ⟨gf, 0, none⟩)] 290))
    have HBF := Lib.hid (Blk.new w1 290 #[.int .u64 f1.ref, .int .i64 f1.t, .pointer (some ⟨gf, 0, none⟩)])
    have hsz1 := R.fr.size
    clear R hF1 c0 c1 c2
    refine Lib.hid ?_
    go_wp2_with (first
      | (go_at_call 181; refine (put_more2 HR1.out (f := 181) (args := #[.pointer (some ⟨w.heap.size, 0, none⟩), .int .u64 f1.ref]) (zs := Lib.beBytes 8 f1.ref) (fun o2 he => putBE64 _ o2 _ f1.ref hrf _ he (by rw [List.length_append, List.length_singleton]; omega))).mono ?_; rintro r2 w2 ⟨rfl, R2, K2⟩
         have hB2 := K2.out _ _ _ (by decide) (by decide) HBF.out
         have b1 : w2.cell? ⟨w1.heap.size, 1, none⟩ = some (.int .i64 f1.t) := hB2.cell 1
         have HB2 := Lib.hid hB2
         have HR2 := Lib.hid R2
         clear hB2 R2 K2 HR1 d0 d1 d2)
      | (go_at_call 182; refine (put_more2 HR2.out (f := 182) (args := #[.pointer (some ⟨w.heap.size, 0, none⟩), .int .i64 f1.t]) (zs := Lib.beBytes 8 (u64 f1.t)) (fun o2 he => putBE64int64 _ o2 _ f1.t _ he (by simp [Lib.beBytes_length]; omega))).mono ?_; rintro r3 w3 ⟨rfl, R3, K3⟩
         have HB3 := Lib.hid (K3.out _ _ _ (by decide) (by decide) HB2.out)
         have HR3 := Lib.hid R3
         clear R3 K3 HR2 b1 HB2))
    clear HBF
    have hsz3 : w1.heap.size + 1 ≤ w3.heap.size := HB3.out.lt
    generalize hbf : w1.heap.size = bf at HB3 hsz1 hsz3
    clear hbf
    obtain ⟨i0, hi0, hz0, hz1, hz2⟩ := info_parts Tryz.info290
    go_loopw [9, 31] (fun cv i wr => ∃ (k m : Nat), k ≤ n ∧ i = .int .i64 k ∧ m ≤ k ∧ Hid (((LO.take k).filter fun p => isCus p.1).length = m) ∧ Hid (wr.ownsRow (bf + 1) 290 3 cv m (((LO.take k).filter fun p => isCus p.1).flatMap rhc)) ∧ Hid (Put WB w.heap.size (Value.slice a' n' k').ownBlock xs ([7] ++ encHHdr f1 ++ ((LO.take k).filter fun p => !isCus p.1).flatMap (fun p => encRhW f1 p.1)) wr) ∧ Hid (Blk wr bf 290 #[.int .u64 f1.ref, .int .i64 f1.t, .pointer (some ⟨gf, 0, none⟩)])) (fun _ i _ => n - (intOf i).toNat)
    case atStart => exact ⟨0, 0, Nat.zero_le _, rfl, Nat.le_refl _, Lib.hid rfl, Lib.hid (World.ownsRow_nil _ _ _ _), Lib.hid (by simpa [encHHdr] using HR3.out), HB3⟩
    case round =>
      obtain ⟨k, m, hk, rfl, hmk, HM, HO, HR, HBk⟩ := hrel
      by_cases hlt : k < n
      · obtain ⟨x, hx⟩ : ∃ x, LO[k]? = some x := ⟨_, List.getElem?_eq_getElem (by rw [HN.out]; exact hlt)⟩
        have hxm := List.mem_of_getElem? hx
        have hFk := HFT.out wr HR.out.fr
        have cc : ∀ j, j < 3 → ∀ u, (rhc x)[j]? = some u → wr.cell? ⟨g, off + (k * 3 + j), none⟩ = some u := fun j hj u hu => by
          rw [hFk.cell (p := ⟨g, off + (k * 3 + j), none⟩) hg.1 hg.2]
          exact HCELL.out (k * 3 + j) u (by rw [flat3 rhc (fun _ => rfl) LO k x hx j hj]; exact hu)
        have d0 : wr.cell? ⟨g, off + k * 3, none⟩ = some (.int .u64 x.1.ref) := cc 0 (by omega) _ rfl
        have d1 : wr.cell? ⟨g, off + k * 3 + 1, none⟩ = some (.int .i64 x.1.t) := cc 1 (by omega) _ rfl
        have d2 : wr.cell? ⟨g, off + k * 3 + 2, none⟩ = some x.2 := cc 2 (by omega) _ rfl
        have hrd := HIN.out x hxm
        have hxo := HWF.out x hxm
        obtain ⟨x1, xv⟩ := x
        simp only [] at d0 d1 d2 hrd hxo
        have hrd2 := hrd
        obtain ⟨gx, _, rfl, _⟩ := hrd2
        have b0 : wr.cell? ⟨bf, 0, none⟩ = some (.int .u64 f1.ref) := HBk.out.cell 0
        have b1 : wr.cell? ⟨bf, 1, none⟩ = some (.int .i64 f1.t) := HBk.out.cell 1
        have hbl := HBk.out.lt
        have hyl : ([(7 : UInt8)] ++ encHHdr f1 ++ ((LO.take k).filter fun p => !isCus p.1).flatMap (fun p => encRhW f1 p.1)).length ≤ 17 + k * 5020 := by
          have h0 := flatMap_lenM (fun p : Rhs × Value => encRhW f1 p.1) 5020 ((LO.take k).filter fun p => !isCus p.1) (fun p hp => encRhW_len f1 p.1 (HWF.out p (List.mem_of_mem_take (List.mem_filter.1 hp).1)))
          have h8 := filter_len_le (fun p : Rhs × Value => !isCus p.1) LO k
          have h9 := Nat.mul_le_mul_right 5020 h8
          have h1 := Nat.le_trans h0 h9
          have h4 : (encHHdr f1).length = 16 := by simp [encHHdr, Lib.beBytes_length]
          rw [List.length_append, List.length_append, h4, List.length_singleton]; omega
        have hk9 : k * 5020 ≤ 12 * 5020 := Nat.mul_le_mul_right _ (by omega)
        obtain ⟨Y, hY⟩ : ∃ Y, [(7 : UInt8)] ++ encHHdr f1 ++ ((LO.take k).filter fun p => !isCus p.1).flatMap (fun p => encRhW f1 p.1) = Y := ⟨_, rfl⟩
        rw [hY] at hyl HR
        have HY := Lib.hid hY
        have HX := Lib.hid hx
        have HBX := Lib.hid (Blk.new wr 290 #[.int .u64 x1.ref, .int .i64 x1.t, .pointer (some ⟨gx, 0, none⟩)])
        have HRA := Lib.hid (HR.out.alloc (.cells #[.int .u64 x1.ref, .int .i64 x1.t, .pointer (some ⟨gx, 0, none⟩)] 290))
        have HBK := Lib.hid (HBk.out.alloc (.cells #[.int .u64 x1.ref, .int .i64 x1.t, .pointer (some ⟨gx, 0, none⟩)] 290))
        have hyl2 : Y.length ≤ 60300 := by omega
        have HU := Lib.hid (usesW_any P _ x1.h _ ((hrd.fr hFk (fun g hg => (HP.out g hg).2)).fr ((Fr.refl (fun _ => False) wr).alloc (.cells #[.int .u64 x1.ref, .int .i64 x1.t, .pointer (some ⟨gx, 0, none⟩)] 290)) (fun _ _ e => e)))
        obtain ⟨ca, cm, ck, rfl⟩ := own_slice HO.out
        rcases hcu : isCus x1 with _ | _
        · obtain ⟨Q1, hQ1⟩ : ∃ Q, zzu (hRef f1 x1) = Q := ⟨_, rfl⟩
          obtain ⟨Q2, hQ2⟩ : ∃ Q, zzu (hT f1 x1) = Q := ⟨_, rfl⟩
          have hl1 := zzu_len (hRef f1 x1) (wrap64_bd _).1 (wrap64_bd _).2
          have hl2 := zzu_len (hT f1 x1) (wrap64_bd _).1 (wrap64_bd _).2
          rw [hQ1] at hl1
          rw [hQ2] at hl2
          have HQ1 := Lib.hid hQ1
          have HQ2 := Lib.hid hQ2
          have HRD := Lib.hid hrd
          have hU := HU.out
          rw [show (x1.h.schema == -53) = false from hcu] at hU
          have HO1 := Lib.hid (HO.out.alloc (.cells #[.int .u64 x1.ref, .int .i64 x1.t, .pointer (some ⟨gx, 0, none⟩)] 290))
          have HXO := Lib.hid hxo
          clear hx hFk cc hY hyl hk9 hQ1 hQ2 hxm hrd hxo HR HBk
          go_wp2_with (first
            | (go_at_call 188; refine hU.mono ?_; rintro r w' ⟨rfl, rfl⟩)
            | (go_at_call 183; refine (put_more2 HRA.out (f := 183) (args := #[.pointer (some ⟨w.heap.size, 0, none⟩), .int .i64 (hRef f1 x1)]) (zs := Q1) (fun o2 he => by have := putVarint64 _ o2 _ (hRef f1 x1) (wrap64_bd _).1 (wrap64_bd _).2 _ he (by rw [List.length_append]; omega); rw [show Lib.uvarint (Lib.zigzag (hRef f1 x1)) = Q1 from HQ1.out] at this; exact this)).mono ?_; rintro rA wA ⟨rfl, R1, K1⟩
               have hB1 := K1.out _ _ _ (by decide) (by decide) HBX.out
               have hB2 := K1.out _ _ _ (by decide) (by decide) HBK.out
               have p1 : wA.cell? ⟨wr.heap.size, 1, none⟩ = some (.int .i64 x1.t) := hB1.cell 1
               have q1 : wA.cell? ⟨bf, 1, none⟩ = some (.int .i64 f1.t) := hB2.cell 1
               have HBX1 := Lib.hid hB1
               have HBK1 := Lib.hid hB2
               have HO2 := Lib.hid (own_keeps HO1.out K1.out (by decide) (by decide))
               have HR2 := Lib.hid R1
               have hv2 : (Y ++ Q1).length ≤ 60310 := by rw [List.length_append]; omega
               clear R1 K1 hB1 hB2 HRA b0 b1 HBX HBK hU)
            | (go_at_call 183; refine (put_more2 HR2.out (f := 183) (args := #[.pointer (some ⟨w.heap.size, 0, none⟩), .int .i64 (hT f1 x1)]) (zs := Q2) (fun o2 he => by have := putVarint64 _ o2 _ (hT f1 x1) (wrap64_bd _).1 (wrap64_bd _).2 _ he (by rw [List.length_append]; omega); rw [show Lib.uvarint (Lib.zigzag (hT f1 x1)) = Q2 from HQ2.out] at this; exact this)).mono ?_; rintro rB wB ⟨rfl, R1, K1⟩
               have hB1 := K1.out _ _ _ (by decide) (by decide) HBX1.out
               have HBK2 := Lib.hid (K1.out _ _ _ (by decide) (by decide) HBK1.out)
               have HO3 := Lib.hid (own_keeps HO2.out K1.out (by decide) (by decide))
               have p2 : wB.cell? ⟨wr.heap.size, 2, none⟩ = some (.pointer (some ⟨gx, 0, none⟩)) := hB1.cell 2
               have HR3 := Lib.hid R1
               have hv3 : (Y ++ Q1 ++ Q2).length ≤ 60320 := by rw [List.length_append]; omega
               have HH := Lib.hid (HRD.out.fr (HFT.out wB R1.fr) (fun g hg => (HP.out g hg).2))
               clear R1 K1 hB1 p1 q1 HR2 hv2 HBX1 HBK1)
            | (go_at_call 189; refine (put_more3 HR3.out (f := 189) (args := #[.pointer (some ⟨w.heap.size, 0, none⟩), .pointer (some ⟨gx, 0, none⟩)]) (zs := encHistW x1.h) (fun o2 he ho2 => encHistW_any P _ o2 _ x1.h _ _ HH.out he (by rw [List.length_append]; omega) HXO.out.2.2.2 (fun g hg => by
                 have h1 := HP.out g hg
                 rintro (rfl | h2)
                 · omega
                 · rcases ho2 with h3 | ⟨k, h3, hk⟩
                   · exact h1.2 (h2.trans h3)
                   · rw [h3] at h2; injection h2 with h2; omega))).mono ?_; rintro rD wD ⟨rfl, R1, K1⟩
               have HR8 := Lib.hid R1
               have HBK8 := Lib.hid (K1.out _ _ _ (by decide) (by decide) HBK2.out)
               have HO8 := Lib.hid (own_keeps HO3.out K1.out (by decide) (by decide))
               clear R1 K1 HR3 HBK2))
          have HRE : Hid (Put WB w.heap.size (Value.slice a' n' k').ownBlock xs ([7] ++ encHHdr f1 ++ ((LO.take (k + 1)).filter fun p => !isCus p.1).flatMap (fun p => encRhW f1 p.1)) wD) := Lib.hid (by
            rw [filt_yes (fun p : Rhs × Value => !isCus p.1) LO k _ HX.out (by simp [hcu]), List.flatMap_append, ← List.append_assoc, HY.out, List.flatMap_cons, List.flatMap_nil, List.append_nil]
            unfold encRhW
            rw [HQ1.out, HQ2.out]
            simpa [List.append_assoc] using HR8.out)
          clear HR8
          go_wp2
          go_roundw
          case rel => exact ⟨k + 1, m, by omega, by go_num, by omega, Lib.hid (by rw [filt_no (fun p : Rhs × Value => isCus p.1) LO k _ HX.out hcu]; exact HM.out), Lib.hid (by rw [filt_no (fun p : Rhs × Value => isCus p.1) LO k _ HX.out hcu]; exact HO8.out), HRE, HBK8⟩
          case measure => simp [intOf]; omega
        · have hU := HU.out
          rw [show (x1.h.schema == -53) = true from hcu] at hU
          have hrow := HO.out.lt
          have hcs : ∀ j, j < 3 → ∀ u, (rhc (x1, Value.pointer (some ⟨gx, 0, none⟩)))[j]? = some u → True := fun _ _ _ _ => trivial
          have hsw : WB.heap.size ≤ wr.heap.size := HR.out.fr.size
          clear hx hFk cc hY hyl hk9 hxm hrd hxo b0 b1 hcs
          go_wp2_with (first
            | (go_at_call 188; refine hU.mono ?_; rintro r w' ⟨rfl, rfl⟩)
            | (at_builtin; refine Hid.out ?_))
          refine Lib.hid ?_
          refine wpList_append_src _ rfl _ _ 177 177 rfl (bf + 1) 290 i0 _ 3 24 Tryz.underlying177 hi0 hz0 hz1 hz2 rfl (by decide) _ m (((LO.take k).filter fun p => isCus p.1).flatMap rhc) rfl ((HO.out.alloc _).alloc _) _ 1 [.int .u64 x1.ref, .int .i64 x1.t, .pointer (some ⟨gx, 0, none⟩)] rfl (src_blk Tryz.underlying177 (blk_new2 wr _ 290 #[.int .u64 x1.ref, .int .i64 x1.t, .pointer (some ⟨gx, 0, none⟩)]) rfl (by simp [Value.oneCell'])) (by unfold maxLen; omega) (by omega) (by simp; omega) ?_
          intro v' w2 hown' hgrow hat
          have HRE : Hid (Put WB w.heap.size (Value.slice a' n' k').ownBlock xs ([7] ++ encHHdr f1 ++ ((LO.take (k + 1)).filter fun p => !isCus p.1).flatMap (fun p => encRhW f1 p.1)) w2) := Lib.hid (by
            rw [filt_no (fun p : Rhs × Value => !isCus p.1) LO k _ HX.out (by simp [hcu]), HY.out]
            exact ((HR.out.alloc _).alloc _).grown ((HO.out.alloc _).alloc _) (by omega) hgrow (by decide) (by decide))
          have HB8 := Lib.hid (((HBk.out.alloc _).alloc _).grown hgrow (fun e => by have := (hrow bf e.symm).1; omega))
          have HO8 := Lib.hid hown'
          have HM8 : Hid (((LO.take (k + 1)).filter fun p => isCus p.1).length = m + 1) := Lib.hid (by
            rw [filt_yes (fun p : Rhs × Value => isCus p.1) LO k _ HX.out hcu, List.length_append, HM.out]; rfl)
          have HN8 : Hid (w2.ownsRow (bf + 1) 290 3 v' (m + 1) (((LO.take (k + 1)).filter fun p => isCus p.1).flatMap rhc)) := Lib.hid (by
            rw [filt_yes (fun p : Rhs × Value => isCus p.1) LO k _ HX.out hcu, List.flatMap_append]
            simpa [rhc] using HO8.out)
          clear hown' hgrow hat hrow HO8
          go_wp2
          go_roundw
          case rel => exact ⟨k + 1, m + 1, by omega, by go_num, by omega, HM8, HN8, HRE, HB8⟩
          case measure => simp [intOf]; omega
      · obtain rfl : k = n := by omega
        obtain ⟨oZ, hEZ, hfZ, hoZ⟩ := HR.out
        have hmk2 : m < k := by
          have h1 := HM.out
          have h2 : LO.take k = LO := List.take_of_length_le (by rw [HN.out]; exact Nat.le_refl _)
          rw [h2] at h1
          have h3 : (LO.filter fun p => isCus p.1).length < LO.length := by
            obtain ⟨p, hp, hq⟩ := HSO.out
            exact List.length_filter_lt_length_iff_exists.2 ⟨p, hp, by simp [hq]⟩
          rw [HN.out] at h3
          omega
        have hnk : ((k : Int) == (m : Int)) = false := by simp; omega
        obtain ⟨ca, ck, rfl⟩ := own_slice' HO.out
        have hG := encGet _ _ _ _ hEZ
        have HZ := Lib.hid hfZ
        clear hEZ hfZ
        go_wp2_with (go_at_call 116; refine hG.mono ?_; rintro rr w9 ⟨v2, rfl, rfl, hown2, hv2⟩)
        go_ret2
        have e1 : LO.take k = LO := List.take_of_length_le (by rw [HN.out]; exact Nat.le_refl _)
        have ho := HO.out
        have hm1 := HM.out
        rw [e1] at ho hm1
        refine ⟨v2, _, rfl, ?_, by rw [hm1]; exact own_mono ho (by omega), HFT.out _ HZ.out, ?_⟩
        · rw [e1] at hown2
          simpa [List.append_assoc] using hown2
        · rw [hv2]
          rcases hoZ with h | ⟨k2, h, hk2⟩
          · exact .inl h
          · exact .inr ⟨k2, h, by omega⟩


theorem usesF_any (P : Nat → Prop) (w : World) (h : Hst) (v : Value) (hr : RdF P w h v) : Calls Tryz.prog 191 #[v] w fun r w' => r = .returned (.bool (h.schema == -53)) ∧ w = w' := by
  obtain ⟨g, s, rfl, _, hb, _⟩ := hr
  have c1 : w.cell? ⟨g, 1, none⟩ = some (.int .i32 h.schema) := hb.cell 1
  go_enter Tryz.func191, Tryz.ntmps191
  go_wp2_with (go_at_call 233; refine (isCustom_any _ _).mono ?_; rintro r w' ⟨rfl, rfl⟩)
  go_ret
  exact ⟨rfl, rfl⟩
def EncHFEnds (w : World) (o : Option Nat) (ys : List UInt8) (lc : List (Rhs × Value)) (r : Ending) (w' : World) : Prop :=
  ∃ v' cv, r = .returned (.tuple #[v', cv]) ∧ w'.ownsRow 0 5 1 v' ys.length (bc ys) ∧ w'.ownsRow w.heap.size 298 3 cv lc.length (lc.flatMap rhc) ∧ Fr (fun k => some k = o) w w' ∧ (v'.ownBlock = o ∨ ∃ k, v'.ownBlock = some k ∧ w.heap.size ≤ k)

set_option maxRecDepth 100000 in
set_option maxHeartbeats 8000000 in
theorem encHsF_any (ep : Value) (sv : Value) (P : Nat → Prop) (v : Value) (xs : List UInt8) (lo : List (Rhs × Value)) (w : World) (h : RdHF P w sv lo) (hown : w.ownsRow 0 5 1 v xs.length (bc xs)) (hl : xs.length ≤ 536870912)
    (hsl : lo.length ≤ 12) (hwf : ∀ p ∈ lo, p.1.ok) (hP : ∀ g, P g → g < w.heap.size ∧ some g ≠ v.ownBlock) (hsome : lo = [] ∨ ∃ p ∈ lo, isCus p.1 = false) :
    Calls Tryz.prog 98 #[ep, sv, v] w (EncHFEnds w v.ownBlock (xs ++ encRecF 8 (fun s => !isCus s) (lo.map Prod.fst)) (lo.filter fun p => isCus p.1)) := by
  obtain ⟨h, hin⟩ := h
  obtain ⟨A, c, rfl⟩ := h.shape
  obtain ⟨a', n', k', rfl⟩ := own_slice hown
  have hE := Enc.made (z := .int .u8 0) hown _ rfl
  have hQ := putByte w.heap.size _ xs 8 _ hE (by omega)
  have e2 : ((8 : UInt8).toNat : Int) = 8 := rfl
  rw [e2] at hQ
  have hFW : Fr (fun k => some k = (Value.slice a' n' k').ownBlock) w (w.alloc (.cells #[.slice a' n' k', .int .u8 0, .int .u8 0, .int .u8 0, .int .u8 0, .int .u8 0, .int .u8 0, .int .u8 0, .int .u8 0, .int .u8 0, .int .u8 0] 224)) := (Fr.refl _ w).alloc _
  rcases lo with _ | ⟨f, r⟩
  · clear hE hFW e2 h hin hwf hsome
    go_enter Tryz.func98, Tryz.ntmps98
    go_wp2_with (first | (go_at_call 180; refine hQ.mono ?_; rintro r1 w1 ⟨rfl, R⟩; obtain ⟨o1, hE1, hf1, ho1⟩ := R; have hG := encGet _ _ _ _ hE1) | (go_at_call 116; refine hG.mono ?_; rintro r w2 ⟨v2, rfl, rfl, hown2, hv2⟩))
    go_ret2
    refine ⟨v2, _, rfl, by simpa [encRecF] using hown2, World.ownsRow_nil _ _ _ _, made_end (o1 := o1) hf1, ?_⟩
    rw [hv2]
    rcases ho1 with h | ⟨k, h, hk⟩
    · exact .inl h
    · exact .inr ⟨k, h, by simp at hk; omega⟩
  · obtain ⟨n, hn⟩ : ∃ n, (f :: r).length = n := ⟨_, rfl⟩
    rw [hn] at h hsl ⊢
    obtain ⟨LO, hLO⟩ : ∃ LO, f :: r = LO := ⟨_, rfl⟩
    have hsome2 : ∃ p ∈ LO, isCus p.1 = false := by rw [← hLO]; exact hsome.resolve_left (by simp)
    have HSO := Lib.hid hsome2
    clear hsome hsome2
    have hn1 : (0 : Int) < (n : Int) := by rw [← hn]; simp
    have hn0 : ((n : Int) == 0) = false := by simp; omega
    have hfm : f ∈ LO := by rw [← hLO]; exact List.mem_cons_self ..
    have hf0 : LO[0]? = some f := by rw [← hLO]; rfl
    have hmap : (f :: r).map Prod.fst = f.1 :: r.map Prod.fst := rfl
    have hwf2 : ∀ p ∈ LO, p.1.ok := by rw [← hLO]; exact hwf
    have hin2 : ∀ p ∈ LO, RdF P w p.1.h p.2 := by rw [← hLO]; exact hin
    rw [hLO] at h hn
    have henc : encRecF 8 (fun s => !isCus s) ((f :: r).map Prod.fst) = [8] ++ (encHHdr f.1 ++ (LO.filter fun p => !isCus p.1).flatMap (fun p => encRhF f.1 p.1)) := by
      rw [← hLO]
      have e1 : ∀ l : List (Rhs × Value), ((l.map Prod.fst).filter fun s => !isCus s) = (l.filter fun p => !isCus p.1).map Prod.fst := fun l => by rw [List.filter_map]; rfl
      rw [hmap, encRecF, ← hmap, e1, List.flatMap_map]
    rw [henc, hLO]
    obtain ⟨hrf, htf0, htf1, _⟩ := hwf2 f hfm
    obtain ⟨g, off, rfl, hPg, hcell⟩ := h.at (by omega)
    have hg := hP g hPg
    obtain ⟨f1, fv⟩ := f
    simp only [] at hrf htf0 htf1
    have c0 : w.cell? ⟨g, off, none⟩ = some (.int .u64 f1.ref) := hcell 0 _ (by exact flat3 rhc (fun _ => rfl) LO 0 (f1, fv) hf0 0 (by omega))
    have c1 : w.cell? ⟨g, off + 1, none⟩ = some (.int .i64 f1.t) := hcell 1 _ (by exact flat3 rhc (fun _ => rfl) LO 0 (f1, fv) hf0 1 (by omega))
    have c2 : w.cell? ⟨g, off + 2, none⟩ = some fv := hcell 2 _ (by exact flat3 rhc (fun _ => rfl) LO 0 (f1, fv) hf0 2 (by omega))
    obtain ⟨gf, _, hfv, _⟩ := hin2 _ hfm
    simp only [] at hfv
    subst hfv
    have HN := Lib.hid hn
    have HP := Lib.hid hP
    have HE := Lib.hid hE
    have HFW := Lib.hid hFW
    have HCELL := Lib.hid hcell
    have HIN := Lib.hid hin2
    have HWF := Lib.hid hwf2
    clear hE hFW e2 h hin hwf hwf2 hin2 hn hmap henc hcell hLO hfm hf0 hP
    generalize hWB : w.alloc (.cells #[.slice a' n' k', .int .u8 0, .int .u8 0, .int .u8 0, .int .u8 0, .int .u8 0, .int .u8 0, .int .u8 0, .int .u8 0, .int .u8 0, .int .u8 0] 224) = WB at hQ HE HFW
    have hB : w.heap.size < WB.heap.size := by rw [← hWB]; simp
    rw [← hWB] at hQ
    have HWB := Lib.hid hWB
    clear hWB
    go_enter Tryz.func98, Tryz.ntmps98
    go_wp2_with (go_at_call 180; refine hQ.mono ?_; rintro r1 w1 ⟨rfl, R⟩; refine Hid.out ?_)
    rw [HWB.out] at R
    clear hQ HWB
    have HFT := Lib.hid (fun (W : World) (hf : Fr (fun k => k = w.heap.size ∨ some k = (Value.slice a' n' k').ownBlock) WB W) => HFW.out.trans hf (fun k hk e => by
      rcases e with e | e
      · omega
      · exact e))
    have hF1 := HFT.out w1 R.fr
    have d0 : w1.cell? ⟨g, off, none⟩ = some (.int .u64 f1.ref) := by rw [hF1.cell (p := ⟨g, off, none⟩) hg.1 hg.2]; exact c0
    have d1 : w1.cell? ⟨g, off + 1, none⟩ = some (.int .i64 f1.t) := by rw [hF1.cell (p := ⟨g, off + 1, none⟩) hg.1 hg.2]; exact c1
    have d2 : w1.cell? ⟨g, off + 2, none⟩ = some (.pointer (some ⟨gf, 0, none⟩)) := by rw [hF1.cell (p := ⟨g, off + 2, none⟩) hg.1 hg.2]; exact c2
    have HR1 := Lib.hid (R.alloc (.cells #[.int .u64 f1.ref, .int .i64 f1.t, .pointer (some ⟨gf, 0, none⟩)] 298))
    have HBF := Lib.hid (Blk.new w1 298 #[.int .u64 f1.ref, .int .i64 f1.t, .pointer (some ⟨gf, 0, none⟩)])
    have hsz1 := R.fr.size
    clear R hF1 c0 c1 c2
    refine Lib.hid ?_
    go_wp2_with (first
      | (go_at_call 181; refine (put_more2 HR1.out (f := 181) (args := #[.pointer (some ⟨w.heap.size, 0, none⟩), .int .u64 f1.ref]) (zs := Lib.beBytes 8 f1.ref) (fun o2 he => putBE64 _ o2 _ f1.ref hrf _ he (by rw [List.length_append, List.length_singleton]; omega))).mono ?_; rintro r2 w2 ⟨rfl, R2, K2⟩
         have hB2 := K2.out _ _ _ (by decide) (by decide) HBF.out
         have b1 : w2.cell? ⟨w1.heap.size, 1, none⟩ = some (.int .i64 f1.t) := hB2.cell 1
         have HB2 := Lib.hid hB2
         have HR2 := Lib.hid R2
         clear hB2 R2 K2 HR1 d0 d1 d2)
      | (go_at_call 182; refine (put_more2 HR2.out (f := 182) (args := #[.pointer (some ⟨w.heap.size, 0, none⟩), .int .i64 f1.t]) (zs := Lib.beBytes 8 (u64 f1.t)) (fun o2 he => putBE64int64 _ o2 _ f1.t _ he (by simp [Lib.beBytes_length]; omega))).mono ?_; rintro r3 w3 ⟨rfl, R3, K3⟩
         have HB3 := Lib.hid (K3.out _ _ _ (by decide) (by decide) HB2.out)
         have HR3 := Lib.hid R3
         clear R3 K3 HR2 b1 HB2))
    clear HBF
    have hsz3 : w1.heap.size + 1 ≤ w3.heap.size := HB3.out.lt
    generalize hbf : w1.heap.size = bf at HB3 hsz1 hsz3
    clear hbf
    obtain ⟨i0, hi0, hz0, hz1, hz2⟩ := info_parts Tryz.info298
    go_loopw [9, 31] (fun cv i wr => ∃ (k m : Nat), k ≤ n ∧ i = .int .i64 k ∧ m ≤ k ∧ Hid (((LO.take k).filter fun p => isCus p.1).length = m) ∧ Hid (wr.ownsRow (bf + 1) 298 3 cv m (((LO.take k).filter fun p => isCus p.1).flatMap rhc)) ∧ Hid (Put WB w.heap.size (Value.slice a' n' k').ownBlock xs ([8] ++ encHHdr f1 ++ ((LO.take k).filter fun p => !isCus p.1).flatMap (fun p => encRhF f1 p.1)) wr) ∧ Hid (Blk wr bf 298 #[.int .u64 f1.ref, .int .i64 f1.t, .pointer (some ⟨gf, 0, none⟩)])) (fun _ i _ => n - (intOf i).toNat)
    case atStart => exact ⟨0, 0, Nat.zero_le _, rfl, Nat.le_refl _, Lib.hid rfl, Lib.hid (World.ownsRow_nil _ _ _ _), Lib.hid (by simpa [encHHdr] using HR3.out), HB3⟩
    case round =>
      obtain ⟨k, m, hk, rfl, hmk, HM, HO, HR, HBk⟩ := hrel
      by_cases hlt : k < n
      · obtain ⟨x, hx⟩ : ∃ x, LO[k]? = some x := ⟨_, List.getElem?_eq_getElem (by rw [HN.out]; exact hlt)⟩
        have hxm := List.mem_of_getElem? hx
        have hFk := HFT.out wr HR.out.fr
        have cc : ∀ j, j < 3 → ∀ u, (rhc x)[j]? = some u → wr.cell? ⟨g, off + (k * 3 + j), none⟩ = some u := fun j hj u hu => by
          rw [hFk.cell (p := ⟨g, off + (k * 3 + j), none⟩) hg.1 hg.2]
          exact HCELL.out (k * 3 + j) u (by rw [flat3 rhc (fun _ => rfl) LO k x hx j hj]; exact hu)
        have d0 : wr.cell? ⟨g, off + k * 3, none⟩ = some (.int .u64 x.1.ref) := cc 0 (by omega) _ rfl
        have d1 : wr.cell? ⟨g, off + k * 3 + 1, none⟩ = some (.int .i64 x.1.t) := cc 1 (by omega) _ rfl
        have d2 : wr.cell? ⟨g, off + k * 3 + 2, none⟩ = some x.2 := cc 2 (by omega) _ rfl
        have hrd := HIN.out x hxm
        have hxo := HWF.out x hxm
        obtain ⟨x1, xv⟩ := x
        simp only [] at d0 d1 d2 hrd hxo
        have hrd2 := hrd
        obtain ⟨gx, _, rfl, _⟩ := hrd2
        have b0 : wr.cell? ⟨bf, 0, none⟩ = some (.int .u64 f1.ref) := HBk.out.cell 0
        have b1 : wr.cell? ⟨bf, 1, none⟩ = some (.int .i64 f1.t) := HBk.out.cell 1
        have hbl := HBk.out.lt
        have hyl : ([(8 : UInt8)] ++ encHHdr f1 ++ ((LO.take k).filter fun p => !isCus p.1).flatMap (fun p => encRhF f1 p.1)).length ≤ 17 + k * 5020 := by
          have h0 := flatMap_lenM (fun p : Rhs × Value => encRhF f1 p.1) 5020 ((LO.take k).filter fun p => !isCus p.1) (fun p hp => encRhF_len f1 p.1 (HWF.out p (List.mem_of_mem_take (List.mem_filter.1 hp).1)))
          have h8 := filter_len_le (fun p : Rhs × Value => !isCus p.1) LO k
          have h9 := Nat.mul_le_mul_right 5020 h8
          have h1 := Nat.le_trans h0 h9
          have h4 : (encHHdr f1).length = 16 := by simp [encHHdr, Lib.beBytes_length]
          rw [List.length_append, List.length_append, h4, List.length_singleton]; omega
        have hk9 : k * 5020 ≤ 12 * 5020 := Nat.mul_le_mul_right _ (by omega)
        obtain ⟨Y, hY⟩ : ∃ Y, [(8 : UInt8)] ++ encHHdr f1 ++ ((LO.take k).filter fun p => !isCus p.1).flatMap (fun p => encRhF f1 p.1) = Y := ⟨_, rfl⟩
        rw [hY] at hyl HR
        have HY := Lib.hid hY
        have HX := Lib.hid hx
        have HBX := Lib.hid (Blk.new wr 298 #[.int .u64 x1.ref, .int .i64 x1.t, .pointer (some ⟨gx, 0, none⟩)])
        have HRA := Lib.hid (HR.out.alloc (.cells #[.int .u64 x1.ref, .int .i64 x1.t, .pointer (some ⟨gx, 0, none⟩)] 298))
        have HBK := Lib.hid (HBk.out.alloc (.cells #[.int .u64 x1.ref, .int .i64 x1.t, .pointer (some ⟨gx, 0, none⟩)] 298))
        have hyl2 : Y.length ≤ 60300 := by omega
        have HU := Lib.hid (usesF_any P _ x1.h _ ((hrd.fr hFk (fun g hg => (HP.out g hg).2)).fr ((Fr.refl (fun _ => False) wr).alloc (.cells #[.int .u64 x1.ref, .int .i64 x1.t, .pointer (some ⟨gx, 0, none⟩)] 298)) (fun _ _ e => e)))
        obtain ⟨ca, cm, ck, rfl⟩ := own_slice HO.out
        rcases hcu : isCus x1 with _ | _
        · obtain ⟨Q1, hQ1⟩ : ∃ Q, zzu (hRef f1 x1) = Q := ⟨_, rfl⟩
          obtain ⟨Q2, hQ2⟩ : ∃ Q, zzu (hT f1 x1) = Q := ⟨_, rfl⟩
          have hl1 := zzu_len (hRef f1 x1) (wrap64_bd _).1 (wrap64_bd _).2
          have hl2 := zzu_len (hT f1 x1) (wrap64_bd _).1 (wrap64_bd _).2
          rw [hQ1] at hl1
          rw [hQ2] at hl2
          have HQ1 := Lib.hid hQ1
          have HQ2 := Lib.hid hQ2
          have HRD := Lib.hid hrd
          have hU := HU.out
          rw [show (x1.h.schema == -53) = false from hcu] at hU
          have HO1 := Lib.hid (HO.out.alloc (.cells #[.int .u64 x1.ref, .int .i64 x1.t, .pointer (some ⟨gx, 0, none⟩)] 298))
          have HXO := Lib.hid hxo
          clear hx hFk cc hY hyl hk9 hQ1 hQ2 hxm hrd hxo HR HBk
          go_wp2_with (first
            | (go_at_call 191; refine hU.mono ?_; rintro r w' ⟨rfl, rfl⟩)
            | (go_at_call 183; refine (put_more2 HRA.out (f := 183) (args := #[.pointer (some ⟨w.heap.size, 0, none⟩), .int .i64 (hRef f1 x1)]) (zs := Q1) (fun o2 he => by have := putVarint64 _ o2 _ (hRef f1 x1) (wrap64_bd _).1 (wrap64_bd _).2 _ he (by rw [List.length_append]; omega); rw [show Lib.uvarint (Lib.zigzag (hRef f1 x1)) = Q1 from HQ1.out] at this; exact this)).mono ?_; rintro rA wA ⟨rfl, R1, K1⟩
               have hB1 := K1.out _ _ _ (by decide) (by decide) HBX.out
               have hB2 := K1.out _ _ _ (by decide) (by decide) HBK.out
               have p1 : wA.cell? ⟨wr.heap.size, 1, none⟩ = some (.int .i64 x1.t) := hB1.cell 1
               have q1 : wA.cell? ⟨bf, 1, none⟩ = some (.int .i64 f1.t) := hB2.cell 1
               have HBX1 := Lib.hid hB1
               have HBK1 := Lib.hid hB2
               have HO2 := Lib.hid (own_keeps HO1.out K1.out (by decide) (by decide))
               have HR2 := Lib.hid R1
               have hv2 : (Y ++ Q1).length ≤ 60310 := by rw [List.length_append]; omega
               clear R1 K1 hB1 hB2 HRA b0 b1 HBX HBK hU)
            | (go_at_call 183; refine (put_more2 HR2.out (f := 183) (args := #[.pointer (some ⟨w.heap.size, 0, none⟩), .int .i64 (hT f1 x1)]) (zs := Q2) (fun o2 he => by have := putVarint64 _ o2 _ (hT f1 x1) (wrap64_bd _).1 (wrap64_bd _).2 _ he (by rw [List.length_append]; omega); rw [show Lib.uvarint (Lib.zigzag (hT f1 x1)) = Q2 from HQ2.out] at this; exact this)).mono ?_; rintro rB wB ⟨rfl, R1, K1⟩
               have hB1 := K1.out _ _ _ (by decide) (by decide) HBX1.out
               have HBK2 := Lib.hid (K1.out _ _ _ (by decide) (by decide) HBK1.out)
               have HO3 := Lib.hid (own_keeps HO2.out K1.out (by decide) (by decide))
               have p2 : wB.cell? ⟨wr.heap.size, 2, none⟩ = some (.pointer (some ⟨gx, 0, none⟩)) := hB1.cell 2
               have HR3 := Lib.hid R1
               have hv3 : (Y ++ Q1 ++ Q2).length ≤ 60320 := by rw [List.length_append]; omega
               have HH := Lib.hid (HRD.out.fr (HFT.out wB R1.fr) (fun g hg => (HP.out g hg).2))
               clear R1 K1 hB1 p1 q1 HR2 hv2 HBX1 HBK1)
            | (go_at_call 192; refine (put_more3 HR3.out (f := 192) (args := #[.pointer (some ⟨w.heap.size, 0, none⟩), .pointer (some ⟨gx, 0, none⟩)]) (zs := encHistF x1.h) (fun o2 he ho2 => encHistF_any P _ o2 _ x1.h _ _ HH.out he (by rw [List.length_append]; omega) HXO.out.2.2.2 (fun g hg => by
                 have h1 := HP.out g hg
                 rintro (rfl | h2)
                 · omega
                 · rcases ho2 with h3 | ⟨k, h3, hk⟩
                   · exact h1.2 (h2.trans h3)
                   · rw [h3] at h2; injection h2 with h2; omega))).mono ?_; rintro rD wD ⟨rfl, R1, K1⟩
               have HR8 := Lib.hid R1
               have HBK8 := Lib.hid (K1.out _ _ _ (by decide) (by decide) HBK2.out)
               have HO8 := Lib.hid (own_keeps HO3.out K1.out (by decide) (by decide))
               clear R1 K1 HR3 HBK2))
          have HRE : Hid (Put WB w.heap.size (Value.slice a' n' k').ownBlock xs ([8] ++ encHHdr f1 ++ ((LO.take (k + 1)).filter fun p => !isCus p.1).flatMap (fun p => encRhF f1 p.1)) wD) := Lib.hid (by
            rw [filt_yes (fun p : Rhs × Value => !isCus p.1) LO k _ HX.out (by simp [hcu]), List.flatMap_append, ← List.append_assoc, HY.out, List.flatMap_cons, List.flatMap_nil, List.append_nil]
            unfold encRhF
            rw [HQ1.out, HQ2.out]
            simpa [List.append_assoc] using HR8.out)
          clear HR8
          go_wp2
          go_roundw
          case rel => exact ⟨k + 1, m, by omega, by go_num, by omega, Lib.hid (by rw [filt_no (fun p : Rhs × Value => isCus p.1) LO k _ HX.out hcu]; exact HM.out), Lib.hid (by rw [filt_no (fun p : Rhs × Value => isCus p.1) LO k _ HX.out hcu]; exact HO8.out), HRE, HBK8⟩
          case measure => simp [intOf]; omega
        · have hU := HU.out
          rw [show (x1.h.schema == -53) = true from hcu] at hU
          have hrow := HO.out.lt
          have hcs : ∀ j, j < 3 → ∀ u, (rhc (x1, Value.pointer (some ⟨gx, 0, none⟩)))[j]? = some u → True := fun _ _ _ _ => trivial
          have hsw : WB.heap.size ≤ wr.heap.size := HR.out.fr.size
          clear hx hFk cc hY hyl hk9 hxm hrd hxo b0 b1 hcs
          go_wp2_with (first
            | (go_at_call 191; refine hU.mono ?_; rintro r w' ⟨rfl, rfl⟩)
            | (at_builtin; refine Hid.out ?_))
          refine Lib.hid ?_
          refine wpList_append_src _ rfl _ _ 182 182 rfl (bf + 1) 298 i0 _ 3 24 Tryz.underlying182 hi0 hz0 hz1 hz2 rfl (by decide) _ m (((LO.take k).filter fun p => isCus p.1).flatMap rhc) rfl ((HO.out.alloc _).alloc _) _ 1 [.int .u64 x1.ref, .int .i64 x1.t, .pointer (some ⟨gx, 0, none⟩)] rfl (src_blk Tryz.underlying182 (blk_new2 wr _ 298 #[.int .u64 x1.ref, .int .i64 x1.t, .pointer (some ⟨gx, 0, none⟩)]) rfl (by simp [Value.oneCell'])) (by unfold maxLen; omega) (by omega) (by simp; omega) ?_
          intro v' w2 hown' hgrow hat
          have HRE : Hid (Put WB w.heap.size (Value.slice a' n' k').ownBlock xs ([8] ++ encHHdr f1 ++ ((LO.take (k + 1)).filter fun p => !isCus p.1).flatMap (fun p => encRhF f1 p.1)) w2) := Lib.hid (by
            rw [filt_no (fun p : Rhs × Value => !isCus p.1) LO k _ HX.out (by simp [hcu]), HY.out]
            exact ((HR.out.alloc _).alloc _).grown ((HO.out.alloc _).alloc _) (by omega) hgrow (by decide) (by decide))
          have HB8 := Lib.hid (((HBk.out.alloc _).alloc _).grown hgrow (fun e => by have := (hrow bf e.symm).1; omega))
          have HO8 := Lib.hid hown'
          have HM8 : Hid (((LO.take (k + 1)).filter fun p => isCus p.1).length = m + 1) := Lib.hid (by
            rw [filt_yes (fun p : Rhs × Value => isCus p.1) LO k _ HX.out hcu, List.length_append, HM.out]; rfl)
          have HN8 : Hid (w2.ownsRow (bf + 1) 298 3 v' (m + 1) (((LO.take (k + 1)).filter fun p => isCus p.1).flatMap rhc)) := Lib.hid (by
            rw [filt_yes (fun p : Rhs × Value => isCus p.1) LO k _ HX.out hcu, List.flatMap_append]
            simpa [rhc] using HO8.out)
          clear hown' hgrow hat hrow HO8
          go_wp2
          go_roundw
          case rel => exact ⟨k + 1, m + 1, by omega, by go_num, by omega, HM8, HN8, HRE, HB8⟩
          case measure => simp [intOf]; omega
      · obtain rfl : k = n := by omega
        obtain ⟨oZ, hEZ, hfZ, hoZ⟩ := HR.out
        have hmk2 : m < k := by
          have h1 := HM.out
          have h2 : LO.take k = LO := List.take_of_length_le (by rw [HN.out]; exact Nat.le_refl _)
          rw [h2] at h1
          have h3 : (LO.filter fun p => isCus p.1).length < LO.length := by
            obtain ⟨p, hp, hq⟩ := HSO.out
            exact List.length_filter_lt_length_iff_exists.2 ⟨p, hp, by simp [hq]⟩
          rw [HN.out] at h3
          omega
        have hnk : ((k : Int) == (m : Int)) = false := by simp; omega
        obtain ⟨ca, ck, rfl⟩ := own_slice' HO.out
        have hG := encGet _ _ _ _ hEZ
        have HZ := Lib.hid hfZ
        clear hEZ hfZ
        go_wp2_with (go_at_call 116; refine hG.mono ?_; rintro rr w9 ⟨v2, rfl, rfl, hown2, hv2⟩)
        go_ret2
        have e1 : LO.take k = LO := List.take_of_length_le (by rw [HN.out]; exact Nat.le_refl _)
        have ho := HO.out
        have hm1 := HM.out
        rw [e1] at ho hm1
        refine ⟨v2, _, rfl, ?_, by rw [hm1]; exact own_mono ho (by omega), HFT.out _ HZ.out, ?_⟩
        · rw [e1] at hown2
          simpa [List.append_assoc] using hown2
        · rw [hv2]
          rcases hoZ with h | ⟨k2, h, hk2⟩
          · exact .inl h
          · exact .inr ⟨k2, h, by omega⟩

end Go.Proofs.YtbkookiigkckdaaGreatDoor

