/- Texts of this seat, merged and shortened: H8, Pk, Tw, H16, H17, J25. -/
import Derived.Test.YtbkookiigkckdaaGreatDoorK04
import Derived.Test.YtbkookiigkckdaaGreatDoorK06
import Derived.Test.YtbkookiigkckdaaGreatDoorK07
import Derived.Test.YtbkookiigkckdaaGreatDoorK08
import Derived.Test.YtbkookiigkckdaaGreatDoorK12
import Derived.Test.YtbkookiigkckdaaGreatDoorK15
import Derived.Test.YtbkookiigkckdaaGreatDoorK16
import Derived.ChangeSlices
import Derived.ChangeOld
import Derived.Below
set_option linter.unusedVariables false
set_option linter.unusedSimpArgs false
set_option maxRecDepth 100000
set_option maxHeartbeats 8000000
namespace Go.Proofs.YtbkookiigkckdaaGreatDoor
open Go.RowKit
theorem zgW {h : Hst} (k : h.few 60) : h.few 1099511627776 := by
 obtain ⟨a, b, c, d, e, f, g⟩ := k; exact ⟨by omega, by omega, by omega, by omega, by omega, by omega, by omega⟩
def leftW (l : List Rhs) : List Rhs := (l.filter zaU).map fun s => { s with h := s.h.cutW }
def leftF (l : List Rhs) : List Rhs := (l.filter zaU).map fun s => { s with h := s.h.cutF }
def LeftIs (base : Nat) (l : List Rhs) (u : Value) (W : World) : Prop := ∃ lu, lu.map Prod.fst = l ∧ OwnI base W u lu
theorem LeftIs.shape {base : Nat} {l : List Rhs} {u : Value} {W : World} (h : LeftIs base l u W) : ∃ A m c, u = .slice A m c := let ⟨_, _, h⟩ := h; zae h.1
theorem LeftIs.vars {base : Nat} {l : List Rhs} {u : Value} {W W' : World} (h : LeftIs base l u W) (hv : Vars W W') : LeftIs base l u W' := by
 obtain ⟨lu, h1, h2, h3⟩ := h
 have go : ∀ {e : TypeId} {z n : Nat} {u : Value} {xs : List Value}, e ≠ 4 → e ≠ 44 → e ≠ 52 → W.ownsRow base e z u n xs → W'.ownsRow base e z u n xs := fun e1 e2 e3 o => zah o hv (fun g hg k => by
  obtain ⟨cs, k | k | k⟩ := k
  ·exact zak o k e1 hg
  ·exact zak o k e2 hg
  ·exact zak o k e3 hg)
 refine ⟨lu, h1, go (by decide) (by decide) (by decide) h2, fun p hp => ?_⟩; obtain ⟨a1, a2, a3, a4, a5, a6, a7⟩ := h3 p hp
 exact ⟨go (by decide) (by decide) (by decide) a1, go (by decide) (by decide) (by decide) a2, go (by decide) (by decide) (by decide) a3, go (by decide) (by decide) (by decide) a4, go (by decide) (by decide) (by decide) a5, go (by decide) (by decide) (by decide) a6, go (by decide) (by decide) (by decide) a7⟩
theorem ziU (bk bp bb br : Nat) (ep lp : Value) (P : Nat → Prop) (s0 s1 s2 s3 s4 s5 s6 v z : Value) (xs : List UInt8) (lv : List (Rhs × Hsl)) (w : World) (hk : Blk w bk 3 #[.int .i64 9]) (hp : Blk w bp 54 #[s0, s1, s2, s3, s4, s5, s6]) (hb : Blk w bb 44 #[v]) (hr : Blk w br 44 #[z])
 (hown : w.ownsRow 0 5 1 v xs.length (bc xs)) (hs : SlH P w s6 lv) (hl : xs.length ≤ 536870912) (hsl : lv.length ≤ 12) (hwf : ∀ s ∈ (lv.map Prod.fst), s.ok) (hbr : bb ≠ br) :
 Calls Tryz.prog 90 #[.pointer (some ⟨bk, 0, none⟩), ep, .pointer (some ⟨bp, 0, none⟩), .pointer (some ⟨bb, 0, none⟩), .pointer (some ⟨br, 0, none⟩), lp] w (zcu w br v.ownBlock (xs ++ za3 9 (fun _ => true) (lv.map Prod.fst))) := by
 have hpr : bp ≠ br := Blk.ne_ hp hr (by decide); have k0 := hk.cell 0; have p1 := hp.cell 6; have b0 := hb.cell 0; simp at k0 p1 b0; obtain ⟨a', n', k', rfl⟩ := zae hown; have hs1 : ∃ A m c, s6 = .slice A m c := let ⟨A, c, h, _⟩ := hs.1; ⟨A, _, c, h⟩
 obtain ⟨A, m, c, rfl⟩ := hs1; have hQ := zcx P (.slice A m c) lv w.drew hs (by omega) (fun p hp => zgW (hwf p.1 (zlD.2 ⟨p, hp, rfl⟩)).2.2.2.few); have HB := zk7 hb; have HP := zk7 hp; have HR := zk7 hr; have HO := zk7 hown; have p1d : w.drew.cell? ⟨bp, 6, none⟩ = some (.slice A m c) := p1; have b0d : w.drew.cell? ⟨bb, 0, none⟩ = some (.slice a' n' k') := b0
 obtain ⟨LS, hLS⟩ : ∃ LS, lv.map Prod.fst = LS := ⟨_, rfl⟩; have hsl2 : LS.length ≤ 12 := by rw [← hLS, zlv]; exact hsl
 rw [hLS] at hQ hwf ⊢; clear hk hp hb hr hown hs hLS hsl; go_enter Tryz.func90, Tryz.ntmps90; go_wp2_with fail
 have HW := zk7 hwf; clear hwf; go_region_held3 (fun w' => w'.cell? ⟨bp, 6, none⟩ = some (.slice A m c) ∧ w'.cell? ⟨bb, 0, none⟩ = some (.slice a' n' k'))
  ((first | (go_split_ands; refine ⟨?_, ?_⟩ <;> first | exact ((HP.out.drew).fr hf1 (fun e => e)).cell 6 | exact ((HB.out.drew).fr hf1 (fun e => e)).cell 0) | (go_split_ands; refine ⟨?_, ?_⟩ <;> first | exact KP.out.cell 6 | exact KB.out.cell 0) | (go_split_ands; refine ⟨?_, ?_⟩ <;> first | exact (KP.out.far (p := ⟨br, 0, none⟩) hpr _).cell 6 | exact (KB.out.far (p := ⟨br, 0, none⟩) hbr _).cell 0) | go_keep))
  ((first
    | (go_at_call 84; refine hQ.mono ?_; rintro r1 w1 ⟨v1, lo, rfl, hlo, hown1, hf1⟩)
    | (go_at_call 99; refine (zjA ep v1 (fun g => w.drew.heap.size ≤ g ∧ g < w1.heap.size) (.slice a' n' k') xs lo w1 hown1.rd (zah (World.ownsRow.drew HO.out) hf1 (fun _ _ e => e)) hl (by rw [← hlo, zlv] at hsl2; exact hsl2) (fun p hp => HW.out p.1 (by rw [← hlo]; exact zlD.2 ⟨p, hp, rfl⟩)) (fun g hg => ⟨hg.2, fun e => by have h1 : w.heap.size ≤ g := hg.1; have h2 := zav HO.out e.symm; omega⟩)).mono ?_; rintro r2 w2 ⟨v2, rfl, hown2, hf2, hat2⟩; rw [hlo] at hown2; obtain ⟨KP, KB, KR⟩ := za7 HP.out HB.out HR.out HO.out hf1 hf2; have q0 := KR.out.cell 0; simp at q0; have q1 := KR.out.frozen 0; obtain ⟨a2, n2, k2, rfl⟩ := zae hown2)))
 have HE : Fr (fun k => some k = (Value.slice a' n' k').ownBlock ∨ k = br) w (w2.setCell ⟨br, 0, none⟩ (.slice a2 n2 k2)) :=
  ((((zlW (fun k => some k = (Value.slice a' n' k').ownBlock ∨ k = br) w).drew).trans hf1 (fun _ _ e => e.elim)).trans hf2 (fun _ _ e => .inl e)).setCell (p := ⟨br, 0, none⟩) (.inl (.inr rfl)) _
 have HV : Blk (w2.setCell ⟨br, 0, none⟩ (.slice a2 n2 k2)) br 44 #[.slice a2 n2 k2] := by simpa using KR.out.set_ 0 (.slice a2 n2 k2)
 have HF := zk7 HE; have HVV := zk7 HV; have HOW : (w2.setCell ⟨br, 0, none⟩ (.slice a2 n2 k2)).ownsRow 0 5 1 (.slice a2 n2 k2) (xs ++ za3 9 (fun _ => true) LS).length (bc (xs ++ za3 9 (fun _ => true) LS)) := zah hown2 (Fr.put_ w2 br 0 _) (fun g hg e => zak hown2 KR.out (by decide) (by rw [hg, e])); have HOWW := zk7 HOW; have hsz := hf1.size; have HAT := zk7 hat2
 clear HE HV HOW hown1 hf1 hown2 hf2 hat2 q0 q1 hQ p1 p1d b0 b0d; go_wp2; go_end0; refine ⟨rfl, _, HVV.out, HOWW.out, HF.out, ?_⟩; rcases HAT.out with h | ⟨k, h, hk⟩
 ·exact .inl h
 ·exact .inr ⟨k, h, by simp at hsz; omega⟩
theorem zfj (s0 s1 s2 s3 s4 s5 s6 bv : Value) (xs : List UInt8) (lv : List (Rhs × Hsl)) (P : Nat → Prop) (w : World) (hb : Sl P w bv 1 xs.length (bc xs)) (hxl : xs.length ≤ 536870912)
 (hsl : ∀ s ∈ [s0, s1, s2, s3, s4, s5, s6], ∃ A m c, s = .slice A m c) (hs : SlH P w s6 lv) (hll : lv.length ≤ 12) (hwf : ∀ s ∈ (lv.map Prod.fst), s.ok) :
 Calls Tryz.prog 31 #[.int .i64 9, .agg #[s0, s1, s2, s3, s4, s5, s6], bv] w (zbK (fun lv _ => lv = .slice none 0 0) w (xs ++ za3 9 (fun _ => true) (lv.map Prod.fst))) := by
 refine zaK 9 s0 s1 s2 s3 s4 s5 s6 bv xs _ P _ w hb (by omega) hsl (by rintro lv W rfl; exact ⟨_, _, _, rfl⟩) (fun _ _ _ h _ => h) ?_; intro bk be bp bb br bl v W hk hp hb' hr hl hown hbr hF
 exact (ziU bk bp bb br _ _ P s0 s1 s2 s3 s4 s5 s6 v _ xs lv W hk hp hb' hr (zai hown (zli _)) (hs.fr hF (fun _ _ e => e)) hxl hll hwf hbr).mono fun r w' h => zc7 (zai hown (zli _)) hr hl h
theorem ziV (bk bp bb br : Nat) (ep lp : Value) (P : Nat → Prop) (s0 s1 s2 s3 s4 s5 s6 v z : Value) (xs : List UInt8) (lv : List (Rhs × Hsl)) (w : World) (hk : Blk w bk 3 #[.int .i64 10]) (hp : Blk w bp 54 #[s0, s1, s2, s3, s4, s5, s6]) (hb : Blk w bb 44 #[v]) (hr : Blk w br 44 #[z])
 (hown : w.ownsRow 0 5 1 v xs.length (bc xs)) (hs : SlH P w s6 lv) (hl : xs.length ≤ 536870912) (hsl : lv.length ≤ 12) (hwf : ∀ s ∈ (lv.map Prod.fst), s.ok) (hbr : bb ≠ br) :
 Calls Tryz.prog 90 #[.pointer (some ⟨bk, 0, none⟩), ep, .pointer (some ⟨bp, 0, none⟩), .pointer (some ⟨bb, 0, none⟩), .pointer (some ⟨br, 0, none⟩), lp] w (zcu w br v.ownBlock (xs ++ za4 10 (fun _ => true) (lv.map Prod.fst))) := by
 have hpr : bp ≠ br := Blk.ne_ hp hr (by decide); have k0 := hk.cell 0; have p1 := hp.cell 6; have b0 := hb.cell 0; simp at k0 p1 b0; obtain ⟨a', n', k', rfl⟩ := zae hown; have hs1 : ∃ A m c, s6 = .slice A m c := let ⟨A, c, h, _⟩ := hs.1; ⟨A, _, c, h⟩
 obtain ⟨A, m, c, rfl⟩ := hs1; have hQ := zdE P (.slice A m c) lv w.drew hs (by omega) (fun p hp => zgW (hwf p.1 (zlD.2 ⟨p, hp, rfl⟩)).2.2.2.few); have HB := zk7 hb; have HP := zk7 hp; have HR := zk7 hr; have HO := zk7 hown; have p1d : w.drew.cell? ⟨bp, 6, none⟩ = some (.slice A m c) := p1; have b0d : w.drew.cell? ⟨bb, 0, none⟩ = some (.slice a' n' k') := b0
 obtain ⟨LS, hLS⟩ : ∃ LS, lv.map Prod.fst = LS := ⟨_, rfl⟩; have hsl2 : LS.length ≤ 12 := by rw [← hLS, zlv]; exact hsl
 rw [hLS] at hQ hwf ⊢; clear hk hp hb hr hown hs hLS hsl; go_enter Tryz.func90, Tryz.ntmps90; go_wp2_with fail
 have HW := zk7 hwf; clear hwf; go_region_held3 (fun w' => w'.cell? ⟨bp, 6, none⟩ = some (.slice A m c) ∧ w'.cell? ⟨bb, 0, none⟩ = some (.slice a' n' k'))
  ((first | (go_split_ands; refine ⟨?_, ?_⟩ <;> first | exact ((HP.out.drew).fr hf1 (fun e => e)).cell 6 | exact ((HB.out.drew).fr hf1 (fun e => e)).cell 0) | (go_split_ands; refine ⟨?_, ?_⟩ <;> first | exact KP.out.cell 6 | exact KB.out.cell 0) | (go_split_ands; refine ⟨?_, ?_⟩ <;> first | exact (KP.out.far (p := ⟨br, 0, none⟩) hpr _).cell 6 | exact (KB.out.far (p := ⟨br, 0, none⟩) hbr _).cell 0) | go_keep))
  ((first
    | (go_at_call 87; refine hQ.mono ?_; rintro r1 w1 ⟨v1, lo, rfl, hlo, hown1, hf1⟩)
    | (go_at_call 100; refine (zjB ep v1 (fun g => w.drew.heap.size ≤ g ∧ g < w1.heap.size) (.slice a' n' k') xs lo w1 hown1.rd (zah (World.ownsRow.drew HO.out) hf1 (fun _ _ e => e)) hl (by rw [← hlo, zlv] at hsl2; exact hsl2) (fun p hp => HW.out p.1 (by rw [← hlo]; exact zlD.2 ⟨p, hp, rfl⟩)) (fun g hg => ⟨hg.2, fun e => by have h1 : w.heap.size ≤ g := hg.1; have h2 := zav HO.out e.symm; omega⟩)).mono ?_; rintro r2 w2 ⟨v2, rfl, hown2, hf2, hat2⟩; rw [hlo] at hown2; obtain ⟨KP, KB, KR⟩ := za7 HP.out HB.out HR.out HO.out hf1 hf2; have q0 := KR.out.cell 0; simp at q0; have q1 := KR.out.frozen 0; obtain ⟨a2, n2, k2, rfl⟩ := zae hown2)))
 have HE : Fr (fun k => some k = (Value.slice a' n' k').ownBlock ∨ k = br) w (w2.setCell ⟨br, 0, none⟩ (.slice a2 n2 k2)) :=
  ((((zlW (fun k => some k = (Value.slice a' n' k').ownBlock ∨ k = br) w).drew).trans hf1 (fun _ _ e => e.elim)).trans hf2 (fun _ _ e => .inl e)).setCell (p := ⟨br, 0, none⟩) (.inl (.inr rfl)) _
 have HV : Blk (w2.setCell ⟨br, 0, none⟩ (.slice a2 n2 k2)) br 44 #[.slice a2 n2 k2] := by simpa using KR.out.set_ 0 (.slice a2 n2 k2)
 have HF := zk7 HE; have HVV := zk7 HV; have HOW : (w2.setCell ⟨br, 0, none⟩ (.slice a2 n2 k2)).ownsRow 0 5 1 (.slice a2 n2 k2) (xs ++ za4 10 (fun _ => true) LS).length (bc (xs ++ za4 10 (fun _ => true) LS)) := zah hown2 (Fr.put_ w2 br 0 _) (fun g hg e => zak hown2 KR.out (by decide) (by rw [hg, e])); have HOWW := zk7 HOW; have hsz := hf1.size; have HAT := zk7 hat2
 clear HE HV HOW hown1 hf1 hown2 hf2 hat2 q0 q1 hQ p1 p1d b0 b0d; go_wp2; go_end0; refine ⟨rfl, _, HVV.out, HOWW.out, HF.out, ?_⟩; rcases HAT.out with h | ⟨k, h, hk⟩
 ·exact .inl h
 ·exact .inr ⟨k, h, by simp at hsz; omega⟩
theorem zfk (s0 s1 s2 s3 s4 s5 s6 bv : Value) (xs : List UInt8) (lv : List (Rhs × Hsl)) (P : Nat → Prop) (w : World) (hb : Sl P w bv 1 xs.length (bc xs)) (hxl : xs.length ≤ 536870912)
 (hsl : ∀ s ∈ [s0, s1, s2, s3, s4, s5, s6], ∃ A m c, s = .slice A m c) (hs : SlH P w s6 lv) (hll : lv.length ≤ 12) (hwf : ∀ s ∈ (lv.map Prod.fst), s.ok) :
 Calls Tryz.prog 31 #[.int .i64 10, .agg #[s0, s1, s2, s3, s4, s5, s6], bv] w (zbK (fun lv _ => lv = .slice none 0 0) w (xs ++ za4 10 (fun _ => true) (lv.map Prod.fst))) := by
 refine zaK 10 s0 s1 s2 s3 s4 s5 s6 bv xs _ P _ w hb (by omega) hsl (by rintro lv W rfl; exact ⟨_, _, _, rfl⟩) (fun _ _ _ h _ => h) ?_; intro bk be bp bb br bl v W hk hp hb' hr hl hown hbr hF
 exact (ziV bk bp bb br _ _ P s0 s1 s2 s3 s4 s5 s6 v _ xs lv W hk hp hb' hr (zai hown (zli _)) (hs.fr hF (fun _ _ e => e)) hxl hll hwf hbr).mono fun r w' h => zc7 (zai hown (zli _)) hr hl h
theorem zkb (bk bp bb br bl base : Nat) (ep : Value) (P : Nat → Prop) (s0 s1 s2 s3 s4 s5 s6 v z zl : Value) (xs : List UInt8) (lv : List (Rhs × Hsl)) (w : World) (hk : Blk w bk 3 #[.int .i64 7]) (hp : Blk w bp 54 #[s0, s1, s2, s3, s4, s5, s6]) (hb : Blk w bb 44 #[v]) (hr : Blk w br 44 #[z]) (hbl : Blk w bl 52 #[zl])
 (hown : w.ownsRow 0 5 1 v xs.length (bc xs)) (hs : SlH P w s6 lv) (hl : xs.length ≤ 536870912) (hsl : lv.length ≤ 12) (hwf : ∀ s ∈ (lv.map Prod.fst), s.ok) (hbr : bb ≠ br) (hbase : base ≤ w.heap.size) (hsome : (lv.map Prod.fst) = [] ∨ ∃ s ∈ (lv.map Prod.fst), zaU s = false) :
 Calls Tryz.prog 90 #[.pointer (some ⟨bk, 0, none⟩), ep, .pointer (some ⟨bp, 0, none⟩), .pointer (some ⟨bb, 0, none⟩), .pointer (some ⟨br, 0, none⟩), .pointer (some ⟨bl, 0, none⟩)] w (zj8 (LeftIs base (leftW (lv.map Prod.fst))) w br bl v.ownBlock (xs ++ za3 7 (fun s => !zaU s) (lv.map Prod.fst))) := by
 have k0 := hk.cell 0; have p1 := hp.cell 6; have b0 := hb.cell 0; simp at k0 p1 b0; have hbrl : br ≠ bl := Blk.ne_ hr hbl (by decide); obtain ⟨a', n', k', rfl⟩ := zae hown; have hs1 : ∃ A m c, s6 = .slice A m c := let ⟨A, c, h, _⟩ := hs.1; ⟨A, _, c, h⟩
 obtain ⟨A, m, c, rfl⟩ := hs1; have hQ := zcx P (.slice A m c) lv w.drew hs (by omega) (fun p hp => zgW (hwf p.1 (zlD.2 ⟨p, hp, rfl⟩)).2.2.2.few); have HB := zk7 hb; have HP := zk7 hp; have HR := zk7 hr; have HBL := zk7 hbl; have HO := zk7 hown; have p1d : w.drew.cell? ⟨bp, 6, none⟩ = some (.slice A m c) := p1
 have b0d : w.drew.cell? ⟨bb, 0, none⟩ = some (.slice a' n' k') := b0; obtain ⟨LS, hLS⟩ : ∃ LS, lv.map Prod.fst = LS := ⟨_, rfl⟩; have hsl2 : LS.length ≤ 12 := by rw [← hLS, zlv]; exact hsl
 rw [hLS] at hQ hwf hsome ⊢; have HW := zk7 hwf; have HSO := zk7 hsome; clear hk hp hb hr hown hs hLS hsl hbl hwf hsome; go_enter Tryz.func90, Tryz.ntmps90; go_wp2_with fail
 go_region_held3 (fun w' => w'.cell? ⟨bp, 6, none⟩ = some (.slice A m c) ∧ w'.cell? ⟨bb, 0, none⟩ = some (.slice a' n' k'))
  ((first | (go_split_ands; refine ⟨?_, ?_⟩ <;> first | exact ((HP.out.drew).fr hf1 (fun e => e)).cell 6 | exact ((HB.out.drew).fr hf1 (fun e => e)).cell 0) | (go_split_ands; refine ⟨?_, ?_⟩ <;> first | exact KP.out.cell 6 | exact KB.out.cell 0) | go_keep))
  ((first
    | (go_at_call 84; refine hQ.mono ?_; rintro r1 w1 ⟨v1, lo, rfl, hlo, hown1, hf1⟩)
    | (go_at_call 97; refine (zkR ep v1 (fun g => w.drew.heap.size ≤ g ∧ g < w1.heap.size) (.slice a' n' k') xs lo w1 hown1.rd (zah (World.ownsRow.drew HO.out) hf1 (fun _ _ e => e)) hl (by rw [← hlo, zlv] at hsl2; exact hsl2) (fun p hp => HW.out p.1 (by rw [← hlo]; exact zlD.2 ⟨p, hp, rfl⟩)) (fun g hg => ⟨hg.2, fun e => by have h1 : w.heap.size ≤ g := hg.1; have h2 := zav HO.out e.symm; omega⟩) (by
        have h := HSO.out; rw [← hlo] at h; rcases h with h | ⟨s, hs, hq⟩
        ·exact .inl (List.map_eq_nil_iff.1 h)
        ·obtain ⟨p, hp, rfl⟩ := zlD.1 hs
         exact .inr ⟨p, hp, hq⟩)).mono ?_; rintro r2 w2 ⟨v2, cv, rfl, hown2, hcv, hf2, hat2⟩; obtain ⟨KP, KB, KR⟩ := za7 HP.out HB.out HR.out HO.out hf1 hf2; have KL := zk7 ((HBL.out.drew.fr hf1 (fun e => e)).fr hf2 (fun e => zak HO.out HBL.out (by decide) e.symm)); obtain ⟨a2, n2, k2, rfl⟩ := zae hown2; obtain ⟨a3, k3, rfl⟩ := zaa hcv)))
 have hmap : (lo.filter fun p => zaU p.1).map Prod.fst = LS.filter zaU := by rw [← hlo, List.filter_map]; rfl
 have hrd : RdHW (fun g => w.drew.heap.size ≤ g ∧ g < w2.heap.size) w2 (.slice a3 (lo.filter fun p => zaU p.1).length k3) (lo.filter fun p => zaU p.1) := by
  refine ⟨(Sl.ofOwn hcv).mono (fun g hg => ⟨zlQ hf1.size (hcv.lt g hg).1, zav hcv hg⟩), fun p hp => ?_⟩; have h1 := (hown1.rd.2 p (zlM.1 hp).1).fr hf2 (fun g hg e => by have h1 : w.heap.size ≤ g := hg.1; have h2 := zav HO.out e.symm; omega); exact h1.mono (fun g hg => ⟨hg.1, zlw hg.2 hf2.size⟩)
 have hfl : (lo.filter fun p => zaU p.1).length ≤ 1048576 := by
  have h1 := List.length_filter_le (fun p : Rhs × Value => zaU p.1) lo; have h2 : lo.length = LS.length := by rw [← hlo, zlv]
  omega
 have hU := zdR _ _ _ w2 hrd hfl (fun p hp => zgW (HW.out p.1 (by rw [← hlo]; exact zlD.2 ⟨p, (zlM.1 hp).1, rfl⟩)).2.2.2.few); have hle : ((lo.filter fun p => zaU p.1).map fun p => ({ p.1 with h := p.1.h.cutW } : Rhs)) = leftW LS := by
  rw [leftW, ← hmap, List.map_map]; rfl
 rw [hle] at hU; rw [hlo] at hown2; have HU := zk7 hU; have H1 := zk7 hf1; have H2 := zk7 hf2; have HO2 := zk7 hown2; have HAT := zk7 hat2; clear hmap hrd hfl hle hU hf1 hf2 hown1 hown2 hcv hat2 hQ p1 p1d b0 b0d hlo; generalize (lo.filter fun p => zaU p.1).length = m3 at HU ⊢
 go_wp2_with (go_at_call 85; refine HU.out.mono ?_; rintro r3 w3 ⟨v3, lu, rfl, hlu, hown3, hf3⟩; have MR := zk7 (KR.out.fr hf3 (fun e => e)); have ML := zk7 (KL.out.fr hf3 (fun e => e)); have q0 : w3.cell? ⟨br, 0, none⟩ = some z := MR.out.cell 0; have q1 := MR.out.frozen 0; have q2 : w3.cell? ⟨bl, 0, none⟩ = some zl := ML.out.cell 0; have q3 := ML.out.frozen 0; obtain ⟨a4, n4, k4, rfl⟩ := zae hown3.1; have H3 := zk7 hf3; have HO3 := zk7 hown3; have HLU := zk7 hlu; clear hf3 hown3 hlu)
 go_end0; have hV1 : Blk (w3.setCell ⟨br, 0, none⟩ (.slice a2 n2 k2)) br 44 #[.slice a2 n2 k2] := by simpa using MR.out.set_ 0 (.slice a2 n2 k2)
 have hV2 : Blk (w3.setCell ⟨br, 0, none⟩ (.slice a2 n2 k2)) bl 52 #[zl] := ML.out.far (p := ⟨br, 0, none⟩) (Ne.symm hbrl) _; have hV3 : Blk ((w3.setCell ⟨br, 0, none⟩ (.slice a2 n2 k2)).setCell ⟨bl, 0, none⟩ (.slice a4 n4 k4)) bl 52 #[.slice a4 n4 k4] := by simpa using hV2.set_ 0 (.slice a4 n4 k4)
 have hV4 := hV1.far (p := ⟨bl, 0, none⟩) hbrl (.slice a4 n4 k4); have hFF : Fr (fun k => k = br ∨ k = bl) w3 ((w3.setCell ⟨br, 0, none⟩ (.slice a2 n2 k2)).setCell ⟨bl, 0, none⟩ (.slice a4 n4 k4)) := ((zlW (fun k => k = br ∨ k = bl) w3).setCell (p := ⟨br, 0, none⟩) (.inl (.inl rfl)) _).setCell (p := ⟨bl, 0, none⟩) (.inl (.inr rfl)) _; refine ⟨rfl, _, _, hV4, hV3, ⟨lu, HLU.out, ?_⟩, ?_, ?_, ?_⟩
 ·refine (HO3.out.fr hFF (fun k h1 h2 h => ?_)).mono (by have := H1.out.size; have := H2.out.size; simp at *; omega)
  have e1 := KR.out.lt; have e2 := KL.out.lt; rcases h with rfl | rfl <;> omega
 ·refine zah (zah HO2.out H3.out (fun _ _ e => e)) hFF (fun g hg h => ?_)
  rcases h with rfl | rfl
  ·exact zak HO2.out KR.out (by decide) hg
  ·exact zak HO2.out KL.out (by decide) hg
 ·exact (((((zlW (fun k => some k = (Value.slice a' n' k').ownBlock ∨ k = br ∨ k = bl) w).drew).trans H1.out (fun _ _ e => e.elim)).trans H2.out (fun _ _ e => .inl e)).trans H3.out (fun _ _ e => e.elim)).trans hFF (fun _ _ e => .inr e)
 ·rcases HAT.out with h | ⟨k, h, hk⟩
  ·exact .inl h
  ·exact .inr ⟨k, h, by have := H1.out.size; simp at this; omega⟩
theorem zfN (s0 s1 s2 s3 s4 s5 s6 bv : Value) (xs : List UInt8) (lv : List (Rhs × Hsl)) (P : Nat → Prop) (w : World) (hb : Sl P w bv 1 xs.length (bc xs)) (hxl : xs.length ≤ 536870912)
 (hsl : ∀ s ∈ [s0, s1, s2, s3, s4, s5, s6], ∃ A m c, s = .slice A m c) (hs : SlH P w s6 lv) (hll : lv.length ≤ 12) (hwf : ∀ s ∈ (lv.map Prod.fst), s.ok) (hsome : (lv.map Prod.fst) = [] ∨ ∃ s ∈ (lv.map Prod.fst), zaU s = false) :
 Calls Tryz.prog 31 #[.int .i64 7, .agg #[s0, s1, s2, s3, s4, s5, s6], bv] w (zbK (LeftIs w.heap.size (leftW (lv.map Prod.fst))) w (xs ++ za3 7 (fun s => !zaU s) (lv.map Prod.fst))) := by
 refine zaK 7 s0 s1 s2 s3 s4 s5 s6 bv xs _ P _ w hb (by omega) hsl (fun _ _ h => h.shape) (fun _ _ _ h hv => h.vars hv) ?_; intro bk be bp bb br bl v W hk hp hb' hr hl hown hbr hF; exact zkb bk bp bb br bl w.heap.size _ P s0 s1 s2 s3 s4 s5 s6 v _ _ xs lv W hk hp hb' hr hl (zai hown (zli _)) (hs.fr hF (fun _ _ e => e)) hxl hll hwf hbr hF.size hsome
theorem zkc (bk bp bb br bl base : Nat) (ep : Value) (P : Nat → Prop) (s0 s1 s2 s3 s4 s5 s6 v z zl : Value) (xs : List UInt8) (lv : List (Rhs × Hsl)) (w : World) (hk : Blk w bk 3 #[.int .i64 8]) (hp : Blk w bp 54 #[s0, s1, s2, s3, s4, s5, s6]) (hb : Blk w bb 44 #[v]) (hr : Blk w br 44 #[z]) (hbl : Blk w bl 52 #[zl])
 (hown : w.ownsRow 0 5 1 v xs.length (bc xs)) (hs : SlH P w s6 lv) (hl : xs.length ≤ 536870912) (hsl : lv.length ≤ 12) (hwf : ∀ s ∈ (lv.map Prod.fst), s.ok) (hbr : bb ≠ br) (hbase : base ≤ w.heap.size) (hsome : (lv.map Prod.fst) = [] ∨ ∃ s ∈ (lv.map Prod.fst), zaU s = false) :
 Calls Tryz.prog 90 #[.pointer (some ⟨bk, 0, none⟩), ep, .pointer (some ⟨bp, 0, none⟩), .pointer (some ⟨bb, 0, none⟩), .pointer (some ⟨br, 0, none⟩), .pointer (some ⟨bl, 0, none⟩)] w (zj8 (LeftIs base (leftF (lv.map Prod.fst))) w br bl v.ownBlock (xs ++ za4 8 (fun s => !zaU s) (lv.map Prod.fst))) := by
 have k0 := hk.cell 0; have p1 := hp.cell 6; have b0 := hb.cell 0; simp at k0 p1 b0; have hbrl : br ≠ bl := Blk.ne_ hr hbl (by decide); obtain ⟨a', n', k', rfl⟩ := zae hown; have hs1 : ∃ A m c, s6 = .slice A m c := let ⟨A, c, h, _⟩ := hs.1; ⟨A, _, c, h⟩
 obtain ⟨A, m, c, rfl⟩ := hs1; have hQ := zdE P (.slice A m c) lv w.drew hs (by omega) (fun p hp => zgW (hwf p.1 (zlD.2 ⟨p, hp, rfl⟩)).2.2.2.few); have HB := zk7 hb; have HP := zk7 hp; have HR := zk7 hr; have HBL := zk7 hbl; have HO := zk7 hown; have p1d : w.drew.cell? ⟨bp, 6, none⟩ = some (.slice A m c) := p1
 have b0d : w.drew.cell? ⟨bb, 0, none⟩ = some (.slice a' n' k') := b0; obtain ⟨LS, hLS⟩ : ∃ LS, lv.map Prod.fst = LS := ⟨_, rfl⟩; have hsl2 : LS.length ≤ 12 := by rw [← hLS, zlv]; exact hsl
 rw [hLS] at hQ hwf hsome ⊢; have HW := zk7 hwf; have HSO := zk7 hsome; clear hk hp hb hr hown hs hLS hsl hbl hwf hsome; go_enter Tryz.func90, Tryz.ntmps90; go_wp2_with fail
 go_region_held3 (fun w' => w'.cell? ⟨bp, 6, none⟩ = some (.slice A m c) ∧ w'.cell? ⟨bb, 0, none⟩ = some (.slice a' n' k'))
  ((first | (go_split_ands; refine ⟨?_, ?_⟩ <;> first | exact ((HP.out.drew).fr hf1 (fun e => e)).cell 6 | exact ((HB.out.drew).fr hf1 (fun e => e)).cell 0) | (go_split_ands; refine ⟨?_, ?_⟩ <;> first | exact KP.out.cell 6 | exact KB.out.cell 0) | go_keep))
  ((first
    | (go_at_call 87; refine hQ.mono ?_; rintro r1 w1 ⟨v1, lo, rfl, hlo, hown1, hf1⟩)
    | (go_at_call 98; refine (zkS ep v1 (fun g => w.drew.heap.size ≤ g ∧ g < w1.heap.size) (.slice a' n' k') xs lo w1 hown1.rd (zah (World.ownsRow.drew HO.out) hf1 (fun _ _ e => e)) hl (by rw [← hlo, zlv] at hsl2; exact hsl2) (fun p hp => HW.out p.1 (by rw [← hlo]; exact zlD.2 ⟨p, hp, rfl⟩)) (fun g hg => ⟨hg.2, fun e => by have h1 : w.heap.size ≤ g := hg.1; have h2 := zav HO.out e.symm; omega⟩) (by
        have h := HSO.out; rw [← hlo] at h; rcases h with h | ⟨s, hs, hq⟩
        ·exact .inl (List.map_eq_nil_iff.1 h)
        ·obtain ⟨p, hp, rfl⟩ := zlD.1 hs
         exact .inr ⟨p, hp, hq⟩)).mono ?_; rintro r2 w2 ⟨v2, cv, rfl, hown2, hcv, hf2, hat2⟩; obtain ⟨KP, KB, KR⟩ := za7 HP.out HB.out HR.out HO.out hf1 hf2; have KL := zk7 ((HBL.out.drew.fr hf1 (fun e => e)).fr hf2 (fun e => zak HO.out HBL.out (by decide) e.symm)); obtain ⟨a2, n2, k2, rfl⟩ := zae hown2; obtain ⟨a3, k3, rfl⟩ := zaa hcv)))
 have hmap : (lo.filter fun p => zaU p.1).map Prod.fst = LS.filter zaU := by rw [← hlo, List.filter_map]; rfl
 have hrd : RdHF (fun g => w.drew.heap.size ≤ g ∧ g < w2.heap.size) w2 (.slice a3 (lo.filter fun p => zaU p.1).length k3) (lo.filter fun p => zaU p.1) := by
  refine ⟨(Sl.ofOwn hcv).mono (fun g hg => ⟨zlQ hf1.size (hcv.lt g hg).1, zav hcv hg⟩), fun p hp => ?_⟩; have h1 := (hown1.rd.2 p (zlM.1 hp).1).fr hf2 (fun g hg e => by have h1 : w.heap.size ≤ g := hg.1; have h2 := zav HO.out e.symm; omega); exact h1.mono (fun g hg => ⟨hg.1, zlw hg.2 hf2.size⟩)
 have hfl : (lo.filter fun p => zaU p.1).length ≤ 1048576 := by
  have h1 := List.length_filter_le (fun p : Rhs × Value => zaU p.1) lo; have h2 : lo.length = LS.length := by rw [← hlo, zlv]
  omega
 have hU := ze8 _ _ _ w2 hrd hfl (fun p hp => zgW (HW.out p.1 (by rw [← hlo]; exact zlD.2 ⟨p, (zlM.1 hp).1, rfl⟩)).2.2.2.few); have hle : ((lo.filter fun p => zaU p.1).map fun p => ({ p.1 with h := p.1.h.cutF } : Rhs)) = leftF LS := by
  rw [leftF, ← hmap, List.map_map]; rfl
 rw [hle] at hU; rw [hlo] at hown2; have HU := zk7 hU; have H1 := zk7 hf1; have H2 := zk7 hf2; have HO2 := zk7 hown2; have HAT := zk7 hat2; clear hmap hrd hfl hle hU hf1 hf2 hown1 hown2 hcv hat2 hQ p1 p1d b0 b0d hlo; generalize (lo.filter fun p => zaU p.1).length = m3 at HU ⊢
 go_wp2_with (go_at_call 88; refine HU.out.mono ?_; rintro r3 w3 ⟨v3, lu, rfl, hlu, hown3, hf3⟩; have MR := zk7 (KR.out.fr hf3 (fun e => e)); have ML := zk7 (KL.out.fr hf3 (fun e => e)); have q0 : w3.cell? ⟨br, 0, none⟩ = some z := MR.out.cell 0; have q1 := MR.out.frozen 0; have q2 : w3.cell? ⟨bl, 0, none⟩ = some zl := ML.out.cell 0; have q3 := ML.out.frozen 0; obtain ⟨a4, n4, k4, rfl⟩ := zae hown3.1; have H3 := zk7 hf3; have HO3 := zk7 hown3; have HLU := zk7 hlu; clear hf3 hown3 hlu)
 go_end0; have hV1 : Blk (w3.setCell ⟨br, 0, none⟩ (.slice a2 n2 k2)) br 44 #[.slice a2 n2 k2] := by simpa using MR.out.set_ 0 (.slice a2 n2 k2)
 have hV2 : Blk (w3.setCell ⟨br, 0, none⟩ (.slice a2 n2 k2)) bl 52 #[zl] := ML.out.far (p := ⟨br, 0, none⟩) (Ne.symm hbrl) _; have hV3 : Blk ((w3.setCell ⟨br, 0, none⟩ (.slice a2 n2 k2)).setCell ⟨bl, 0, none⟩ (.slice a4 n4 k4)) bl 52 #[.slice a4 n4 k4] := by simpa using hV2.set_ 0 (.slice a4 n4 k4)
 have hV4 := hV1.far (p := ⟨bl, 0, none⟩) hbrl (.slice a4 n4 k4); have hFF : Fr (fun k => k = br ∨ k = bl) w3 ((w3.setCell ⟨br, 0, none⟩ (.slice a2 n2 k2)).setCell ⟨bl, 0, none⟩ (.slice a4 n4 k4)) := ((zlW (fun k => k = br ∨ k = bl) w3).setCell (p := ⟨br, 0, none⟩) (.inl (.inl rfl)) _).setCell (p := ⟨bl, 0, none⟩) (.inl (.inr rfl)) _; refine ⟨rfl, _, _, hV4, hV3, ⟨lu, HLU.out, ?_⟩, ?_, ?_, ?_⟩
 ·refine (HO3.out.fr hFF (fun k h1 h2 h => ?_)).mono (by have := H1.out.size; have := H2.out.size; simp at *; omega)
  have e1 := KR.out.lt; have e2 := KL.out.lt; rcases h with rfl | rfl <;> omega
 ·refine zah (zah HO2.out H3.out (fun _ _ e => e)) hFF (fun g hg h => ?_)
  rcases h with rfl | rfl
  ·exact zak HO2.out KR.out (by decide) hg
  ·exact zak HO2.out KL.out (by decide) hg
 ·exact (((((zlW (fun k => some k = (Value.slice a' n' k').ownBlock ∨ k = br ∨ k = bl) w).drew).trans H1.out (fun _ _ e => e.elim)).trans H2.out (fun _ _ e => .inl e)).trans H3.out (fun _ _ e => e.elim)).trans hFF (fun _ _ e => .inr e)
 ·rcases HAT.out with h | ⟨k, h, hk⟩
  ·exact .inl h
  ·exact .inr ⟨k, h, by have := H1.out.size; simp at this; omega⟩
theorem zfO (s0 s1 s2 s3 s4 s5 s6 bv : Value) (xs : List UInt8) (lv : List (Rhs × Hsl)) (P : Nat → Prop) (w : World) (hb : Sl P w bv 1 xs.length (bc xs)) (hxl : xs.length ≤ 536870912)
 (hsl : ∀ s ∈ [s0, s1, s2, s3, s4, s5, s6], ∃ A m c, s = .slice A m c) (hs : SlH P w s6 lv) (hll : lv.length ≤ 12) (hwf : ∀ s ∈ (lv.map Prod.fst), s.ok) (hsome : (lv.map Prod.fst) = [] ∨ ∃ s ∈ (lv.map Prod.fst), zaU s = false) :
 Calls Tryz.prog 31 #[.int .i64 8, .agg #[s0, s1, s2, s3, s4, s5, s6], bv] w (zbK (LeftIs w.heap.size (leftF (lv.map Prod.fst))) w (xs ++ za4 8 (fun s => !zaU s) (lv.map Prod.fst))) := by
 refine zaK 8 s0 s1 s2 s3 s4 s5 s6 bv xs _ P _ w hb (by omega) hsl (fun _ _ h => h.shape) (fun _ _ _ h hv => h.vars hv) ?_; intro bk be bp bb br bl v W hk hp hb' hr hl hown hbr hF; exact zkc bk bp bb br bl w.heap.size _ P s0 s1 s2 s3 s4 s5 s6 v _ _ xs lv W hk hp hb' hr hl (zai hown (zli _)) (hs.fr hF (fun _ _ e => e)) hxl hll hwf hbr hF.size hsome
theorem rightG_3 (A0 A1 A2 A3 A4 A5 A6 : Option Addr) (c0 c1 c2 c3 c4 c5 c6 : Nat) (n0 n1 n2 n3 n4 n5 n6 n : Nat) (h0 : n0 ≤ 1099511627776) (h1 : n1 ≤ 1099511627776) (h2 : n2 ≤ 1099511627776) (h3 : n3 ≤ 1099511627776) (h4 : n4 ≤ 1099511627776) (h5 : n5 ≤ 1099511627776) (h6 : n6 ≤ 1099511627776) (hn : n = n0 + n1 + n2 + n3 + n4 + n5 + n6) (w : World) (P : Nat → Prop) (lv : List (Ston × Value)) (hs : SlS P w (.slice A2 n2 c2) lv) (hl : lv.length = n2) (hi : ∀ p ∈ lv, p.1.ivs.length ≤ 1099511627776) :
 Calls Tryz.prog 30 #[.int .i64 3, .agg #[.slice A0 n0 c0, .slice A1 n1 c1, .slice A2 n2 c2, .slice A3 n3 c3, .slice A4 n4 c4, .slice A5 n5 c5, .slice A6 n6 c6]] w (zau (n ≤ 12 ∧ n = n2 ∧ ∀ p ∈ lv, p.1.ivs.length ≤ 6) w) := by
 have hC := zcL A0 A1 A2 A3 A4 A5 A6 c0 c1 c2 c3 c4 c5 c6 n0 n1 n2 n3 n4 n5 n6 n h0 h1 h2 h3 h4 h5 h6 hn (w.alloc (.cells #[.slice A0 n0 c0, .slice A1 n1 c1, .slice A2 n2 c2, .slice A3 n3 c3, .slice A4 n4 c4, .slice A5 n5 c5, .slice A6 n6 c6] 54)); have hle : n2 ≤ n := by omega
 clear hn; by_cases h12 : n ≤ 12
 ·have h1x : ¬ (12 : Int) < (n : Int) := by omega
  have HS := zk7 hs; have HN := zk7 hl; have HI := zk7 hi; clear hs hl hi; go_enter Tryz.func30, Tryz.ntmps30; go_wp2_with (go_at_call 40; refine hC.mono ?_; rintro r w1 ⟨rfl, hf1⟩; obtain ⟨x0, x1, x2, x3, x4, x5, x6⟩ := zam ((Blk.new w 54 #[.slice A0 n0 c0, .slice A1 n1 c1, .slice A2 n2 c2, .slice A3 n3 c3, .slice A4 n4 c4, .slice A5 n5 c5, .slice A6 n6 c6]).fr hf1 (fun e => e)))
  have HF := zk7 (((zlW (fun _ => False) w).alloc (.cells #[.slice A0 n0 c0, .slice A1 n1 c1, .slice A2 n2 c2, .slice A3 n3 c3, .slice A4 n4 c4, .slice A5 n5 c5, .slice A6 n6 c6] 54)).same hf1); have hw1 := HF.out.size
  have HB := zk7 ((Blk.new w 54 #[.slice A0 n0 c0, .slice A1 n1 c1, .slice A2 n2 c2, .slice A3 n3 c3, .slice A4 n4 c4, .slice A5 n5 c5, .slice A6 n6 c6]).fr hf1 (fun e => e)); clear hf1 hC; go_loopw [7] (fun i wr => ∃ k : Nat, k ≤ n2 ∧ i = .int .i64 k ∧ Hid (Fr (fun _ => False) w1 wr) ∧ Hid (∀ j p, j < k → lv[j]? = some p → p.1.ivs.length ≤ 6)) (fun i _ => n2 - (intOf i).toNat)
  case atStart => exact ⟨0, zli _, rfl, zk7 (zlW _ _), zk7 (fun j p h => absurd h (zlS _))⟩
  case round =>
   obtain ⟨k, hk, rfl, RF, RG⟩ := hrel; obtain ⟨y0, y1, y2, y3, y4, y5, y6⟩ := zam (HB.out.fr RF.out (fun e => e)); clear x0 x1 x2 x3 x4 x5 x6; by_cases hlt : k < n2
   ·have hS := HS.out.fr (HF.out.same RF.out) (fun _ _ e => e)
    obtain ⟨⟨A, c, e2, _, hc, hr⟩, hiv9⟩ := hS; injection e2 with e2 e2n e2c; obtain ⟨g, off, rfl, _, hcell⟩ := hr (by have := HN.out; omega); obtain ⟨x, hx⟩ : ∃ x, lv[k]? = some x := ⟨_, zk9 (by rw [HN.out]; exact hlt)⟩; have hxm := zlf hx
    have c1 : wr.cell? ⟨g, off + k * 2 + 1, none⟩ = some x.2 := hcell (k * 2 + 1) _ (by rw [zci stc (fun _ => rfl) lv k x hx 1 (by omega)]; rfl); have hiv := hiv9 x hxm; have hil := HI.out x hxm; have HXM := zk7 hxm; have HX := zk7 hx; clear hx hxm hiv9; obtain ⟨⟨ref, ivs⟩, iv⟩ := x; simp only [] at c1 hiv hil; obtain ⟨Ai, ci, rfl, _, _, _⟩ := hiv; subst e2; clear hcell hr e2n e2c
    by_cases h6 : ivs.length ≤ 6
    ·have hil2 : ¬ (6 : Int) < (ivs.length : Int) := by omega
     go_wp2_with fail
     go_roundw
     case rel => exact ⟨k + 1, by omega, by go_num, RF, zk7 (fun j p h h2 => by
      rcases zlA j k with h3 | h3
      ·exact RG.out j p h3 h2
      ·obtain rfl : j = k := by omega
       have h4 := h2.symm.trans HX.out; injection h4 with h4; rw [h4]
       exact h6)⟩
     case measure => simp [intOf]; omega
    ·have hil2 : (6 : Int) < (ivs.length : Int) := by omega
     go_wp2; go_ret; exact ⟨false, rfl, ⟨fun h => (by cases h), fun h => absurd (h.2.2 _ HXM.out) h6⟩, HF.out.same RF.out⟩
   ·obtain rfl : k = n2 := by omega
    have hall : Hid (∀ p ∈ lv, p.1.ivs.length ≤ 6) := zk7 (fun p hp => by
     obtain ⟨j, hj, e⟩ := List.getElem_of_mem hp
     exact RG.out j p (by rw [← HN.out]; exact hj) (by rw [zk9 hj, e]))
    by_cases he : n = k
    ·have HE := zk7 he
     have hz : ((n : Int) - (k : Int) == 0) = true := by simp; omega
     clear he; go_wp2; go_ret; refine ⟨_, rfl, ⟨fun _ => ⟨h12, HE.out, hall.out⟩, fun _ => by first | rfl | exact hz | (have := HE.out; simp; omega)⟩, HF.out.same RF.out⟩
    ·have hz : ((n : Int) - (k : Int) == 0) = false := by simp; omega
     go_wp2; go_ret; exact ⟨_, rfl, ⟨fun h => (by first | (cases h; done) | (simp at h; done) | (simp at h; omega)), fun h => absurd h.2.1 he⟩, HF.out.same RF.out⟩
 ·have hx : (12 : Int) < (n : Int) := by omega
  go_enter Tryz.func30, Tryz.ntmps30; go_wp2_with (go_at_call 40; refine hC.mono ?_; rintro r w1 ⟨rfl, hf1⟩)
  go_ret; exact ⟨false, rfl, ⟨fun h => (by cases h), fun h => absurd h.1 h12⟩, ((zlW _ w).alloc _).same hf1⟩
theorem rightG_6 (A0 A1 A2 A3 A4 A5 A6 : Option Addr) (c0 c1 c2 c3 c4 c5 c6 : Nat) (n0 n1 n2 n3 n4 n5 n6 n : Nat) (h0 : n0 ≤ 1099511627776) (h1 : n1 ≤ 1099511627776) (h2 : n2 ≤ 1099511627776) (h3 : n3 ≤ 1099511627776) (h4 : n4 ≤ 1099511627776) (h5 : n5 ≤ 1099511627776) (h6 : n6 ≤ 1099511627776) (hn : n = n0 + n1 + n2 + n3 + n4 + n5 + n6) (w : World) (P : Nat → Prop) (lv : List Mta) (hs : Sl P w (.slice A4 n4 c4) 4 lv.length (lv.flatMap Mta.c)) (hl : lv.length = n4) (hi : ∀ p ∈ lv, p.unit.size ≤ 1099511627776 ∧ p.help.size ≤ 1099511627776) :
 Calls Tryz.prog 30 #[.int .i64 6, .agg #[.slice A0 n0 c0, .slice A1 n1 c1, .slice A2 n2 c2, .slice A3 n3 c3, .slice A4 n4 c4, .slice A5 n5 c5, .slice A6 n6 c6]] w (zau (n ≤ 12 ∧ n = n4 ∧ ∀ p ∈ lv, p.unit.size + p.help.size ≤ 600) w) := by
 have hC := zcL A0 A1 A2 A3 A4 A5 A6 c0 c1 c2 c3 c4 c5 c6 n0 n1 n2 n3 n4 n5 n6 n h0 h1 h2 h3 h4 h5 h6 hn (w.alloc (.cells #[.slice A0 n0 c0, .slice A1 n1 c1, .slice A2 n2 c2, .slice A3 n3 c3, .slice A4 n4 c4, .slice A5 n5 c5, .slice A6 n6 c6] 54)); have hle : n4 ≤ n := by omega
 clear hn; by_cases h12 : n ≤ 12
 ·have h1x : ¬ (12 : Int) < (n : Int) := by omega
  have HS := zk7 hs; have HN := zk7 hl; have HI := zk7 hi; clear hs hl hi; go_enter Tryz.func30, Tryz.ntmps30; go_wp2_with (go_at_call 40; refine hC.mono ?_; rintro r w1 ⟨rfl, hf1⟩; obtain ⟨x0, x1, x2, x3, x4, x5, x6⟩ := zam ((Blk.new w 54 #[.slice A0 n0 c0, .slice A1 n1 c1, .slice A2 n2 c2, .slice A3 n3 c3, .slice A4 n4 c4, .slice A5 n5 c5, .slice A6 n6 c6]).fr hf1 (fun e => e)))
  have HF := zk7 (((zlW (fun _ => False) w).alloc (.cells #[.slice A0 n0 c0, .slice A1 n1 c1, .slice A2 n2 c2, .slice A3 n3 c3, .slice A4 n4 c4, .slice A5 n5 c5, .slice A6 n6 c6] 54)).same hf1); have hw1 := HF.out.size
  have HB := zk7 ((Blk.new w 54 #[.slice A0 n0 c0, .slice A1 n1 c1, .slice A2 n2 c2, .slice A3 n3 c3, .slice A4 n4 c4, .slice A5 n5 c5, .slice A6 n6 c6]).fr hf1 (fun e => e)); clear hf1 hC; go_loopw [9] (fun i wr => ∃ k : Nat, k ≤ n4 ∧ i = .int .i64 k ∧ Hid (Fr (fun _ => False) w1 wr) ∧ Hid (∀ j p, j < k → lv[j]? = some p → p.unit.size + p.help.size ≤ 600)) (fun i _ => n4 - (intOf i).toNat)
  case atStart => exact ⟨0, zli _, rfl, zk7 (zlW _ _), zk7 (fun j p h => absurd h (zlS _))⟩
  case round =>
   obtain ⟨k, hk, rfl, RF, RG⟩ := hrel; obtain ⟨y0, y1, y2, y3, y4, y5, y6⟩ := zam (HB.out.fr RF.out (fun e => e)); clear x0 x1 x2 x3 x4 x5 x6; by_cases hlt : k < n4
   ·have hS := HS.out.fr (HF.out.same RF.out) (fun _ _ e => e)
    obtain ⟨A, c, e2, _, hc, hr⟩ := hS; injection e2 with e2 e2n e2c; obtain ⟨g, off, rfl, _, hcell⟩ := hr (by have := HN.out; omega); obtain ⟨x, hx⟩ : ∃ x, lv[k]? = some x := ⟨_, zk9 (by rw [HN.out]; exact hlt)⟩; have hxm := zlf hx
    have q2 : wr.cell? ⟨g, off + k * 4 + 2, none⟩ = some (.string x.unit) := hcell (k * 4 + 2) _ (by rw [zd1 Mta.c (fun _ => rfl) lv k x hx 2 (by omega)]; rfl); have q3 : wr.cell? ⟨g, off + k * 4 + 3, none⟩ = some (.string x.help) := hcell (k * 4 + 3) _ (by rw [zd1 Mta.c (fun _ => rfl) lv k x hx 3 (by omega)]; rfl); have hil := HI.out x hxm; have HXM := zk7 hxm; have HX := zk7 hx
    clear hx hxm; subst e2; have HQ2 := zk7 q2; have HQ3 := zk7 q3; have HY4 := zk7 y4; clear hcell hr e2n e2c; have hwp : IntKind.i64.wrap ((x.unit.size : Int) + (x.help.size : Int)) = (x.unit.size : Int) + (x.help.size : Int) := by rw [IntKind.wrap_i64]; omega
    by_cases h6 : x.unit.size + x.help.size ≤ 600
    ·have h6i : ¬ (600 : Int) < IntKind.i64.wrap ((x.unit.size : Int) + (x.help.size : Int)) := by rw [hwp]; omega
     clear hwp; go_wp2_with fail
     go_region_held3 (fun w' => w'.cell? ⟨w.heap.size, 4, none⟩ = some (.slice (some ⟨g, off, none⟩) n4 c4) ∧ w'.cell? ⟨g, off + k * 4 + 2, none⟩ = some (.string x.unit) ∧ w'.cell? ⟨g, off + k * 4 + 3, none⟩ = some (.string x.help))
      ((first | (go_split_ands; refine ⟨?_, ?_, ?_⟩ <;> first | exact HY4.out | exact HQ2.out | exact HQ3.out) | go_keep))
      (fail)
     go_wp2; go_roundw
     case rel => exact ⟨k + 1, by omega, by go_num, zk7 RF.out.drew, zk7 (fun j p h h2 => by
      rcases zlA j k with h3 | h3
      ·exact RG.out j p h3 h2
      ·obtain rfl : j = k := by omega
       have h4 := h2.symm.trans HX.out; injection h4 with h4; rw [h4]
       exact h6)⟩
     case measure => simp [intOf]; omega
    ·have h6i : (600 : Int) < IntKind.i64.wrap ((x.unit.size : Int) + (x.help.size : Int)) := by rw [hwp]; omega
     clear hwp; go_wp2_with fail
     go_region_held3 (fun w' => w'.cell? ⟨w.heap.size, 4, none⟩ = some (.slice (some ⟨g, off, none⟩) n4 c4) ∧ w'.cell? ⟨g, off + k * 4 + 2, none⟩ = some (.string x.unit) ∧ w'.cell? ⟨g, off + k * 4 + 3, none⟩ = some (.string x.help))
      ((first | (go_split_ands; refine ⟨?_, ?_, ?_⟩ <;> first | exact HY4.out | exact HQ2.out | exact HQ3.out) | go_keep))
      (fail)
     go_wp2; go_ret; exact ⟨false, rfl, ⟨fun h => (by cases h), fun h => absurd (h.2.2 _ HXM.out) h6⟩, HF.out.same RF.out.drew⟩
   ·obtain rfl : k = n4 := by omega
    have hall : Hid (∀ p ∈ lv, p.unit.size + p.help.size ≤ 600) := zk7 (fun p hp => by
     obtain ⟨j, hj, e⟩ := List.getElem_of_mem hp
     exact RG.out j p (by rw [← HN.out]; exact hj) (by rw [zk9 hj, e]))
    by_cases he : n = k
    ·have HE := zk7 he
     have hz : ((n : Int) - (k : Int) == 0) = true := by simp; omega
     clear he; go_wp2; go_ret; refine ⟨_, rfl, ⟨fun _ => ⟨h12, HE.out, hall.out⟩, fun _ => by first | rfl | exact hz | (have := HE.out; simp; omega)⟩, HF.out.same RF.out⟩
    ·have hz : ((n : Int) - (k : Int) == 0) = false := by simp; omega
     go_wp2; go_ret; exact ⟨_, rfl, ⟨fun h => (by first | (cases h; done) | (simp at h; done) | (simp at h; omega)), fun h => absurd h.2.1 he⟩, HF.out.same RF.out⟩
 ·have hx : (12 : Int) < (n : Int) := by omega
  go_enter Tryz.func30, Tryz.ntmps30; go_wp2_with (go_at_call 40; refine hC.mono ?_; rintro r w1 ⟨rfl, hf1⟩)
  go_ret; exact ⟨false, rfl, ⟨fun h => (by cases h), fun h => absurd h.1 h12⟩, ((zlW _ w).alloc _).same hf1⟩
theorem lo_bounds {lo lv : List (Ston × Value)} (hm : lo.map Prod.fst = lv.map Prod.fst) (hsl : lv.length ≤ 4096) (hil : ∀ s ∈ lv.map Prod.fst, s.ivs.length ≤ 4096) (hwf : ∀ s ∈ lv.map Prod.fst, s.wf) :
 lo.length ≤ 4096 ∧ (∀ p ∈ lo, p.1.ivs.length ≤ 4096) ∧ (∀ s ∈ lo.map Prod.fst, s.wf) := by
 have h1 : lo.length = lv.length := by have := congrArg List.length hm; simpa using this
 refine ⟨by omega, fun p hp => hil _ ?_, fun s hs => hwf _ ?_⟩
 ·rw [← hm]; exact zlD.2 ⟨p, hp, rfl⟩
 ·rw [← hm]; exact hs
theorem zi0 {w w1 : World} {v : Value} {m : Nat} {ys : List Value} (h : w.ownsRow 0 5 1 v m ys) : ∀ g, (w.drew.heap.size ≤ g ∧ g < w1.heap.size) → g < w1.heap.size ∧ some g ≠ v.ownBlock := fun g hg =>
 ⟨hg.2, fun e => by have h1 := zav h e.symm; have h2 : w.heap.size ≤ g := hg.1; omega⟩
theorem zhb (bk bp bb br : Nat) (ep lp : Value) (P : Nat → Prop) (s0 s1 s2 s3 s4 s5 s6 v z : Value) (xs : List UInt8) (lv : List (Ston × Value)) (w : World) (hk : Blk w bk 3 #[.int .i64 3]) (hp : Blk w bp 54 #[s0, s1, s2, s3, s4, s5, s6]) (hb : Blk w bb 44 #[v]) (hr : Blk w br 44 #[z])
 (hown : w.ownsRow 0 5 1 v xs.length (bc xs)) (hs : SlS P w s2 lv) (hl : xs.length ≤ 1073741824) (hsl : lv.length ≤ 4096) (hil : ∀ s ∈ lv.map Prod.fst, s.ivs.length ≤ 4096) (hwf : ∀ s ∈ lv.map Prod.fst, s.wf) (hbr : bb ≠ br) :
 Calls Tryz.prog 90 #[.pointer (some ⟨bk, 0, none⟩), ep, .pointer (some ⟨bp, 0, none⟩), .pointer (some ⟨bb, 0, none⟩), .pointer (some ⟨br, 0, none⟩), lp] w (zcu w br v.ownBlock (xs ++ zbY (lv.map Prod.fst))) := by
 have hpr : bp ≠ br := Blk.ne_ hp hr (by decide); have k0 := hk.cell 0; have p1 := hp.cell 2; have b0 := hb.cell 0; simp at k0 p1 b0; obtain ⟨a', n', k', rfl⟩ := zae hown; have hs1 : ∃ A m c, s2 = .slice A m c := let ⟨A, c, h, _⟩ := hs.1; ⟨A, _, c, h⟩
 obtain ⟨A, m, c, rfl⟩ := hs1; have hQ := zeI P (.slice A m c) lv w.drew hs (by omega) (fun p hp => by have := hil p.1 (zlD.2 ⟨p, hp, rfl⟩); omega); have HB := zk7 hb; have HP := zk7 hp; have HR := zk7 hr; have HO := zk7 hown; have p1d : w.drew.cell? ⟨bp, 2, none⟩ = some (.slice A m c) := p1; have b0d : w.drew.cell? ⟨bb, 0, none⟩ = some (.slice a' n' k') := b0
 clear hk hp hb hr hown hs; go_enter Tryz.func90, Tryz.ntmps90; go_wp2_with fail
 have HW := zk7 hwf; clear hwf; go_region_held3 (fun w' => w'.cell? ⟨bp, 2, none⟩ = some (.slice A m c) ∧ w'.cell? ⟨bb, 0, none⟩ = some (.slice a' n' k'))
  ((first | (go_split_ands; refine ⟨?_, ?_⟩ <;> first | exact ((HP.out.drew).fr hf1 (fun e => e)).cell 2 | exact ((HB.out.drew).fr hf1 (fun e => e)).cell 0) | (go_split_ands; refine ⟨?_, ?_⟩ <;> first | exact KP.out.cell 2 | exact KB.out.cell 0) | (go_split_ands; refine ⟨?_, ?_⟩ <;> first | exact (KP.out.far (p := ⟨br, 0, none⟩) hpr _).cell 2 | exact (KB.out.far (p := ⟨br, 0, none⟩) hbr _).cell 0) | go_keep))
  ((first
    | (go_at_call 75; refine hQ.mono ?_; rintro r1 w1 ⟨v1, lo, rfl, hm1, hown1, hf1⟩; have LB := lo_bounds hm1 hsl hil HW.out)
    | (go_at_call 93; refine (zhw ep v1 _ (.slice a' n' k') xs lo w1 hown1.sl (zah (World.ownsRow.drew HO.out) hf1 (fun _ _ e => e)) hl LB.1 LB.2.1 LB.2.2 (zi0 HO.out)).mono ?_; rintro r2 w2 ⟨v2, rfl, hown2, hf2, hat2⟩; rw [hm1] at hown2; obtain ⟨KP, KB, KR⟩ := za7 HP.out HB.out HR.out HO.out hf1 hf2; have q0 := KR.out.cell 0; simp at q0; have q1 := KR.out.frozen 0; obtain ⟨a2, n2, k2, rfl⟩ := zae hown2)))
 have HE : Fr (fun k => some k = (Value.slice a' n' k').ownBlock ∨ k = br) w (w2.setCell ⟨br, 0, none⟩ (.slice a2 n2 k2)) :=
  ((((zlW (fun k => some k = (Value.slice a' n' k').ownBlock ∨ k = br) w).drew).trans hf1 (fun _ _ e => e.elim)).trans hf2 (fun _ _ e => .inl e)).setCell (p := ⟨br, 0, none⟩) (.inl (.inr rfl)) _
 have HV : Blk (w2.setCell ⟨br, 0, none⟩ (.slice a2 n2 k2)) br 44 #[.slice a2 n2 k2] := by simpa using KR.out.set_ 0 (.slice a2 n2 k2)
 have HF := zk7 HE; have HVV := zk7 HV; have HOW : (w2.setCell ⟨br, 0, none⟩ (.slice a2 n2 k2)).ownsRow 0 5 1 (.slice a2 n2 k2) (xs ++ zbY (lv.map Prod.fst)).length (bc (xs ++ zbY (lv.map Prod.fst))) := zah hown2 (Fr.put_ w2 br 0 _) (fun g hg e => zak hown2 KR.out (by decide) (by rw [hg, e])); have HOWW := zk7 HOW; have hsz := hf1.size; have HAT := zk7 hat2
 clear HE HV HOW hown1 hf1 hown2 hf2 hat2 q0 q1 hQ p1 p1d b0 b0d; go_wp2; go_end0; refine ⟨rfl, _, HVV.out, HOWW.out, HF.out, ?_⟩; rcases HAT.out with h | ⟨k, h, hk⟩
 ·exact .inl h
 ·exact .inr ⟨k, h, by simp at hsz; omega⟩
theorem zeK (s0 s1 s2 s3 s4 s5 s6 bv : Value) (xs : List UInt8) (lv : List (Ston × Value)) (P : Nat → Prop) (w : World) (hb : Sl P w bv 1 xs.length (bc xs)) (hxl : xs.length ≤ 1073741824)
 (hsl : ∀ s ∈ [s0, s1, s2, s3, s4, s5, s6], ∃ A m c, s = .slice A m c) (hs : SlS P w s2 lv) (hll : lv.length ≤ 4096) (hil : ∀ s ∈ lv.map Prod.fst, s.ivs.length ≤ 4096) (hwf : ∀ s ∈ lv.map Prod.fst, s.wf) :
 Calls Tryz.prog 31 #[.int .i64 3, .agg #[s0, s1, s2, s3, s4, s5, s6], bv] w (zbK (fun lv _ => lv = .slice none 0 0) w (xs ++ zbY (lv.map Prod.fst))) := by
 refine zaK 3 s0 s1 s2 s3 s4 s5 s6 bv xs _ P _ w hb hxl hsl (by rintro lv W rfl; exact ⟨_, _, _, rfl⟩) (fun _ _ _ h _ => h) ?_; intro bk be bp bb br bl v W hk hp hb' hr hl hown hbr hF
 exact (zhb bk bp bb br _ _ P s0 s1 s2 s3 s4 s5 s6 v _ xs lv W hk hp hb' hr (zai hown (zli _)) (hs.fr hF (fun _ _ e => e)) hxl hll hil hwf hbr).mono fun r w' h => zc7 (zai hown (zli _)) hr hl h
theorem zeo (P : Nat → Prop) (W : World) : Sl P W (.slice none 0 0) 1 ([] : List UInt8).length (bc []) := ⟨none, 0, rfl, rfl, zlj _, fun h => absurd h (zlR _)⟩
theorem LabOk.wide {l : List Lab} (h : LabOk l 8 300) : LabOk l 12 600 := ⟨zlQ h.1 (by omega), fun p hp => by have := h.2.1 p hp; exact ⟨this.1, by omega, by omega⟩, h.2.2⟩
theorem zhv {h : Hst} (k : h.few 2147483647) : h.few 1099511627776 := by
 obtain ⟨a, b, c, d, e, f, g⟩ := k; exact ⟨by omega, by omega, by omega, by omega, by omega, by omega, by omega⟩
theorem zfa {p : Rhs} {fl : Bool} (h : (p.ref < 18446744073709551616 ∧ -9223372036854775808 ≤ p.t ∧ p.t ≤ 9223372036854775807) ∧ p.h.wide) (hs : zdk fl p.h) : p.ok :=
 ⟨h.1.1, h.1.2.1, h.1.2.2, h.2.ok (by have h1 := hs.1; unfold Hst.total at h1; exact ⟨by omega, by omega, by omega, by omega, by omega, by omega, by omega⟩)⟩
end Go.Proofs.YtbkookiigkckdaaGreatDoor
namespace Go.Proofs.YtbkookiigkckdaaGreatDoor
open Go Go.ChangeShapes Go.WideShapes Go.ChangeAt Go.RowKit
theorem c46 : Tryz.prog.cellsOf 46 = 1 := by kernel_rfl
theorem c47 : Tryz.prog.cellsOf 47 = 1 := by kernel_rfl
theorem c48 : Tryz.prog.cellsOf 48 = 1 := by kernel_rfl
theorem c49 : Tryz.prog.cellsOf 49 = 1 := by kernel_rfl
theorem c50 : Tryz.prog.cellsOf 50 = 1 := by kernel_rfl
theorem c51 : Tryz.prog.cellsOf 51 = 1 := by kernel_rfl
theorem c52 : Tryz.prog.cellsOf 52 = 1 := by kernel_rfl
theorem parts_in {H : Type} {enc : TypeId × Value → H} {W : World} {cs : Array Value} {d : DataW H} {p : List MemPlace}
 (h : DataW.Trod enc Tryz.prog W 0 (fun _ => true) true 54 (.agg cs) d p) (hsz : cs.size = 7) : ∃ (q : Prt) (s0 s1 s2 s3 s4 s5 s6 : Value), cs = #[s0, s1, s2, s3, s4, s5, s6] ∧ q.At (Old W) W s0 s1 s2 s3 s4 s5 s6 ∧ q.Wide := by
 obtain ⟨fuel, hf0⟩ := h; have hf1 : zbp enc W fuel 54 cs.toList (d, p) := hf0; obtain ⟨n, _, hf⟩ := zbG Tryz.underlying54 hf1; obtain ⟨l⟩ := cs; have hl : l.length = 7 := by simpa using hsz
 match l, hl with
 | [a0, a1, a2, a3, a4, a5, a6], _ =>
   obtain ⟨y0, h0⟩ := hf 0 _ a0 rfl c46 rfl; obtain ⟨y1, h1⟩ := hf 1 _ a1 rfl c47 rfl; obtain ⟨y2, h2⟩ := hf 2 _ a2 rfl c48 rfl; obtain ⟨y3, h3⟩ := hf 3 _ a3 rfl c49 rfl; obtain ⟨y4, h4⟩ := hf 4 _ a4 rfl c50 rfl; obtain ⟨y5, h5⟩ := hf 5 _ a5 rfl c51 rfl; obtain ⟨y6, h6⟩ := hf 6 _ a6 rfl c52 rfl; obtain ⟨l0, m0, w0, z0⟩ := in_series h0; obtain ⟨l1, m1, w1, z1⟩ := zkm h1
   obtain ⟨l2, m2, w2, z2⟩ := in_stones h2; obtain ⟨l3, m3, w3, z3⟩ := zh7 h3; obtain ⟨l4, m4, w4, z4⟩ := zjn h4; obtain ⟨l5, m5, w5, z5⟩ := zkn h5; obtain ⟨l6, m6, w6, z6⟩ := zhr h6; exact ⟨⟨l0, l1, l2, l3, l4, l5, l6⟩, a0, a1, a2, a3, a4, a5, a6, rfl, ⟨z0, z1, z2, z3, z4, z5, z6⟩, ⟨m0, m1, m2, m3, m4, m5, m6, w0, w1, w2, w3, w4, w5, w6⟩⟩
theorem zjf (te : TypeId) (pe : Value) (P : Nat → Prop) (code bt : Nat) (hc : code ≤ 255) (hbt : bt ≤ 255) (q : Prt) (s0 s1 s2 s3 s4 s5 s6 : Value) (w : World) (hq : q.At P w s0 s1 s2 s3 s4 s5 s6) (hw : q.Wide)
 (hE : w.cell? ⟨2, 0, none⟩ = some (.iface te pe)) :
 Calls Tryz.prog 11 #[.int .u8 code, .int .u8 bt, .agg #[s0, s1, s2, s3, s4, s5, s6]] w (zbE w) := by
 have h34 : ∀ W, Fr (fun _ => False) w W → Calls Tryz.prog 34 #[.agg #[s0, s1, s2, s3, s4, s5, s6]] W (zau q.Fits W) := fun W hF => zkJ P q s0 s1 s2 s3 s4 s5 s6 W (hq.fr hF (fun _ _ e => e)) hw; obtain ⟨A0, c0, rfl⟩ := hq.ser.1.shape; obtain ⟨A1, c1, rfl⟩ := hq.smp.shape; obtain ⟨A2, c2, rfl⟩ := hq.sto.1.shape; obtain ⟨A3, c3, rfl⟩ := hq.exm.1.shape; obtain ⟨A4, c4, rfl⟩ := hq.mta.shape
 obtain ⟨A5, c5, rfl⟩ := hq.mrk.shape; obtain ⟨A6, c6, rfl⟩ := hq.his.1.shape; have b0 : q.Fits → q.ser.length ≤ 1099511627776 := fun hf => by have := hf.ser.1; omega
 have b1 : q.Fits → q.smp.length ≤ 1099511627776 := fun hf => by have := hf.smp; omega
 have b2 : q.Fits → q.sto.length ≤ 1099511627776 := fun hf => by have := hf.sto.1; omega
 have b3 : q.Fits → q.exm.length ≤ 1099511627776 := fun hf => by have := hf.exm.1; omega
 have b4 : q.Fits → q.mta.length ≤ 1099511627776 := fun hf => by have := hf.mta.1; omega
 have b5 : q.Fits → q.mrk.length ≤ 1099511627776 := fun hf => by have := hf.mrk; omega
 have b6 : q.Fits → q.his.length ≤ 1099511627776 := fun hf => by have := hf.his.1; omega
 have sh : ∀ s ∈ [Value.slice A0 q.ser.length c0, .slice A1 q.smp.length c1, .slice A2 q.sto.length c2, .slice A3 q.exm.length c3, .slice A4 q.mta.length c4, .slice A5 q.mrk.length c5, .slice A6 q.his.length c6], ∃ A m c, s = .slice A m c := by
  intro s hs; simp only [zlL, zlK, or_false] at hs; rcases hs with rfl | rfl | rfl | rfl | rfl | rfl | rfl <;> exact ⟨_, _, _, rfl⟩
 obtain ⟨d, hd⟩ : ∃ d, d = 1 + bt % 10 := ⟨_, rfl⟩; have hdd : d = 1 ∨ d = 2 ∨ d = 3 ∨ d = 4 ∨ d = 5 ∨ d = 6 ∨ d = 7 ∨ d = 8 ∨ d = 9 ∨ d = 10 := by omega
 have hm : code % 10 = 0 ∨ code % 10 = 1 ∨ code % 10 = 2 ∨ code % 10 = 3 ∨ code % 10 = 4 ∨ code % 10 = 5 ∨ code % 10 = 6 ∨ code % 10 = 7 ∨ code % 10 = 8 ∨ code % 10 = 9 := by omega
 rcases hm with hm | hm | hm | hm | hm | hm | hm | hm | hm | hm
 ·exact zbn 1 code d bt (by omega) (by omega) (by omega) (by omega) (by omega) (by omega) _ q.Fits A0 A1 A2 A3 A4 A5 A6 c0 c1 c2 c3 c4 c5 c6 _ _ _ _ _ _ _ w te pe hE h34
   (fun hf W hF => rightG_1 A0 A1 A2 A3 A4 A5 A6 c0 c1 c2 c3 c4 c5 c6 _ _ _ _ _ _ _ _ (b0 hf) (b1 hf) (b2 hf) (b3 hf) (b4 hf) (b5 hf) (b6 hf) rfl W P q.ser (hq.ser.fr hF (fun _ _ e => e)) rfl (fun p hp => by have := (hf.ser.2 p hp).1; omega))
   (fun hf hp W hF => ⟨fun lv _ => lv = .slice none 0 0, [] ++ zcz (q.ser.map Prod.fst), reads_ser (q.ser.map Prod.fst) (fun s hs => by obtain ⟨p, hp2, rfl⟩ := zlD.1 hs; exact SerR.ok ⟨(hw.ser p hp2).1, (hp.2.2 p hp2).wide⟩) (by rw [zlv]; have := hp.1; have := hp.2.1; omega) d hdd, (by rintro u V rfl; exact ⟨_, _, _, rfl⟩), zeL _ _ _ _ _ _ _ _ [] q.ser P W (zeo P W) (by simp) sh (hq.ser.fr hF (fun _ _ e => e)) (by rw [zlv]; have := hp.1; have := hp.2.1; omega) (fun s hs => by obtain ⟨p, hp2, rfl⟩ := zlD.1 hs; exact ⟨(hw.ser p hp2).1, (hp.2.2 p hp2).wide⟩)⟩)
 ·exact zbn 2 code d bt (by omega) (by omega) (by omega) (by omega) (by omega) (by omega) _ q.Fits A0 A1 A2 A3 A4 A5 A6 c0 c1 c2 c3 c4 c5 c6 _ _ _ _ _ _ _ w te pe hE h34
   (fun hf W hF => rightG_2 A0 A1 A2 A3 A4 A5 A6 c0 c1 c2 c3 c4 c5 c6 _ _ _ _ _ _ _ _ (b0 hf) (b1 hf) (b2 hf) (b3 hf) (b4 hf) (b5 hf) (b6 hf) rfl W)
   (fun hf hp W hF => ⟨fun lv _ => lv = .slice none 0 0, [] ++ zaD q.smp, reads_smp q.smp hw.smp (by have := hp.1; have := hp.2; omega) d hdd, (by rintro u V rfl; exact ⟨_, _, _, rfl⟩), zcZ _ _ _ _ _ _ _ _ [] q.smp P W (zeo P W) (by simp) sh (hq.smp.fr hF (fun _ _ e => e)) (by have := hp.1; have := hp.2; omega) hw.smp⟩)
 ·exact zbn 3 code d bt (by omega) (by omega) (by omega) (by omega) (by omega) (by omega) _ q.Fits A0 A1 A2 A3 A4 A5 A6 c0 c1 c2 c3 c4 c5 c6 _ _ _ _ _ _ _ w te pe hE h34
   (fun hf W hF => rightG_3 A0 A1 A2 A3 A4 A5 A6 c0 c1 c2 c3 c4 c5 c6 _ _ _ _ _ _ _ _ (b0 hf) (b1 hf) (b2 hf) (b3 hf) (b4 hf) (b5 hf) (b6 hf) rfl W P q.sto (hq.sto.fr hF (fun _ _ e => e)) rfl (fun p hp => by have := hf.sto.2 p hp; omega))
   (fun hf hp W hF => ⟨fun lv _ => lv = .slice none 0 0, [] ++ zbY (q.sto.map Prod.fst), reads_sto (q.sto.map Prod.fst) (fun s hs => by obtain ⟨p, hp2, rfl⟩ := zlD.1 hs; exact ⟨(hw.sto p hp2).1, (hw.sto p hp2).2.2⟩) (by rw [zlv]; have := hp.1; have := hp.2.1; omega) (fun s hs => by obtain ⟨p, hp2, rfl⟩ := zlD.1 hs; have := hp.2.2 p hp2; omega) d hdd, (by rintro u V rfl; exact ⟨_, _, _, rfl⟩), zeK _ _ _ _ _ _ _ _ [] q.sto P W (zeo P W) (by simp) sh (hq.sto.fr hF (fun _ _ e => e)) (by have := hp.1; have := hp.2.1; omega) (fun s hs => by obtain ⟨p, hp2, rfl⟩ := zlD.1 hs; have := hp.2.2 p hp2; omega) (fun s hs => by obtain ⟨p, hp2, rfl⟩ := zlD.1 hs; exact ⟨(hw.sto p hp2).1, (hw.sto p hp2).2.2⟩)⟩)
 ·exact zbn 4 code d bt (by omega) (by omega) (by omega) (by omega) (by omega) (by omega) _ q.Fits A0 A1 A2 A3 A4 A5 A6 c0 c1 c2 c3 c4 c5 c6 _ _ _ _ _ _ _ w te pe hE h34
   (fun hf W hF => rightG_4 A0 A1 A2 A3 A4 A5 A6 c0 c1 c2 c3 c4 c5 c6 _ _ _ _ _ _ _ _ (b0 hf) (b1 hf) (b2 hf) (b3 hf) (b4 hf) (b5 hf) (b6 hf) rfl W P q.exm (hq.exm.fr hF (fun _ _ e => e)) rfl (fun p hp => by have := (hf.exm.2 p hp).1; omega))
   (fun hf hp W hF => ⟨fun lv _ => lv = .slice none 0 0, [] ++ zb5 (q.exm.map Prod.fst), reads_exm (q.exm.map Prod.fst) (fun s hs => by obtain ⟨p, hp2, rfl⟩ := zlD.1 hs; exact ExmR.ok ⟨(hw.exm p hp2).1, (hp.2.2 p hp2).wide⟩) (by rw [zlv]; have := hp.1; have := hp.2.1; omega) d hdd, (by rintro u V rfl; exact ⟨_, _, _, rfl⟩), zd5 _ _ _ _ _ _ _ _ [] q.exm P W (zeo P W) (by simp) sh (hq.exm.fr hF (fun _ _ e => e)) (by rw [zlv]; have := hp.1; have := hp.2.1; omega) (fun s hs => by obtain ⟨p, hp2, rfl⟩ := zlD.1 hs; exact ⟨(hw.exm p hp2).1, (hp.2.2 p hp2).wide⟩)⟩)
 ·exact zbn 5 code d bt (by omega) (by omega) (by omega) (by omega) (by omega) (by omega) _ q.Fits A0 A1 A2 A3 A4 A5 A6 c0 c1 c2 c3 c4 c5 c6 _ _ _ _ _ _ _ w te pe hE h34
   (fun hf W hF => rightG_5 A0 A1 A2 A3 A4 A5 A6 c0 c1 c2 c3 c4 c5 c6 _ _ _ _ _ _ _ _ (b0 hf) (b1 hf) (b2 hf) (b3 hf) (b4 hf) (b5 hf) (b6 hf) rfl W)
   (fun hf hp W hF => ⟨fun lv _ => lv = .slice none 0 0, [] ++ zbw q.mrk, reads_mrk q.mrk hw.mrk (by have := hp.1; have := hp.2; omega) d hdd, (by rintro u V rfl; exact ⟨_, _, _, rfl⟩), zex _ _ _ _ _ _ _ _ [] q.mrk P W (zeo P W) (by simp) sh (hq.mrk.fr hF (fun _ _ e => e)) (by have := hp.1; have := hp.2; omega) hw.mrk⟩)
 ·exact zbn 6 code d bt (by omega) (by omega) (by omega) (by omega) (by omega) (by omega) _ q.Fits A0 A1 A2 A3 A4 A5 A6 c0 c1 c2 c3 c4 c5 c6 _ _ _ _ _ _ _ w te pe hE h34
   (fun hf W hF => rightG_6 A0 A1 A2 A3 A4 A5 A6 c0 c1 c2 c3 c4 c5 c6 _ _ _ _ _ _ _ _ (b0 hf) (b1 hf) (b2 hf) (b3 hf) (b4 hf) (b5 hf) (b6 hf) rfl W P q.mta (hq.mta.fr hF (fun _ _ e => e)) rfl (fun p hp => by have h1 := (hf.mta.2 p hp).1; have h2 := (hf.mta.2 p hp).2; exact ⟨by omega, by omega⟩))
   (fun hf hp W hF => ⟨fun lv _ => lv = .slice none 0 0, [] ++ zb2 q.mta, reads_mta q.mta (fun s hs => by have := hp.2.2 s hs; exact ⟨(hw.mta s hs).1, by omega, by omega⟩) (by have := hp.1; have := hp.2.1; omega) d hdd, (by rintro u V rfl; exact ⟨_, _, _, rfl⟩), zei _ _ _ _ _ _ _ _ [] q.mta P W (zeo P W) (by simp) sh (hq.mta.fr hF (fun _ _ e => e)) (by have := hp.1; have := hp.2.1; omega) (fun s hs => by have := hp.2.2 s hs; exact ⟨(hw.mta s hs).1, by omega, by omega⟩)⟩)
 ·exact zbn 7 code d bt (by omega) (by omega) (by omega) (by omega) (by omega) (by omega) _ q.Fits A0 A1 A2 A3 A4 A5 A6 c0 c1 c2 c3 c4 c5 c6 _ _ _ _ _ _ _ w te pe hE h34
   (fun hf W hF => rightG_7 A0 A1 A2 A3 A4 A5 A6 c0 c1 c2 c3 c4 c5 c6 _ _ _ _ _ _ _ _ (b0 hf) (b1 hf) (b2 hf) (b3 hf) (b4 hf) (b5 hf) (b6 hf) rfl W P q.his (hq.his.fr hF (fun _ _ e => e)) rfl (fun p hp => zhv (hf.his.2 p hp)))
   (fun hf hp W hF => ⟨_, [] ++ za3 7 (fun s => !zaU s) (q.his.map Prod.fst), zhX 7 (by decide) (fun s => !zaU s) (q.his.map Prod.fst) (fun s hs => by obtain ⟨p, hp2, rfl⟩ := zlD.1 hs; exact zfa (hw.his p hp2) (hp.2.2.1 p hp2)) (by rw [zlv]; have := hp.1; have := hp.2.1; omega) d hdd, fun u V h => h.shape, zfN _ _ _ _ _ _ _ _ [] q.his P W (zeo P W) (by simp) sh (hq.his.fr hF (fun _ _ e => e)) (by have := hp.1; have := hp.2.1; omega) (fun s hs => by obtain ⟨p, hp2, rfl⟩ := zlD.1 hs; exact zfa (hw.his p hp2) (hp.2.2.1 p hp2)) (by rcases hp.2.2.2 with h | ⟨p, h1, h2⟩; exact .inl (by rw [h]; rfl); exact .inr ⟨p.1, zlD.2 ⟨p, h1, rfl⟩, h2⟩)⟩)
 ·exact zbn 8 code d bt (by omega) (by omega) (by omega) (by omega) (by omega) (by omega) _ q.Fits A0 A1 A2 A3 A4 A5 A6 c0 c1 c2 c3 c4 c5 c6 _ _ _ _ _ _ _ w te pe hE h34
   (fun hf W hF => rightG_8 A0 A1 A2 A3 A4 A5 A6 c0 c1 c2 c3 c4 c5 c6 _ _ _ _ _ _ _ _ (b0 hf) (b1 hf) (b2 hf) (b3 hf) (b4 hf) (b5 hf) (b6 hf) rfl W P q.his (hq.his.fr hF (fun _ _ e => e)) rfl (fun p hp => zhv (hf.his.2 p hp)))
   (fun hf hp W hF => ⟨_, [] ++ za4 8 (fun s => !zaU s) (q.his.map Prod.fst), zhY 8 (by decide) (fun s => !zaU s) (q.his.map Prod.fst) (fun s hs => by obtain ⟨p, hp2, rfl⟩ := zlD.1 hs; exact zfa (hw.his p hp2) (hp.2.2.1 p hp2)) (by rw [zlv]; have := hp.1; have := hp.2.1; omega) d hdd, fun u V h => h.shape, zfO _ _ _ _ _ _ _ _ [] q.his P W (zeo P W) (by simp) sh (hq.his.fr hF (fun _ _ e => e)) (by have := hp.1; have := hp.2.1; omega) (fun s hs => by obtain ⟨p, hp2, rfl⟩ := zlD.1 hs; exact zfa (hw.his p hp2) (hp.2.2.1 p hp2)) (by rcases hp.2.2.2 with h | ⟨p, h1, h2⟩; exact .inl (by rw [h]; rfl); exact .inr ⟨p.1, zlD.2 ⟨p, h1, rfl⟩, h2⟩)⟩)
 ·exact zbn 9 code d bt (by omega) (by omega) (by omega) (by omega) (by omega) (by omega) _ q.Fits A0 A1 A2 A3 A4 A5 A6 c0 c1 c2 c3 c4 c5 c6 _ _ _ _ _ _ _ w te pe hE h34
   (fun hf W hF => rightG_9 A0 A1 A2 A3 A4 A5 A6 c0 c1 c2 c3 c4 c5 c6 _ _ _ _ _ _ _ _ (b0 hf) (b1 hf) (b2 hf) (b3 hf) (b4 hf) (b5 hf) (b6 hf) rfl W P q.his (hq.his.fr hF (fun _ _ e => e)) rfl (fun p hp => zhv (hf.his.2 p hp)))
   (fun hf hp W hF => ⟨fun lv _ => lv = .slice none 0 0, [] ++ za3 9 (fun _ => true) (q.his.map Prod.fst), zhX 9 (by decide) (fun _ => true) (q.his.map Prod.fst) (fun s hs => by obtain ⟨p, hp2, rfl⟩ := zlD.1 hs; exact zfa (hw.his p hp2) (hp.2.2.1 p hp2)) (by rw [zlv]; have := hp.1; have := hp.2.1; omega) d hdd, (by rintro u V rfl; exact ⟨_, _, _, rfl⟩), zfj _ _ _ _ _ _ _ _ [] q.his P W (zeo P W) (by simp) sh (hq.his.fr hF (fun _ _ e => e)) (by have := hp.1; have := hp.2.1; omega) (fun s hs => by obtain ⟨p, hp2, rfl⟩ := zlD.1 hs; exact zfa (hw.his p hp2) (hp.2.2.1 p hp2))⟩)
 ·exact zbn 10 code d bt (by omega) (by omega) (by omega) (by omega) (by omega) (by omega) _ q.Fits A0 A1 A2 A3 A4 A5 A6 c0 c1 c2 c3 c4 c5 c6 _ _ _ _ _ _ _ w te pe hE h34
   (fun hf W hF => rightG_10 A0 A1 A2 A3 A4 A5 A6 c0 c1 c2 c3 c4 c5 c6 _ _ _ _ _ _ _ _ (b0 hf) (b1 hf) (b2 hf) (b3 hf) (b4 hf) (b5 hf) (b6 hf) rfl W P q.his (hq.his.fr hF (fun _ _ e => e)) rfl (fun p hp => zhv (hf.his.2 p hp)))
   (fun hf hp W hF => ⟨fun lv _ => lv = .slice none 0 0, [] ++ za4 10 (fun _ => true) (q.his.map Prod.fst), zhY 10 (by decide) (fun _ => true) (q.his.map Prod.fst) (fun s hs => by obtain ⟨p, hp2, rfl⟩ := zlD.1 hs; exact zfa (hw.his p hp2) (hp.2.2.1 p hp2)) (by rw [zlv]; have := hp.1; have := hp.2.1; omega) d hdd, (by rintro u V rfl; exact ⟨_, _, _, rfl⟩), zfk _ _ _ _ _ _ _ _ [] q.his P W (zeo P W) (by simp) sh (hq.his.fr hF (fun _ _ e => e)) (by have := hp.1; have := hp.2.1; omega) (fun s hs => by obtain ⟨p, hp2, rfl⟩ := zlD.1 hs; exact zfa (hw.his p hp2) (hp.2.2.1 p hp2))⟩)
theorem others_lifted (os : Os) (started : os.Started) (H : Type) (enc : TypeId × Value → H) :
 ReturnsInHanded {} Tryz.checked os 11 .any (fun w args => (Rows.fnRecordOthersSpec.pre enc Tryz.prog Tryz.f11 [] false w args ∧ laidMetH Tryz.prog Rows.fnRecordOthersRow.laid w) ∧ sizedMet enc Tryz.prog Tryz.f11 (OpenSpec.ofChange Rows.fnRecordOthersSpec) false w args)
  (Rows.fnRecordOthersSpec.post enc Tryz.prog Tryz.f11 false true false false) := by
 refine returnsInHanded_of_change_and (C := Tryz.checked) (X := fun w _ => laidMetH Tryz.prog Rows.fnRecordOthersRow.laid w) (fun _ _ _ hh h => h.of_heap hh) ownKnobs started (by kernel_rfl) Tryz.func11
  (ChangeSpec.witness_shaped (enc := enc) (C := Tryz.checked) (os := os) (X := fun w _ => laidMetH Tryz.prog Rows.fnRecordOthersRow.laid w) false (World.doorLaid Tryz.prog 400 os) #[.int .u8 0, .int .u8 0, .agg #[.slice none 0 0, .slice none 0 0, .slice none 0 0, .slice none 0 0, .slice none 0 0, .slice none 0 0, .slice none 0 0]] 8 rfl (World.shaped_of_RefB (by kernel_rfl) (by kernel_rfl)) (by kernel_rfl) (by kernel_rfl) (by kernel_rfl) (door_met os _)) ?_
 intro W base args ds gs before hval0 hW _ _ hL _; have hval : ∀ (j : Nat) t v, Tryz.f11.params[j]? = some t → args[j]? = some v → Value.okWide Tryz.prog W .any base t v := hval0; have hW' := hW; obtain ⟨p, q, hA0, hV, rfl, hfz, hnd⟩ := hW; have hA : DataW.TrodAll enc Tryz.prog W 0 (fun _ => true) true Tryz.f11.params.toList args.toList ds p := hA0; rw [Tryz.params11] at hA hval
 obtain ⟨v0, vs0, d0, ds0, p0, q0, hargs, rfl, rfl, h0, r0⟩ := trodAll_cons hA; obtain ⟨v1, vs1, d1, ds1, p1, q1, rfl, rfl, rfl, h1, r1⟩ := trodAll_cons r0; obtain ⟨v2, vs2, d2, ds2, p2, q2, rfl, rfl, rfl, h2, r2⟩ := trodAll_cons r1; obtain ⟨rfl, rfl, rfl⟩ := trodAll_nil r2; obtain rfl : args = #[v0, v1, v2] := by cases args; simp_all
 obtain ⟨rfl, rfl⟩ := trodVars_none hV; obtain ⟨k, rfl, rfl, rfl, wk⟩ := open_int Tryz.underlying5 (hval 0 5 v0 rfl rfl) h0; obtain ⟨k', rfl, rfl, rfl, wk'⟩ := open_int Tryz.underlying5 (hval 1 5 v1 rfl rfl) h1; obtain ⟨cs, rfl, hsz⟩ := okWide_struct Tryz.underlying54 (hval 2 54 v2 rfl rfl); have k2 := h2
 have lt2 : ∀ x ∈ p2, x.block < W.heap.size := by obtain ⟨m, hm⟩ := k2; exact DataW.trod_lt m _ _ _ hm
 obtain ⟨qq, s0, s1, s2, s3, s4, s5, s6, rfl, hq, hw⟩ := parts_in h2 (hsz.trans (by kernel_rfl)); obtain ⟨te, pe, hE⟩ := errCell hL; have hk0 := u8_wf wk; obtain ⟨m, rfl⟩ : ∃ m : Nat, k = m := ⟨k.toNat, by omega⟩; have hk1 := u8_wf wk'; obtain ⟨m', rfl⟩ : ∃ m' : Nat, k' = m' := ⟨k'.toNat, by omega⟩; clear hA0 hval0
 refine (zjf te pe _ m m' (by omega) (by omega) qq s0 s1 s2 s3 s4 s5 s6 W hq hw hE).mono fun e W' ⟨he, hf⟩ => ?_; subst he; have hB := hf.none_toBelow
 exact ⟨_, rfl, _, _, _, [], _, [], hW', trodAll_mk1 (shut_bool Tryz.underlying4 _), (trodAll_cons_mk (shut_int Tryz.underlying5 wk) (trodAll_cons_mk (shut_int Tryz.underlying5 wk') (trodAll_cons_mk (Below.trod zkl (by kernel_rfl) (of_decide_eq_true (by kernel_rfl)) k2 hB lt2) trodAll_mk0))), rfl, hB.frame _, fun h => by cases h⟩
end Go.Proofs.YtbkookiigkckdaaGreatDoor
