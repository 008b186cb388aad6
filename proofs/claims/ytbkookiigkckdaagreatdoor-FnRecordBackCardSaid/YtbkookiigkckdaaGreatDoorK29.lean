/- Texts of this seat, merged and shortened. -/
import Derived.Test.YtbkookiigkckdaaGreatDoorK28
set_option linter.unusedVariables false
set_option linter.unusedSimpArgs false
set_option maxRecDepth 100000
set_option maxHeartbeats 8000000
namespace Go.Proofs.YtbkookiigkckdaaGreatDoor
open Go.RowKit Go.Proofs.Tryz
theorem zhv {h : Hst} (k : h.few 60) : h.few 1099511627776 := by
 obtain ⟨a, b, c, d, e, f, g⟩ := k; exact ⟨by omega, by omega, by omega, by omega, by omega, by omega, by omega⟩
def zjQ (l : List Rhs) : List Rhs := (l.filter zaP).map fun s => { s with h := s.h.cutW }
def zjR (l : List Rhs) : List Rhs := (l.filter zaP).map fun s => { s with h := s.h.cutF }
def LeftIs (base : Nat) (l : List Rhs) (u : Value) (W : World) : Prop := ∃ lu, lu.map Prod.fst = l /\ OwnI base W u lu
theorem LeftIs.shape {base : Nat} {l : List Rhs} {u : Value} {W : World} (h : LeftIs base l u W) : ∃ A m c, u = .slice A m c := let ⟨_, _, h⟩ := h; zab h.1
theorem LeftIs.vars {base : Nat} {l : List Rhs} {u : Value} {W W' : World} (h : LeftIs base l u W) (hv : Vars W W') : LeftIs base l u W' := by
 obtain ⟨lu, h1, h2, h3⟩ := h
 have go : ∀ {e : TypeId} {z n : Nat} {u : Value} {xs : List Value}, e ≠ 4 -> e ≠ 44 -> e ≠ 52 -> W.ownsRow base e z u n xs -> W'.ownsRow base e z u n xs := fun e1 e2 e3 o => zai o hv (fun g hg k => by
  obtain ⟨cs, k | k | k⟩ := k
  ·exact zak o k e1 hg
  ·exact zak o k e2 hg
  ·exact zak o k e3 hg)
 refine ⟨lu, h1, go (by decide) (by decide) (by decide) h2, fun p hp => ?_⟩; obtain ⟨a1, a2, a3, a4, a5, a6, a7⟩ := h3 p hp
 exact ⟨go (by decide) (by decide) (by decide) a1, go (by decide) (by decide) (by decide) a2, go (by decide) (by decide) (by decide) a3, go (by decide) (by decide) (by decide) a4, go (by decide) (by decide) (by decide) a5, go (by decide) (by decide) (by decide) a6, go (by decide) (by decide) (by decide) a7⟩
theorem zcF : (∀ (_ : True) (bk bp bb br : Nat) (ep lp : Value) (P : Nat -> Prop) (s0 s1 s2 s3 s4 s5 s6 v z : Value) (xs : List UInt8) (lv : List (Rhs × Hsl)) (w : World) (hk : Blk w bk 3 #[.int .i64 9]) (hp : Blk w bp 54 #[s0, s1, s2, s3, s4, s5, s6]) (hb : Blk w bb 44 #[v]) (hr : Blk w br 44 #[z])
 (ab : w.ownsRow 0 5 1 v xs.length (bc xs)) (hs : SlH P w s6 lv) (hl : xs.length <= 536870912) (au : lv.length <= 12) (aF : ∀ s ∈ (lv.map Prod.fst), s.ok) (bL : bb ≠ br),
 Calls prog 90 #[.pointer (some ⟨bk, 0, none⟩), ep, .pointer (some ⟨bp, 0, none⟩), .pointer (some ⟨bb, 0, none⟩), .pointer (some ⟨br, 0, none⟩), lp] w (zcx w br v.ownBlock (xs ++ za5 9 (fun _ => true) (lv.map Prod.fst)))) /\ (∀ (_ : True) (bk bp bb br : Nat) (ep lp : Value) (P : Nat -> Prop) (s0 s1 s2 s3 s4 s5 s6 v z : Value) (xs : List UInt8) (lv : List (Rhs × Hsl)) (w : World) (hk : Blk w bk 3 #[.int .i64 10]) (hp : Blk w bp 54 #[s0, s1, s2, s3, s4, s5, s6]) (hb : Blk w bb 44 #[v]) (hr : Blk w br 44 #[z])
 (ab : w.ownsRow 0 5 1 v xs.length (bc xs)) (hs : SlH P w s6 lv) (hl : xs.length <= 536870912) (au : lv.length <= 12) (aF : ∀ s ∈ (lv.map Prod.fst), s.ok) (bL : bb ≠ br),
 Calls prog 90 #[.pointer (some ⟨bk, 0, none⟩), ep, .pointer (some ⟨bp, 0, none⟩), .pointer (some ⟨bb, 0, none⟩), .pointer (some ⟨br, 0, none⟩), lp] w (zcx w br v.ownBlock (xs ++ za6 10 (fun _ => true) (lv.map Prod.fst)))) := by
 refine ⟨fun aj bk bp bb br ep lp P s0 s1 s2 s3 s4 s5 s6 v z xs lv w hk hp hb hr ab hs hl au aF bL => ?_, fun cf bk bp bb br ep lp P s0 s1 s2 s3 s4 s5 s6 v z xs lv w hk hp hb hr ab hs hl au aF bL => ?_⟩; all_goals
  have iz : bp ≠ br := zmT hp hr (by decide); have k0 := hk.cell 0; have p1 := hp.cell 6; have b0 := hb.cell 0; simp at k0 p1 b0; obtain ⟨a', n', k', rfl⟩ := zab ab; have bw : ∃ A m c, s6 = .slice A m c := let ⟨A, c, h, _⟩ := hs.1; ⟨A, _, c, h⟩
  obtain ⟨A, m, c, rfl⟩ := bw
  first | (guard_hyp aj; have hQ := zcA P (.slice A m c) lv w.drew hs (by omega) (fun p hp => zhv (aF p.1 (zmi.2 ⟨p, hp, rfl⟩)).2.2.2.few)) | (have hQ := zdK P (.slice A m c) lv w.drew hs (by omega) (fun p hp => zhv (aF p.1 (zmi.2 ⟨p, hp, rfl⟩)).2.2.2.few))
  have HB := zlM hb; have HP := zlM hp; have HR := zlM hr; have HO := zlM ab; have gu : w.drew.cell? ⟨bp, 6, none⟩ = some (.slice A m c) := p1; have gX : w.drew.cell? ⟨bb, 0, none⟩ = some (.slice a' n' k') := b0; obtain ⟨LS, nA⟩ := exE (lv.map Prod.fst); have dc : LS.length <= 12 := by rw [<- nA, zma]; exact au
  rw [nA] at hQ aF ⊢; clear hk hp hb hr ab hs nA au; go_enter func90, ntmps90; go_wp2_with fail
  have HW := zlM aF; clear aF; go_region_held3 (fun w' => w'.cell? ⟨bp, 6, none⟩ = some (.slice A m c) /\ w'.cell? ⟨bb, 0, none⟩ = some (.slice a' n' k'))
   ((first | (go_split_ands; refine ⟨?_, ?_⟩ <;> first | exact ((HP.out.drew).fr ag (fun e => e)).cell 6 | exact ((HB.out.drew).fr ag (fun e => e)).cell 0) | (go_split_ands; refine ⟨?_, ?_⟩ <;> first | exact KP.out.cell 6 | exact KB.out.cell 0) | (go_split_ands; refine ⟨?_, ?_⟩ <;> first | exact (KP.out.far (p := ⟨br, 0, none⟩) iz _).cell 6 | exact (KB.out.far (p := ⟨br, 0, none⟩) bL _).cell 0) | go_keep))
   ((first
     | (go_at_call 84; refine hQ.mono ?_; rintro r1 w1 ⟨v1, lo, rfl, hlo, an, ag⟩)
     | (go_at_call 87; refine hQ.mono ?_; rintro r1 w1 ⟨v1, lo, rfl, hlo, an, ag⟩)
     | (go_at_call 99; refine (zj8 ep v1 (fun g => w.drew.heap.size <= g /\ g < w1.heap.size) (.slice a' n' k') xs lo w1 an.rd (zai (World.ownsRow.drew HO.out) ag (fun _ _ e => e)) hl (by rw [<- hlo, zma] at dc; exact dc) (fun p hp => HW.out p.1 (by rw [<- hlo]; exact zmi.2 ⟨p, hp, rfl⟩)) (fun g hg => ⟨hg.2, fun e => by have h1 : w.heap.size <= g := hg.1; have h2 := zar HO.out e.symm; omega⟩)).mono ?_; rintro r2 w2 ⟨v2, rfl, af, ar, bn⟩; rw [hlo] at af; obtain ⟨KP, KB, KR⟩ := za8 HP.out HB.out HR.out HO.out ag ar; have q0 := KR.out.cell 0; simp at q0; have q1 := KR.out.frozen 0; obtain ⟨a2, n2, k2, rfl⟩ := zab af)
     | (go_at_call 100; refine (zj9 ep v1 (fun g => w.drew.heap.size <= g /\ g < w1.heap.size) (.slice a' n' k') xs lo w1 an.rd (zai (World.ownsRow.drew HO.out) ag (fun _ _ e => e)) hl (by rw [<- hlo, zma] at dc; exact dc) (fun p hp => HW.out p.1 (by rw [<- hlo]; exact zmi.2 ⟨p, hp, rfl⟩)) (fun g hg => ⟨hg.2, fun e => by have h1 : w.heap.size <= g := hg.1; have h2 := zar HO.out e.symm; omega⟩)).mono ?_; rintro r2 w2 ⟨v2, rfl, af, ar, bn⟩; rw [hlo] at af; obtain ⟨KP, KB, KR⟩ := za8 HP.out HB.out HR.out HO.out ag ar; have q0 := KR.out.cell 0; simp at q0; have q1 := KR.out.frozen 0; obtain ⟨a2, n2, k2, rfl⟩ := zab af)))
  have HE : Fr (fun k => some k = (Value.slice a' n' k').ownBlock ∨ k = br) w (w2.setCell ⟨br, 0, none⟩ (.slice a2 n2 k2)) :=
   ((((zmR (fun k => some k = (Value.slice a' n' k').ownBlock ∨ k = br) w).drew).trans ag (fun _ _ e => e.elim)).trans ar (fun _ _ e => .inl e)).setCell (p := ⟨br, 0, none⟩) (.inl (.inr rfl)) _
  have HV : Blk (w2.setCell ⟨br, 0, none⟩ (.slice a2 n2 k2)) br 44 #[.slice a2 n2 k2] := by simpa using KR.out.set_ 0 (.slice a2 n2 k2)
  have HF := zlM HE; have iS := zlM HV
  first | (guard_hyp aj; have eV : (w2.setCell ⟨br, 0, none⟩ (.slice a2 n2 k2)).ownsRow 0 5 1 (.slice a2 n2 k2) (xs ++ za5 9 (fun _ => true) LS).length (bc (xs ++ za5 9 (fun _ => true) LS)) := zai af (Fr.put_ w2 br 0 _) (fun g hg e => zak af KR.out (by decide) (by rw [hg, e]))) | (have eV : (w2.setCell ⟨br, 0, none⟩ (.slice a2 n2 k2)).ownsRow 0 5 1 (.slice a2 n2 k2) (xs ++ za6 10 (fun _ => true) LS).length (bc (xs ++ za6 10 (fun _ => true) LS)) := zai af (Fr.put_ w2 br 0 _) (fun g hg e => zak af KR.out (by decide) (by rw [hg, e])))
  have dR := zlM eV; have bF := ag.size; have gh := zlM bn; clear HE HV eV an ag af ar bn q0 q1 hQ p1 gu b0 gX; go_wp2; go_end0; refine ⟨rfl, _, iS.out, dR.out, HF.out, ?_⟩; rcases gh.out with h | ⟨k, h, hk⟩
  ·exact .inl h
  ·exact .inr ⟨k, h, by simp at bF; omega⟩
theorem zjm : type_of% (zcF.1 trivial) := zcF.1 trivial
theorem zjn : type_of% (zcF.2 trivial) := zcF.2 trivial
theorem zfA (s0 s1 s2 s3 s4 s5 s6 bv : Value) (xs : List UInt8) (lv : List (Rhs × Hsl)) (P : Nat -> Prop) (w : World) (hb : Sl P w bv 1 xs.length (bc xs)) (bg : xs.length <= 536870912)
 (au : ∀ s ∈ [s0, s1, s2, s3, s4, s5, s6], ∃ A m c, s = .slice A m c) (hs : SlH P w s6 lv) (dp : lv.length <= 12) (aF : ∀ s ∈ (lv.map Prod.fst), s.ok) :
 Calls prog 31 #[.int .i64 9, .agg #[s0, s1, s2, s3, s4, s5, s6], bv] w (zbP (fun lv _ => lv = .slice none 0 0) w (xs ++ za5 9 (fun _ => true) (lv.map Prod.fst))) := by
 refine zaO 9 s0 s1 s2 s3 s4 s5 s6 bv xs _ P _ w hb (by omega) au (by rintro lv W rfl; exact ⟨_, _, _, rfl⟩) (fun _ _ _ h _ => h) ?_; intro bk be bp bb br bl v W hk hp bK hr hl ab bL hF
 exact (zjm bk bp bb br _ _ P s0 s1 s2 s3 s4 s5 s6 v _ xs lv W hk hp bK hr (zah ab (zlX _)) (hs.fr hF (fun _ _ e => e)) bg dp aF bL).mono fun r w' h => zdc (zah ab (zlX _)) hr hl h
theorem zfB (s0 s1 s2 s3 s4 s5 s6 bv : Value) (xs : List UInt8) (lv : List (Rhs × Hsl)) (P : Nat -> Prop) (w : World) (hb : Sl P w bv 1 xs.length (bc xs)) (bg : xs.length <= 536870912)
 (au : ∀ s ∈ [s0, s1, s2, s3, s4, s5, s6], ∃ A m c, s = .slice A m c) (hs : SlH P w s6 lv) (dp : lv.length <= 12) (aF : ∀ s ∈ (lv.map Prod.fst), s.ok) :
 Calls prog 31 #[.int .i64 10, .agg #[s0, s1, s2, s3, s4, s5, s6], bv] w (zbP (fun lv _ => lv = .slice none 0 0) w (xs ++ za6 10 (fun _ => true) (lv.map Prod.fst))) := by
 refine zaO 10 s0 s1 s2 s3 s4 s5 s6 bv xs _ P _ w hb (by omega) au (by rintro lv W rfl; exact ⟨_, _, _, rfl⟩) (fun _ _ _ h _ => h) ?_; intro bk be bp bb br bl v W hk hp bK hr hl ab bL hF
 exact (zjn bk bp bb br _ _ P s0 s1 s2 s3 s4 s5 s6 v _ xs lv W hk hp bK hr (zah ab (zlX _)) (hs.fr hF (fun _ _ e => e)) bg dp aF bL).mono fun r w' h => zdc (zah ab (zlX _)) hr hl h
theorem zcU : (∀ (_ : True) (bk bp bb br bl base : Nat) (ep : Value) (P : Nat -> Prop) (s0 s1 s2 s3 s4 s5 s6 v z zl : Value) (xs : List UInt8) (lv : List (Rhs × Hsl)) (w : World) (hk : Blk w bk 3 #[.int .i64 7]) (hp : Blk w bp 54 #[s0, s1, s2, s3, s4, s5, s6]) (hb : Blk w bb 44 #[v]) (hr : Blk w br 44 #[z]) (mg : Blk w bl 52 #[zl])
 (ab : w.ownsRow 0 5 1 v xs.length (bc xs)) (hs : SlH P w s6 lv) (hl : xs.length <= 536870912) (au : lv.length <= 12) (aF : ∀ s ∈ (lv.map Prod.fst), s.ok) (bL : bb ≠ br) (bS : base <= w.heap.size) (aD : (lv.map Prod.fst) = [] ∨ ∃ s ∈ (lv.map Prod.fst), zaP s = false),
 Calls prog 90 #[.pointer (some ⟨bk, 0, none⟩), ep, .pointer (some ⟨bp, 0, none⟩), .pointer (some ⟨bb, 0, none⟩), .pointer (some ⟨br, 0, none⟩), .pointer (some ⟨bl, 0, none⟩)] w (zkG (LeftIs base (zjQ (lv.map Prod.fst))) w br bl v.ownBlock (xs ++ za5 7 (fun s => !zaP s) (lv.map Prod.fst)))) /\ (∀ (_ : True) (bk bp bb br bl base : Nat) (ep : Value) (P : Nat -> Prop) (s0 s1 s2 s3 s4 s5 s6 v z zl : Value) (xs : List UInt8) (lv : List (Rhs × Hsl)) (w : World) (hk : Blk w bk 3 #[.int .i64 8]) (hp : Blk w bp 54 #[s0, s1, s2, s3, s4, s5, s6]) (hb : Blk w bb 44 #[v]) (hr : Blk w br 44 #[z]) (mg : Blk w bl 52 #[zl])
 (ab : w.ownsRow 0 5 1 v xs.length (bc xs)) (hs : SlH P w s6 lv) (hl : xs.length <= 536870912) (au : lv.length <= 12) (aF : ∀ s ∈ (lv.map Prod.fst), s.ok) (bL : bb ≠ br) (bS : base <= w.heap.size) (aD : (lv.map Prod.fst) = [] ∨ ∃ s ∈ (lv.map Prod.fst), zaP s = false),
 Calls prog 90 #[.pointer (some ⟨bk, 0, none⟩), ep, .pointer (some ⟨bp, 0, none⟩), .pointer (some ⟨bb, 0, none⟩), .pointer (some ⟨br, 0, none⟩), .pointer (some ⟨bl, 0, none⟩)] w (zkG (LeftIs base (zjR (lv.map Prod.fst))) w br bl v.ownBlock (xs ++ za6 8 (fun s => !zaP s) (lv.map Prod.fst)))) := by
 refine ⟨fun aj bk bp bb br bl base ep P s0 s1 s2 s3 s4 s5 s6 v z zl xs lv w hk hp hb hr mg ab hs hl au aF bL bS aD => ?_, fun cf bk bp bb br bl base ep P s0 s1 s2 s3 s4 s5 s6 v z zl xs lv w hk hp hb hr mg ab hs hl au aF bL bS aD => ?_⟩; all_goals
  have k0 := hk.cell 0; have p1 := hp.cell 6; have b0 := hb.cell 0; simp at k0 p1 b0; have pW : br ≠ bl := zmT hr mg (by decide); obtain ⟨a', n', k', rfl⟩ := zab ab; have bw : ∃ A m c, s6 = .slice A m c := let ⟨A, c, h, _⟩ := hs.1; ⟨A, _, c, h⟩
  obtain ⟨A, m, c, rfl⟩ := bw
  first | (guard_hyp aj; have hQ := zcA P (.slice A m c) lv w.drew hs (by omega) (fun p hp => zhv (aF p.1 (zmi.2 ⟨p, hp, rfl⟩)).2.2.2.few)) | (have hQ := zdK P (.slice A m c) lv w.drew hs (by omega) (fun p hp => zhv (aF p.1 (zmi.2 ⟨p, hp, rfl⟩)).2.2.2.few))
  have HB := zlM hb; have HP := zlM hp; have HR := zlM hr; have mE := zlM mg; have HO := zlM ab; have gu : w.drew.cell? ⟨bp, 6, none⟩ = some (.slice A m c) := p1; have gX : w.drew.cell? ⟨bb, 0, none⟩ = some (.slice a' n' k') := b0; obtain ⟨LS, nA⟩ := exE (lv.map Prod.fst); have dc : LS.length <= 12 := by rw [<- nA, zma]; exact au
  rw [nA] at hQ aF aD ⊢; have HW := zlM aF; have iT := zlM aD; clear hk hp hb hr ab hs nA au mg aF aD; go_enter func90, ntmps90; go_wp2_with fail
  first
   | guard_hyp aj
     go_region_held3 (fun w' => w'.cell? ⟨bp, 6, none⟩ = some (.slice A m c) /\ w'.cell? ⟨bb, 0, none⟩ = some (.slice a' n' k'))
      ((first | (go_split_ands; refine ⟨?_, ?_⟩ <;> first | exact ((HP.out.drew).fr ag (fun e => e)).cell 6 | exact ((HB.out.drew).fr ag (fun e => e)).cell 0) | (go_split_ands; refine ⟨?_, ?_⟩ <;> first | exact KP.out.cell 6 | exact KB.out.cell 0) | go_keep))
      ((first
        | (go_at_call 84; refine hQ.mono ?_; rintro r1 w1 ⟨v1, lo, rfl, hlo, an, ag⟩)
        | (go_at_call 97; refine (zlu ep v1 (fun g => w.drew.heap.size <= g /\ g < w1.heap.size) (.slice a' n' k') xs lo w1 an.rd (zai (World.ownsRow.drew HO.out) ag (fun _ _ e => e)) hl (by rw [<- hlo, zma] at dc; exact dc) (fun p hp => HW.out p.1 (by rw [<- hlo]; exact zmi.2 ⟨p, hp, rfl⟩)) (fun g hg => ⟨hg.2, fun e => by have h1 : w.heap.size <= g := hg.1; have h2 := zar HO.out e.symm; omega⟩) (by
            have h := iT.out; rw [<- hlo] at h; rcases h with h | ⟨s, hs, hq⟩
            ·exact .inl (List.map_eq_nil_iff.1 h)
            ·obtain ⟨p, hp, rfl⟩ := zmi.1 hs
             exact .inr ⟨p, hp, hq⟩)).mono ?_; rintro r2 w2 ⟨v2, cv, rfl, af, iF, ar, bn⟩; obtain ⟨KP, KB, KR⟩ := za8 HP.out HB.out HR.out HO.out ag ar; have KL := zlM ((mE.out.drew.fr ag (fun e => e)).fr ar (fun e => zak HO.out mE.out (by decide) e.symm)); obtain ⟨a2, n2, k2, rfl⟩ := zab af; obtain ⟨a3, k3, rfl⟩ := zaa iF)))
   | go_region_held3 (fun w' => w'.cell? ⟨bp, 6, none⟩ = some (.slice A m c) /\ w'.cell? ⟨bb, 0, none⟩ = some (.slice a' n' k'))
      ((first | (go_split_ands; refine ⟨?_, ?_⟩ <;> first | exact ((HP.out.drew).fr ag (fun e => e)).cell 6 | exact ((HB.out.drew).fr ag (fun e => e)).cell 0) | (go_split_ands; refine ⟨?_, ?_⟩ <;> first | exact KP.out.cell 6 | exact KB.out.cell 0) | go_keep))
      ((first
        | (go_at_call 87; refine hQ.mono ?_; rintro r1 w1 ⟨v1, lo, rfl, hlo, an, ag⟩)
        | (go_at_call 98; refine (zlv ep v1 (fun g => w.drew.heap.size <= g /\ g < w1.heap.size) (.slice a' n' k') xs lo w1 an.rd (zai (World.ownsRow.drew HO.out) ag (fun _ _ e => e)) hl (by rw [<- hlo, zma] at dc; exact dc) (fun p hp => HW.out p.1 (by rw [<- hlo]; exact zmi.2 ⟨p, hp, rfl⟩)) (fun g hg => ⟨hg.2, fun e => by have h1 : w.heap.size <= g := hg.1; have h2 := zar HO.out e.symm; omega⟩) (by
            have h := iT.out; rw [<- hlo] at h; rcases h with h | ⟨s, hs, hq⟩
            ·exact .inl (List.map_eq_nil_iff.1 h)
            ·obtain ⟨p, hp, rfl⟩ := zmi.1 hs
             exact .inr ⟨p, hp, hq⟩)).mono ?_; rintro r2 w2 ⟨v2, cv, rfl, af, iF, ar, bn⟩; obtain ⟨KP, KB, KR⟩ := za8 HP.out HB.out HR.out HO.out ag ar; have KL := zlM ((mE.out.drew.fr ag (fun e => e)).fr ar (fun e => zak HO.out mE.out (by decide) e.symm)); obtain ⟨a2, n2, k2, rfl⟩ := zab af; obtain ⟨a3, k3, rfl⟩ := zaa iF)))
  have dO : (lo.filter fun p => zaP p.1).map Prod.fst = LS.filter zaP := by rw [<- hlo, List.filter_map]; rfl
  first
   | guard_hyp aj
     have fM : RdHW (fun g => w.drew.heap.size <= g /\ g < w2.heap.size) w2 (.slice a3 (lo.filter fun p => zaP p.1).length k3) (lo.filter fun p => zaP p.1) := by
      refine ⟨(zmU iF).mono (fun g hg => ⟨zmv ag.size (iF.lt g hg).1, zar iF hg⟩), fun p hp => ?_⟩; have h1 := (an.rd.2 p (zmr.1 hp).1).fr ar (fun g hg e => by have h1 : w.heap.size <= g := hg.1; have h2 := zar HO.out e.symm; omega); exact h1.mono (fun g hg => ⟨hg.1, zmb hg.2 ar.size⟩)
   | have fM : RdHF (fun g => w.drew.heap.size <= g /\ g < w2.heap.size) w2 (.slice a3 (lo.filter fun p => zaP p.1).length k3) (lo.filter fun p => zaP p.1) := by
      refine ⟨(zmU iF).mono (fun g hg => ⟨zmv ag.size (iF.lt g hg).1, zar iF hg⟩), fun p hp => ?_⟩; have h1 := (an.rd.2 p (zmr.1 hp).1).fr ar (fun g hg e => by have h1 : w.heap.size <= g := hg.1; have h2 := zar HO.out e.symm; omega); exact h1.mono (fun g hg => ⟨hg.1, zmb hg.2 ar.size⟩)
  have ki : (lo.filter fun p => zaP p.1).length <= 1048576 := by
   have h1 := zmK (fun p : Rhs × Value => zaP p.1) lo; have h2 : lo.length = LS.length := by rw [<- hlo, zma]
   omega
  first | (guard_hyp aj; have hU := zdZ _ _ _ w2 fM ki (fun p hp => zhv (HW.out p.1 (by rw [<- hlo]; exact zmi.2 ⟨p, (zmr.1 hp).1, rfl⟩)).2.2.2.few)) | (have hU := zfn _ _ _ w2 fM ki (fun p hp => zhv (HW.out p.1 (by rw [<- hlo]; exact zmi.2 ⟨p, (zmr.1 hp).1, rfl⟩)).2.2.2.few))
  first
   | guard_hyp aj
     have bN : ((lo.filter fun p => zaP p.1).map fun p => ({ p.1 with h := p.1.h.cutW } : Rhs)) = zjQ LS := by
      rw [zjQ, <- dO, zmP]; rfl
   | have bN : ((lo.filter fun p => zaP p.1).map fun p => ({ p.1 with h := p.1.h.cutF } : Rhs)) = zjR LS := by
      rw [zjR, <- dO, zmP]; rfl
  rw [bN] at hU; rw [hlo] at af; have HU := zlM hU; have H1 := zlM ag; have H2 := zlM ar; have cL := zlM af; have gh := zlM bn; clear dO fM ki bN hU ag ar an af iF bn hQ p1 gu b0 gX hlo; generalize (lo.filter fun p => zaP p.1).length = m3 at HU ⊢
  first | (guard_hyp aj; go_wp2_with (go_at_call 85; refine HU.out.mono ?_; rintro r3 w3 ⟨v3, lu, rfl, pI, aE, bJ⟩; have MR := zlM (KR.out.fr bJ (fun e => e)); have ML := zlM (KL.out.fr bJ (fun e => e)); have q0 : w3.cell? ⟨br, 0, none⟩ = some z := MR.out.cell 0; have q1 := MR.out.frozen 0; have q2 : w3.cell? ⟨bl, 0, none⟩ = some zl := ML.out.cell 0; have q3 := ML.out.frozen 0; obtain ⟨a4, n4, k4, rfl⟩ := zab aE.1; have H3 := zlM bJ; have es := zlM aE; have HLU := zlM pI; clear bJ aE pI)) | (go_wp2_with (go_at_call 88; refine HU.out.mono ?_; rintro r3 w3 ⟨v3, lu, rfl, pI, aE, bJ⟩; have MR := zlM (KR.out.fr bJ (fun e => e)); have ML := zlM (KL.out.fr bJ (fun e => e)); have q0 : w3.cell? ⟨br, 0, none⟩ = some z := MR.out.cell 0; have q1 := MR.out.frozen 0; have q2 : w3.cell? ⟨bl, 0, none⟩ = some zl := ML.out.cell 0; have q3 := ML.out.frozen 0; obtain ⟨a4, n4, k4, rfl⟩ := zab aE.1; have H3 := zlM bJ; have es := zlM aE; have HLU := zlM pI; clear bJ aE pI))
  go_end0; have cV : Blk (w3.setCell ⟨br, 0, none⟩ (.slice a2 n2 k2)) br 44 #[.slice a2 n2 k2] := by simpa using MR.out.set_ 0 (.slice a2 n2 k2)
  have il : Blk (w3.setCell ⟨br, 0, none⟩ (.slice a2 n2 k2)) bl 52 #[zl] := ML.out.far (p := ⟨br, 0, none⟩) (Ne.symm pW) _; have jI : Blk ((w3.setCell ⟨br, 0, none⟩ (.slice a2 n2 k2)).setCell ⟨bl, 0, none⟩ (.slice a4 n4 k4)) bl 52 #[.slice a4 n4 k4] := by simpa using il.set_ 0 (.slice a4 n4 k4)
  have hV4 := cV.far (p := ⟨bl, 0, none⟩) pW (.slice a4 n4 k4); have hFF : Fr (fun k => k = br ∨ k = bl) w3 ((w3.setCell ⟨br, 0, none⟩ (.slice a2 n2 k2)).setCell ⟨bl, 0, none⟩ (.slice a4 n4 k4)) := ((zmR (fun k => k = br ∨ k = bl) w3).setCell (p := ⟨br, 0, none⟩) (.inl (.inl rfl)) _).setCell (p := ⟨bl, 0, none⟩) (.inl (.inr rfl)) _; refine ⟨rfl, _, _, hV4, jI, ⟨lu, HLU.out, ?_⟩, ?_, ?_, ?_⟩
  ·refine (es.out.fr hFF (fun k h1 h2 h => ?_)).mono (by have := H1.out.size; have := H2.out.size; simp at *; omega)
   have e1 := KR.out.lt; have e2 := KL.out.lt; rcases h with rfl | rfl <;> omega
  ·refine zai (zai cL.out H3.out (fun _ _ e => e)) hFF (fun g hg h => ?_)
   rcases h with rfl | rfl
   ·exact zak cL.out KR.out (by decide) hg
   ·exact zak cL.out KL.out (by decide) hg
  ·exact (((((zmR (fun k => some k = (Value.slice a' n' k').ownBlock ∨ k = br ∨ k = bl) w).drew).trans H1.out (fun _ _ e => e.elim)).trans H2.out (fun _ _ e => .inl e)).trans H3.out (fun _ _ e => e.elim)).trans hFF (fun _ _ e => .inr e)
  ·rcases gh.out with h | ⟨k, h, hk⟩
   ·exact .inl h
   ·exact .inr ⟨k, h, by have := H1.out.size; simp at this; omega⟩
theorem zkI : type_of% (zcU.1 trivial) := zcU.1 trivial
theorem zkJ : type_of% (zcU.2 trivial) := zcU.2 trivial
theorem zgd (s0 s1 s2 s3 s4 s5 s6 bv : Value) (xs : List UInt8) (lv : List (Rhs × Hsl)) (P : Nat -> Prop) (w : World) (hb : Sl P w bv 1 xs.length (bc xs)) (bg : xs.length <= 536870912)
 (au : ∀ s ∈ [s0, s1, s2, s3, s4, s5, s6], ∃ A m c, s = .slice A m c) (hs : SlH P w s6 lv) (dp : lv.length <= 12) (aF : ∀ s ∈ (lv.map Prod.fst), s.ok) (aD : (lv.map Prod.fst) = [] ∨ ∃ s ∈ (lv.map Prod.fst), zaP s = false) :
 Calls prog 31 #[.int .i64 7, .agg #[s0, s1, s2, s3, s4, s5, s6], bv] w (zbP (LeftIs w.heap.size (zjQ (lv.map Prod.fst))) w (xs ++ za5 7 (fun s => !zaP s) (lv.map Prod.fst))) := by
 refine zaO 7 s0 s1 s2 s3 s4 s5 s6 bv xs _ P _ w hb (by omega) au (fun _ _ h => h.shape) (fun _ _ _ h hv => h.vars hv) ?_; intro bk be bp bb br bl v W hk hp bK hr hl ab bL hF; exact zkI bk bp bb br bl w.heap.size _ P s0 s1 s2 s3 s4 s5 s6 v _ _ xs lv W hk hp bK hr hl (zah ab (zlX _)) (hs.fr hF (fun _ _ e => e)) bg dp aF bL hF.size aD
theorem zge (s0 s1 s2 s3 s4 s5 s6 bv : Value) (xs : List UInt8) (lv : List (Rhs × Hsl)) (P : Nat -> Prop) (w : World) (hb : Sl P w bv 1 xs.length (bc xs)) (bg : xs.length <= 536870912)
 (au : ∀ s ∈ [s0, s1, s2, s3, s4, s5, s6], ∃ A m c, s = .slice A m c) (hs : SlH P w s6 lv) (dp : lv.length <= 12) (aF : ∀ s ∈ (lv.map Prod.fst), s.ok) (aD : (lv.map Prod.fst) = [] ∨ ∃ s ∈ (lv.map Prod.fst), zaP s = false) :
 Calls prog 31 #[.int .i64 8, .agg #[s0, s1, s2, s3, s4, s5, s6], bv] w (zbP (LeftIs w.heap.size (zjR (lv.map Prod.fst))) w (xs ++ za6 8 (fun s => !zaP s) (lv.map Prod.fst))) := by
 refine zaO 8 s0 s1 s2 s3 s4 s5 s6 bv xs _ P _ w hb (by omega) au (fun _ _ h => h.shape) (fun _ _ _ h hv => h.vars hv) ?_; intro bk be bp bb br bl v W hk hp bK hr hl ab bL hF; exact zkJ bk bp bb br bl w.heap.size _ P s0 s1 s2 s3 s4 s5 s6 v _ _ xs lv W hk hp bK hr hl (zah ab (zlX _)) (hs.fr hF (fun _ _ e => e)) bg dp aF bL hF.size aD
theorem rightG_3 (A0 A1 A2 A3 A4 A5 A6 : Option Addr) (c0 c1 c2 c3 c4 c5 c6 : Nat) (n0 n1 n2 n3 n4 n5 n6 n : Nat) (h0 : n0 <= 1099511627776) (h1 : n1 <= 1099511627776) (h2 : n2 <= 1099511627776) (h3 : n3 <= 1099511627776) (h4 : n4 <= 1099511627776) (h5 : n5 <= 1099511627776) (h6 : n6 <= 1099511627776) (hn : n = n0 + n1 + n2 + n3 + n4 + n5 + n6) (w : World) (P : Nat -> Prop) (lv : List (Ston × Value)) (hs : SlS P w (.slice A2 n2 c2) lv) (hl : lv.length = n2) (hi : ∀ p ∈ lv, p.1.ivs.length <= 1099511627776) :
 Calls prog 30 #[.int .i64 3, .agg #[.slice A0 n0 c0, .slice A1 n1 c1, .slice A2 n2 c2, .slice A3 n3 c3, .slice A4 n4 c4, .slice A5 n5 c5, .slice A6 n6 c6]] w (zau (n <= 12 /\ n = n2 /\ ∀ p ∈ lv, p.1.ivs.length <= 6) w) := by
 have hC := zc9 A0 A1 A2 A3 A4 A5 A6 c0 c1 c2 c3 c4 c5 c6 n0 n1 n2 n3 n4 n5 n6 n h0 h1 h2 h3 h4 h5 h6 hn (w.alloc (.cells #[.slice A0 n0 c0, .slice A1 n1 c1, .slice A2 n2 c2, .slice A3 n3 c3, .slice A4 n4 c4, .slice A5 n5 c5, .slice A6 n6 c6] 54)); have bN : n2 <= n := by omega
 clear hn; by_cases h12 : n <= 12
 ·have h1x : ¬ (12 : Int) < (n : Int) := by omega
  have HS := zlM hs; have HN := zlM hl; have HI := zlM hi; clear hs hl hi; go_enter func30, ntmps30; go_wp2_with (go_at_call 40; refine hC.mono ?_; rintro r w1 ⟨rfl, ag⟩; obtain ⟨x0, x1, x2, x3, x4, x5, x6⟩ := zag ((zmS w 54 #[.slice A0 n0 c0, .slice A1 n1 c1, .slice A2 n2 c2, .slice A3 n3 c3, .slice A4 n4 c4, .slice A5 n5 c5, .slice A6 n6 c6]).fr ag (fun e => e)))
  have HF := zlM (((zmR (fun _ => False) w).alloc (.cells #[.slice A0 n0 c0, .slice A1 n1 c1, .slice A2 n2 c2, .slice A3 n3 c3, .slice A4 n4 c4, .slice A5 n5 c5, .slice A6 n6 c6] 54)).same ag); have kF := HF.out.size
  have HB := zlM ((zmS w 54 #[.slice A0 n0 c0, .slice A1 n1 c1, .slice A2 n2 c2, .slice A3 n3 c3, .slice A4 n4 c4, .slice A5 n5 c5, .slice A6 n6 c6]).fr ag (fun e => e)); clear ag hC; go_loopw [7] (fun i wr => ∃ k : Nat, k <= n2 /\ i = .int .i64 k /\ Hid (Fr (fun _ => False) w1 wr) /\ Hid (∀ j p, j < k -> lv[j]? = some p -> p.1.ivs.length <= 6)) (fun i _ => n2 - (intOf i).toNat)
  case atStart => exact ⟨0, zlX _, rfl, zlM (zmR _ _), zlM (fun j p h => absurd h (zmx _))⟩
  case round =>
   obtain ⟨k, hk, rfl, RF, RG⟩ := hrel; obtain ⟨y0, y1, y2, y3, y4, y5, y6⟩ := zag (HB.out.fr RF.out (fun e => e)); clear x0 x1 x2 x3 x4 x5 x6; by_cases hlt : k < n2
   ·have hS := HS.out.fr (HF.out.same RF.out) (fun _ _ e => e)
    obtain ⟨⟨A, c, e2, _, hc, hr⟩, pN⟩ := hS; injection e2 with e2 iQ iR; obtain ⟨g, off, rfl, _, aa⟩ := hr (by have := HN.out; omega); obtain ⟨x, hx⟩ : ∃ x, lv[k]? = some x := ⟨_, zlO (by rw [HN.out]; exact hlt)⟩; have aH := zlU hx
    have c1 : wr.cell? ⟨g, off + k * 2 + 1, none⟩ = some x.2 := aa (k * 2 + 1) _ (by rw [zbB stc (fun _ => rfl) lv k x hx 1 (by omega)]; rfl); have aX := pN x aH; have aQ := HI.out x aH; have fx := zlM aH; have HX := zlM hx; clear hx aH pN; obtain ⟨⟨ref, ivs⟩, iv⟩ := x; simp only [] at c1 aX aQ; obtain ⟨Ai, ci, rfl, _, _, _⟩ := aX; subst e2; clear aa hr iQ iR
    by_cases h6 : ivs.length <= 6
    ·have hil2 : ¬ (6 : Int) < (ivs.length : Int) := by omega
     go_wp2_with fail
     go_roundw
     case rel => exact ⟨k + 1, by omega, by go_num, RF, zlM (fun j p h h2 => by
      rcases zmf j k with h3 | h3
      ·exact RG.out j p h3 h2
      ·obtain rfl : j = k := by omega
       have h4 := h2.symm.trans HX.out; injection h4 with h4; rw [h4]
       exact h6)⟩
     case measure => simp [intOf]; omega
    ·have hil2 : (6 : Int) < (ivs.length : Int) := by omega
     go_wp2; go_ret; exact ⟨false, rfl, ⟨fun h => (by cases h), fun h => absurd (h.2.2 _ fx.out) h6⟩, HF.out.same RF.out⟩
   ·obtain rfl : k = n2 := by omega
    have bu : Hid (∀ p ∈ lv, p.1.ivs.length <= 6) := zlM (fun p hp => by
     obtain ⟨j, hj, e⟩ := zmH hp
     exact RG.out j p (by rw [<- HN.out]; exact hj) (by rw [zlO hj, e]))
    by_cases he : n = k
    ·have HE := zlM he
     have hz : ((n : Int) - (k : Int) == 0) = true := by simp; omega
     clear he; go_wp2; go_ret; refine ⟨_, rfl, ⟨fun _ => ⟨h12, HE.out, bu.out⟩, fun _ => by first | rfl | exact hz | (have := HE.out; simp; omega)⟩, HF.out.same RF.out⟩
    ·have hz : ((n : Int) - (k : Int) == 0) = false := by simp; omega
     go_wp2; go_ret; exact ⟨_, rfl, ⟨fun h => (by first | (cases h; done) | (simp at h; done) | (simp at h; omega)), fun h => absurd h.2.1 he⟩, HF.out.same RF.out⟩
 ·have hx : (12 : Int) < (n : Int) := by omega
  go_enter func30, ntmps30; go_wp2_with (go_at_call 40; refine hC.mono ?_; rintro r w1 ⟨rfl, ag⟩)
  go_ret; exact ⟨false, rfl, ⟨fun h => (by cases h), fun h => absurd h.1 h12⟩, ((zmR _ w).alloc _).same ag⟩
theorem rightG_6 (A0 A1 A2 A3 A4 A5 A6 : Option Addr) (c0 c1 c2 c3 c4 c5 c6 : Nat) (n0 n1 n2 n3 n4 n5 n6 n : Nat) (h0 : n0 <= 1099511627776) (h1 : n1 <= 1099511627776) (h2 : n2 <= 1099511627776) (h3 : n3 <= 1099511627776) (h4 : n4 <= 1099511627776) (h5 : n5 <= 1099511627776) (h6 : n6 <= 1099511627776) (hn : n = n0 + n1 + n2 + n3 + n4 + n5 + n6) (w : World) (P : Nat -> Prop) (lv : List Mta) (hs : Sl P w (.slice A4 n4 c4) 4 lv.length (lv.flatMap Mta.c)) (hl : lv.length = n4) (hi : ∀ p ∈ lv, p.unit.size <= 1099511627776 /\ p.help.size <= 1099511627776) :
 Calls prog 30 #[.int .i64 6, .agg #[.slice A0 n0 c0, .slice A1 n1 c1, .slice A2 n2 c2, .slice A3 n3 c3, .slice A4 n4 c4, .slice A5 n5 c5, .slice A6 n6 c6]] w (zau (n <= 12 /\ n = n4 /\ ∀ p ∈ lv, p.unit.size + p.help.size <= 600) w) := by
 have hC := zc9 A0 A1 A2 A3 A4 A5 A6 c0 c1 c2 c3 c4 c5 c6 n0 n1 n2 n3 n4 n5 n6 n h0 h1 h2 h3 h4 h5 h6 hn (w.alloc (.cells #[.slice A0 n0 c0, .slice A1 n1 c1, .slice A2 n2 c2, .slice A3 n3 c3, .slice A4 n4 c4, .slice A5 n5 c5, .slice A6 n6 c6] 54)); have bN : n4 <= n := by omega
 clear hn; by_cases h12 : n <= 12
 ·have h1x : ¬ (12 : Int) < (n : Int) := by omega
  have HS := zlM hs; have HN := zlM hl; have HI := zlM hi; clear hs hl hi; go_enter func30, ntmps30; go_wp2_with (go_at_call 40; refine hC.mono ?_; rintro r w1 ⟨rfl, ag⟩; obtain ⟨x0, x1, x2, x3, x4, x5, x6⟩ := zag ((zmS w 54 #[.slice A0 n0 c0, .slice A1 n1 c1, .slice A2 n2 c2, .slice A3 n3 c3, .slice A4 n4 c4, .slice A5 n5 c5, .slice A6 n6 c6]).fr ag (fun e => e)))
  have HF := zlM (((zmR (fun _ => False) w).alloc (.cells #[.slice A0 n0 c0, .slice A1 n1 c1, .slice A2 n2 c2, .slice A3 n3 c3, .slice A4 n4 c4, .slice A5 n5 c5, .slice A6 n6 c6] 54)).same ag); have kF := HF.out.size
  have HB := zlM ((zmS w 54 #[.slice A0 n0 c0, .slice A1 n1 c1, .slice A2 n2 c2, .slice A3 n3 c3, .slice A4 n4 c4, .slice A5 n5 c5, .slice A6 n6 c6]).fr ag (fun e => e)); clear ag hC; go_loopw [9] (fun i wr => ∃ k : Nat, k <= n4 /\ i = .int .i64 k /\ Hid (Fr (fun _ => False) w1 wr) /\ Hid (∀ j p, j < k -> lv[j]? = some p -> p.unit.size + p.help.size <= 600)) (fun i _ => n4 - (intOf i).toNat)
  case atStart => exact ⟨0, zlX _, rfl, zlM (zmR _ _), zlM (fun j p h => absurd h (zmx _))⟩
  case round =>
   obtain ⟨k, hk, rfl, RF, RG⟩ := hrel; obtain ⟨y0, y1, y2, y3, y4, y5, y6⟩ := zag (HB.out.fr RF.out (fun e => e)); clear x0 x1 x2 x3 x4 x5 x6; by_cases hlt : k < n4
   ·have hS := HS.out.fr (HF.out.same RF.out) (fun _ _ e => e)
    obtain ⟨A, c, e2, _, hc, hr⟩ := hS; injection e2 with e2 iQ iR; obtain ⟨g, off, rfl, _, aa⟩ := hr (by have := HN.out; omega); obtain ⟨x, hx⟩ : ∃ x, lv[k]? = some x := ⟨_, zlO (by rw [HN.out]; exact hlt)⟩; have aH := zlU hx
    have q2 : wr.cell? ⟨g, off + k * 4 + 2, none⟩ = some (.string x.unit) := aa (k * 4 + 2) _ (by rw [zdB Mta.c (fun _ => rfl) lv k x hx 2 (by omega)]; rfl); have q3 : wr.cell? ⟨g, off + k * 4 + 3, none⟩ = some (.string x.help) := aa (k * 4 + 3) _ (by rw [zdB Mta.c (fun _ => rfl) lv k x hx 3 (by omega)]; rfl); have aQ := HI.out x aH; have fx := zlM aH; have HX := zlM hx
    clear hx aH; subst e2; have eU := zlM q2; have c8 := zlM q3; have oI := zlM y4; clear aa hr iQ iR; have hwp : IntKind.i64.wrap ((x.unit.size : Int) + (x.help.size : Int)) = (x.unit.size : Int) + (x.help.size : Int) := by rw [IntKind.wrap_i64]; omega
    by_cases h6 : x.unit.size + x.help.size <= 600
    ·have h6i : ¬ (600 : Int) < IntKind.i64.wrap ((x.unit.size : Int) + (x.help.size : Int)) := by rw [hwp]; omega
     clear hwp; go_wp2_with fail
     go_region_held3 (fun w' => w'.cell? ⟨w.heap.size, 4, none⟩ = some (.slice (some ⟨g, off, none⟩) n4 c4) /\ w'.cell? ⟨g, off + k * 4 + 2, none⟩ = some (.string x.unit) /\ w'.cell? ⟨g, off + k * 4 + 3, none⟩ = some (.string x.help))
      ((first | (go_split_ands; refine ⟨?_, ?_, ?_⟩ <;> first | exact oI.out | exact eU.out | exact c8.out) | go_keep))
      (fail)
     go_wp2; go_roundw
     case rel => exact ⟨k + 1, by omega, by go_num, zlM RF.out.drew, zlM (fun j p h h2 => by
      rcases zmf j k with h3 | h3
      ·exact RG.out j p h3 h2
      ·obtain rfl : j = k := by omega
       have h4 := h2.symm.trans HX.out; injection h4 with h4; rw [h4]
       exact h6)⟩
     case measure => simp [intOf]; omega
    ·have h6i : (600 : Int) < IntKind.i64.wrap ((x.unit.size : Int) + (x.help.size : Int)) := by rw [hwp]; omega
     clear hwp; go_wp2_with fail
     go_region_held3 (fun w' => w'.cell? ⟨w.heap.size, 4, none⟩ = some (.slice (some ⟨g, off, none⟩) n4 c4) /\ w'.cell? ⟨g, off + k * 4 + 2, none⟩ = some (.string x.unit) /\ w'.cell? ⟨g, off + k * 4 + 3, none⟩ = some (.string x.help))
      ((first | (go_split_ands; refine ⟨?_, ?_, ?_⟩ <;> first | exact oI.out | exact eU.out | exact c8.out) | go_keep))
      (fail)
     go_wp2; go_ret; exact ⟨false, rfl, ⟨fun h => (by cases h), fun h => absurd (h.2.2 _ fx.out) h6⟩, HF.out.same RF.out.drew⟩
   ·obtain rfl : k = n4 := by omega
    have bu : Hid (∀ p ∈ lv, p.unit.size + p.help.size <= 600) := zlM (fun p hp => by
     obtain ⟨j, hj, e⟩ := zmH hp
     exact RG.out j p (by rw [<- HN.out]; exact hj) (by rw [zlO hj, e]))
    by_cases he : n = k
    ·have HE := zlM he
     have hz : ((n : Int) - (k : Int) == 0) = true := by simp; omega
     clear he; go_wp2; go_ret; refine ⟨_, rfl, ⟨fun _ => ⟨h12, HE.out, bu.out⟩, fun _ => by first | rfl | exact hz | (have := HE.out; simp; omega)⟩, HF.out.same RF.out⟩
    ·have hz : ((n : Int) - (k : Int) == 0) = false := by simp; omega
     go_wp2; go_ret; exact ⟨_, rfl, ⟨fun h => (by first | (cases h; done) | (simp at h; done) | (simp at h; omega)), fun h => absurd h.2.1 he⟩, HF.out.same RF.out⟩
 ·have hx : (12 : Int) < (n : Int) := by omega
  go_enter func30, ntmps30; go_wp2_with (go_at_call 40; refine hC.mono ?_; rintro r w1 ⟨rfl, ag⟩)
  go_ret; exact ⟨false, rfl, ⟨fun h => (by cases h), fun h => absurd h.1 h12⟩, ((zmR _ w).alloc _).same ag⟩
theorem lo_bounds {lo lv : List (Ston × Value)} (hm : lo.map Prod.fst = lv.map Prod.fst) (au : lv.length <= 4096) (aQ : ∀ s ∈ lv.map Prod.fst, s.ivs.length <= 4096) (aF : ∀ s ∈ lv.map Prod.fst, s.wf) :
 lo.length <= 4096 /\ (∀ p ∈ lo, p.1.ivs.length <= 4096) /\ (∀ s ∈ lo.map Prod.fst, s.wf) := by
 have h1 : lo.length = lv.length := by have := zmC List.length hm; simpa using this
 refine ⟨by omega, fun p hp => aQ _ ?_, fun s hs => aF _ ?_⟩
 ·rw [<- hm]; exact zmi.2 ⟨p, hp, rfl⟩
 ·rw [<- hm]; exact hs
theorem zju {w w1 : World} {v : Value} {m : Nat} {ys : List Value} (h : w.ownsRow 0 5 1 v m ys) : ∀ g, (w.drew.heap.size <= g /\ g < w1.heap.size) -> g < w1.heap.size /\ some g ≠ v.ownBlock := fun g hg =>
 ⟨hg.2, fun e => by have h1 := zar h e.symm; have h2 : w.heap.size <= g := hg.1; omega⟩
theorem zhH (bk bp bb br : Nat) (ep lp : Value) (P : Nat -> Prop) (s0 s1 s2 s3 s4 s5 s6 v z : Value) (xs : List UInt8) (lv : List (Ston × Value)) (w : World) (hk : Blk w bk 3 #[.int .i64 3]) (hp : Blk w bp 54 #[s0, s1, s2, s3, s4, s5, s6]) (hb : Blk w bb 44 #[v]) (hr : Blk w br 44 #[z])
 (ab : w.ownsRow 0 5 1 v xs.length (bc xs)) (hs : SlS P w s2 lv) (hl : xs.length <= 1073741824) (au : lv.length <= 4096) (aQ : ∀ s ∈ lv.map Prod.fst, s.ivs.length <= 4096) (aF : ∀ s ∈ lv.map Prod.fst, s.wf) (bL : bb ≠ br) :
 Calls prog 90 #[.pointer (some ⟨bk, 0, none⟩), ep, .pointer (some ⟨bp, 0, none⟩), .pointer (some ⟨bb, 0, none⟩), .pointer (some ⟨br, 0, none⟩), lp] w (zcx w br v.ownBlock (xs ++ zbC (lv.map Prod.fst))) := by
 have iz : bp ≠ br := zmT hp hr (by decide); have k0 := hk.cell 0; have p1 := hp.cell 2; have b0 := hb.cell 0; simp at k0 p1 b0; obtain ⟨a', n', k', rfl⟩ := zab ab; have bw : ∃ A m c, s2 = .slice A m c := let ⟨A, c, h, _⟩ := hs.1; ⟨A, _, c, h⟩
 obtain ⟨A, m, c, rfl⟩ := bw; have hQ := zeT P (.slice A m c) lv w.drew hs (by omega) (fun p hp => by have := aQ p.1 (zmi.2 ⟨p, hp, rfl⟩); omega); have HB := zlM hb; have HP := zlM hp; have HR := zlM hr; have HO := zlM ab; have gu : w.drew.cell? ⟨bp, 2, none⟩ = some (.slice A m c) := p1; have gX : w.drew.cell? ⟨bb, 0, none⟩ = some (.slice a' n' k') := b0
 clear hk hp hb hr ab hs; go_enter func90, ntmps90; go_wp2_with fail
 have HW := zlM aF; clear aF; go_region_held3 (fun w' => w'.cell? ⟨bp, 2, none⟩ = some (.slice A m c) /\ w'.cell? ⟨bb, 0, none⟩ = some (.slice a' n' k'))
  ((first | (go_split_ands; refine ⟨?_, ?_⟩ <;> first | exact ((HP.out.drew).fr ag (fun e => e)).cell 2 | exact ((HB.out.drew).fr ag (fun e => e)).cell 0) | (go_split_ands; refine ⟨?_, ?_⟩ <;> first | exact KP.out.cell 2 | exact KB.out.cell 0) | (go_split_ands; refine ⟨?_, ?_⟩ <;> first | exact (KP.out.far (p := ⟨br, 0, none⟩) iz _).cell 2 | exact (KB.out.far (p := ⟨br, 0, none⟩) bL _).cell 0) | go_keep))
  ((first
    | (go_at_call 75; refine hQ.mono ?_; rintro r1 w1 ⟨v1, lo, rfl, kP, an, ag⟩; have LB := lo_bounds kP au aQ HW.out)
    | (go_at_call 93; refine (zh5 ep v1 _ (.slice a' n' k') xs lo w1 an.sl (zai (World.ownsRow.drew HO.out) ag (fun _ _ e => e)) hl LB.1 LB.2.1 LB.2.2 (zju HO.out)).mono ?_; rintro r2 w2 ⟨v2, rfl, af, ar, bn⟩; rw [kP] at af; obtain ⟨KP, KB, KR⟩ := za8 HP.out HB.out HR.out HO.out ag ar; have q0 := KR.out.cell 0; simp at q0; have q1 := KR.out.frozen 0; obtain ⟨a2, n2, k2, rfl⟩ := zab af)))
 have HE : Fr (fun k => some k = (Value.slice a' n' k').ownBlock ∨ k = br) w (w2.setCell ⟨br, 0, none⟩ (.slice a2 n2 k2)) :=
  ((((zmR (fun k => some k = (Value.slice a' n' k').ownBlock ∨ k = br) w).drew).trans ag (fun _ _ e => e.elim)).trans ar (fun _ _ e => .inl e)).setCell (p := ⟨br, 0, none⟩) (.inl (.inr rfl)) _
 have HV : Blk (w2.setCell ⟨br, 0, none⟩ (.slice a2 n2 k2)) br 44 #[.slice a2 n2 k2] := by simpa using KR.out.set_ 0 (.slice a2 n2 k2)
 have HF := zlM HE; have iS := zlM HV; have eV : (w2.setCell ⟨br, 0, none⟩ (.slice a2 n2 k2)).ownsRow 0 5 1 (.slice a2 n2 k2) (xs ++ zbC (lv.map Prod.fst)).length (bc (xs ++ zbC (lv.map Prod.fst))) := zai af (Fr.put_ w2 br 0 _) (fun g hg e => zak af KR.out (by decide) (by rw [hg, e])); have dR := zlM eV; have bF := ag.size; have gh := zlM bn
 clear HE HV eV an ag af ar bn q0 q1 hQ p1 gu b0 gX; go_wp2; go_end0; refine ⟨rfl, _, iS.out, dR.out, HF.out, ?_⟩; rcases gh.out with h | ⟨k, h, hk⟩
 ·exact .inl h
 ·exact .inr ⟨k, h, by simp at bF; omega⟩
theorem zeV (s0 s1 s2 s3 s4 s5 s6 bv : Value) (xs : List UInt8) (lv : List (Ston × Value)) (P : Nat -> Prop) (w : World) (hb : Sl P w bv 1 xs.length (bc xs)) (bg : xs.length <= 1073741824)
 (au : ∀ s ∈ [s0, s1, s2, s3, s4, s5, s6], ∃ A m c, s = .slice A m c) (hs : SlS P w s2 lv) (dp : lv.length <= 4096) (aQ : ∀ s ∈ lv.map Prod.fst, s.ivs.length <= 4096) (aF : ∀ s ∈ lv.map Prod.fst, s.wf) :
 Calls prog 31 #[.int .i64 3, .agg #[s0, s1, s2, s3, s4, s5, s6], bv] w (zbP (fun lv _ => lv = .slice none 0 0) w (xs ++ zbC (lv.map Prod.fst))) := by
 refine zaO 3 s0 s1 s2 s3 s4 s5 s6 bv xs _ P _ w hb bg au (by rintro lv W rfl; exact ⟨_, _, _, rfl⟩) (fun _ _ _ h _ => h) ?_; intro bk be bp bb br bl v W hk hp bK hr hl ab bL hF
 exact (zhH bk bp bb br _ _ P s0 s1 s2 s3 s4 s5 s6 v _ xs lv W hk hp bK hr (zah ab (zlX _)) (hs.fr hF (fun _ _ e => e)) bg dp aQ aF bL).mono fun r w' h => zdc (zah ab (zlX _)) hr hl h
theorem zez (P : Nat -> Prop) (W : World) : Sl P W (.slice none 0 0) 1 ([] : List UInt8).length (bc []) := ⟨none, 0, rfl, rfl, zlY _, fun h => absurd h (zmw _)⟩
theorem LabOk.wide {l : List Lab} (h : LabOk l 8 300) : LabOk l 12 600 := ⟨zmv h.1 (by omega), fun p hp => by have := h.2.1 p hp; exact ⟨this.1, by omega, by omega⟩, h.2.2⟩
theorem zh4 {h : Hst} (k : h.few 2147483647) : h.few 1099511627776 := by
 obtain ⟨a, b, c, d, e, f, g⟩ := k; exact ⟨by omega, by omega, by omega, by omega, by omega, by omega, by omega⟩
theorem zfp {p : Rhs} {fl : Bool} (h : (p.ref < 18446744073709551616 /\ -9223372036854775808 <= p.t /\ p.t <= 9223372036854775807) /\ p.h.wide) (hs : zbG fl p.h) : p.ok :=
 ⟨h.1.1, h.1.2.1, h.1.2.2, h.2.ok (by have h1 := hs.1; unfold Hst.total at h1; exact ⟨by omega, by omega, by omega, by omega, by omega, by omega, by omega⟩)⟩
end Go.Proofs.YtbkookiigkckdaaGreatDoor
namespace Go.Proofs.YtbkookiigkckdaaGreatDoor
open Go Go.ChangeShapes Go.WideShapes Go.ChangeAt Go.RowKit Go.Proofs.Tryz
theorem c46 : prog.cellsOf 46 = 1 := by kernel_rfl
theorem c47 : prog.cellsOf 47 = 1 := by kernel_rfl
theorem c48 : prog.cellsOf 48 = 1 := by kernel_rfl
theorem c49 : prog.cellsOf 49 = 1 := by kernel_rfl
theorem c50 : prog.cellsOf 50 = 1 := by kernel_rfl
theorem c51 : prog.cellsOf 51 = 1 := by kernel_rfl
theorem c52 : prog.cellsOf 52 = 1 := by kernel_rfl
theorem parts_in {H : Type} {enc : TypeId × Value -> H} {W : World} {cs : Array Value} {d : DataW H} {p : List MemPlace}
 (h : DataW.Trod enc prog W 0 (fun _ => true) true 54 (.agg cs) d p) (bF : cs.size = 7) : ∃ (q : Prt) (s0 s1 s2 s3 s4 s5 s6 : Value), cs = #[s0, s1, s2, s3, s4, s5, s6] /\ q.At (Old W) W s0 s1 s2 s3 s4 s5 s6 /\ q.Wide := by
 obtain ⟨fuel, fm⟩ := h; have ag : zbv enc W fuel 54 cs.toList (d, p) := fm; obtain ⟨n, _, hf⟩ := zbM underlying54 ag; obtain ⟨l⟩ := cs; have hl : l.length = 7 := by simpa using bF
 match l, hl with
 | [a0, a1, a2, a3, a4, a5, a6], _ =>
   obtain ⟨y0, h0⟩ := hf 0 _ a0 rfl c46 rfl; obtain ⟨y1, h1⟩ := hf 1 _ a1 rfl c47 rfl; obtain ⟨y2, h2⟩ := hf 2 _ a2 rfl c48 rfl; obtain ⟨y3, h3⟩ := hf 3 _ a3 rfl c49 rfl; obtain ⟨y4, h4⟩ := hf 4 _ a4 rfl c50 rfl; obtain ⟨y5, h5⟩ := hf 5 _ a5 rfl c51 rfl; obtain ⟨y6, h6⟩ := hf 6 _ a6 rfl c52 rfl; obtain ⟨l0, m0, w0, z0⟩ := in_series h0; obtain ⟨l1, m1, w1, z1⟩ := zkZ h1
   obtain ⟨l2, m2, w2, z2⟩ := in_stones h2; obtain ⟨l3, m3, w3, z3⟩ := ziI h3; obtain ⟨l4, m4, w4, z4⟩ := zjW h4; obtain ⟨l5, m5, w5, z5⟩ := zk0 h5; obtain ⟨l6, m6, w6, z6⟩ := zh1 h6; exact ⟨⟨l0, l1, l2, l3, l4, l5, l6⟩, a0, a1, a2, a3, a4, a5, a6, rfl, ⟨z0, z1, z2, z3, z4, z5, z6⟩, ⟨m0, m1, m2, m3, m4, m5, m6, w0, w1, w2, w3, w4, w5, w6⟩⟩
theorem left_eqW (lv : List (Rhs × Hsl)) (h : ∀ p ∈ lv, zbG false p.1.h) : zjQ (lv.map Prod.fst) = (lv.filter (za0 true)).map Prod.fst := by
 have e : (fun s => zaP s == true) = zaP := by funext s; cases zaP s <;> rfl
 rw [zds, zjQ, e]
 conv => rhs; rw [<- List.map_id ((lv.map Prod.fst).filter zaP)]
 refine List.map_congr_left fun x hx => ?_; obtain ⟨p, hp, rfl⟩ := zmi.1 (zmr.1 hx).1; show ({ p.1 with h := p.1.h.cutW } : Rhs) = p.1; rw [cut_backW (h p hp)]
theorem left_eqF (lv : List (Rhs × Hsl)) (h : ∀ p ∈ lv, zbG true p.1.h) : zjR (lv.map Prod.fst) = (lv.filter (za0 true)).map Prod.fst := by
 have e : (fun s => zaP s == true) = zaP := by funext s; cases zaP s <;> rfl
 rw [zds, zjR, e]
 conv => rhs; rw [<- List.map_id ((lv.map Prod.fst).filter zaP)]
 refine List.map_congr_left fun x hx => ?_; obtain ⟨p, hp, rfl⟩ := zmi.1 (zmr.1 hx).1; show ({ p.1 with h := p.1.h.cutF } : Rhs) = p.1; rw [cut_backF (h p hp)]
theorem zf8 (W : World) (u v : Value) (lu lv : List (Rhs × Hsl)) (b : Nat) (ho : OwnI b W u lu) (hv : SlH Yes W v (lv.filter (za0 true))) (hm : lu.map Prod.fst = (lv.filter (za0 true)).map Prod.fst) (hl : lv.length <= 1048576) (hf : ∀ p ∈ lv, p.1.h.few 1099511627776) : Calls prog 37 #[u, v] W (zao W) := by
 refine zhi Yes Yes u v lu _ W ho.sl.yes hv hm ?_ fun p hp => ?_
 ·have h1 := zmC List.length hm
  simp only [zma] at h1; have h2 := zmK (za0 true) lv; omega
 ·have h1 : p.1 ∈ (lv.filter (za0 true)).map Prod.fst := by rw [<- hm]; exact zmi.2 ⟨p, hp, rfl⟩
  obtain ⟨x, hx, he⟩ := zmi.1 h1; rw [<- he]; exact hf x (zmr.1 hx).1
theorem back_walk (te : TypeId) (pe : Value) (P : Nat -> Prop) (bB : Nat) (hc : bB <= 255) (q : Prt) (s0 s1 s2 s3 s4 s5 s6 : Value) (w : World) (hq : q.At P w s0 s1 s2 s3 s4 s5 s6) (hw : q.Wide)
 (hE : w.cell? ⟨2, 0, none⟩ = some (.iface te pe)) :
 Calls prog 8 #[.int .u8 bB, .agg #[s0, s1, s2, s3, s4, s5, s6]] w (zao w) := by
 have iP : ∀ W, Fr (fun _ => False) w W -> Calls prog 34 #[.agg #[s0, s1, s2, s3, s4, s5, s6]] W (zau q.Fits W) := fun W hF => zlm P q s0 s1 s2 s3 s4 s5 s6 W (hq.fr hF (fun _ _ e => e)) hw; obtain ⟨A0, c0, rfl⟩ := hq.ser.1.shape; obtain ⟨A1, c1, rfl⟩ := hq.smp.shape; obtain ⟨A2, c2, rfl⟩ := hq.sto.1.shape; obtain ⟨A3, c3, rfl⟩ := hq.exm.1.shape; obtain ⟨A4, c4, rfl⟩ := hq.mta.shape
 obtain ⟨A5, c5, rfl⟩ := hq.mrk.shape; obtain ⟨A6, c6, rfl⟩ := hq.his.1.shape; have b0 : q.Fits -> q.ser.length <= 1099511627776 := fun hf => by have := hf.ser.1; omega
 have b1 : q.Fits -> q.smp.length <= 1099511627776 := fun hf => by have := hf.smp; omega
 have b2 : q.Fits -> q.sto.length <= 1099511627776 := fun hf => by have := hf.sto.1; omega
 have b3 : q.Fits -> q.exm.length <= 1099511627776 := fun hf => by have := hf.exm.1; omega
 have b4 : q.Fits -> q.mta.length <= 1099511627776 := fun hf => by have := hf.mta.1; omega
 have b5 : q.Fits -> q.mrk.length <= 1099511627776 := fun hf => by have := hf.mrk; omega
 have b6 : q.Fits -> q.his.length <= 1099511627776 := fun hf => by have := hf.his.1; omega
 have sh : ∀ s ∈ [Value.slice A0 q.ser.length c0, .slice A1 q.smp.length c1, .slice A2 q.sto.length c2, .slice A3 q.exm.length c3, .slice A4 q.mta.length c4, .slice A5 q.mrk.length c5, .slice A6 q.his.length c6], ∃ A m c, s = .slice A m c := by
  intro s hs; simp only [zmq, zmp, or_false] at hs; rcases hs with rfl | rfl | rfl | rfl | rfl | rfl | rfl <;> exact ⟨_, _, _, rfl⟩
 have hm : bB % 10 = 0 ∨ bB % 10 = 1 ∨ bB % 10 = 2 ∨ bB % 10 = 3 ∨ bB % 10 = 4 ∨ bB % 10 = 5 ∨ bB % 10 = 6 ∨ bB % 10 = 7 ∨ bB % 10 = 8 ∨ bB % 10 = 9 := by omega
 rcases hm with hm | hm | hm | hm | hm | hm | hm | hm | hm | hm
 ·exact zch 1 bB (by omega) (by omega) (by omega) _ q.Fits A0 A1 A2 A3 A4 A5 A6 c0 c1 c2 c3 c4 c5 c6 _ _ _ _ _ _ _ w te pe { Dat.none with ser := (q.ser.map Prod.fst).map fun s => ⟨s.ref, zaE s.labs⟩ } (wrD 1 q.dat) (fun u _ => u = .slice none 0 0) (fun v _ => v = .slice none 0 0) ([] ++ zb4 (q.ser.map Prod.fst)) hE iP
   (fun hf W hF => rightG_1 A0 A1 A2 A3 A4 A5 A6 c0 c1 c2 c3 c4 c5 c6 _ _ _ _ _ _ _ _ (b0 hf) (b1 hf) (b2 hf) (b3 hf) (b4 hf) (b5 hf) (b6 hf) rfl W P q.ser (hq.ser.fr hF (fun _ _ e => e)) rfl (fun p hp => by have := (hf.ser.2 p hp).1; omega))
   (fun hf hp => as_ser (q.ser.map Prod.fst) (fun s hs => by obtain ⟨p, aG, rfl⟩ := zmi.1 hs; exact SerR.ok ⟨(hw.ser p aG).1, (hp.2.2 p aG).wide⟩) (by rw [zma]; have := hp.1; have := hp.2.1; omega)) (by rintro u V rfl; exact ⟨_, _, _, rfl⟩) (fun _ _ _ h _ => h) (fun _ _ _ h _ => h) (fun _ _ => rfl)
   (fun hf hp W hF => zeW _ _ _ _ _ _ _ _ [] q.ser P W (zez P W) (by simp) sh (hq.ser.fr hF (fun _ _ e => e)) (by rw [zma]; have := hp.1; have := hp.2.1; omega) (fun s hs => by obtain ⟨p, aG, rfl⟩ := zmi.1 hs; exact ⟨(hw.ser p aG).1, (hp.2.2 p aG).wide⟩))
   (fun hf hp W hF => zbs 1 (by decide) q _ _ _ _ _ _ _ W (hq.fr hF (fun _ _ e => e)).yes (by have := hp.1; omega) (fun p aG => by have hz : q.sto.length = 0 := (by have := hp.1; have := hp.2.1; omega); rw [zme hz] at aG; cases aG) (by have := hp.1; omega))
   (fun hf hp W ps qs r1 r2 => let ⟨a, b, c⟩ := same_1 q hp.1 hp.2.1 hp.2.2; zaW r1 r2 a b c)
   (fun h => absurd h (by decide))
   (by rintro hf hp W u v rfl rfl; exact zb7 none none 0 0 W)
 ·exact zch 2 bB (by omega) (by omega) (by omega) _ q.Fits A0 A1 A2 A3 A4 A5 A6 c0 c1 c2 c3 c4 c5 c6 _ _ _ _ _ _ _ w te pe { Dat.none with smp := q.smp } (wrD 2 q.dat) (fun u _ => u = .slice none 0 0) (fun v _ => v = .slice none 0 0) ([] ++ zaD q.smp) hE iP
   (fun hf W hF => rightG_2 A0 A1 A2 A3 A4 A5 A6 c0 c1 c2 c3 c4 c5 c6 _ _ _ _ _ _ _ _ (b0 hf) (b1 hf) (b2 hf) (b3 hf) (b4 hf) (b5 hf) (b6 hf) rfl W)
   (fun hf hp => as_smp q.smp hw.smp (by have := hp.1; have := hp.2; omega)) (by rintro u V rfl; exact ⟨_, _, _, rfl⟩) (fun _ _ _ h _ => h) (fun _ _ _ h _ => h) (fun _ _ => rfl)
   (fun hf hp W hF => zc2 _ _ _ _ _ _ _ _ [] q.smp P W (zez P W) (by simp) sh (hq.smp.fr hF (fun _ _ e => e)) (by have := hp.1; have := hp.2; omega) hw.smp)
   (fun hf hp W hF => zbs 2 (by decide) q _ _ _ _ _ _ _ W (hq.fr hF (fun _ _ e => e)).yes (by have := hp.1; omega) (fun p aG => by have hz : q.sto.length = 0 := (by have := hp.1; have := hp.2; omega); rw [zme hz] at aG; cases aG) (by have := hp.1; omega))
   (fun hf hp W ps qs r1 r2 => let ⟨a, b, c⟩ := same_2 q hp.1 hp.2; zaW r1 r2 a b c)
   (fun h => absurd h (by decide))
   (by rintro hf hp W u v rfl rfl; exact zb7 none none 0 0 W)
 ·exact zch 3 bB (by omega) (by omega) (by omega) _ q.Fits A0 A1 A2 A3 A4 A5 A6 c0 c1 c2 c3 c4 c5 c6 _ _ _ _ _ _ _ w te pe { Dat.none with sto := (zbY (q.sto.map Prod.fst)).map one } (wrD 3 q.dat) (fun u _ => u = .slice none 0 0) (fun v _ => v = .slice none 0 0) ([] ++ zbC (q.sto.map Prod.fst)) hE iP
   (fun hf W hF => rightG_3 A0 A1 A2 A3 A4 A5 A6 c0 c1 c2 c3 c4 c5 c6 _ _ _ _ _ _ _ _ (b0 hf) (b1 hf) (b2 hf) (b3 hf) (b4 hf) (b5 hf) (b6 hf) rfl W P q.sto (hq.sto.fr hF (fun _ _ e => e)) rfl (fun p hp => by have := hf.sto.2 p hp; omega))
   (fun hf hp => as_sto (q.sto.map Prod.fst) (fun s hs => by obtain ⟨p, aG, rfl⟩ := zmi.1 hs; exact ⟨(hw.sto p aG).1, (hw.sto p aG).2.2⟩) (by rw [zma]; have := hp.1; have := hp.2.1; omega) (fun s hs => by obtain ⟨p, aG, rfl⟩ := zmi.1 hs; have := hp.2.2 p aG; omega)) (by rintro u V rfl; exact ⟨_, _, _, rfl⟩) (fun _ _ _ h _ => h) (fun _ _ _ h _ => h) (fun _ _ => rfl)
   (fun hf hp W hF => zeV _ _ _ _ _ _ _ _ [] q.sto P W (zez P W) (by simp) sh (hq.sto.fr hF (fun _ _ e => e)) (by have := hp.1; have := hp.2.1; omega) (fun s hs => by obtain ⟨p, aG, rfl⟩ := zmi.1 hs; have := hp.2.2 p aG; omega) (fun s hs => by obtain ⟨p, aG, rfl⟩ := zmi.1 hs; exact ⟨(hw.sto p aG).1, (hw.sto p aG).2.2⟩))
   (fun hf hp W hF => zbs 3 (by decide) q _ _ _ _ _ _ _ W (hq.fr hF (fun _ _ e => e)).yes (by have := hp.1; omega) (fun p aG => by have := hp.2.2 p aG; omega) (by have := hp.1; omega))
   (fun hf hp W ps qs r1 r2 => let ⟨a, b, c⟩ := same_3 q hp.1 hp.2.1 hp.2.2; zaW r1 r2 a b c)
   (fun h => absurd h (by decide))
   (by rintro hf hp W u v rfl rfl; exact zb7 none none 0 0 W)
 ·exact zch 4 bB (by omega) (by omega) (by omega) _ q.Fits A0 A1 A2 A3 A4 A5 A6 c0 c1 c2 c3 c4 c5 c6 _ _ _ _ _ _ _ w te pe { Dat.none with exm := (q.exm.map Prod.fst).map fun s => ⟨s.ref, s.t, s.v, zaE s.labs⟩ } (wrD 4 q.dat) (fun u _ => u = .slice none 0 0) (fun v _ => v = .slice none 0 0) ([] ++ zbD (q.exm.map Prod.fst)) hE iP
   (fun hf W hF => rightG_4 A0 A1 A2 A3 A4 A5 A6 c0 c1 c2 c3 c4 c5 c6 _ _ _ _ _ _ _ _ (b0 hf) (b1 hf) (b2 hf) (b3 hf) (b4 hf) (b5 hf) (b6 hf) rfl W P q.exm (hq.exm.fr hF (fun _ _ e => e)) rfl (fun p hp => by have := (hf.exm.2 p hp).1; omega))
   (fun hf hp => as_exm (q.exm.map Prod.fst) (fun s hs => by obtain ⟨p, aG, rfl⟩ := zmi.1 hs; exact ExmR.ok ⟨(hw.exm p aG).1, (hp.2.2 p aG).wide⟩) (by rw [zma]; have := hp.1; have := hp.2.1; omega)) (by rintro u V rfl; exact ⟨_, _, _, rfl⟩) (fun _ _ _ h _ => h) (fun _ _ _ h _ => h) (fun _ _ => rfl)
   (fun hf hp W hF => zed _ _ _ _ _ _ _ _ [] q.exm P W (zez P W) (by simp) sh (hq.exm.fr hF (fun _ _ e => e)) (by rw [zma]; have := hp.1; have := hp.2.1; omega) (fun s hs => by obtain ⟨p, aG, rfl⟩ := zmi.1 hs; exact ⟨(hw.exm p aG).1, (hp.2.2 p aG).wide⟩))
   (fun hf hp W hF => zbs 4 (by decide) q _ _ _ _ _ _ _ W (hq.fr hF (fun _ _ e => e)).yes (by have := hp.1; omega) (fun p aG => by have hz : q.sto.length = 0 := (by have := hp.1; have := hp.2.1; omega); rw [zme hz] at aG; cases aG) (by have := hp.1; omega))
   (fun hf hp W ps qs r1 r2 => let ⟨a, b, c⟩ := same_4 q hp.1 hp.2.1 hp.2.2; zaW r1 r2 a b c)
   (fun h => absurd h (by decide))
   (by rintro hf hp W u v rfl rfl; exact zb7 none none 0 0 W)
 ·exact zch 5 bB (by omega) (by omega) (by omega) _ q.Fits A0 A1 A2 A3 A4 A5 A6 c0 c1 c2 c3 c4 c5 c6 _ _ _ _ _ _ _ w te pe { Dat.none with mrk := q.mrk } (wrD 5 q.dat) (fun u _ => u = .slice none 0 0) (fun v _ => v = .slice none 0 0) ([] ++ zbb q.mrk) hE iP
   (fun hf W hF => rightG_5 A0 A1 A2 A3 A4 A5 A6 c0 c1 c2 c3 c4 c5 c6 _ _ _ _ _ _ _ _ (b0 hf) (b1 hf) (b2 hf) (b3 hf) (b4 hf) (b5 hf) (b6 hf) rfl W)
   (fun hf hp => as_mrk q.mrk hw.mrk (by have := hp.1; have := hp.2; omega)) (by rintro u V rfl; exact ⟨_, _, _, rfl⟩) (fun _ _ _ h _ => h) (fun _ _ _ h _ => h) (fun _ _ => rfl)
   (fun hf hp W hF => zeH _ _ _ _ _ _ _ _ [] q.mrk P W (zez P W) (by simp) sh (hq.mrk.fr hF (fun _ _ e => e)) (by have := hp.1; have := hp.2; omega) hw.mrk)
   (fun hf hp W hF => zbs 5 (by decide) q _ _ _ _ _ _ _ W (hq.fr hF (fun _ _ e => e)).yes (by have := hp.1; omega) (fun p aG => by have hz : q.sto.length = 0 := (by have := hp.1; have := hp.2; omega); rw [zme hz] at aG; cases aG) (by have := hp.1; omega))
   (fun hf hp W ps qs r1 r2 => let ⟨a, b, c⟩ := same_5 q hp.1 hp.2; zaW r1 r2 a b c)
   (fun h => absurd h (by decide))
   (by rintro hf hp W u v rfl rfl; exact zb7 none none 0 0 W)
 ·exact zch 6 bB (by omega) (by omega) (by omega) _ q.Fits A0 A1 A2 A3 A4 A5 A6 c0 c1 c2 c3 c4 c5 c6 _ _ _ _ _ _ _ w te pe { Dat.none with mta := q.mta } (wrD 6 q.dat) (fun u _ => u = .slice none 0 0) (fun v _ => v = .slice none 0 0) ([] ++ zbL q.mta) hE iP
   (fun hf W hF => rightG_6 A0 A1 A2 A3 A4 A5 A6 c0 c1 c2 c3 c4 c5 c6 _ _ _ _ _ _ _ _ (b0 hf) (b1 hf) (b2 hf) (b3 hf) (b4 hf) (b5 hf) (b6 hf) rfl W P q.mta (hq.mta.fr hF (fun _ _ e => e)) rfl (fun p hp => by have h1 := (hf.mta.2 p hp).1; have h2 := (hf.mta.2 p hp).2; exact ⟨by omega, by omega⟩))
   (fun hf hp => as_mta q.mta (fun s hs => by have := hp.2.2 s hs; exact ⟨(hw.mta s hs).1, by omega, by omega⟩) (by have := hp.1; have := hp.2.1; omega)) (by rintro u V rfl; exact ⟨_, _, _, rfl⟩) (fun _ _ _ h _ => h) (fun _ _ _ h _ => h) (fun _ _ => rfl)
   (fun hf hp W hF => zes _ _ _ _ _ _ _ _ [] q.mta P W (zez P W) (by simp) sh (hq.mta.fr hF (fun _ _ e => e)) (by have := hp.1; have := hp.2.1; omega) (fun s hs => by have := hp.2.2 s hs; exact ⟨(hw.mta s hs).1, by omega, by omega⟩))
   (fun hf hp W hF => zbs 6 (by decide) q _ _ _ _ _ _ _ W (hq.fr hF (fun _ _ e => e)).yes (by have := hp.1; omega) (fun p aG => by have hz : q.sto.length = 0 := (by have := hp.1; have := hp.2.1; omega); rw [zme hz] at aG; cases aG) (by have := hp.1; omega))
   (fun hf hp W ps qs r1 r2 => let ⟨a, b, c⟩ := same_6 q hp.1 hp.2.1; zaW r1 r2 a b c)
   (fun h => absurd h (by decide))
   (by rintro hf hp W u v rfl rfl; exact zb7 none none 0 0 W)
 ·exact zch 7 bB (by omega) (by omega) (by omega) _ q.Fits A0 A1 A2 A3 A4 A5 A6 c0 c1 c2 c3 c4 c5 c6 _ _ _ _ _ _ _ w te pe { Dat.none with his := (q.his.map Prod.fst).filter (fun s => !zaP s) } (wrD 7 q.dat) (fun u V => LeftIs 0 (zjQ (q.his.map Prod.fst)) u V) (fun v V => SlH Yes V v (q.his.filter (za0 true))) ([] ++ za5 7 (fun s => !zaP s) (q.his.map Prod.fst)) hE iP
   (fun hf W hF => rightG_7 A0 A1 A2 A3 A4 A5 A6 c0 c1 c2 c3 c4 c5 c6 _ _ _ _ _ _ _ _ (b0 hf) (b1 hf) (b2 hf) (b3 hf) (b4 hf) (b5 hf) (b6 hf) rfl W P q.his (hq.his.fr hF (fun _ _ e => e)) rfl (fun p hp => zh4 (hf.his.2 p hp)))
   (fun hf hp => as_hsW 7 (by decide) (fun s => !zaP s) (q.his.map Prod.fst) (fun s hs => by obtain ⟨p, aG, rfl⟩ := zmi.1 hs; exact zfp (hw.his p aG) (hp.2.2.1 p aG)) (by rw [zma]; have := hp.1; have := hp.2.1; omega) (fun s hs => by obtain ⟨p, aG, rfl⟩ := zmi.1 hs; exact hp.2.2.1 p aG)) (fun u V h => h.shape) (fun u V V' h hf => by obtain ⟨lu, hm, ho⟩ := h; exact ⟨lu, hm, ho.fr hf (fun _ _ _ e => e)⟩) (fun u V V' h hf => h.fr hf (fun _ _ e => e)) (fun h => absurd (by decide) h)
   (fun hf hp W hF => (zgd _ _ _ _ _ _ _ _ [] q.his P W (zez P W) (by simp) sh (hq.his.fr hF (fun _ _ e => e)) (by have := hp.1; have := hp.2.1; omega) (fun s hs => by obtain ⟨p, aG, rfl⟩ := zmi.1 hs; exact zfp (hw.his p aG) (hp.2.2.1 p aG)) (by rcases hp.2.2.2 with h | ⟨p, h1, h2⟩; exact .inl (by rw [h]; rfl); exact .inr ⟨p.1, zmi.2 ⟨p, h1, rfl⟩, h2⟩)).mono fun r w' h => by obtain ⟨bv, lv, e, ⟨lu, kO, ho⟩, ab, kW⟩ := h; exact ⟨bv, lv, e, ⟨lu, kO, ho.mono (zlX _)⟩, ab, kW⟩)
   (fun hf hp W hF => zbs 7 (by decide) q _ _ _ _ _ _ _ W (hq.fr hF (fun _ _ e => e)).yes (by have := hp.1; omega) (fun p aG => by have hz : q.sto.length = 0 := (by have := hp.1; have := hp.2.1; omega); rw [zme hz] at aG; cases aG) (by have := hp.1; omega))
   (fun hf hp W ps qs r1 r2 => let ⟨a, b, c⟩ := same_7 q hp.1 hp.2.1 hp.2.2.1; zaW r1 r2 a b c)
   (fun _ hf hp W hF => (zdD true P _ q.his W (hq.his.fr hF (fun _ _ e => e)) (by have := hp.1; omega)).mono fun r w' h => by obtain ⟨v, e, ho, kW⟩ := h; obtain ⟨a, c, hv⟩ := zaa ho; exact ⟨v, e, ⟨_, _, _, hv⟩, ⟨(zmU ho).yes, fun p aG => ((hq.his.2 p (zmr.1 aG).1).fr (hF.same kW) (fun _ _ e => e)).yes⟩, kW⟩)
   (fun hf hp W u v g1 g2 => by obtain ⟨lu, kO, ho⟩ := g1; exact zf8 W u v lu q.his _ ho g2 (kO.trans (left_eqW q.his hp.2.2.1)) (by have := hp.1; omega) (fun p aG => zer (hp.2.2.1 p aG).1))
 ·exact zch 8 bB (by omega) (by omega) (by omega) _ q.Fits A0 A1 A2 A3 A4 A5 A6 c0 c1 c2 c3 c4 c5 c6 _ _ _ _ _ _ _ w te pe { Dat.none with his := (q.his.map Prod.fst).filter (fun s => !zaP s) } (wrD 8 q.dat) (fun u V => LeftIs 0 (zjR (q.his.map Prod.fst)) u V) (fun v V => SlH Yes V v (q.his.filter (za0 true))) ([] ++ za6 8 (fun s => !zaP s) (q.his.map Prod.fst)) hE iP
   (fun hf W hF => rightG_8 A0 A1 A2 A3 A4 A5 A6 c0 c1 c2 c3 c4 c5 c6 _ _ _ _ _ _ _ _ (b0 hf) (b1 hf) (b2 hf) (b3 hf) (b4 hf) (b5 hf) (b6 hf) rfl W P q.his (hq.his.fr hF (fun _ _ e => e)) rfl (fun p hp => zh4 (hf.his.2 p hp)))
   (fun hf hp => as_hsF 8 (by decide) (fun s => !zaP s) (q.his.map Prod.fst) (fun s hs => by obtain ⟨p, aG, rfl⟩ := zmi.1 hs; exact zfp (hw.his p aG) (hp.2.2.1 p aG)) (by rw [zma]; have := hp.1; have := hp.2.1; omega) (fun s hs => by obtain ⟨p, aG, rfl⟩ := zmi.1 hs; exact hp.2.2.1 p aG)) (fun u V h => h.shape) (fun u V V' h hf => by obtain ⟨lu, hm, ho⟩ := h; exact ⟨lu, hm, ho.fr hf (fun _ _ _ e => e)⟩) (fun u V V' h hf => h.fr hf (fun _ _ e => e)) (fun h => absurd (by decide) h)
   (fun hf hp W hF => (zge _ _ _ _ _ _ _ _ [] q.his P W (zez P W) (by simp) sh (hq.his.fr hF (fun _ _ e => e)) (by have := hp.1; have := hp.2.1; omega) (fun s hs => by obtain ⟨p, aG, rfl⟩ := zmi.1 hs; exact zfp (hw.his p aG) (hp.2.2.1 p aG)) (by rcases hp.2.2.2 with h | ⟨p, h1, h2⟩; exact .inl (by rw [h]; rfl); exact .inr ⟨p.1, zmi.2 ⟨p, h1, rfl⟩, h2⟩)).mono fun r w' h => by obtain ⟨bv, lv, e, ⟨lu, kO, ho⟩, ab, kW⟩ := h; exact ⟨bv, lv, e, ⟨lu, kO, ho.mono (zlX _)⟩, ab, kW⟩)
   (fun hf hp W hF => zbs 8 (by decide) q _ _ _ _ _ _ _ W (hq.fr hF (fun _ _ e => e)).yes (by have := hp.1; omega) (fun p aG => by have hz : q.sto.length = 0 := (by have := hp.1; have := hp.2.1; omega); rw [zme hz] at aG; cases aG) (by have := hp.1; omega))
   (fun hf hp W ps qs r1 r2 => let ⟨a, b, c⟩ := same_8 q hp.1 hp.2.1 hp.2.2.1; zaW r1 r2 a b c)
   (fun _ hf hp W hF => (zdD true P _ q.his W (hq.his.fr hF (fun _ _ e => e)) (by have := hp.1; omega)).mono fun r w' h => by obtain ⟨v, e, ho, kW⟩ := h; obtain ⟨a, c, hv⟩ := zaa ho; exact ⟨v, e, ⟨_, _, _, hv⟩, ⟨(zmU ho).yes, fun p aG => ((hq.his.2 p (zmr.1 aG).1).fr (hF.same kW) (fun _ _ e => e)).yes⟩, kW⟩)
   (fun hf hp W u v g1 g2 => by obtain ⟨lu, kO, ho⟩ := g1; exact zf8 W u v lu q.his _ ho g2 (kO.trans (left_eqF q.his hp.2.2.1)) (by have := hp.1; omega) (fun p aG => zer (hp.2.2.1 p aG).1))
 ·exact zch 9 bB (by omega) (by omega) (by omega) _ q.Fits A0 A1 A2 A3 A4 A5 A6 c0 c1 c2 c3 c4 c5 c6 _ _ _ _ _ _ _ w te pe { Dat.none with his := (q.his.map Prod.fst).filter (fun _ => true) } (wrD 9 q.dat) (fun u _ => u = .slice none 0 0) (fun v _ => v = .slice none 0 0) ([] ++ za5 9 (fun _ => true) (q.his.map Prod.fst)) hE iP
   (fun hf W hF => rightG_9 A0 A1 A2 A3 A4 A5 A6 c0 c1 c2 c3 c4 c5 c6 _ _ _ _ _ _ _ _ (b0 hf) (b1 hf) (b2 hf) (b3 hf) (b4 hf) (b5 hf) (b6 hf) rfl W P q.his (hq.his.fr hF (fun _ _ e => e)) rfl (fun p hp => zh4 (hf.his.2 p hp)))
   (fun hf hp => as_hsW 9 (by decide) (fun _ => true) (q.his.map Prod.fst) (fun s hs => by obtain ⟨p, aG, rfl⟩ := zmi.1 hs; exact zfp (hw.his p aG) (hp.2.2.1 p aG)) (by rw [zma]; have := hp.1; have := hp.2.1; omega) (fun s hs => by obtain ⟨p, aG, rfl⟩ := zmi.1 hs; exact hp.2.2.1 p aG)) (by rintro u V rfl; exact ⟨_, _, _, rfl⟩) (fun _ _ _ h _ => h) (fun _ _ _ h _ => h) (fun _ _ => rfl)
   (fun hf hp W hF => zfA _ _ _ _ _ _ _ _ [] q.his P W (zez P W) (by simp) sh (hq.his.fr hF (fun _ _ e => e)) (by have := hp.1; have := hp.2.1; omega) (fun s hs => by obtain ⟨p, aG, rfl⟩ := zmi.1 hs; exact zfp (hw.his p aG) (hp.2.2.1 p aG)))
   (fun hf hp W hF => zbs 9 (by decide) q _ _ _ _ _ _ _ W (hq.fr hF (fun _ _ e => e)).yes (by have := hp.1; omega) (fun p aG => by have hz : q.sto.length = 0 := (by have := hp.1; have := hp.2.1; omega); rw [zme hz] at aG; cases aG) (by have := hp.1; omega))
   (fun hf hp W ps qs r1 r2 => let ⟨a, b, c⟩ := same_9 q hp.1 hp.2.1 hp.2.2.1; zaW r1 r2 a b c)
   (fun h => absurd h (by decide))
   (by rintro hf hp W u v rfl rfl; exact zb7 none none 0 0 W)
 ·exact zch 10 bB (by omega) (by omega) (by omega) _ q.Fits A0 A1 A2 A3 A4 A5 A6 c0 c1 c2 c3 c4 c5 c6 _ _ _ _ _ _ _ w te pe { Dat.none with his := (q.his.map Prod.fst).filter (fun _ => true) } (wrD 10 q.dat) (fun u _ => u = .slice none 0 0) (fun v _ => v = .slice none 0 0) ([] ++ za6 10 (fun _ => true) (q.his.map Prod.fst)) hE iP
   (fun hf W hF => rightG_10 A0 A1 A2 A3 A4 A5 A6 c0 c1 c2 c3 c4 c5 c6 _ _ _ _ _ _ _ _ (b0 hf) (b1 hf) (b2 hf) (b3 hf) (b4 hf) (b5 hf) (b6 hf) rfl W P q.his (hq.his.fr hF (fun _ _ e => e)) rfl (fun p hp => zh4 (hf.his.2 p hp)))
   (fun hf hp => as_hsF 10 (by decide) (fun _ => true) (q.his.map Prod.fst) (fun s hs => by obtain ⟨p, aG, rfl⟩ := zmi.1 hs; exact zfp (hw.his p aG) (hp.2.2.1 p aG)) (by rw [zma]; have := hp.1; have := hp.2.1; omega) (fun s hs => by obtain ⟨p, aG, rfl⟩ := zmi.1 hs; exact hp.2.2.1 p aG)) (by rintro u V rfl; exact ⟨_, _, _, rfl⟩) (fun _ _ _ h _ => h) (fun _ _ _ h _ => h) (fun _ _ => rfl)
   (fun hf hp W hF => zfB _ _ _ _ _ _ _ _ [] q.his P W (zez P W) (by simp) sh (hq.his.fr hF (fun _ _ e => e)) (by have := hp.1; have := hp.2.1; omega) (fun s hs => by obtain ⟨p, aG, rfl⟩ := zmi.1 hs; exact zfp (hw.his p aG) (hp.2.2.1 p aG)))
   (fun hf hp W hF => zbs 10 (by decide) q _ _ _ _ _ _ _ W (hq.fr hF (fun _ _ e => e)).yes (by have := hp.1; omega) (fun p aG => by have hz : q.sto.length = 0 := (by have := hp.1; have := hp.2.1; omega); rw [zme hz] at aG; cases aG) (by have := hp.1; omega))
   (fun hf hp W ps qs r1 r2 => let ⟨a, b, c⟩ := same_10 q hp.1 hp.2.1 hp.2.2.1; zaW r1 r2 a b c)
   (fun h => absurd h (by decide))
   (by rintro hf hp W u v rfl rfl; exact zb7 none none 0 0 W)
theorem back_lifted (os : Os) (kA : os.Started) (H : Type) (enc : TypeId × Value -> H) :
 ReturnsInHanded {} checked os 8 .any (fun w args => (Rows.fnRecordBackSpec.pre enc prog f8 [] false w args /\ laidMetH prog Rows.fnRecordBackRow.laid w) /\ sizedMet enc prog f8 (OpenSpec.ofChange Rows.fnRecordBackSpec) false w args)
  (Rows.fnRecordBackSpec.post enc prog f8 false true false false) := by
 refine returnsInHanded_of_change_and (C := checked) (X := fun w _ => laidMetH prog Rows.fnRecordBackRow.laid w) (fun _ _ _ hh h => h.of_heap hh) ownKnobs kA (by kernel_rfl) func8
  (ChangeSpec.witness_shaped (enc := enc) (C := checked) (os := os) (X := fun w _ => laidMetH prog Rows.fnRecordBackRow.laid w) false (World.doorLaid prog 400 os) #[.int .u8 0, .agg #[.slice none 0 0, .slice none 0 0, .slice none 0 0, .slice none 0 0, .slice none 0 0, .slice none 0 0, .slice none 0 0]] 8 rfl (World.shaped_of_RefB (by kernel_rfl) (by kernel_rfl)) (by kernel_rfl) (by kernel_rfl) (by kernel_rfl) (door_met os _)) ?_
 intro W base args ds gs before lO hW _ _ hL _; have mJ : ∀ (j : Nat) t v, f8.params[j]? = some t -> args[j]? = some v -> Value.okWide prog W .any base t v := lO; have hW' := hW; obtain ⟨p, q, hA0, hV, rfl, hfz, hnd⟩ := hW; have hA : DataW.TrodAll enc prog W 0 (fun _ => true) true f8.params.toList args.toList ds p := hA0; rw [params8] at hA mJ
 obtain ⟨v0, vs0, d0, ds0, p0, q0, hargs, rfl, rfl, h0, r0⟩ := trodAll_cons hA; obtain ⟨v1, vs1, d1, ds1, p1, q1, rfl, rfl, rfl, h1, r1⟩ := trodAll_cons r0; obtain ⟨rfl, rfl, rfl⟩ := trodAll_nil r1; obtain rfl : args = #[v0, v1] := by cases args; simp_all
 obtain ⟨rfl, rfl⟩ := trodVars_none hV; obtain ⟨k, rfl, rfl, rfl, wk⟩ := open_int underlying5 (mJ 0 5 v0 rfl rfl) h0; obtain ⟨cs, rfl, bF⟩ := okWide_struct underlying54 (mJ 1 54 v1 rfl rfl); have k1 := h1; have lt1 : ∀ x ∈ p1, x.block < W.heap.size := by obtain ⟨m, hm⟩ := k1; exact DataW.trod_lt m _ _ _ hm
 obtain ⟨qq, s0, s1, s2, s3, s4, s5, s6, rfl, hq, hw⟩ := parts_in h1 (bF.trans (by kernel_rfl)); obtain ⟨te, pe, hE⟩ := errCell hL; have hk0 := u8_wf wk; obtain ⟨m, rfl⟩ : ∃ m : Nat, k = m := ⟨k.toNat, by omega⟩; clear hA0 lO; refine (back_walk te pe _ m (by omega) qq s0 s1 s2 s3 s4 s5 s6 W hq hw hE).mono fun e W' ⟨he, hf⟩ => ?_; subst he; have hB := hf.none_toBelow
 exact ⟨_, rfl, _, _, _, [], _, [], hW', trodAll_mk1 (shut_bool underlying4 _), (trodAll_cons_mk (shut_int underlying5 wk) (trodAll_cons_mk (Below.trod zkY (by kernel_rfl) (of_decide_eq_true (by kernel_rfl)) k1 hB lt1) trodAll_mk0)), rfl, hB.frame _, fun h => by cases h⟩
end Go.Proofs.YtbkookiigkckdaaGreatDoor
