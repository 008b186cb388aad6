/- Texts of this seat, merged and shortened. -/
import Derived.Test.YtbkookiigkckdaaGreatDoorK20
set_option linter.unusedVariables false
set_option linter.unusedSimpArgs false
set_option maxRecDepth 100000
set_option maxHeartbeats 8000000
namespace Go.Proofs.YtbkookiigkckdaaGreatDoor
open Go.RowKit Go.Proofs.Tryz
def SerR (s : Ser) : Prop := s.ref < 18446744073709551616 /\ LabOk s.labs 12 600
def ExmR (s : Exm) : Prop := (s.ref < 18446744073709551616 /\ -9223372036854775808 <= s.t /\ s.t <= 9223372036854775807 /\ s.v < 18446744073709551616) /\ LabOk s.labs 12 600
theorem SerR.lab {s : Ser} (h : SerR s) : LabOk s.labs 12 600 := h.2
theorem ExmR.lab {s : Exm} (h : ExmR s) : LabOk s.labs 12 600 := h.2
theorem SerR.ok {s : Ser} (h : SerR s) : zhd s := ⟨h.1, h.2.1, fun p hp => (h.2.2.1 p hp).2, h.2.2.2⟩
theorem ExmR.ok {s : Exm} (h : ExmR s) : zfJ s := ⟨h.1.1, h.1.2.1, h.1.2.2.1, h.1.2.2.2, h.2.1, fun p hp => (h.2.2.1 p hp).2, h.2.2.2⟩
theorem zhI (bk bp bb br : Nat) (ep lp : Value) (P : Nat -> Prop) (s0 s1 s2 s3 s4 s5 s6 v z : Value) (xs : List UInt8) (lv : List (Ser × Value)) (w : World) (hk : Blk w bk 3 #[.int .i64 1]) (hp : Blk w bp 54 #[s0, s1, s2, s3, s4, s5, s6]) (hb : Blk w bb 44 #[v]) (hr : Blk w br 44 #[z])
 (ab : w.ownsRow 0 5 1 v xs.length (bc xs)) (hs : SlR P w s0 lv) (hl : xs.length <= 536870912) (au : (lv.map Prod.fst).length <= 12) (aF : ∀ s ∈ (lv.map Prod.fst), SerR s) (bL : bb ≠ br) :
 Calls prog 90 #[.pointer (some ⟨bk, 0, none⟩), ep, .pointer (some ⟨bp, 0, none⟩), .pointer (some ⟨bb, 0, none⟩), .pointer (some ⟨br, 0, none⟩), lp] w (zcx w br v.ownBlock (xs ++ zb4 (lv.map Prod.fst))) := by
 have iz : bp ≠ br := zmT hp hr (by decide); have k0 := hk.cell 0; have p1 := hp.cell 0; have b0 := hb.cell 0; simp at k0 p1 b0; obtain ⟨a', n', k', rfl⟩ := zab ab; have bw : ∃ A m c, s0 = .slice A m c := let ⟨A, c, h, _⟩ := hs.1; ⟨A, _, c, h⟩
 obtain ⟨A, m, c, rfl⟩ := bw; have hQ := zeU P (.slice A m c) lv w.drew hs (by rw [zma] at au; omega) (fun p hp => (aF p.1 (zmi.2 ⟨p, hp, rfl⟩)).lab); have HB := zlM hb; have HP := zlM hp; have HR := zlM hr; have HO := zlM ab; have gu : w.drew.cell? ⟨bp, 0, none⟩ = some (.slice A m c) := p1
 have gX : w.drew.cell? ⟨bb, 0, none⟩ = some (.slice a' n' k') := b0; clear hk hp hb hr ab hs; go_enter func90, ntmps90; go_wp2_with fail
 have HW := zlM aF; clear aF; go_region_held3 (fun w' => w'.cell? ⟨bp, 0, none⟩ = some (.slice A m c) /\ w'.cell? ⟨bb, 0, none⟩ = some (.slice a' n' k'))
  ((first | (go_split_ands; refine ⟨?_, ?_⟩ <;> first | exact ((HP.out.drew).fr ag (fun e => e)).cell 0 | exact ((HB.out.drew).fr ag (fun e => e)).cell 0) | (go_split_ands; refine ⟨?_, ?_⟩ <;> first | exact KP.out.cell 0 | exact KB.out.cell 0) | (go_split_ands; refine ⟨?_, ?_⟩ <;> first | exact (KP.out.far (p := ⟨br, 0, none⟩) iz _).cell 0 | exact (KB.out.far (p := ⟨br, 0, none⟩) bL _).cell 0) | go_keep))
  ((first
    | (go_at_call 69; refine hQ.mono ?_; rintro r1 w1 ⟨v1, rfl, an, ag⟩)
    | (go_at_call 91; refine (zj5 ep v1 (fun g => v1.ownBlock = some g) (.slice a' n' k') xs (lv.map Prod.fst) w1 (zmU an) (zai (World.ownsRow.drew HO.out) ag (fun _ _ e => e)) hl au (fun s hs => (HW.out s hs).ok) (zc0 an HO.out (zlY _))).mono ?_; rintro r2 w2 ⟨v2, rfl, af, ar, bn⟩; obtain ⟨KP, KB, KR⟩ := za8 HP.out HB.out HR.out HO.out ag ar; have q0 := KR.out.cell 0; simp at q0; have q1 := KR.out.frozen 0; obtain ⟨a2, n2, k2, rfl⟩ := zab af)))
 have HE : Fr (fun k => some k = (Value.slice a' n' k').ownBlock ∨ k = br) w (w2.setCell ⟨br, 0, none⟩ (.slice a2 n2 k2)) :=
  ((((zmR (fun k => some k = (Value.slice a' n' k').ownBlock ∨ k = br) w).drew).trans ag (fun _ _ e => e.elim)).trans ar (fun _ _ e => .inl e)).setCell (p := ⟨br, 0, none⟩) (.inl (.inr rfl)) _
 have HV : Blk (w2.setCell ⟨br, 0, none⟩ (.slice a2 n2 k2)) br 44 #[.slice a2 n2 k2] := by simpa using KR.out.set_ 0 (.slice a2 n2 k2)
 have HF := zlM HE; have iS := zlM HV; have eV : (w2.setCell ⟨br, 0, none⟩ (.slice a2 n2 k2)).ownsRow 0 5 1 (.slice a2 n2 k2) (xs ++ zb4 (lv.map Prod.fst)).length (bc (xs ++ zb4 (lv.map Prod.fst))) := zai af (Fr.put_ w2 br 0 _) (fun g hg e => zak af KR.out (by decide) (by rw [hg, e])); have dR := zlM eV; have bF := ag.size; have gh := zlM bn
 clear HE HV eV an ag af ar bn q0 q1 hQ p1 gu b0 gX; go_wp2; go_end0; refine ⟨rfl, _, iS.out, dR.out, HF.out, ?_⟩; rcases gh.out with h | ⟨k, h, hk⟩
 ·exact .inl h
 ·exact .inr ⟨k, h, by simp at bF; omega⟩
theorem zeW (s0 s1 s2 s3 s4 s5 s6 bv : Value) (xs : List UInt8) (lv : List (Ser × Value)) (P : Nat -> Prop) (w : World) (hb : Sl P w bv 1 xs.length (bc xs)) (bg : xs.length <= 536870912)
 (au : ∀ s ∈ [s0, s1, s2, s3, s4, s5, s6], ∃ A m c, s = .slice A m c) (hs : SlR P w s0 lv) (dp : (lv.map Prod.fst).length <= 12) (aF : ∀ s ∈ (lv.map Prod.fst), SerR s) :
 Calls prog 31 #[.int .i64 1, .agg #[s0, s1, s2, s3, s4, s5, s6], bv] w (zbP (fun lv _ => lv = .slice none 0 0) w (xs ++ zb4 (lv.map Prod.fst))) := by
 refine zaO 1 s0 s1 s2 s3 s4 s5 s6 bv xs _ P _ w hb (by omega) au (by rintro lv W rfl; exact ⟨_, _, _, rfl⟩) (fun _ _ _ h _ => h) ?_; intro bk be bp bb br bl v W hk hp bK hr hl ab bL hF
 exact (zhI bk bp bb br _ _ P s0 s1 s2 s3 s4 s5 s6 v _ xs lv W hk hp bK hr (zah ab (zlX _)) (hs.fr hF (fun _ _ e => e)) bg dp aF bL).mono fun r w' h => zdc (zah ab (zlX _)) hr hl h
theorem zfy (bk bp bb br : Nat) (ep lp : Value) (P : Nat -> Prop) (s0 s1 s2 s3 s4 s5 s6 v z : Value) (xs : List UInt8) (lv : List (Exm × Value)) (w : World) (hk : Blk w bk 3 #[.int .i64 4]) (hp : Blk w bp 54 #[s0, s1, s2, s3, s4, s5, s6]) (hb : Blk w bb 44 #[v]) (hr : Blk w br 44 #[z])
 (ab : w.ownsRow 0 5 1 v xs.length (bc xs)) (hs : SlX P w s3 lv) (hl : xs.length <= 536870912) (au : (lv.map Prod.fst).length <= 12) (aF : ∀ s ∈ (lv.map Prod.fst), ExmR s) (bL : bb ≠ br) :
 Calls prog 90 #[.pointer (some ⟨bk, 0, none⟩), ep, .pointer (some ⟨bp, 0, none⟩), .pointer (some ⟨bb, 0, none⟩), .pointer (some ⟨br, 0, none⟩), lp] w (zcx w br v.ownBlock (xs ++ zbD (lv.map Prod.fst))) := by
 have iz : bp ≠ br := zmT hp hr (by decide); have k0 := hk.cell 0; have p1 := hp.cell 3; have b0 := hb.cell 0; simp at k0 p1 b0; obtain ⟨a', n', k', rfl⟩ := zab ab; have bw : ∃ A m c, s3 = .slice A m c := let ⟨A, c, h, _⟩ := hs.1; ⟨A, _, c, h⟩
 obtain ⟨A, m, c, rfl⟩ := bw; have hQ := zd1 P (.slice A m c) lv w.drew hs (by rw [zma] at au; omega) (fun p hp => (aF p.1 (zmi.2 ⟨p, hp, rfl⟩)).lab); have HB := zlM hb; have HP := zlM hp; have HR := zlM hr; have HO := zlM ab; have gu : w.drew.cell? ⟨bp, 3, none⟩ = some (.slice A m c) := p1
 have gX : w.drew.cell? ⟨bb, 0, none⟩ = some (.slice a' n' k') := b0; clear hk hp hb hr ab hs; go_enter func90, ntmps90; go_wp2_with fail
 have HW := zlM aF; clear aF; go_region_held3 (fun w' => w'.cell? ⟨bp, 3, none⟩ = some (.slice A m c) /\ w'.cell? ⟨bb, 0, none⟩ = some (.slice a' n' k'))
  ((first | (go_split_ands; refine ⟨?_, ?_⟩ <;> first | exact ((HP.out.drew).fr ag (fun e => e)).cell 3 | exact ((HB.out.drew).fr ag (fun e => e)).cell 0) | (go_split_ands; refine ⟨?_, ?_⟩ <;> first | exact KP.out.cell 3 | exact KB.out.cell 0) | (go_split_ands; refine ⟨?_, ?_⟩ <;> first | exact (KP.out.far (p := ⟨br, 0, none⟩) iz _).cell 3 | exact (KB.out.far (p := ⟨br, 0, none⟩) bL _).cell 0) | go_keep))
  ((first
    | (go_at_call 78; refine hQ.mono ?_; rintro r1 w1 ⟨v1, rfl, an, ag⟩)
    | (go_at_call 94; refine (zj7 ep v1 (fun g => v1.ownBlock = some g) (.slice a' n' k') xs (lv.map Prod.fst) w1 (zmU an) (zai (World.ownsRow.drew HO.out) ag (fun _ _ e => e)) hl au (fun s hs => (HW.out s hs).ok) (zc0 an HO.out (zlY _))).mono ?_; rintro r2 w2 ⟨v2, rfl, af, ar, bn⟩; obtain ⟨KP, KB, KR⟩ := za8 HP.out HB.out HR.out HO.out ag ar; have q0 := KR.out.cell 0; simp at q0; have q1 := KR.out.frozen 0; obtain ⟨a2, n2, k2, rfl⟩ := zab af)))
 have HE : Fr (fun k => some k = (Value.slice a' n' k').ownBlock ∨ k = br) w (w2.setCell ⟨br, 0, none⟩ (.slice a2 n2 k2)) :=
  ((((zmR (fun k => some k = (Value.slice a' n' k').ownBlock ∨ k = br) w).drew).trans ag (fun _ _ e => e.elim)).trans ar (fun _ _ e => .inl e)).setCell (p := ⟨br, 0, none⟩) (.inl (.inr rfl)) _
 have HV : Blk (w2.setCell ⟨br, 0, none⟩ (.slice a2 n2 k2)) br 44 #[.slice a2 n2 k2] := by simpa using KR.out.set_ 0 (.slice a2 n2 k2)
 have HF := zlM HE; have iS := zlM HV; have eV : (w2.setCell ⟨br, 0, none⟩ (.slice a2 n2 k2)).ownsRow 0 5 1 (.slice a2 n2 k2) (xs ++ zbD (lv.map Prod.fst)).length (bc (xs ++ zbD (lv.map Prod.fst))) := zai af (Fr.put_ w2 br 0 _) (fun g hg e => zak af KR.out (by decide) (by rw [hg, e])); have dR := zlM eV; have bF := ag.size; have gh := zlM bn
 clear HE HV eV an ag af ar bn q0 q1 hQ p1 gu b0 gX; go_wp2; go_end0; refine ⟨rfl, _, iS.out, dR.out, HF.out, ?_⟩; rcases gh.out with h | ⟨k, h, hk⟩
 ·exact .inl h
 ·exact .inr ⟨k, h, by simp at bF; omega⟩
theorem zed (s0 s1 s2 s3 s4 s5 s6 bv : Value) (xs : List UInt8) (lv : List (Exm × Value)) (P : Nat -> Prop) (w : World) (hb : Sl P w bv 1 xs.length (bc xs)) (bg : xs.length <= 536870912)
 (au : ∀ s ∈ [s0, s1, s2, s3, s4, s5, s6], ∃ A m c, s = .slice A m c) (hs : SlX P w s3 lv) (dp : (lv.map Prod.fst).length <= 12) (aF : ∀ s ∈ (lv.map Prod.fst), ExmR s) :
 Calls prog 31 #[.int .i64 4, .agg #[s0, s1, s2, s3, s4, s5, s6], bv] w (zbP (fun lv _ => lv = .slice none 0 0) w (xs ++ zbD (lv.map Prod.fst))) := by
 refine zaO 4 s0 s1 s2 s3 s4 s5 s6 bv xs _ P _ w hb (by omega) au (by rintro lv W rfl; exact ⟨_, _, _, rfl⟩) (fun _ _ _ h _ => h) ?_; intro bk be bp bb br bl v W hk hp bK hr hl ab bL hF
 exact (zfy bk bp bb br _ _ P s0 s1 s2 s3 s4 s5 s6 v _ xs lv W hk hp bK hr (zah ab (zlX _)) (hs.fr hF (fun _ _ e => e)) bg dp aF bL).mono fun r w' h => zdc (zah ab (zlX _)) hr hl h
theorem zfV (bk bp bb br : Nat) (ep lp : Value) (P : Nat -> Prop) (s0 s1 s2 s3 s4 s5 s6 v z : Value) (xs : List UInt8) (l : List Mta) (w : World) (hk : Blk w bk 3 #[.int .i64 6]) (hp : Blk w bp 54 #[s0, s1, s2, s3, s4, s5, s6]) (hb : Blk w bb 44 #[v]) (hr : Blk w br 44 #[z])
 (ab : w.ownsRow 0 5 1 v xs.length (bc xs)) (hs : Sl P w s4 4 l.length (l.flatMap Mta.c)) (hl : xs.length <= 536870912) (au : l.length <= 1048576) (aF : ∀ s ∈ l, s.wf) (bL : bb ≠ br) :
 Calls prog 90 #[.pointer (some ⟨bk, 0, none⟩), ep, .pointer (some ⟨bp, 0, none⟩), .pointer (some ⟨bb, 0, none⟩), .pointer (some ⟨br, 0, none⟩), lp] w (zcx w br v.ownBlock (xs ++ zbL l)) := by
 have iz : bp ≠ br := zmT hp hr (by decide); have k0 := hk.cell 0; have p1 := hp.cell 4; have b0 := hb.cell 0; simp at k0 p1 b0; obtain ⟨a', n', k', rfl⟩ := zab ab; have bw : ∃ A m c, s4 = .slice A m c := let ⟨A, c, h, _⟩ := hs; ⟨A, _, c, h⟩
 obtain ⟨A, m, c, rfl⟩ := bw; have hQ := zec P (.slice A m c) l w.drew hs (by omega); have HB := zlM hb; have HP := zlM hp; have HR := zlM hr; have HO := zlM ab; have gu : w.drew.cell? ⟨bp, 4, none⟩ = some (.slice A m c) := p1; have gX : w.drew.cell? ⟨bb, 0, none⟩ = some (.slice a' n' k') := b0; clear hk hp hb hr ab hs; go_enter func90, ntmps90
 go_wp2_with fail
 have HW := zlM aF; clear aF; go_region_held3 (fun w' => w'.cell? ⟨bp, 4, none⟩ = some (.slice A m c) /\ w'.cell? ⟨bb, 0, none⟩ = some (.slice a' n' k'))
  ((first | (go_split_ands; refine ⟨?_, ?_⟩ <;> first | exact ((HP.out.drew).fr ag (fun e => e)).cell 4 | exact ((HB.out.drew).fr ag (fun e => e)).cell 0) | (go_split_ands; refine ⟨?_, ?_⟩ <;> first | exact KP.out.cell 4 | exact KB.out.cell 0) | (go_split_ands; refine ⟨?_, ?_⟩ <;> first | exact (KP.out.far (p := ⟨br, 0, none⟩) iz _).cell 4 | exact (KB.out.far (p := ⟨br, 0, none⟩) bL _).cell 0) | go_keep))
  ((first
    | (go_at_call 82; refine hQ.mono ?_; rintro r1 w1 ⟨v1, rfl, an, ag⟩)
    | (go_at_call 96; refine (ziT ep v1 (fun g => v1.ownBlock = some g) (.slice a' n' k') xs l w1 (zmU an) (zai (World.ownsRow.drew HO.out) ag (fun _ _ e => e)) (by omega) au HW.out (zc0 an HO.out (zlY _))).mono ?_; rintro r2 w2 ⟨v2, rfl, af, ar, bn⟩; obtain ⟨KP, KB, KR⟩ := za8 HP.out HB.out HR.out HO.out ag ar; have q0 := KR.out.cell 0; simp at q0; have q1 := KR.out.frozen 0; obtain ⟨a2, n2, k2, rfl⟩ := zab af)))
 have HE : Fr (fun k => some k = (Value.slice a' n' k').ownBlock ∨ k = br) w (w2.setCell ⟨br, 0, none⟩ (.slice a2 n2 k2)) :=
  ((((zmR (fun k => some k = (Value.slice a' n' k').ownBlock ∨ k = br) w).drew).trans ag (fun _ _ e => e.elim)).trans ar (fun _ _ e => .inl e)).setCell (p := ⟨br, 0, none⟩) (.inl (.inr rfl)) _
 have HV : Blk (w2.setCell ⟨br, 0, none⟩ (.slice a2 n2 k2)) br 44 #[.slice a2 n2 k2] := by simpa using KR.out.set_ 0 (.slice a2 n2 k2)
 have HF := zlM HE; have iS := zlM HV; have eV : (w2.setCell ⟨br, 0, none⟩ (.slice a2 n2 k2)).ownsRow 0 5 1 (.slice a2 n2 k2) (xs ++ zbL l).length (bc (xs ++ zbL l)) := zai af (Fr.put_ w2 br 0 _) (fun g hg e => zak af KR.out (by decide) (by rw [hg, e])); have dR := zlM eV; have bF := ag.size; have gh := zlM bn
 clear HE HV eV an ag af ar bn q0 q1 hQ p1 gu b0 gX; go_wp2; go_end0; refine ⟨rfl, _, iS.out, dR.out, HF.out, ?_⟩; rcases gh.out with h | ⟨k, h, hk⟩
 ·exact .inl h
 ·exact .inr ⟨k, h, by simp at bF; omega⟩
theorem zes (s0 s1 s2 s3 s4 s5 s6 bv : Value) (xs : List UInt8) (l : List Mta) (P : Nat -> Prop) (w : World) (hb : Sl P w bv 1 xs.length (bc xs)) (bg : xs.length <= 536870912)
 (au : ∀ s ∈ [s0, s1, s2, s3, s4, s5, s6], ∃ A m c, s = .slice A m c) (hs : Sl P w s4 4 l.length (l.flatMap Mta.c)) (dp : l.length <= 1048576) (aF : ∀ s ∈ l, s.wf) :
 Calls prog 31 #[.int .i64 6, .agg #[s0, s1, s2, s3, s4, s5, s6], bv] w (zbP (fun lv _ => lv = .slice none 0 0) w (xs ++ zbL l)) := by
 refine zaO 6 s0 s1 s2 s3 s4 s5 s6 bv xs _ P _ w hb (by omega) au (by rintro lv W rfl; exact ⟨_, _, _, rfl⟩) (fun _ _ _ h _ => h) ?_; intro bk be bp bb br bl v W hk hp bK hr hl ab bL hF
 exact (zfV bk bp bb br _ _ P s0 s1 s2 s3 s4 s5 s6 v _ xs l W hk hp bK hr (zah ab (zlX _)) (hs.fr hF (fun _ _ e => e)) bg dp aF bL).mono fun r w' h => zdc (zah ab (zlX _)) hr hl h
theorem za4 (P : Nat -> Prop) (W : World) (s : Nat) : Sl P W (.slice none 0 0) s 0 [] := ⟨none, 0, rfl, by simp, zlY _, fun h => absurd h (by omega)⟩
theorem zef : ∀ s ∈ [Value.slice none 0 0, .slice none 0 0, .slice none 0 0, .slice none 0 0, .slice none 0 0, .slice none 0 0, .slice none 0 0], ∃ A m c, s = .slice A m c := by
 intro s hs; simp only [zmq, zmp, or_false] at hs; rcases hs with rfl | rfl | rfl | rfl | rfl | rfl | rfl <;> exact ⟨_, _, _, rfl⟩
theorem noR (P : Nat -> Prop) (W : World) : SlR P W (.slice none 0 0) [] := ⟨za4 _ _ _, fun p hp => by cases hp⟩
theorem noX (P : Nat -> Prop) (W : World) : SlX P W (.slice none 0 0) [] := ⟨za4 _ _ _, fun p hp => by cases hp⟩
theorem noS (P : Nat -> Prop) (W : World) : SlS P W (.slice none 0 0) [] := ⟨za4 _ _ _, fun p hp => by cases hp⟩
theorem noH (P : Nat -> Prop) (W : World) : SlH P W (.slice none 0 0) [] := ⟨za4 _ _ _, fun p hp => by cases hp⟩
theorem len_ser (l : List Ser) (hl : ∀ s ∈ l, zhd s) (hn : l.length <= 12) : (zb4 l).length <= 1073741824 := by
 have h1 := za1 zbX 20000 l (fun x hx => zhz x (hl x hx)); show (_ :: l.flatMap zbX).length <= _; rw [zl4]; omega
theorem len_smp (l : List Smp) (hl : ∀ s ∈ l, s.wf) (hn : l.length <= 12) : (zaD l).length <= 1073741824 := by
 rcases l with _ | ⟨f, r⟩
 ·decide
 ·have h1 := za1 (zbu f) 28 (f :: r) (fun x _ => zfh f x)
  show ([2] ++ (zd6 f ++ (f :: r).flatMap (zbu f))).length <= _; rw [zlN, zlN]; simp only [zd6, zlN, zlW, zl3]; omega
theorem len_sto (l : List Ston) (hl : ∀ s ∈ l, s.wf) (hn : l.length <= 12) (hi : ∀ s ∈ l, s.ivs.length <= 4096) : (zbC l).length <= 1073741824 := by
 have h1 := ziO l hl hi; show (_ :: (zbY l).flatMap zcg).length <= _; rw [zl4]; omega
theorem len_exm (l : List Exm) (hl : ∀ s ∈ l, zfJ s) (hn : l.length <= 12) : (zbD l).length <= 1073741824 := by
 rcases l with _ | ⟨f, r⟩
 ·decide
 ·have h1 := za1 (zbp f) 20000 (f :: r) (fun x hx => zhF f x (hl x hx))
  show (4 :: (zbK f ++ (f :: r).flatMap (zbp f))).length <= _; rw [zl4, zlN]; simp only [zbK, zlN, zlW]; omega
theorem len_mrk (l : List Mrk) (hl : ∀ s ∈ l, s.wf) (hn : l.length <= 12) : (zbb l).length <= 1073741824 := by
 have h1 := za1 zcy 16 l (fun x hx => Nat.le_of_eq (zhD x)); show (_ :: l.flatMap zcy).length <= _; rw [zl4]; omega
theorem len_mta (l : List Mta) (hl : ∀ s ∈ l, s.wf) (hn : l.length <= 12) : (zbL l).length <= 1073741824 := by
 have h1 := za1 zca 8300 l (fun x hx => zhC x (hl x hx)); show (_ :: l.flatMap zca).length <= _; rw [zl4]; omega
theorem few_readW {h : Hst} (k : h.ok) : (h.readW).few 1099511627776 := by
 obtain ⟨a, b, c, d, e, f, g⟩ := k.few; refine ⟨by show h.pos.length <= _; omega, by show h.neg.length <= _; omega, by show h.ups.length <= _; omega, by show h.downs.length <= _; omega, zlX _, zlX _, ?_⟩; show (if h.schema = -53 then h.cus else []).length <= _; split
 ·omega
 ·exact zlX _
theorem len_hsW (k : Nat) (q : Rhs -> Bool) (l : List Rhs) (hl : ∀ s ∈ l, s.ok) (hn : l.length <= 12) : (za5 (UInt8.ofNat k) q l).length <= 1073741824 := by
 rcases l with _ | ⟨f, r⟩
 ·show 1 <= 1073741824
  omega
 ·have h1 := za1 (za2 f) 5020 ((f :: r).filter q) (fun x hx => zfi f x (hl x (zmr.1 hx).1))
  have h2 := zmK q (f :: r); show ([UInt8.ofNat k] ++ (zaq f ++ ((f :: r).filter q).flatMap (za2 f))).length <= _; rw [zlN, zlN]; simp only [zaq, zlN, zlW, zl3]; omega
theorem few_readF {h : Hst} (k : h.ok) : (h.readF).few 1099511627776 := by
 obtain ⟨a, b, c, d, e, f, g⟩ := k.few; refine ⟨by show h.pos.length <= _; omega, by show h.neg.length <= _; omega, zlX _, zlX _, by show h.fups.length <= _; omega, by show h.fdowns.length <= _; omega, ?_⟩; show (if h.schema = -53 then h.cus else []).length <= _; split
 ·omega
 ·exact zlX _
theorem len_hsF (k : Nat) (q : Rhs -> Bool) (l : List Rhs) (hl : ∀ s ∈ l, s.ok) (hn : l.length <= 12) : (za6 (UInt8.ofNat k) q l).length <= 1073741824 := by
 rcases l with _ | ⟨f, r⟩
 ·show 1 <= 1073741824
  omega
 ·have h1 := za1 (za3 f) 5020 ((f :: r).filter q) (fun x hx => zfj f x (hl x (zmr.1 hx).1))
  have h2 := zmK q (f :: r); show ([UInt8.ofNat k] ++ (zaq f ++ ((f :: r).filter q).flatMap (za3 f))).length <= _; rw [zlN, zlN]; simp only [zaq, zlN, zlW, zl3]; omega
def Fit (p : Lab) : Prop := p.1.size <= 2147483647 /\ p.2.size <= 2147483647
def zau (p : Prop) (w : World) (r : Ending) (w' : World) : Prop := ∃ b : Bool, r = .returned (.bool b) /\ (b = true ↔ p) /\ Fr (fun _ => False) w w'
theorem bool_yes {p : Prop} (h : p) {w : World} {f : FuncId} {args : Array Value} (hc : Calls prog f args w (zau p w)) : Calls prog f args w fun r w' => r = .returned (.bool true) /\ Fr (fun _ => False) w w' :=
 hc.mono fun r w' ⟨b, hr, hb, hf⟩ => ⟨by rw [hr, hb.2 h], hf⟩
theorem bool_no {p : Prop} (h : ¬ p) {w : World} {f : FuncId} {args : Array Value} (hc : Calls prog f args w (zau p w)) : Calls prog f args w fun r w' => r = .returned (.bool false) /\ Fr (fun _ => False) w w' :=
 hc.mono fun r w' ⟨b, hr, hb, hf⟩ => ⟨by rw [hr, Bool.eq_false_iff.2 (fun e => h (hb.1 e))], hf⟩
theorem zln (x : Lab) (h1 : x.1.size <= 9223372036854775807) (h2 : x.2.size <= 9223372036854775807) (w : World) : Calls prog 52 #[.agg #[.string x.1, .string x.2]] w (zau (Fit x) w) := by
 obtain ⟨a, b⟩ := x; dsimp only at h1 h2; unfold Fit; by_cases ha : 2147483647 < a.size
 ·have ha' : (2147483647 : Int) < a.size := by omega
  go_enter func52, ntmps52; go_wp2; go_ret; exact ⟨false, rfl, ⟨fun h => (by cases h), fun h => absurd h.1 (by show ¬ a.size <= _; omega)⟩, (zmR _ w).alloc _⟩
 ·have ha' : ¬ (2147483647 : Int) < a.size := by omega
  by_cases hb : 2147483647 < b.size
  ·have bK : (2147483647 : Int) < b.size := by omega
   go_enter func52, ntmps52; go_wp2; go_ret; exact ⟨false, rfl, ⟨fun h => (by cases h), fun h => absurd h.2 (by show ¬ b.size <= _; omega)⟩, (zmR _ w).alloc _⟩
  ·have bK : ¬ (2147483647 : Int) < b.size := by omega
   go_enter func52, ntmps52; go_wp2; go_ret; exact ⟨true, rfl, ⟨fun _ => ⟨by show a.size <= _; omega, by show b.size <= _; omega⟩, fun _ => rfl⟩, (zmR _ w).alloc _⟩
theorem zhu (P : Nat -> Prop) (v : Value) (l : List Lab) (w : World) (h : Sl P w v 2 l.length (l.flatMap zaI)) (hl : l.length <= 9223372036854775807) (hs : ∀ p ∈ l, p.1.size <= 9223372036854775807 /\ p.2.size <= 9223372036854775807) :
 Calls prog 21 #[v] w (zau (l.length <= 2147483647 /\ ∀ p ∈ l, Fit p) w) := by
 obtain ⟨A, c, rfl, _, hc, hr⟩ := h; obtain ⟨n, hn⟩ := exE l.length; rw [hn] at hr hc hl ⊢; have HN := zlM hn; have HR := zlM hr; have HS := zlM hs; clear hn hr hs; by_cases hbig : 2147483647 < n
 ·have cP : (2147483647 : Int) < n := by omega
  go_enter func21, ntmps21; go_wp2; go_ret; exact ⟨false, rfl, ⟨fun h => (by cases h), fun h => absurd h.1 (by omega)⟩, zmR _ _⟩
 ·have cP : ¬ (2147483647 : Int) < n := by omega
  go_enter func21, ntmps21; go_wp2; go_loopw [10] (fun vi wr => ∃ k : Nat, k <= n /\ vi = .int .i64 k /\ Hid (∀ p ∈ l.take k, Fit p) /\ Hid (Fr (fun _ => False) w wr)) (fun vi _ => n - (intOf vi).toNat)
  case atStart => exact ⟨0, zlX _, rfl, zlM (fun p hp => by simp at hp), zlM (zmR _ _)⟩
  case round =>
   obtain ⟨k, hk, rfl, HP, HF⟩ := hrel; by_cases hlt : k < n
   ·obtain ⟨g, off, rfl, _, aa⟩ := HR.out (by omega)
    obtain ⟨x, hx⟩ : ∃ x, l[k]? = some x := ⟨_, zlO (by rw [HN.out]; exact hlt)⟩; have cc : ∀ j, j < 2 -> ∀ u, (zaI x)[j]? = some u -> wr.cell? ⟨g, off + (k * 2 + j), none⟩ = some u := fun j hj u hu => by
     have := aa (k * 2 + j) u (by rw [zbB zaI (fun _ => rfl) l k x hx j hj]; exact hu); rw [HF.out.cell (p := ⟨g, off + (k * 2 + j), none⟩) (zlT w _ this) (fun e => e)]; exact this
    have c0 : wr.cell? ⟨g, off + k * 2, none⟩ = some (.string x.1) := cc 0 (by omega) _ rfl; have c1 : wr.cell? ⟨g, off + k * 2 + 1, none⟩ = some (.string x.2) := cc 1 (by omega) _ rfl; have aH := zlU hx; have hq := fun W => zln x (HS.out x aH).1 (HS.out x aH).2 W; have HX := zlM hx; clear aa cc hx; by_cases hfit : Fit x
    ·have ge := zlM hfit
     clear hfit; go_wp2_with (go_at_call 52; refine (bool_yes ge.out (hq _)).mono ?_; rintro r w1 ⟨rfl, ag⟩)
     go_roundw
     case rel =>
      refine ⟨k + 1, by omega, by go_num, zlM ?_, zlM ((HF.out.alloc _).same ag)⟩; intro p hp; rw [zmn, HX.out, zms] at hp; rcases hp with hp | hp
      ·exact HP.out p hp
      ·simp at hp; rw [hp]; exact ge.out
     case measure => simp [intOf]; omega
    ·have ge := zlM hfit
     clear hfit; go_wp2_with (go_at_call 52; refine (bool_no ge.out (hq _)).mono ?_; rintro r w1 ⟨rfl, ag⟩)
     go_ret; exact ⟨false, rfl, ⟨fun h => (by cases h), fun h => absurd (h.2 x aH) ge.out⟩, (HF.out.alloc _).same ag⟩
   ·obtain rfl : k = n := by omega
    go_wp2; go_ret; have e : l.take k = l := zlV (by rw [HN.out]; exact zlY _); have hp := HP.out; rw [e] at hp; exact ⟨true, rfl, ⟨fun _ => ⟨by omega, hp⟩, fun _ => rfl⟩, HF.out⟩
theorem fits6_raw (hint : UInt8) (schema : Int) (thr sum zc cnt : Nat) (A1 A2 A3 A4 A5 A6 A7 : Option Addr) (n1 n2 n3 n4 n5 n6 n7 c1 c2 c3 c4 c5 c6 c7 : Nat) (w : World) (p : Prop) (hp : p ↔ (n1 <= 2147483647 /\ n2 <= 2147483647 /\ n3 <= 2147483647 /\ n4 <= 2147483647 /\ n5 <= 2147483647 /\ n6 <= 2147483647 /\ n7 <= 2147483647)) :
 Calls prog 245 #[.agg #[.int .u8 hint.toNat, .int .i32 schema, .int .u64 thr, .int .u64 sum, .int .u64 zc, .int .u64 cnt, .slice A1 n1 c1, .slice A2 n2 c2, .slice A3 n3 c3, .slice A4 n4 c4, .slice A5 n5 c5, .slice A6 n6 c6, .slice A7 n7 c7]] w (zau p w) := by
 have HP := zlM hp; clear hp; by_cases h1 : 2147483647 < n1
 ·have g1 : (2147483647 : Int) < (n1 : Int) := by omega
  have HA := zlM h1; clear h1; go_enter func245, ntmps245; go_wp2; go_ret; refine ⟨_, rfl, ?_, (zmR _ w).alloc _⟩; rw [HP.out]; exact zmj (by intro h; cases h) (fun h => by have h2 := h.1; have := HA.out; omega)
 have g1 : ¬ (2147483647 : Int) < (n1 : Int) := by omega
 by_cases h2 : 2147483647 < n2
 ·have g2 : (2147483647 : Int) < (n2 : Int) := by omega
  have HA := zlM h2; clear h2; go_enter func245, ntmps245; go_wp2; go_ret; refine ⟨_, rfl, ?_, (zmR _ w).alloc _⟩; rw [HP.out]; exact zmj (by intro h; cases h) (fun h => by have h2 := h.2.1; have := HA.out; omega)
 have g2 : ¬ (2147483647 : Int) < (n2 : Int) := by omega
 by_cases h3 : 2147483647 < n3
 ·have g3 : (2147483647 : Int) < (n3 : Int) := by omega
  have HA := zlM h3; clear h3; go_enter func245, ntmps245; go_wp2; go_ret; refine ⟨_, rfl, ?_, (zmR _ w).alloc _⟩; rw [HP.out]; exact zmj (by intro h; cases h) (fun h => by have h2 := h.2.2.1; have := HA.out; omega)
 have g3 : ¬ (2147483647 : Int) < (n3 : Int) := by omega
 by_cases h4 : 2147483647 < n4
 ·have g4 : (2147483647 : Int) < (n4 : Int) := by omega
  have HA := zlM h4; clear h4; go_enter func245, ntmps245; go_wp2; go_ret; refine ⟨_, rfl, ?_, (zmR _ w).alloc _⟩; rw [HP.out]; exact zmj (by intro h; cases h) (fun h => by have h2 := h.2.2.2.1; have := HA.out; omega)
 have g4 : ¬ (2147483647 : Int) < (n4 : Int) := by omega
 by_cases h5 : 2147483647 < n5
 ·have g5 : (2147483647 : Int) < (n5 : Int) := by omega
  have HA := zlM h5; clear h5; go_enter func245, ntmps245; go_wp2; go_ret; refine ⟨_, rfl, ?_, (zmR _ w).alloc _⟩; rw [HP.out]; exact zmj (by intro h; cases h) (fun h => by have h2 := h.2.2.2.2.1; have := HA.out; omega)
 have g5 : ¬ (2147483647 : Int) < (n5 : Int) := by omega
 by_cases h6 : 2147483647 < n6
 ·have g6 : (2147483647 : Int) < (n6 : Int) := by omega
  have HA := zlM h6; clear h6; go_enter func245, ntmps245; go_wp2; go_ret; refine ⟨_, rfl, ?_, (zmR _ w).alloc _⟩; rw [HP.out]; exact zmj (by intro h; cases h) (fun h => by have h2 := h.2.2.2.2.2.1; have := HA.out; omega)
 have g6 : ¬ (2147483647 : Int) < (n6 : Int) := by omega
 by_cases h7 : 2147483647 < n7
 ·have g7 : (2147483647 : Int) < (n7 : Int) := by omega
  have HA := zlM h7; clear h7; go_enter func245, ntmps245; go_wp2; go_ret; refine ⟨_, rfl, ?_, (zmR _ w).alloc _⟩; rw [HP.out]; exact zmj (by intro h; cases h) (fun h => by have h2 := h.2.2.2.2.2.2; have := HA.out; omega)
 have g7 : ¬ (2147483647 : Int) < (n7 : Int) := by omega
 have HA := zlM (zmD h1 (zmD h2 (zmD h3 (zmD h4 (zmD h5 (zmD h6 h7)))))); clear h1 h2 h3 h4 h5 h6 h7; go_enter func245, ntmps245; go_wp2; go_ret; refine ⟨_, rfl, ?_, (zmR _ w).alloc _⟩; rw [HP.out]
 exact zmk rfl (by obtain ⟨a1, a2, a3, a4, a5, a6, a7⟩ := HA.out; exact ⟨by omega, by omega, by omega, by omega, by omega, by omega, by omega⟩)
theorem fits6_any (P : Nat -> Prop) (h : Hst) (s : Hsl) (w : World) (hs : SlHs P w h s) : Calls prog 245 #[.agg (hic h s).toArray] w (zau (h.few 2147483647) w) := by
 obtain ⟨z1, z2, z3, z4, z5, z6, z7⟩ := hs; obtain ⟨sp, sn, su, sd, lK, lL, sc⟩ := s; simp only [] at z1 z2 z3 z4 z5 z6 z7; obtain ⟨A1, c1, rfl⟩ := z1.shape; obtain ⟨A2, c2, rfl⟩ := z2.shape; obtain ⟨A3, c3, rfl⟩ := z3.shape; obtain ⟨A4, c4, rfl⟩ := z4.shape; obtain ⟨A5, c5, rfl⟩ := z5.shape; obtain ⟨A6, c6, rfl⟩ := z6.shape; obtain ⟨A7, c7, rfl⟩ := z7.shape
 exact fits6_raw h.hint h.schema h.thr h.sum h.zc h.cnt A1 A2 A3 A4 A5 A6 A7 _ _ _ _ _ _ _ c1 c2 c3 c4 c5 c6 c7 w _ Iff.rfl
theorem zlb (P : Nat -> Prop) (p : Rhs) (s : Hsl) (w : World) (hs : SlHs P w p.h s) : Calls prog 197 #[.agg (hsc (p, s)).toArray] w (zau (p.h.few 2147483647) w) := by
 obtain ⟨ref, t, ⟨hint, schema, thr, sum, zc, cnt, pos, neg, ups, downs, fups, fdowns, cus⟩⟩ := p; have hC := fun W (hW : Fr (fun _ => False) w W) => fits6_any P _ _ W (hs.fr hW (fun _ _ e => e)); obtain ⟨z1, z2, z3, z4, z5, z6, z7⟩ := hs; obtain ⟨sp, sn, su, sd, lK, lL, sc⟩ := s; simp only [] at z1 z2 z3 z4 z5 z6 z7; obtain ⟨A1, c1, rfl⟩ := z1.shape; obtain ⟨A2, c2, rfl⟩ := z2.shape
 obtain ⟨A3, c3, rfl⟩ := z3.shape; obtain ⟨A4, c4, rfl⟩ := z4.shape; obtain ⟨A5, c5, rfl⟩ := z5.shape; obtain ⟨A6, c6, rfl⟩ := z6.shape; obtain ⟨A7, c7, rfl⟩ := z7.shape; simp only [hsc, hic] at hC ⊢; generalize Hst.few _ _ = p at hC ⊢; obtain ⟨n1, e1⟩ := exE pos.length; obtain ⟨n2, e2⟩ := exE neg.length; obtain ⟨n3, e3⟩ := exE ups.length; obtain ⟨n4, e4⟩ := exE downs.length
 obtain ⟨n5, e5⟩ := exE fups.length; obtain ⟨n6, e6⟩ := exE fdowns.length; obtain ⟨n7, e7⟩ := exE cus.length; rw [e1, e2, e3, e4, e5, e6, e7] at hC ⊢
 have HC := zlM (hC _ ((zmR (fun _ => False) w).alloc (.cells #[.int .u64 ref, .int .i64 t, .int .u8 hint.toNat, .int .i32 schema, .int .u64 thr, .int .u64 sum, .int .u64 zc, .int .u64 cnt, .slice A1 n1 c1, .slice A2 n2 c2, .slice A3 n3 c3, .slice A4 n4 c4, .slice A5 n5 c5, .slice A6 n6 c6, .slice A7 n7 c7] 194))); clear z1 z2 z3 z4 z5 z6 z7 e1 e2 e3 e4 e5 e6 e7 hC
 go_enter func197, ntmps197; go_wp2_with (go_at_call 245; refine HC.out.mono ?_; rintro r5 w5 ⟨b, rfl, ch, aq⟩; refine Hid.out ?_)
 have cA := zlM ch; have jh := zlM (((zmR (fun _ => False) w).alloc (.cells #[.int .u64 ref, .int .i64 t, .int .u8 hint.toNat, .int .i32 schema, .int .u64 thr, .int .u64 sum, .int .u64 zc, .int .u64 cnt, .slice A1 n1 c1, .slice A2 n2 c2, .slice A3 n3 c3, .slice A4 n4 c4, .slice A5 n5 c5, .slice A6 n6 c6, .slice A7 n7 c7] 194)).same aq); clear ch aq; rcases b with _ | _
 ·refine zlM ?_
  go_wp2; go_ret; exact ⟨false, rfl, by simpa using cA.out, jh.out⟩
 ·refine zlM ?_
  go_wp2; go_ret; exact ⟨true, rfl, by simpa using cA.out, jh.out⟩
theorem zlc (P : Nat -> Prop) (v : Value) (lv : List (Rhs × Hsl)) (w : World) (h : SlH P w v lv) (hl : lv.length <= 9223372036854775807) :
 Calls prog 110 #[v] w (zau (lv.length <= 2147483647 /\ ∀ p ∈ lv, p.1.h.few 2147483647) w) := by
 have HS := zlM h; obtain ⟨⟨A, c, rfl, _, hc, hr⟩, _⟩ := h; obtain ⟨n, hn⟩ := exE lv.length; rw [hn] at hr hc hl HS ⊢; have HN := zlM hn; clear hn hr; by_cases hbig : 2147483647 < n
 ·have cP : (2147483647 : Int) < n := by omega
  go_enter func110, ntmps110; go_wp2; go_ret; exact ⟨false, rfl, ⟨fun h => (by cases h), fun h => absurd h.1 (by omega)⟩, zmR _ _⟩
 ·have cP : ¬ (2147483647 : Int) < n := by omega
  go_enter func110, ntmps110; go_wp2; go_loopw [10] (fun vi wr => ∃ k : Nat, k <= n /\ vi = .int .i64 k /\ Hid (∀ j p, j < k -> lv[j]? = some p -> p.1.h.few 2147483647) /\ Hid (Fr (fun _ => False) w wr)) (fun vi _ => n - (intOf vi).toNat)
  case atStart => exact ⟨0, zlX _, rfl, zlM (fun j p h => absurd h (zmx _)), zlM (zmR _ _)⟩
  case round =>
   obtain ⟨k, hk, rfl, RG, RF⟩ := hrel; by_cases hlt : k < n
   ·have hS := HS.out.fr RF.out (fun _ _ e => e)
    have aX := hS.2; obtain ⟨g, off, rfl, _, aa⟩ := (show Sl P wr (.slice A n c) 15 lv.length (lv.flatMap hsc) from hS.1).at (by have := HN.out; omega); obtain ⟨x, hx⟩ : ∃ x, lv[k]? = some x := ⟨_, zlO (by rw [HN.out]; exact hlt)⟩; have aH := zlU hx
    have cc : ∀ j, j < 15 -> ∀ u, (hsc x)[j]? = some u -> wr.cell? ⟨g, off + (k * 15 + j), none⟩ = some u := fun j hj u hu => aa (k * 15 + j) u (by rw [zgA 15 hsc (fun _ => rfl) lv k x hx j hj]; exact hu); have q0 : wr.cell? ⟨g, off + k * 15, none⟩ = some (.int .u64 x.1.ref) := cc 0 (by omega) _ rfl; have q1 : wr.cell? ⟨g, off + k * 15 + 1, none⟩ = some (.int .i64 x.1.t) := cc 1 (by omega) _ rfl
    have q2 : wr.cell? ⟨g, off + k * 15 + 2, none⟩ = some (.int .u8 x.1.h.hint.toNat) := cc 2 (by omega) _ rfl; have q3 : wr.cell? ⟨g, off + k * 15 + 3, none⟩ = some (.int .i32 x.1.h.schema) := cc 3 (by omega) _ rfl; have q4 : wr.cell? ⟨g, off + k * 15 + 4, none⟩ = some (.int .u64 x.1.h.thr) := cc 4 (by omega) _ rfl
    have q5 : wr.cell? ⟨g, off + k * 15 + 5, none⟩ = some (.int .u64 x.1.h.sum) := cc 5 (by omega) _ rfl; have q6 : wr.cell? ⟨g, off + k * 15 + 6, none⟩ = some (.int .u64 x.1.h.zc) := cc 6 (by omega) _ rfl; have q7 : wr.cell? ⟨g, off + k * 15 + 7, none⟩ = some (.int .u64 x.1.h.cnt) := cc 7 (by omega) _ rfl; have q8 : wr.cell? ⟨g, off + k * 15 + 8, none⟩ = some x.2.p := cc 8 (by omega) _ rfl
    have q9 : wr.cell? ⟨g, off + k * 15 + 9, none⟩ = some x.2.n := cc 9 (by omega) _ rfl; have q10 : wr.cell? ⟨g, off + k * 15 + 10, none⟩ = some x.2.u := cc 10 (by omega) _ rfl; have q11 : wr.cell? ⟨g, off + k * 15 + 11, none⟩ = some x.2.d := cc 11 (by omega) _ rfl; have q12 : wr.cell? ⟨g, off + k * 15 + 12, none⟩ = some x.2.fu := cc 12 (by omega) _ rfl
    have q13 : wr.cell? ⟨g, off + k * 15 + 13, none⟩ = some x.2.fd := cc 13 (by omega) _ rfl; have q14 : wr.cell? ⟨g, off + k * 15 + 14, none⟩ = some x.2.c := cc 14 (by omega) _ rfl; have bm := aX x aH; have fx := zlM aH; have HX := zlM hx; clear aX hx aH cc aa hS
    obtain ⟨⟨ref, t, ⟨hint, schema, thr, sum, zc, cnt, pos, neg, ups, downs, fups, fdowns, cus⟩⟩, ⟨sp, sn, su, sd, lK, lL, sc⟩⟩ := x; simp only [] at q0 q1 q2 q3 q4 q5 q6 q7 q8 q9 q10 q11 q12 q13 q14 bm; have hC := fun W (hW : Fr (fun _ => False) wr W) => zlb P ⟨ref, t, ⟨hint, schema, thr, sum, zc, cnt, pos, neg, ups, downs, fups, fdowns, cus⟩⟩ _ W (bm.fr hW (fun _ _ e => e))
    obtain ⟨pp, oy⟩ : ∃ pp : Prop, Hst.few ⟨hint, schema, thr, sum, zc, cnt, pos, neg, ups, downs, fups, fdowns, cus⟩ 2147483647 = pp := ⟨_, rfl⟩; have gd := zlM oy; simp only [hsc, hic, oy] at hC; obtain ⟨z1, z2, z3, z4, z5, z6, z7⟩ := bm; simp only [] at z1 z2 z3 z4 z5 z6 z7; obtain ⟨A1, c1, rfl⟩ := z1.shape; obtain ⟨A2, c2, rfl⟩ := z2.shape; obtain ⟨A3, c3, rfl⟩ := z3.shape
    obtain ⟨A4, c4, rfl⟩ := z4.shape; obtain ⟨A5, c5, rfl⟩ := z5.shape; obtain ⟨A6, c6, rfl⟩ := z6.shape; obtain ⟨A7, c7, rfl⟩ := z7.shape; obtain ⟨n1, e1⟩ := exE pos.length; rw [e1] at q8 hC; obtain ⟨n2, e2⟩ := exE neg.length; rw [e2] at q9 hC; obtain ⟨n3, e3⟩ := exE ups.length; rw [e3] at q10 hC; obtain ⟨n4, e4⟩ := exE downs.length; rw [e4] at q11 hC; obtain ⟨n5, e5⟩ := exE fups.length
    rw [e5] at q12 hC; obtain ⟨n6, e6⟩ := exE fdowns.length; rw [e6] at q13 hC; obtain ⟨n7, e7⟩ := exE cus.length; rw [e7] at q14 hC
    have HC := zlM (hC _ ((zmR (fun _ => False) wr).alloc (.cells #[.int .u64 ref, .int .i64 t, .int .u8 hint.toNat, .int .i32 schema, .int .u64 thr, .int .u64 sum, .int .u64 zc, .int .u64 cnt, .slice A1 n1 c1, .slice A2 n2 c2, .slice A3 n3 c3, .slice A4 n4 c4, .slice A5 n5 c5, .slice A6 n6 c6, .slice A7 n7 c7] 194))); clear z1 z2 z3 z4 z5 z6 z7 e1 e2 e3 e4 e5 e6 e7 hC oy
    go_wp2_with (go_at_call 197; refine HC.out.mono ?_; rintro r5 w5 ⟨b, rfl, ch, aq⟩; refine Hid.out ?_)
    have H5 := zlM ((RF.out.alloc (.cells #[.int .u64 ref, .int .i64 t, .int .u8 hint.toNat, .int .i32 schema, .int .u64 thr, .int .u64 sum, .int .u64 zc, .int .u64 cnt, .slice A1 n1 c1, .slice A2 n2 c2, .slice A3 n3 c3, .slice A4 n4 c4, .slice A5 n5 c5, .slice A6 n6 c6, .slice A7 n7 c7] 194)).same aq); have cA := zlM ch; clear aq ch q0 q1 q2 q3 q4 q5 q6 q7 q8 q9 q10 q11 q12 q13 q14
    rcases b with _ | _
    ·refine zlM ?_
     go_wp2; go_ret; exact ⟨false, rfl, ⟨fun h => (by cases h), fun h => absurd (cA.out.2 (by rw [<- gd.out]; exact h.2 _ fx.out)) (by decide)⟩, H5.out⟩
    ·refine zlM ?_
     go_wp2; go_roundw
     case rel => exact ⟨k + 1, by omega, by go_num, zlM (fun j p h h2 => by
      rcases zmf j k with h3 | h3
      ·exact RG.out j p h3 h2
      ·obtain rfl : j = k := by omega
       have h4 := h2.symm.trans HX.out; injection h4 with h4; rw [h4]; have h5 := cA.out.1 rfl; rw [<- gd.out] at h5
       exact h5), H5⟩
     case measure => simp [intOf]; omega
   ·obtain rfl : k = n := by omega
    go_wp2; go_ret; refine ⟨true, rfl, ⟨fun _ => ⟨by omega, fun p hp => ?_⟩, fun _ => rfl⟩, RF.out⟩; obtain ⟨j, hj, e⟩ := zmH hp; exact RG.out j p (by rw [<- HN.out]; exact hj) (by rw [zlO hj, e])
end Go.Proofs.YtbkookiigkckdaaGreatDoor
