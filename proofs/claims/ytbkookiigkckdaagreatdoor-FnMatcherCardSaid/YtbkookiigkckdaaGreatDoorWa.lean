import Derived.Test.YtbkookiigkckdaaGreatDoorSmpB
import Derived.Test.YtbkookiigkckdaaGreatDoorSafe
namespace Go.Proofs.YtbkookiigkckdaaGreatDoor
open Go.RowKit
set_option linter.unusedVariables false
set_option linter.unusedSimpArgs false

theorem own_fr {S : Nat → Prop} {w w' : World} {base : Nat} {e : TypeId} {size n : Nat} {v : Value} {xs : List Value} (h : w.ownsRow base e size v n xs) (hf : Fr S w w') (hn : ∀ g, v.ownBlock = some g → ¬ S g) : w'.ownsRow base e size v n xs := by
  refine ⟨h.1, ?_⟩
  rcases h.2 with h0 | ⟨g, cap, cur, rfl, hb, hg, rest⟩
  · exact .inl h0
  · exact .inr ⟨g, cap, cur, rfl, hb, (hf.block g (Array.getElem?_eq_some_iff.1 hg).1 (hn g rfl)).trans hg, rest⟩
theorem own_mono {w : World} {base base' : Nat} {e : TypeId} {size n : Nat} {v : Value} {xs : List Value} (h : w.ownsRow base e size v n xs) (hb : base' ≤ base) : w.ownsRow base' e size v n xs :=
  ⟨h.1, h.2.imp id fun ⟨g, cap, cur, h1, h2, h3⟩ => ⟨g, cap, cur, h1, Nat.le_trans hb h2, h3⟩⟩

theorem Fr.put_ (w : World) (d i : Nat) (u : Value) : Fr (fun k => k = d) w (w.setCell ⟨d, i, none⟩ u) := Fr.setCell (S := fun k => k = d) (Fr.refl _ w) (p := ⟨d, i, none⟩) (.inl rfl) u

/-- What encoding a kind of parts does, whatever kind: the record's bytes lie in a row of the call's own or in that of 'before'. -/
def WroteEnds (w : World) (br : Nat) (o : Option Nat) (ys : List UInt8) (r : Ending) (w' : World) : Prop :=
  r = .returned (.tuple #[]) ∧ ∃ v', Blk w' br 44 #[v'] ∧ w'.ownsRow 0 5 1 v' ys.length (bc ys) ∧ Fr (fun k => some k = o ∨ k = br) w w' ∧ (v'.ownBlock = o ∨ ∃ k, v'.ownBlock = some k ∧ w.heap.size ≤ k)

theorem encSamples_any (ep : Value) (sv : Value) (P : Nat → Prop) (v : Value) (xs : List UInt8) (l : List Smp) (w : World) (h : Sl P w sv 3 l.length (l.flatMap Smp.b)) (hown : w.ownsRow 0 5 1 v xs.length (bc xs)) (hl : xs.length ≤ 1073741824)
    (hsl : l.length ≤ 1073741824) (hwf : ∀ s ∈ l, s.wf) (hP : ∀ g, P g → g < w.heap.size ∧ some g ≠ v.ownBlock) :
    Calls Tryz.prog 92 #[ep, sv, v] w (EncodeEnds w v.ownBlock (xs ++ encSamples l)) := by
  rcases l with _ | ⟨f, r⟩
  · exact encSamples_nil ep sv P v xs w h hown hl
  · exact encSamples_cons ep sv P v xs f r w h hown hl (by simp at hsl; omega) hwf hP

theorem write1_side {w0 w w1 : World} {v1 v : Value} {n m : Nat} {xs ys : List Value} {e size : Nat} (h1 : w1.ownsRow w.heap.size e size v1 n xs) (h : w0.ownsRow 0 5 1 v m ys) (hw : w0.heap.size ≤ w.heap.size) : ∀ g, v1.ownBlock = some g → g < w1.heap.size ∧ some g ≠ v.ownBlock := fun g hg =>
  ⟨own_lt h1 hg, fun e => by have h2 := own_lt h e.symm; have h3 := (h1.lt g hg).1; omega⟩
theorem write1_keeps {w w1 w2 : World} {bp bb br : Nat} {P B R : Array Value} {v : Value} {n : Nat} {xs : List Value} (hp : Blk w bp 54 P) (hb : Blk w bb 44 B) (hr : Blk w br 44 R) (hown : w.ownsRow 0 5 1 v n xs) (hf1 : Fr (fun _ => False) w.drew w1) (hf2 : Fr (fun k => some k = v.ownBlock) w1 w2) :
    Hid (Blk w2 bp 54 P) ∧ Hid (Blk w2 bb 44 B) ∧ Hid (Blk w2 br 44 R) :=
  ⟨(hp.drew.fr hf1 (fun e => e)).fr hf2 (fun e => own_ne hown hp (by decide) e.symm), (hb.drew.fr hf1 (fun e => e)).fr hf2 (fun e => own_ne hown hb (by decide) e.symm), (hr.drew.fr hf1 (fun e => e)).fr hf2 (fun e => own_ne hown hr (by decide) e.symm)⟩

set_option maxRecDepth 100000 in
set_option maxHeartbeats 2000000 in
theorem write1_samples (bk bp bb br : Nat) (ep lp : Value) (P : Nat → Prop) (s0 s1 s2 s3 s4 s5 s6 v z : Value) (xs : List UInt8) (l : List Smp) (w : World) (hk : Blk w bk 3 #[.int .i64 2]) (hp : Blk w bp 54 #[s0, s1, s2, s3, s4, s5, s6]) (hb : Blk w bb 44 #[v]) (hr : Blk w br 44 #[z])
    (hown : w.ownsRow 0 5 1 v xs.length (bc xs)) (hs : Sl P w s1 3 l.length (l.flatMap Smp.a)) (hl : xs.length ≤ 1073741824) (hsl : l.length ≤ 1073741824) (hwf : ∀ s ∈ l, s.wf) (hbr : bb ≠ br) :
    Calls Tryz.prog 90 #[.pointer (some ⟨bk, 0, none⟩), ep, .pointer (some ⟨bp, 0, none⟩), .pointer (some ⟨bb, 0, none⟩), .pointer (some ⟨br, 0, none⟩), lp] w (WroteEnds w br v.ownBlock (xs ++ encSamples l)) := by
  have hpr : bp ≠ br := Blk.ne_ hp hr (by decide)
  have k0 := hk.cell 0
  have p1 := hp.cell 1
  have b0 := hb.cell 0
  simp at k0 p1 b0
  obtain ⟨a', n', k', rfl⟩ := own_slice hown
  have hs1 : ∃ A m c, s1 = .slice A m c := let ⟨A, c, h, _⟩ := hs; ⟨A, _, c, h⟩
  obtain ⟨A, m, c, rfl⟩ := hs1
  have hQ := refSamples_any P (.slice A m c) l w.drew hs (by omega)
  have HB := Lib.hid hb
  have HP := Lib.hid hp
  have HR := Lib.hid hr
  have HO := Lib.hid hown
  have p1d : w.drew.cell? ⟨bp, 1, none⟩ = some (.slice A m c) := p1
  have b0d : w.drew.cell? ⟨bb, 0, none⟩ = some (.slice a' n' k') := b0
  clear hk hp hb hr hown hs
  go_enter Tryz.func90, Tryz.ntmps90
  go_wp2_with fail
  have HW := Lib.hid hwf
  clear hwf
  go_region_held3 (fun w' => w'.cell? ⟨bp, 1, none⟩ = some (.slice A m c) ∧ w'.cell? ⟨bb, 0, none⟩ = some (.slice a' n' k'))
    ((first | (go_split_ands; refine ⟨?_, ?_⟩ <;> first | exact ((HP.out.drew).fr hf1 (fun e => e)).cell 1 | exact ((HB.out.drew).fr hf1 (fun e => e)).cell 0) | (go_split_ands; refine ⟨?_, ?_⟩ <;> first | exact KP.out.cell 1 | exact KB.out.cell 0) | (go_split_ands; refine ⟨?_, ?_⟩ <;> first | exact (KP.out.far (p := ⟨br, 0, none⟩) hpr _).cell 1 | exact (KB.out.far (p := ⟨br, 0, none⟩) hbr _).cell 0) | go_keep))
    ((first
      | (go_at_call 72; refine hQ.mono ?_; rintro r1 w1 ⟨v1, rfl, hown1, hf1⟩)
      | (go_at_call 92; refine (encSamples_any ep v1 (fun g => v1.ownBlock = some g) (.slice a' n' k') xs l w1 (Sl.ofOwn hown1) (own_fr (World.ownsRow.drew HO.out) hf1 (fun _ _ e => e)) hl hsl HW.out (write1_side hown1 HO.out (Nat.le_refl _))).mono ?_; rintro r2 w2 ⟨v2, rfl, hown2, hf2, hat2⟩; obtain ⟨KP, KB, KR⟩ := write1_keeps HP.out HB.out HR.out HO.out hf1 hf2; have q0 := KR.out.cell 0; simp at q0; have q1 := KR.out.frozen 0; obtain ⟨a2, n2, k2, rfl⟩ := own_slice hown2)))
  have HE : Fr (fun k => some k = (Value.slice a' n' k').ownBlock ∨ k = br) w (w2.setCell ⟨br, 0, none⟩ (.slice a2 n2 k2)) :=
    ((((Fr.refl (fun k => some k = (Value.slice a' n' k').ownBlock ∨ k = br) w).drew).trans hf1 (fun _ _ e => e.elim)).trans hf2 (fun _ _ e => .inl e)).setCell (p := ⟨br, 0, none⟩) (.inl (.inr rfl)) _
  have HV : Blk (w2.setCell ⟨br, 0, none⟩ (.slice a2 n2 k2)) br 44 #[.slice a2 n2 k2] := by simpa using KR.out.set_ 0 (.slice a2 n2 k2)
  have HF := Lib.hid HE
  have HVV := Lib.hid HV
  have HOW : (w2.setCell ⟨br, 0, none⟩ (.slice a2 n2 k2)).ownsRow 0 5 1 (.slice a2 n2 k2) (xs ++ encSamples l).length (bc (xs ++ encSamples l)) := own_fr hown2 (Fr.put_ w2 br 0 _) (fun g hg e => own_ne hown2 KR.out (by decide) (by rw [hg, e]))
  have HOWW := Lib.hid HOW
  have hsz := hf1.size
  have HAT := Lib.hid hat2
  clear HE HV HOW hown1 hf1 hown2 hf2 hat2 q0 q1 hQ p1 p1d b0 b0d
  go_wp2
  go_end0
  refine ⟨rfl, _, HVV.out, HOWW.out, HF.out, ?_⟩
  rcases HAT.out with h | ⟨k, h, hk⟩
  · exact .inl h
  · exact .inr ⟨k, h, by simp at hsz; omega⟩

end Go.Proofs.YtbkookiigkckdaaGreatDoor
