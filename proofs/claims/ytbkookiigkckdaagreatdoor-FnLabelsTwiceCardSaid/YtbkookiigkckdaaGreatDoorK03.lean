/- Texts of this seat, merged: Safe, Wa, Dec. -/
import Derived.Test.YtbkookiigkckdaaGreatDoorK01
import Derived.Test.YtbkookiigkckdaaGreatDoorK02
import Derived.Test.YtbkookiigkckdaaGreatDoorProg
import Derived.Defers
import Derived.Recover
import Derived.Lib.VarintDec
/- impl.safe over a closure that returns, and over one that panics. -/
namespace Go.Proofs.YtbkookiigkckdaaGreatDoor
open Go.RowKit
set_option linter.unusedVariables false
set_option linter.unusedSimpArgs false

/-- The deferred closure of 'safe', behind a body that returned. -/
theorem safe_idle (p : Addr) (x : Value) (w : World) (hc : w.cell? p = some x) (hz : w.frozen? p = false) :
    CallsD Tryz.prog 159 #[.pointer (some p)] .returning w fun e u' w' => e = .returned (.tuple #[]) ∧ u' = .returning ∧ w' = w.setCell p (.bool true) := by
  refine callsD_of_wpS Tryz.func159 rfl fun c₀ cs hu => ?_
  apply wpS_region
  simp [wpOpsS, go_sem, recoverD, hu, Tryz.ntmps159, Exit.thenS, hc, hz]
  cases c₀
  simp_all [bodyPostS, results, Tryz.results159]

theorem safe_caught (p : Addr) (x : Value) (u : TypeId) (pv : Value) (older : List PanicEntry) (w : World) (hc : w.cell? p = some x) (hz : w.frozen? p = false) :
    CallsD Tryz.prog 159 #[.pointer (some p)] (.panicking ({ v := .iface u pv, recovered := false } :: older)) w fun e u' w' =>
      e = .returned (.tuple #[]) ∧ u' = .panicking ({ v := .iface u pv, recovered := true } :: older) ∧ w' = w.setCell p (.bool false) := by
  refine callsD_of_wpS Tryz.func159 rfl fun c₀ cs hu => ?_
  apply wpS_region
  simp [wpOpsS, go_sem, recoverD, hu, Tryz.ntmps159, Exit.thenS, hc, hz]
  cases c₀
  simp_all [bodyPostS, results, Tryz.results159]

/-- 'safe' over a closure that returns: it says true; two stores into its own variable besides. -/
theorem safe_ok (g : FuncId) (cb : Array Value) (w : World) (Q : World → Prop) (eg : ∀ args w, (callFunc g args).run Tryz.prog w = .ok (.enter g args) w)
    (hf : Calls Tryz.prog g cb (w.alloc (.cells #[.bool false] 4)) fun e w' => e = .returned (.tuple #[]) ∧ Q w' ∧ Blk w' w.heap.size 4 #[.bool false]) :
    Calls Tryz.prog 65 #[.func (.func g) #[] cb] w fun e w' => e = .returned (.bool true) ∧ ∃ w1, Q w1 ∧ Blk w1 w.heap.size 4 #[.bool false] ∧ w' = (w1.setCell ⟨w.heap.size, 0, none⟩ (.bool true)).setCell ⟨w.heap.size, 0, none⟩ (.bool true) := by
  have hmf : ∀ (fn : Fn) (first cap : Array Value) (w : World), (Instr.makeFunc fn first cap).run Tryz.prog w = .ok (.func fn first cap) w := fun _ _ _ _ => rfl
  go_enter_defers Tryz.func65, Tryz.ntmps65
  go_wp2_with (refine hf.mono ?_; rintro e w1 ⟨rfl, hq, hb⟩; have HB := Lib.hid hb; have HQ := Lib.hid hq; have hc1 := hb.cell 0; simp at hc1; have hz1 := hb.frozen 0; clear hb hq)
  refine leaves_cons (f := 159) (args := #[.pointer (some ⟨w.heap.size, 0, none⟩)]) (by simp) (by simp [go_sem]) ?_
  refine (safe_idle ⟨w.heap.size, 0, none⟩ (.bool true) _ ?_ ?_).mono ?_
  · simpa using ((HB.out.set_ 0 (.bool true)).cell 0)
  · exact (HB.out.set_ 0 (.bool true)).frozen 0
  rintro e u' w'' ⟨rfl, rfl, rfl⟩
  have hX := (((HB.out.set_ 0 (.bool true)).set_ 0 (.bool true)).cell 0)
  simp at hX
  simp [Leaves, settle, results, Tryz.results65, go_sem, hX]
  exact ⟨w1, HQ.out, HB.out, rfl⟩

/-- 'safe' over a closure that panics: it says false. -/
theorem safe_no (g : FuncId) (cb : Array Value) (w : World) (Q : World → Prop) (eg : ∀ args w, (callFunc g args).run Tryz.prog w = .ok (.enter g args) w)
    (hf : Calls Tryz.prog g cb (w.alloc (.cells #[.bool false] 4)) fun e w' => (∃ u pv, e = .panicked [{ v := .iface u pv, recovered := false }]) ∧ Q w' ∧ Blk w' w.heap.size 4 #[.bool false]) :
    Calls Tryz.prog 65 #[.func (.func g) #[] cb] w fun e w' => e = .returned (.bool false) ∧ ∃ w1, Q w1 ∧ Blk w1 w.heap.size 4 #[.bool false] ∧ w' = w1.setCell ⟨w.heap.size, 0, none⟩ (.bool false) := by
  have hmf : ∀ (fn : Fn) (first cap : Array Value) (w : World), (Instr.makeFunc fn first cap).run Tryz.prog w = .ok (.func fn first cap) w := fun _ _ _ _ => rfl
  go_enter_defers Tryz.func65, Tryz.ntmps65
  go_wp2_with (refine hf.mono ?_; rintro e w1 ⟨⟨u, pv, rfl⟩, hq, hb⟩; have HB := Lib.hid hb; have HQ := Lib.hid hq; have hc1 := hb.cell 0; simp at hc1; have hz1 := hb.frozen 0; clear hb hq)
  refine leaves_cons (f := 159) (args := #[.pointer (some ⟨w.heap.size, 0, none⟩)]) (by simp) (by simp [go_sem]) ?_
  refine (safe_caught ⟨w.heap.size, 0, none⟩ (.bool false) _ _ _ _ ?_ ?_).mono ?_
  · simpa using HB.out.cell 0
  · exact HB.out.frozen 0
  rintro e u' w'' ⟨rfl, rfl, rfl⟩
  have hX := ((HB.out.set_ 0 (.bool false)).cell 0)
  simp at hX
  simp [Leaves, settle, results, Tryz.results65, go_sem, hX]
  exact ⟨w1, HQ.out, HB.out, rfl⟩

end Go.Proofs.YtbkookiigkckdaaGreatDoor

namespace Go.Proofs.YtbkookiigkckdaaGreatDoor
open Go.RowKit
set_option linter.unusedVariables false
set_option linter.unusedSimpArgs false

theorem own_fr {S : Nat → Prop} {w w' : World} {base : Nat} {e : TypeId} {size n : Nat} {v : Value} {xs : List Value} (h : w.ownsRow base e size v n xs) (hf : Fr S w w') (hn : ∀ g, v.ownBlock = some g → ¬ S g) : w'.ownsRow base e size v n xs := by
  refine ⟨h.1, ?_⟩
  rcases h.2 with h0 | ⟨g, cap, cur, rfl, hb, hg, rest⟩
  · exact .inl h0
  · exact .inr ⟨g, cap, cur, rfl, hb, (hf.block g (Array.getElem?_eq_some_iff.1 hg).1 (hn g rfl)).trans hg, rest⟩
theorem own_mono {w : World} {base base' : Nat} {e : TypeId} {size n : Nat} {v : Value} {xs : List Value} (h : w.ownsRow base e size v n xs) (hb : base' ≤ base) : w.ownsRow base' e size v n xs :=
  ⟨h.1, h.2.imp id fun ⟨g, cap, cur, h1, h2, h3⟩ => ⟨g, cap, cur, h1, Nat.le_trans hb h2, h3⟩⟩

theorem Fr.put_ (w : World) (d i : Nat) (u : Value) : Fr (fun k => k = d) w (w.setCell ⟨d, i, none⟩ u) := Fr.setCell (S := fun k => k = d) (Fr.refl _ w) (p := ⟨d, i, none⟩) (.inl rfl) u

/-- What encoding a kind of parts does, whatever kind: the record's bytes lie in a row of the call's own or in that of 'before'. -/
def WroteEnds (w : World) (br : Nat) (o : Option Nat) (ys : List UInt8) (r : Ending) (w' : World) : Prop :=
  r = .returned (.tuple #[]) ∧ ∃ v', Blk w' br 44 #[v'] ∧ w'.ownsRow 0 5 1 v' ys.length (bc ys) ∧ Fr (fun k => some k = o ∨ k = br) w w' ∧ (v'.ownBlock = o ∨ ∃ k, v'.ownBlock = some k ∧ w.heap.size ≤ k)

theorem encSamples_any (ep : Value) (sv : Value) (P : Nat → Prop) (v : Value) (xs : List UInt8) (l : List Smp) (w : World) (h : Sl P w sv 3 l.length (l.flatMap Smp.b)) (hown : w.ownsRow 0 5 1 v xs.length (bc xs)) (hl : xs.length ≤ 1073741824)
    (hsl : l.length ≤ 1073741824) (hwf : ∀ s ∈ l, s.wf) (hP : ∀ g, P g → g < w.heap.size ∧ some g ≠ v.ownBlock) :
    Calls Tryz.prog 92 #[ep, sv, v] w (EncodeEnds w v.ownBlock (xs ++ encSamples l)) := by
  rcases l with _ | ⟨f, r⟩
  · exact encSamples_nil ep sv P v xs w h hown hl
  · exact encSamples_cons ep sv P v xs f r w h hown hl (by simp at hsl; omega) hwf hP

theorem write1_side {w0 w w1 : World} {v1 v : Value} {n m : Nat} {xs ys : List Value} {e size : Nat} (h1 : w1.ownsRow w.heap.size e size v1 n xs) (h : w0.ownsRow 0 5 1 v m ys) (hw : w0.heap.size ≤ w.heap.size) : ∀ g, v1.ownBlock = some g → g < w1.heap.size ∧ some g ≠ v.ownBlock := fun g hg =>
  ⟨own_lt h1 hg, fun e => by have h2 := own_lt h e.symm; have h3 := (h1.lt g hg).1; omega⟩
theorem write1_keeps {w w1 w2 : World} {bp bb br : Nat} {P B R : Array Value} {v : Value} {n : Nat} {xs : List Value} (hp : Blk w bp 54 P) (hb : Blk w bb 44 B) (hr : Blk w br 44 R) (hown : w.ownsRow 0 5 1 v n xs) (hf1 : Fr (fun _ => False) w.drew w1) (hf2 : Fr (fun k => some k = v.ownBlock) w1 w2) :
    Hid (Blk w2 bp 54 P) ∧ Hid (Blk w2 bb 44 B) ∧ Hid (Blk w2 br 44 R) :=
  ⟨(hp.drew.fr hf1 (fun e => e)).fr hf2 (fun e => own_ne hown hp (by decide) e.symm), (hb.drew.fr hf1 (fun e => e)).fr hf2 (fun e => own_ne hown hb (by decide) e.symm), (hr.drew.fr hf1 (fun e => e)).fr hf2 (fun e => own_ne hown hr (by decide) e.symm)⟩

set_option maxRecDepth 100000 in
set_option maxHeartbeats 2000000 in
theorem write1_samples (bk bp bb br : Nat) (ep lp : Value) (P : Nat → Prop) (s0 s1 s2 s3 s4 s5 s6 v z : Value) (xs : List UInt8) (l : List Smp) (w : World) (hk : Blk w bk 3 #[.int .i64 2]) (hp : Blk w bp 54 #[s0, s1, s2, s3, s4, s5, s6]) (hb : Blk w bb 44 #[v]) (hr : Blk w br 44 #[z])
    (hown : w.ownsRow 0 5 1 v xs.length (bc xs)) (hs : Sl P w s1 3 l.length (l.flatMap Smp.a)) (hl : xs.length ≤ 1073741824) (hsl : l.length ≤ 1073741824) (hwf : ∀ s ∈ l, s.wf) (hbr : bb ≠ br) :
    Calls Tryz.prog 90 #[.pointer (some ⟨bk, 0, none⟩), ep, .pointer (some ⟨bp, 0, none⟩), .pointer (some ⟨bb, 0, none⟩), .pointer (some ⟨br, 0, none⟩), lp] w (WroteEnds w br v.ownBlock (xs ++ encSamples l)) := by
  have hpr : bp ≠ br := Blk.ne_ hp hr (by decide)
  have k0 := hk.cell 0
  have p1 := hp.cell 1
  have b0 := hb.cell 0
  simp at k0 p1 b0
  obtain ⟨a', n', k', rfl⟩ := own_slice hown
  have hs1 : ∃ A m c, s1 = .slice A m c := let ⟨A, c, h, _⟩ := hs; ⟨A, _, c, h⟩
  obtain ⟨A, m, c, rfl⟩ := hs1
  have hQ := refSamples_any P (.slice A m c) l w.drew hs (by omega)
  have HB := Lib.hid hb
  have HP := Lib.hid hp
  have HR := Lib.hid hr
  have HO := Lib.hid hown
  have p1d : w.drew.cell? ⟨bp, 1, none⟩ = some (.slice A m c) := p1
  have b0d : w.drew.cell? ⟨bb, 0, none⟩ = some (.slice a' n' k') := b0
  clear hk hp hb hr hown hs
  go_enter Tryz.func90, Tryz.ntmps90
  go_wp2_with fail
  have HW := Lib.hid hwf
  clear hwf
  go_region_held3 (fun w' => w'.cell? ⟨bp, 1, none⟩ = some (.slice A m c) ∧ w'.cell? ⟨bb, 0, none⟩ = some (.slice a' n' k'))
    ((first | (go_split_ands; refine ⟨?_, ?_⟩ <;> first | exact ((HP.out.drew).fr hf1 (fun e => e)).cell 1 | exact ((HB.out.drew).fr hf1 (fun e => e)).cell 0) | (go_split_ands; refine ⟨?_, ?_⟩ <;> first | exact KP.out.cell 1 | exact KB.out.cell 0) | (go_split_ands; refine ⟨?_, ?_⟩ <;> first | exact (KP.out.far (p := ⟨br, 0, none⟩) hpr _).cell 1 | exact (KB.out.far (p := ⟨br, 0, none⟩) hbr _).cell 0) | go_keep))
    ((first
      | (go_at_call 72; refine hQ.mono ?_; rintro r1 w1 ⟨v1, rfl, hown1, hf1⟩)
      | (go_at_call 92; refine (encSamples_any ep v1 (fun g => v1.ownBlock = some g) (.slice a' n' k') xs l w1 (Sl.ofOwn hown1) (own_fr (World.ownsRow.drew HO.out) hf1 (fun _ _ e => e)) hl hsl HW.out (write1_side hown1 HO.out (Nat.le_refl _))).mono ?_; rintro r2 w2 ⟨v2, rfl, hown2, hf2, hat2⟩; obtain ⟨KP, KB, KR⟩ := write1_keeps HP.out HB.out HR.out HO.out hf1 hf2; have q0 := KR.out.cell 0; simp at q0; have q1 := KR.out.frozen 0; obtain ⟨a2, n2, k2, rfl⟩ := own_slice hown2)))
  have HE : Fr (fun k => some k = (Value.slice a' n' k').ownBlock ∨ k = br) w (w2.setCell ⟨br, 0, none⟩ (.slice a2 n2 k2)) :=
    ((((Fr.refl (fun k => some k = (Value.slice a' n' k').ownBlock ∨ k = br) w).drew).trans hf1 (fun _ _ e => e.elim)).trans hf2 (fun _ _ e => .inl e)).setCell (p := ⟨br, 0, none⟩) (.inl (.inr rfl)) _
  have HV : Blk (w2.setCell ⟨br, 0, none⟩ (.slice a2 n2 k2)) br 44 #[.slice a2 n2 k2] := by simpa using KR.out.set_ 0 (.slice a2 n2 k2)
  have HF := Lib.hid HE
  have HVV := Lib.hid HV
  have HOW : (w2.setCell ⟨br, 0, none⟩ (.slice a2 n2 k2)).ownsRow 0 5 1 (.slice a2 n2 k2) (xs ++ encSamples l).length (bc (xs ++ encSamples l)) := own_fr hown2 (Fr.put_ w2 br 0 _) (fun g hg e => own_ne hown2 KR.out (by decide) (by rw [hg, e]))
  have HOWW := Lib.hid HOW
  have hsz := hf1.size
  have HAT := Lib.hid hat2
  clear HE HV HOW hown1 hf1 hown2 hf2 hat2 q0 q1 hQ p1 p1d b0 b0d
  go_wp2
  go_end0
  refine ⟨rfl, _, HVV.out, HOWW.out, HF.out, ?_⟩
  rcases HAT.out with h | ⟨k, h, hk⟩
  · exact .inl h
  · exact .inr ⟨k, h, by simp at hsz; omega⟩

end Go.Proofs.YtbkookiigkckdaaGreatDoor

/- The Decbuf, its state and its methods Byte and Be64. -/
namespace Go.Proofs.YtbkookiigkckdaaGreatDoor
open Go.RowKit
set_option linter.unusedVariables false

/-- A Decbuf in block d, over the bytes of block g, of which 'rest' are still to be read, and its error. -/
def DecOk (ev : Value) (w : World) (d g : Nat) (cur : Array Value) (rest : List UInt8) (E : Value) : Prop :=
  ∃ off c, Blk w d 229 #[.slice (some ⟨g, off, none⟩) rest.length c, E] ∧ Blk w g 5 cur ∧ rest.length ≤ c ∧ (c ≤ 9223372036854775807 ∧ rest.length ≤ 1099511627776) ∧ (∀ j u, (bc rest)[j]? = some u → cur[off + j]? = some u) ∧ w.cell? ⟨2, 0, none⟩ = some ev

/-- The Decbuf's state: the bytes that are left, or that it has its error. -/
abbrev St := Option (List UInt8)
def Dec (te : TypeId) (pe : Value) (w : World) (d g : Nat) (cur : Array Value) : St → Prop
  | some rest => DecOk (.iface te pe) w d g cur rest .nilIface
  | none => ∃ rest, DecOk (.iface te pe) w d g cur rest (.iface te pe)

theorem DecOk.ne2 {ev : Value} {w : World} {d g : Nat} {cur : Array Value} {rest : List UInt8} {E : Value} {te : TypeId} {pe : Value} (h : DecOk (.iface te pe) w d g cur rest E) : d ≠ 2 := by
  obtain ⟨off, c, hb, _, _, _, _, hc⟩ := h
  rintro rfl
  have := hb.cell 0
  rw [hc] at this
  simp at this

/-- The Decbuf is written: what else there is stands. -/
theorem DecOk.move {te : TypeId} {pe : Value} {w : World} {d g : Nat} {cur : Array Value} {rest rest' : List UInt8} {E E' : Value} {w' : World} (h : DecOk (.iface te pe) w d g cur rest E) (hf : Fr (fun k => k = d) w w')
    {off' c' : Nat} (hb : Blk w' d 229 #[.slice (some ⟨g, off', none⟩) rest'.length c', E']) (hc : rest'.length ≤ c') (hm : c' ≤ 9223372036854775807 ∧ rest'.length ≤ 1099511627776) (hr : ∀ j u, (bc rest')[j]? = some u → cur[off' + j]? = some u) : DecOk (.iface te pe) w' d g cur rest' E' := by
  have h2 := h.ne2 (ev := .nilIface)
  obtain ⟨off, c, hb0, hg, _, _, _, hE⟩ := h
  refine ⟨off', c', hb, hg.fr hf (fun e => Blk.ne_ hg hb0 (by decide) e), hc, hm, hr, ?_⟩
  rw [hf.cell (p := ⟨2, 0, none⟩) (World.block_lt_of_cell? w _ hE) (fun e => h2 e.symm)]
  exact hE

theorem Fr.at_ (w : World) (d i : Nat) (u : Value) : Fr (fun k => k = d) w (w.setCell ⟨d, i, none⟩ u) := Fr.setCell (S := fun k => k = d) (Fr.refl _ w) (p := ⟨d, i, none⟩) (.inl rfl) u

def gByte : St → Nat × St
  | some (b :: r) => (b.toNat, some r)
  | _ => (0, none)

/-- A Decbuf's method: what it hands back and what is left. -/
def DecEnds (te : TypeId) (pe : Value) (w : World) (d g : Nat) (cur : Array Value) (v : Value) (st : St) (r : Ending) (w' : World) : Prop :=
  r = .returned v ∧ Dec te pe w' d g cur st ∧ Fr (fun k => k = d) w w'

set_option maxHeartbeats 400000 in
theorem decByte (te : TypeId) (pe : Value) (d g : Nat) (cur : Array Value) (st : St) (w : World) (h : Dec te pe w d g cur st) :
    Calls Tryz.prog 160 #[.pointer (some ⟨d, 0, none⟩)] w (DecEnds te pe w d g cur (.int .u8 (gByte st).1) (gByte st).2) := by
  match st, h with
  | none, ⟨rest, h⟩ =>
    have H := Lib.hid h
    obtain ⟨off, c, hb, hg, hl, hm, hr, hE⟩ := h
    have hc1 := hb.cell 1
    simp at hc1
    clear hb hr hg
    go_enter Tryz.func160, Tryz.ntmps160
    go_wp2
    go_ret
    exact ⟨rfl, ⟨_, H.out⟩, Fr.refl _ _⟩
  | some [], h =>
    have H := Lib.hid h
    obtain ⟨off, c, hb, hg, hl, hm, hr, hE⟩ := h
    have hc0 := hb.cell 0
    have hc1 := hb.cell 1
    simp at hc0 hc1
    have hf1 := hb.frozen 1
    have HB := Lib.hid hb
    clear hb hr hg
    go_enter Tryz.func160, Tryz.ntmps160
    go_wp2
    go_ret
    refine ⟨rfl, ⟨[], H.out.move (Fr.at_ _ _ _ _) (off' := off) (c' := c) ?_ (by simp) hm (by simp [bc, Lib.byteCells])⟩, Fr.at_ _ _ _ _⟩
    simpa using HB.out.set_ 1 (Value.iface te pe)
  | some (b :: rs), h =>
    have H := Lib.hid h
    obtain ⟨off, c, hb, hg, hl, hm, hr, hE⟩ := h
    have hc0 := hb.cell 0
    have hc1 := hb.cell 1
    simp at hc0 hc1
    have hf0 := hb.frozen 0
    have HB := Lib.hid hb
    have HR := Lib.hid hr
    have hb0 : w.cell? ⟨g, off, none⟩ = some (.int .u8 b.toNat) := by rw [hg.cell]; simpa [bc_get] using hr 0 (.int .u8 b.toNat) (by simp [bc_get])
    clear hb hr hg
    simp only [List.length_cons] at hl hm hc0
    by_cases hc : c = 1
    · subst hc
      have hl0 : rs.length = 0 := by omega
      go_enter Tryz.func160, Tryz.ntmps160
      go_wp2
      go_ret
      refine ⟨rfl, H.out.move (Fr.at_ _ _ _ _) (off' := off) (c' := 0) ?_ (by omega) (by omega) (fun j u hu => ?_), Fr.at_ _ _ _ _⟩
      · simpa [hl0] using HB.out.set_ 0 (.slice (some ⟨g, off, none⟩) 0 0)
      · rw [List.eq_nil_of_length_eq_zero hl0] at hu; simp [bc, Lib.byteCells] at hu
    · go_enter Tryz.func160, Tryz.ntmps160
      go_wp2
      go_ret
      refine ⟨rfl, H.out.move (Fr.at_ _ _ _ _) (off' := off + 1) (c' := c - 1) ?_ (by omega) (by omega) (fun j u hu => ?_), Fr.at_ _ _ _ _⟩
      · simpa using HB.out.set_ 0 (.slice (some ⟨g, off + 1, none⟩) rs.length (c - 1))
      · have := HR.out (j + 1) u (by simpa [bc_get] using hu)
        rw [← this]; congr 1; omega

/-- The Decbuf's slice, cut at its head. -/
theorem DecOk.cut {te : TypeId} {pe : Value} {w w1 : World} {d g : Nat} {cur : Array Value} {rest : List UInt8} {E : Value} {off c k off' n : Nat} (h : DecOk (.iface te pe) w d g cur rest E) (hf : Fr (fun k => k = d) w w1)
    (hb : Blk w1 d 229 #[.slice (some ⟨g, off, none⟩) n c, E]) (hr : ∀ j u, (bc rest)[j]? = some u → cur[off + j]? = some u) (hn : rest.length = n) (hl : n ≤ c) (hm : c ≤ 9223372036854775807 ∧ n ≤ 1099511627776) (hk : k ≤ n) (ho : off' = off + k ∨ c = k) :
    DecOk (.iface te pe) (w1.setCell ⟨d, 0, none⟩ (.slice (some ⟨g, off', none⟩) (n - k) (c - k))) d g cur (rest.drop k) E := by
  have hdl : (rest.drop k).length = n - k := by rw [List.length_drop, hn]
  refine h.move (hf.setCell (p := ⟨d, 0, none⟩) (.inl rfl) _) (off' := off') (c' := c - k) ?_ (by omega) (by omega) (fun j u hu => ?_)
  · have := hb.set_ 0 (.slice (some ⟨g, off', none⟩) (n - k) (c - k))
    rw [hdl]
    simpa using this
  · rcases ho with rfl | rfl
    · have := hr (k + j) u (by rw [← hu]; simp [bc_get])
      rw [← this]; congr 1; omega
    · rw [List.getElem?_eq_none (by rw [bc_len]; omega)] at hu
      cases hu

theorem Tryz.elem44' : Tryz.prog.elem 44 = 5 := by kernel_rfl
theorem Tryz.size5 (w : World) : (sizeOf 5).run Tryz.prog w = .ok 1 w := by kernel_rfl

/-- 's[k:]' of bytes: where it lies then. -/
theorem cut44 (g off n c k : Nat) (kd : IntKind) (x : Int) (hx : x = k) (hk : k ≤ n) : ∃ off', (off' = off + k ∨ c = k) ∧
    ∀ W, (Instr.slice 44 (.slice (some ⟨g, off, none⟩) n c) (some (.int kd x)) none none).run Tryz.prog W = .ok (.slice (some ⟨g, off', none⟩) (n - k) (c - k)) W := by
  subst hx
  have h5 := Tryz.size5
  have hr : ∀ W, (Instr.slice 44 (.slice (some ⟨g, off, none⟩) n c) (some (.int kd k)) none none).run Tryz.prog W = ((sizeOf 5).run Tryz.prog W).andThen fun s w => .ok (sliced (some ⟨g, off, none⟩) k n c s) w := fun W => by
    have h := run_slice_l (P := Tryz.prog) W 44 (some ⟨g, off, none⟩) n c (by rw [Tryz.elem44']; exact Tryz.underlying44) kd k (by omega) (by omega)
    rw [Tryz.elem44'] at h
    rw [h]
    simp only [Int.toNat_natCast]
  by_cases hc : c = k
  · refine ⟨off, .inr hc, fun W => ?_⟩
    rw [hr, h5]
    simp [Result.andThen, sliced, hc]
  · refine ⟨off + k, .inl rfl, fun W => ?_⟩
    rw [hr, h5]
    have : (⟨g, off, none⟩ : Addr).add k = ⟨g, off + k, none⟩ := by unfold Addr.add; split <;> simp_all
    simp [Result.andThen, sliced, hc, this]

theorem fr_of_below {S : Nat → Prop} {w w' : World} (h : Below w.heap.size w w') : Fr S w w' := Fr.ofBelow h

def gBe64 : St → Nat × St
  | some (b0 :: b1 :: b2 :: b3 :: b4 :: b5 :: b6 :: b7 :: r) => (Lib.beNat [b0, b1, b2, b3, b4, b5, b6, b7], some r)
  | _ => (0, none)

theorem gBe64_short {l : List UInt8} (h : l.length < 8) : gBe64 (some l) = (0, none) := by
  unfold gBe64
  split
  · rename_i e
    simp at e
    subst e
    simp at h
    omega
  · rfl

theorem eight {l : List UInt8} (h : 8 ≤ l.length) : ∃ b0 b1 b2 b3 b4 b5 b6 b7 r, l = b0 :: b1 :: b2 :: b3 :: b4 :: b5 :: b6 :: b7 :: r := by
  match l, h with
  | b0 :: b1 :: b2 :: b3 :: b4 :: b5 :: b6 :: b7 :: r, _ => exact ⟨b0, b1, b2, b3, b4, b5, b6, b7, r, rfl⟩
theorem gBe64_long {l : List UInt8} (h : 8 ≤ l.length) : gBe64 (some l) = (Lib.beNat (l.take 8), some (l.drop 8)) := by
  obtain ⟨b0, b1, b2, b3, b4, b5, b6, b7, r, rfl⟩ := eight h
  rfl

/-- BigEndian.Uint64 over the bytes of a Decbuf. -/
theorem be_read {w : World} {g off c : Nat} {cur : Array Value} {l : List UInt8} (hg : Blk w g 5 cur) (hr : ∀ j u, (bc l)[j]? = some u → cur[off + j]? = some u) (n : Nat) (hn : l.length = n) (h8 : 8 ≤ n) :
    Calls Tryz.prog 230 #[.agg #[], .slice (some ⟨g, off, none⟩) n c] w fun e w' => e = .returned (.int .u64 (Lib.beNat (l.take 8))) ∧ Below w.heap.size w w' := by
  obtain ⟨b0, b1, b2, b3, b4, b5, b6, b7, r, rfl⟩ := eight (l := l) (by omega)
  have hcell : ∀ j x, (b0 :: b1 :: b2 :: b3 :: b4 :: b5 :: b6 :: b7 :: r)[j]? = some x → w.cell? ⟨g, off + j, none⟩ = some (.int .u8 x.toNat) := fun j x hx => by
    have := hr j (.int .u8 x.toNat) (by rw [bc_get, hx]; rfl)
    rw [hg.cell, this]
  exact Tryz.binary_BE_Uint64 g off n c b0 b1 b2 b3 b4 b5 b6 b7 w h8 (by simpa using hcell 0 b0 rfl) (hcell 1 b1 rfl) (hcell 2 b2 rfl) (hcell 3 b3 rfl) (hcell 4 b4 rfl) (hcell 5 b5 rfl) (hcell 6 b6 rfl) (hcell 7 b7 rfl)

set_option maxHeartbeats 1000000 in
theorem decBe64 (te : TypeId) (pe : Value) (d g : Nat) (cur : Array Value) (st : St) (w : World) (h : Dec te pe w d g cur st) :
    Calls Tryz.prog 162 #[.pointer (some ⟨d, 0, none⟩)] w (DecEnds te pe w d g cur (.int .u64 (gBe64 st).1) (gBe64 st).2) := by
  rcases st with _ | l
  · obtain ⟨rest, h⟩ := h
    have H := Lib.hid h
    obtain ⟨off, c, hb, hg, hl, hm, hr, hE⟩ := h
    have hc1 := hb.cell 1
    simp at hc1
    clear hb hr hg
    go_enter Tryz.func162, Tryz.ntmps162
    go_wp2
    go_ret
    exact ⟨rfl, ⟨_, H.out⟩, Fr.refl _ _⟩
  · have h : DecOk (.iface te pe) w d g cur l .nilIface := h
    have H := Lib.hid h
    obtain ⟨off, c, hb, hg, hl, hm, hr, hE⟩ := h
    obtain ⟨n, hn⟩ : ∃ n, l.length = n := ⟨_, rfl⟩
    rw [hn] at hb hl
    have hc0 := hb.cell 0
    have hc1 := hb.cell 1
    simp at hc0 hc1
    have HB := Lib.hid hb
    have HR := Lib.hid hr
    have HN := Lib.hid hn
    by_cases h8 : 8 ≤ n
    · have hP := be_read (w := w.drew) (c := c) hg.drew hr n hn h8
      rw [gBe64_long (by omega)]
      simp only []
      obtain ⟨off', ho, hoff⟩ := cut44 g off n c 8 .i64 8 rfl h8
      clear hb hr hg hn
      have HO := Lib.hid ho
      clear ho
      generalize Lib.beNat (l.take 8) = x at hP ⊢
      go_enter Tryz.func162, Tryz.ntmps162
      go_wp2_with fail
      go_region_held3 (fun w' => w'.cell? ⟨d, 0, none⟩ = some (.slice (some ⟨g, off, none⟩) n c)) ((first | exact (hbw.cell (p := ⟨d, 0, none⟩) (by simpa using HB.out.lt)).trans (by simpa using hc0) | go_keep)) ((go_at_call 230; refine hP.mono ?_; rintro r1 w1 ⟨rfl, hbw⟩))
      have hf1 : Fr (fun k => k = d) w w1 := ((Fr.refl _ w).drew).trans (fr_of_below hbw) (fun _ _ s => s)
      have hB1 : Blk w1 d 229 #[.slice (some ⟨g, off, none⟩) n c, .nilIface] := (HB.out.drew).fr (fr_of_below (S := fun _ => False) hbw) (fun e => e)
      have hd0 := hB1.cell 0
      simp at hd0
      have hz0 := hB1.frozen 0
      have RR := Lib.hid (DecOk.cut H.out hf1 hB1 HR.out HN.out hl ⟨hm.1, HN.out ▸ hm.2⟩ h8 HO.out)
      have HF := Lib.hid (hf1.setCell (p := ⟨d, 0, none⟩) (.inl rfl) (.slice (some ⟨g, off', none⟩) (n - 8) (c - 8)))
      clear hB1 hf1 hP hbw hc0 hc1 hE
      go_wp2
      go_ret
      exact ⟨rfl, RR.out, HF.out⟩
    · rw [gBe64_short (by omega)]
      have hf1 := hb.frozen 1
      have h8' : (n : Int) < 8 := by omega
      clear hb hr hg hn
      go_enter Tryz.func162, Tryz.ntmps162
      go_wp2
      go_ret
      refine ⟨rfl, ⟨l, H.out.move (Fr.at_ _ _ _ _) (off' := off) (c' := c) ?_ (by rw [HN.out]; exact hl) hm HR.out⟩, Fr.at_ _ _ _ _⟩
      rw [HN.out]
      simpa using HB.out.set_ 1 (Value.iface te pe)

end Go.Proofs.YtbkookiigkckdaaGreatDoor

