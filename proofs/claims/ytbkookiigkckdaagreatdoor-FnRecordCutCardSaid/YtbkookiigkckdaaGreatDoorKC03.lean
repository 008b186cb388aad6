/- Texts of this seat, merged and shortened. -/
import Derived.Test.YtbkookiigkckdaaGreatDoorKC02
import Derived.Lib.Zigzag
import Derived.Laws.MakeOwn
import Derived.Lib.EndianMore
import Derived.BigRegion
set_option linter.unusedVariables false
set_option linter.unusedSimpArgs false
set_option maxRecDepth 100000
set_option maxHeartbeats 8000000
namespace Go.Proofs.YtbkookiigkckdaaGreatDoor
open Go.RowKit Go.Proofs.Tryz
theorem ziM : ∀ (l : List UInt8) (i acc : Nat), (Lib.uvarintFrom i acc l).2 <= i + l.length
 | [], i, acc => by simp only [Lib.uvarintFrom, znd]; omega
 | b :: r, i, acc => by
   rw [Lib.uvarintFrom]; have := ziM r (i + 1) (acc + b.toNat % 128 * 2 ^ (7 * i)); simp only [zmC]
   repeat' split
   all_goals first | omega | (simp only []; omega)
theorem zh1 (l : List UInt8) : (Lib.uvarintDec l).2 <= l.length := by have := ziM l 0 0; rw [Lib.uvarintDec]; omega
def gUv : St -> Nat × St
 | some l => if 1 <= (Lib.uvarintDec l).2 then ((Lib.uvarintDec l).1, some (l.drop (Lib.uvarintDec l).2.toNat)) else (0, none)
 | none => (0, none)
theorem uv_read {w : World} {g off c n : Nat} {cur : Array Value} {l : List UInt8} (hg : Blk w g 5 cur) (hr : ∀ j u, (bc l)[j]? = some u -> cur[off + j]? = some u) (hn : l.length = n) (hl : n <= c) (hm : c <= 9223372036854775807) :
 Calls prog 231 #[.slice (some ⟨g, off, none⟩) n c] w (zlb w l) :=
 uvAny g off n c w l hn hl hm (fun j b hb => by
  have := hr j (.int .u8 b.toNat) (by rw [zec, hb]; rfl)
  rw [hg.cell, this])
theorem zl3 (te : TypeId) (pe : Value) (d g : Nat) (cur : Array Value) (st : St) (w : World) (h : Dec te pe w d g cur st) :
 Calls prog 171 #[.pointer (some ⟨d, 0, none⟩)] w (zb0 te pe w d g cur (.int .u64 (gUv st).1) (gUv st).2) := by
 rcases st with _ | l
 ·obtain ⟨rest, h⟩ := h
  have H := zmk h; obtain ⟨off, c, hb, hg, hl, hm, hr, hE⟩ := h; have bQ := hb.cell 1; simp at bQ; clear hb hr hg; go_enter func171, ntmps171; go_wp2; go_ret; exact ⟨rfl, ⟨_, H.out⟩, znq _ _⟩
 ·have h : DecOk (.iface te pe) w d g cur l .nilIface := h
  have H := zmk h; obtain ⟨off, c, hb, hg, hl, hm, hr, hE⟩ := h; obtain ⟨n, hn⟩ := exE l.length; rw [hn] at hb hl; have fa := hb.cell 0; have bQ := hb.cell 1; simp at fa bQ; have HB := zmk hb; have HR := zmk hr; have HN := zmk hn; have hP := uv_read (c := c) hg hr hn hl hm.1; have bN := zh1 l; have fj := hb.frozen 0; have ai := hb.frozen 1
  by_cases hk : 1 <= (Lib.uvarintDec l).2
  ·obtain ⟨k, hK⟩ : ∃ k : Nat, (Lib.uvarintDec l).2 = k := ⟨(Lib.uvarintDec l).2.toNat, by omega⟩
   have kl : Calls prog 231 #[.slice (some ⟨g, off, none⟩) n c] w fun r w' => r = .returned (.tuple #[.int .u64 (Lib.uvarintDec l).1, .int .i64 k]) /\ w = w' :=
    hP.mono fun r w' ⟨x, y, h1, h2, h3, _⟩ => ⟨by rw [h1, (h3 hk).1, (h3 hk).2, hK], h2⟩
   have el : gUv (some l) = ((Lib.uvarintDec l).1, some (l.drop k)) := by show (if 1 <= (Lib.uvarintDec l).2 then ((Lib.uvarintDec l).1, some (l.drop (Lib.uvarintDec l).2.toNat)) else (0, none)) = _; rw [if_pos hk, hK]; rfl
   rw [el]; simp only []; have eA : k <= n := by omega
   have nb : (1 : Int) <= (k : Int) := by omega
   obtain ⟨off', ho, mY⟩ := zmb g off n c k .i64 k rfl eA; have HO := zmk ho; have HK := zmk hK; clear hb hr hg hn ho hP bN hk el hK; generalize (Lib.uvarintDec l).1 = x at kl ⊢; go_enter func171, ntmps171; go_wp2_with (go_at_call 231; refine kl.mono ?_; rintro r w' ⟨rfl, rfl⟩)
   go_ret; exact ⟨rfl, DecOk.cut H.out (znq _ _) HB.out HR.out HN.out hl ⟨hm.1, HN.out ▸ hm.2⟩ eA HO.out, Fr.at_ _ _ _ _⟩
  ·have kl : Calls prog 231 #[.slice (some ⟨g, off, none⟩) n c] w fun r w' => ∃ y : Int, r = .returned (.tuple #[.int .u64 0, .int .i64 y]) /\ y < 1 /\ w = w' :=
    hP.mono fun r w' ⟨x, y, h1, h2, _, h4⟩ => ⟨y, by rw [h1, (h4 (by omega)).1], (h4 (by omega)).2, h2⟩
   have el : gUv (some l) = (0, none) := by show (if 1 <= (Lib.uvarintDec l).2 then ((Lib.uvarintDec l).1, some (l.drop (Lib.uvarintDec l).2.toNat)) else (0, none)) = _; rw [znh hk]
   rw [el]; simp only []; clear hb hr hg hn hP bN hk el; go_enter func171, ntmps171; go_wp2_with (go_at_call 231; refine kl.mono ?_; rintro r w' ⟨y, rfl, hy, rfl⟩)
   go_ret; refine ⟨rfl, ⟨l, H.out.move (Fr.at_ _ _ _ _) (off' := off) (c' := c) ?_ (by rw [HN.out]; exact hl) hm HR.out⟩, Fr.at_ _ _ _ _⟩; rw [HN.out]; simpa using HB.out.set_ 1 (Value.iface te pe)
def zaI (st : St) : Int × St := (Lib.unzigzag (gUv st).1, (gUv st).2)
theorem zdC (te : TypeId) (pe : Value) (d g : Nat) (cur : Array Value) (st : St) (w : World) (h : Dec te pe w d g cur st) :
 Calls prog 165 #[.pointer (some ⟨d, 0, none⟩)] w (zb0 te pe w d g cur (.int .i64 (zaI st).1) (zaI st).2) := by
 rcases st with _ | l
 ·obtain ⟨rest, h⟩ := h
  have H := zmk h; obtain ⟨off, c, hb, hg, hl, hm, hr, hE⟩ := h; have bQ := hb.cell 1; simp at bQ; clear hb hr hg; go_enter func165, ntmps165; go_wp2; go_ret; exact ⟨rfl, ⟨_, H.out⟩, znq _ _⟩
 ·have h : DecOk (.iface te pe) w d g cur l .nilIface := h
  have H := zmk h; obtain ⟨off, c, hb, hg, hl, hm, hr, hE⟩ := h; obtain ⟨n, hn⟩ := exE l.length; rw [hn] at hb hl; have fa := hb.cell 0; have bQ := hb.cell 1; simp at fa bQ; have HB := zmk hb; have HR := zmk hr; have HN := zmk hn; have hP := uv_read (c := c) hg hr hn hl hm.1; have bN := zh1 l; have fj := hb.frozen 0; have ai := hb.frozen 1
  by_cases hk : 1 <= (Lib.uvarintDec l).2
  ·obtain ⟨k, hK⟩ : ∃ k : Nat, (Lib.uvarintDec l).2 = k := ⟨(Lib.uvarintDec l).2.toNat, by omega⟩
   have kl : Calls prog 231 #[.slice (some ⟨g, off, none⟩) n c] w fun r w' => r = .returned (.tuple #[.int .u64 (Lib.uvarintDec l).1, .int .i64 k]) /\ w = w' :=
    hP.mono fun r w' ⟨x, y, h1, h2, h3, _⟩ => ⟨by rw [h1, (h3 hk).1, (h3 hk).2, hK], h2⟩
   have el : zaI (some l) = (Lib.unzigzag (Lib.uvarintDec l).1, some (l.drop k)) := by
    show (Lib.unzigzag (if 1 <= (Lib.uvarintDec l).2 then ((Lib.uvarintDec l).1, some (l.drop (Lib.uvarintDec l).2.toNat)) else (0, none)).1, (if 1 <= (Lib.uvarintDec l).2 then ((Lib.uvarintDec l).1, some (l.drop (Lib.uvarintDec l).2.toNat)) else (0, none)).2) = _; rw [if_pos hk, hK]; rfl
   rw [el]; simp only []; have eA : k <= n := by omega
   have nb : (1 : Int) <= (k : Int) := by omega
   obtain ⟨off', ho, mY⟩ := zmb g off n c k .i64 k rfl eA; have HO := zmk ho; have HK := zmk hK; have hu := Lib.uvarintDec_lt l; clear hb hr hg hn ho hP bN hk el hK; generalize (Lib.uvarintDec l).1 = u at kl hu ⊢; have lh := Lib.u64_and1 (u : Int) (by omega) (by omega); by_cases hodd : u % 2 = 0
   ·have hand0 : bits .and .u64 (u : Int) 1 = 0 := by rw [lh]; omega
    have hz : Lib.unzigzag u = (u : Int) / 2 := by simp [Lib.unzigzag, hodd]
    rw [hz]; clear lh hz; go_enter func165, ntmps165; go_wp2_with (go_at_call 231; refine kl.mono ?_; rintro r w' ⟨rfl, rfl⟩)
    go_ret; exact ⟨rfl, DecOk.cut H.out (znq _ _) HB.out HR.out HN.out hl ⟨hm.1, HN.out ▸ hm.2⟩ eA HO.out, Fr.at_ _ _ _ _⟩
   ·have hand1 : bits .and .u64 (u : Int) 1 = 1 := by rw [lh]; omega
    have kO : bits .xor .i64 (-1) ((u : Int) / 2) = -((u : Int) / 2) - 1 := by
     have h3 := Lib.i64_not (u / 2) (by omega); rw [show (((u / 2 : Nat) : Int)) = (u : Int) / 2 by omega] at h3; exact h3
    have hz : Lib.unzigzag u = -((u : Int) / 2) - 1 := by simp [Lib.unzigzag, hodd]
    rw [hz]; clear lh hz; go_enter func165, ntmps165; go_wp2_with (go_at_call 231; refine kl.mono ?_; rintro r w' ⟨rfl, rfl⟩)
    go_ret; exact ⟨rfl, DecOk.cut H.out (znq _ _) HB.out HR.out HN.out hl ⟨hm.1, HN.out ▸ hm.2⟩ eA HO.out, Fr.at_ _ _ _ _⟩
  ·have kl : Calls prog 231 #[.slice (some ⟨g, off, none⟩) n c] w fun r w' => ∃ y : Int, r = .returned (.tuple #[.int .u64 0, .int .i64 y]) /\ y < 1 /\ w = w' :=
    hP.mono fun r w' ⟨x, y, h1, h2, _, h4⟩ => ⟨y, by rw [h1, (h4 (by omega)).1], (h4 (by omega)).2, h2⟩
   have el : zaI (some l) = (0, none) := by
    show (Lib.unzigzag (if 1 <= (Lib.uvarintDec l).2 then ((Lib.uvarintDec l).1, some (l.drop (Lib.uvarintDec l).2.toNat)) else (0, none)).1, (if 1 <= (Lib.uvarintDec l).2 then ((Lib.uvarintDec l).1, some (l.drop (Lib.uvarintDec l).2.toNat)) else (0, none)).2) = _; rw [znh hk]; rfl
   rw [el]; simp only []; clear hb hr hg hn hP bN hk el; go_enter func165, ntmps165; go_wp2_with (go_at_call 231; refine kl.mono ?_; rintro r w' ⟨y, rfl, hy, rfl⟩)
   go_ret; refine ⟨rfl, ⟨l, H.out.move (Fr.at_ _ _ _ _) (off' := off) (c' := c) ?_ (by rw [HN.out]; exact hl) hm HR.out⟩, Fr.at_ _ _ _ _⟩; rw [HN.out]; simpa using HB.out.set_ 1 (Value.iface te pe)
def i64 (n : Nat) : Int := wrap64 n
def zao (st : St) : Int × St := (i64 (zab st).1, (zab st).2)
theorem ziz (te : TypeId) (pe : Value) (d g : Nat) (cur : Array Value) (st : St) (w : World) (h : Dec te pe w d g cur st) :
 Calls prog 164 #[.pointer (some ⟨d, 0, none⟩)] w (zb0 te pe w d g cur (.int .i64 (zao st).1) (zao st).2) := by
 have hP := zcF te pe d g cur st w h; have he : zao st = (i64 (zab st).1, (zab st).2) := rfl; rw [he]; clear h he; obtain ⟨⟨x, st'⟩, hx⟩ := exE (zab st); rw [hx] at hP ⊢; clear hx; simp only [] at hP ⊢; unfold i64; go_enter func164, ntmps164; go_wp2_with (go_at_call 162; refine hP.mono ?_; rintro r w1 ⟨rfl, hd, hf⟩)
 go_ret; exact ⟨rfl, hd, hf⟩
theorem zcE (te : TypeId) (pe : Value) (d g : Nat) (cur : Array Value) (st : St) (w : World) (h : Dec te pe w d g cur st) :
 Calls prog 172 #[.pointer (some ⟨d, 0, none⟩)] w (zb0 te pe w d g cur (.int .i64 (i64 (gUv st).1)) (gUv st).2) := by
 have hP := zl3 te pe d g cur st w h; clear h; obtain ⟨⟨x, st'⟩, hx⟩ := exE (gUv st); rw [hx] at hP ⊢; clear hx; simp only [] at hP ⊢; unfold i64; go_enter func172, ntmps172; go_wp2_with (go_at_call 171; refine hP.mono ?_; rintro r w1 ⟨rfl, hd, hf⟩)
 go_ret; exact ⟨rfl, hd, hf⟩
theorem zfM (te : TypeId) (pe : Value) (d g : Nat) (cur : Array Value) (st : St) (w : World) (h : Dec te pe w d g cur st) :
 Calls prog 232 #[.pointer (some ⟨d, 0, none⟩)] w (zb0 te pe w d g cur (.int .u32 (IntKind.u32.wrap (gUv st).1)) (gUv st).2) := by
 have hP := zl3 te pe d g cur st w h; clear h; obtain ⟨⟨x, st'⟩, hx⟩ := exE (gUv st); rw [hx] at hP ⊢; clear hx; simp only [] at hP ⊢; go_enter func232, ntmps232; go_wp2_with (go_at_call 171; refine hP.mono ?_; rintro r w1 ⟨rfl, hd, hf⟩)
 go_ret; exact ⟨rfl, hd, hf⟩
theorem zdU (te : TypeId) (pe : Value) (d g : Nat) (cur : Array Value) (st : St) (w : World) (h : Dec te pe w d g cur st) :
 Calls prog 234 #[.pointer (some ⟨d, 0, none⟩)] w (zb0 te pe w d g cur (.float .f64 (zab st).1) (zab st).2) := by
 have hP := zcF te pe d g cur st w h; have hr := ziV; clear h; obtain ⟨⟨x, st'⟩, hx⟩ := exE (zab st); rw [hx] at hP ⊢; clear hx; simp only [] at hP ⊢; go_enter func234, ntmps234; go_wp2_with (go_at_call 162; refine hP.mono ?_; rintro r w1 ⟨rfl, hd, hf⟩)
 go_ret; exact ⟨rfl, hd, hf⟩
def zjH (te : TypeId) (pe : Value) : St -> Value
 | some _ => .nilIface
 | none => .iface te pe
theorem zg6 (te : TypeId) (pe : Value) (d g : Nat) (cur : Array Value) (st : St) (w : World) (h : Dec te pe w d g cur st) :
 Calls prog 119 #[.pointer (some ⟨d, 0, none⟩)] w fun r w' => r = .returned (zjH te pe st) /\ w = w' := by
 rcases st with _ | l
 ·obtain ⟨rest, off, c, hb, hg, hl, hm, hr, hE⟩ := h
  have bQ := hb.cell 1; simp at bQ; clear hb hr hg; go_enter func119, ntmps119; go_wp2; go_ret; exact ⟨rfl, rfl⟩
 ·obtain ⟨off, c, hb, hg, hl, hm, hr, hE⟩ := h
  have bQ := hb.cell 1; simp at bQ; clear hb hr hg; go_enter func119, ntmps119; go_wp2; go_ret; exact ⟨rfl, rfl⟩
def lenEnds (w : World) (st : St) (r : Ending) (w' : World) : Prop := ∃ n : Nat, r = .returned (.int .i64 n) /\ (∀ l, st = some l -> n = l.length) /\ n <= 9223372036854775807 /\ w = w'
theorem zff (te : TypeId) (pe : Value) (d g : Nat) (cur : Array Value) (st : St) (w : World) (h : Dec te pe w d g cur st) :
 Calls prog 118 #[.pointer (some ⟨d, 0, none⟩)] w (lenEnds w st) := by
 have hx : ∃ (n off c : Nat) (E : Value), Blk w d 229 #[.slice (some ⟨g, off, none⟩) n c, E] /\ (∀ l, st = some l -> n = l.length) /\ n <= 9223372036854775807 := by
  rcases st with _ | l
  ·obtain ⟨rest, off, c, hb, hg, hl, hm, _⟩ := h
   exact ⟨_, _, _, _, hb, (fun _ e => by cases e), by omega⟩
  ·obtain ⟨off, c, hb, hg, hl, hm, _⟩ := h
   exact ⟨_, _, _, _, hb, (fun _ e => by cases e; rfl), by omega⟩
 obtain ⟨n, off, c, E, hb, H1, H2⟩ := hx; have fa := hb.cell 0; simp at fa; have HH := zmk H1; clear hb h H1; go_enter func118, ntmps118; go_wp2; go_ret; exact ⟨n, rfl, HH.out, H2, rfl⟩
def zba (br : Nat) (bt : Int) (st : St) : Smp × St :=
 (⟨u64 (wrap64 (i64 br + (zaI st).1)), wrap64 (bt + (zaI (zaI st).2).1), (zab (zaI (zaI st).2).2).1⟩, (zab (zaI (zaI st).2).2).2)
def zbb (br : Nat) (bt : Int) : Nat -> St -> List Smp -> List Smp × St
 | k + 1, some (c :: r), acc => zbb br bt k (zba br bt (some (c :: r))).2 (acc ++ [(zba br bt (some (c :: r))).1])
 | _, st, acc => (acc, st)
theorem smp_cells (br : Nat) (bt : Int) (st : St) : (#[Value.int IntKind.u64 (IntKind.u64.wrap (wrap64 (wrap64 ↑br + (zaI st).fst))), Value.int IntKind.i64 (wrap64 (bt + (zaI (zaI st).snd).fst)), Value.float FloatKind.f64 (zab (zaI (zaI st).snd).snd).fst] : Array Value) = (Smp.b (zba br bt st).1).toArray := by
 have h : ∀ x : Int, IntKind.u64.wrap x = (u64 x : Int) := fun x => by rw [IntKind.wrap_u64]; unfold u64; omega
 simp only [zba, Smp.b, h]; rfl
def zal (xs : List UInt8) : Option (List Smp) :=
 match xs with
 | [] => none
 | b :: rest => if b = 2 then (if rest = [] then some [] else
    match zbb (zab (some rest)).1 (zao (zab (some rest)).2).1 rest.length (zao (zab (some rest)).2).2 [] with
    | (l, some _) => some l
    | (_, none) => none) else none
theorem zb7 {st : St} {l : List UInt8} (h : (gUv st).2 = some l) : ∃ l0, st = some l0 /\ l.length < l0.length := by
 rcases st with _ | l0
 ·cases h
 ·refine ⟨l0, rfl, ?_⟩
  unfold gUv at h; simp only [] at h; by_cases hk : 1 <= (Lib.uvarintDec l0).2
  ·rw [if_pos hk] at h
   injection h with h; have := zh1 l0; rw [<- h, List.length_drop]; omega
  ·rw [znh hk] at h; cases h
theorem zbK {st : St} {l : List UInt8} (h : (zab st).2 = some l) : ∃ l0, st = some l0 /\ l.length < l0.length := by
 rcases st with _ | l0
 ·cases h
 ·refine ⟨l0, rfl, ?_⟩
  by_cases hk : 8 <= l0.length
  ·rw [zhJ hk] at h; injection h with h; rw [<- h, List.length_drop]; omega
  ·rw [zeR (by omega)] at h; cases h
theorem zjU {br : Nat} {bt : Int} {l0 l : List UInt8} (h : (zba br bt (some l0)).2 = some l) : l.length < l0.length := by
 obtain ⟨l1, h1, qn⟩ := zbK h; obtain ⟨l2, h2, qm⟩ := zb7 (st := (zaI (some l0)).2) h1; obtain ⟨l3, h3, h3'⟩ := zb7 (st := some l0) h2; injection h3 with h3; subst h3; omega
theorem Dec.fr {te : TypeId} {pe : Value} {w w' : World} {d g : Nat} {cur : Array Value} {st : St} {S : Nat -> Prop} (h : Dec te pe w d g cur st) (hf : Fr S w w') (hd : ¬ S d) (hg : ¬ S g) (h2 : ¬ S 2) : Dec te pe w' d g cur st := by
 have go : ∀ {rest : List UInt8} {E : Value}, DecOk (.iface te pe) w d g cur rest E -> DecOk (.iface te pe) w' d g cur rest E := by
  rintro rest E ⟨off, c, hb, pJ, hl, hm, hr, hE⟩; refine ⟨off, c, hb.fr hf hd, pJ.fr hf hg, hl, hm, hr, ?_⟩; rw [hf.cell (p := ⟨2, 0, none⟩) (zmr w _ hE) h2]; exact hE
 rcases st with _ | l
 ·obtain ⟨rest, h⟩ := h; exact ⟨rest, go h⟩
 ·exact go h
def zix (d : Nat) (w : World) : Nat :=
 match w.cell? ⟨d, 1, none⟩, w.cell? ⟨d, 0, none⟩ with
 | some .nilIface, some (.slice _ n _) => n + 1
 | _, _ => 0
theorem zbu {te : TypeId} {pe : Value} {w : World} {d g : Nat} {cur : Array Value} {l : List UInt8} (h : Dec te pe w d g cur (some l)) : zix d w = l.length + 1 := by
 obtain ⟨off, c, hb, _⟩ := h; have h0 := hb.cell 0; have h1 := hb.cell 1; simp at h0 h1; simp [zix, h0, h1]
theorem zdc {te : TypeId} {pe : Value} {w : World} {d g : Nat} {cur : Array Value} (h : Dec te pe w d g cur none) : zix d w = 0 := by
 obtain ⟨rest, off, c, hb, _⟩ := h; have h0 := hb.cell 0; have h1 := hb.cell 1; simp at h0 h1; simp [zix, h0, h1]
theorem Dec.open_ {te : TypeId} {pe : Value} {w : World} {d g : Nat} {cur : Array Value} {st : St} (h : Dec te pe w d g cur st) :
 ∃ (n : Nat) (off c : Nat), w.cell? ⟨d, 0, none⟩ = some (.slice (some ⟨g, off, none⟩) n c) /\ w.cell? ⟨d, 1, none⟩ = some (zjH te pe st) /\ (∀ l, st = some l -> n = l.length) /\ n <= 1099511627776 /\ d < w.heap.size /\ g < w.heap.size /\ 2 < w.heap.size := by
 have ay : ∀ {rest : List UInt8} {E : Value}, DecOk (.iface te pe) w d g cur rest E -> ∃ off c : Nat, w.cell? ⟨d, 0, none⟩ = some (.slice (some ⟨g, off, none⟩) rest.length c) /\ w.cell? ⟨d, 1, none⟩ = some E /\ rest.length <= 1099511627776 /\ d < w.heap.size /\ g < w.heap.size /\ 2 < w.heap.size := by
  rintro rest E ⟨off, c, hb, pJ, hl, hm, hr, hE⟩; have h0 := hb.cell 0; have h1 := hb.cell 1; simp at h0 h1; exact ⟨off, c, h0, h1, hm.2, hb.lt, pJ.lt, zmr w _ hE⟩
 rcases st with _ | l
 ·obtain ⟨rest, h⟩ := h
  obtain ⟨off, c, h0, h1, h2, h3⟩ := ay h; exact ⟨_, off, c, h0, h1, (fun _ e => by cases e), h2, h3⟩
 ·obtain ⟨off, c, h0, h1, h2, h3⟩ := ay h
  exact ⟨_, off, c, h0, h1, (fun _ e => by cases e; rfl), h2, h3⟩
def ErrNew (w : World) (r : Ending) (w' : World) : Prop := ∃ t a, r = .returned (.iface t a) /\ Fr (fun _ => False) w w'
theorem zbP (s : ByteArray) (w : World) : Calls prog 161 #[.string s] w (ErrNew w) := by
 go_enter func161, ntmps161; go_wp2_with fail
 go_ret; exact ⟨_, _, rfl, (znq _ w).alloc _⟩
theorem zaa {w : World} {base : Nat} {e : TypeId} {size n : Nat} {v : Value} {xs : List Value} (h : w.ownsRow base e size v n xs) : ∃ a c, v = .slice a n c := by
 rcases h.2 with ⟨rfl, rfl⟩ | ⟨g', aO, cur, rfl, _⟩
 ·exact ⟨_, _, rfl⟩
 ·exact ⟨_, _, rfl⟩
def LenEnds2 (w : World) (cur : Array Value) (st : St) (r : Ending) (w' : World) : Prop := ∃ n : Nat, r = .returned (.int .i64 n) /\ (∀ l, st = some l -> n = l.length) /\ n <= 1099511627776 /\ w = w'
theorem decLen2 (te : TypeId) (pe : Value) (d g : Nat) (cur : Array Value) (st : St) (w : World) (h : Dec te pe w d g cur st) : Calls prog 118 #[.pointer (some ⟨d, 0, none⟩)] w (LenEnds2 w cur st) := by
 obtain ⟨n, off, c, fa, _, H1, H2, _⟩ := h.open_; have HH := zmk H1; clear h H1; go_enter func118, ntmps118; go_wp2; go_ret; exact ⟨n, rfl, HH.out, H2, rfl⟩
def Rec (te : TypeId) (pe : Value) (w : World) (g : Nat) (cur : Array Value) (xs : List UInt8) (v : Value) : Prop :=
 ∃ off c, v = .slice (some ⟨g, off, none⟩) xs.length c /\ Blk w g 5 cur /\ xs.length <= c /\ (c <= 9223372036854775807 /\ xs.length <= 1099511627776) /\ (∀ j u, (bc xs)[j]? = some u -> cur[off + j]? = some u) /\ w.cell? ⟨2, 0, none⟩ = some (.iface te pe)
theorem Rec.dec {te : TypeId} {pe : Value} {w : World} {g : Nat} {cur : Array Value} {xs : List UInt8} {v : Value} (h : Rec te pe w g cur xs v) : Dec te pe (w.alloc (.cells #[v, .nilIface] 229)) w.heap.size g cur (some xs) := by
 obtain ⟨off, c, rfl, hg, hl, hm, hr, hE⟩ := h; refine ⟨off, c, znr w 229 _, hg.alloc _, hl, hm, hr, ?_⟩; rw [((znq (fun _ => False) w).alloc _).cell (p := ⟨2, 0, none⟩) (zmr w _ hE) (fun e => e)]; exact hE
def zbn (w : World) (base : Nat) (o : Option Nat) (xs : List UInt8) (r : Ending) (w' : World) : Prop :=
 Fr (fun k => some k = o) w w' /\ match zal xs with
  | some l => ∃ v', r = .returned (.tuple #[v', .nilIface]) /\ w'.ownsRow base 137 3 v' l.length (l.flatMap Smp.b)
  | none => ∃ t a, r = .returned (.tuple #[.slice none 0 0, .iface t a])
theorem zd1 {w w' : World} {base : Nat} {o : Option Nat} {xs : List UInt8} {t : TypeId} {a : Value} (hd : zal xs = none) (hf : Fr (fun k => some k = o) w w') : zbn w base o xs (.returned (.tuple #[.slice none 0 0, .iface t a])) w' := by
 unfold zbn; rw [hd]; exact ⟨hf, _, _, rfl⟩
theorem zfP {w w' : World} {base : Nat} {o : Option Nat} {xs : List UInt8} {l : List Smp} {v : Value} (hd : zal xs = some l) (hf : Fr (fun k => some k = o) w w') (ho : w'.ownsRow base 137 3 v l.length (l.flatMap Smp.b)) : zbn w base o xs (.returned (.tuple #[v, .nilIface])) w' := by
 unfold zbn; rw [hd]; exact ⟨hf, _, rfl, ho⟩
theorem zg2 (te : TypeId) (pe : Value) (dv : Value) (g base : Nat) (cur : Array Value) (xs : List UInt8) (v sv : Value) (w : World) (h : Rec te pe w g cur xs v) (hx : (zaD (some xs)).1 ≠ 2) :
 Calls prog 71 #[dv, v, sv] w (zbn w base sv.ownBlock xs) := by
 have hd : zal xs = none := by
  rcases xs with _ | ⟨b, r⟩
  ·rfl
  ·have : ¬ b = 2 := by rintro rfl; exact hx rfl
   simp [zal, this]
 unfold zbn; rw [hd]; clear hd; have hD := h.dec; obtain ⟨off, c, rfl, _⟩ := h; have hQ := zbG te pe w.heap.size g cur _ _ hD; have dS : ¬ ((zaD (some xs)).1 : Int) = 2 := by omega
 clear hD hx; generalize (zaD (some xs)).1 = x at hQ dS; generalize (zaD (some xs)).2 = st at hQ; go_enter func71, ntmps71; go_wp2_with (first | (go_at_call 160; refine hQ.mono ?_; rintro r w1 ⟨rfl, cr, ai⟩) | (go_at_call 161; refine (zbP _ _).mono ?_; rintro r w2 ⟨t, a, rfl, ar⟩))
 go_ret2; refine ⟨?_, _, _, rfl⟩; have f1 := (((znq (fun k => some k = sv.ownBlock) w).alloc (.cells #[.slice (some ⟨g, off, none⟩) xs.length c, .nilIface] 229)).trans ai (fun k hk e => by omega)); exact f1.trans ar (fun _ _ e => e.elim)
theorem zfW (te : TypeId) (pe : Value) (dv : Value) (g base : Nat) (cur : Array Value) (v sv : Value) (w : World) (h : Rec te pe w g cur [2] v) (ho : w.ownsRow base 137 3 sv 0 []) (hb : g < base /\ 2 < base) :
 Calls prog 71 #[dv, v, sv] w (zbn w base sv.ownBlock [2]) := by
 have hD := h.dec; obtain ⟨off, c, rfl, _⟩ := h; have hQ := zbG te pe w.heap.size g cur _ _ hD; have e1 : zaD (some [(2 : UInt8)]) = (2, some []) := rfl; rw [e1] at hQ; have HO := zmk ho; obtain ⟨a', n', k', rfl⟩ := zac ho; clear hD e1 ho; go_enter func71, ntmps71
 go_wp2_with (first | (go_at_call 160; refine hQ.mono ?_; rintro r w1 ⟨rfl, cr, ai⟩; have hL := zff te pe _ _ _ _ _ cr) | (go_at_call 118; refine hL.mono ?_; rintro r w2 ⟨n, rfl, hn, _, rfl⟩; have fO := hn _ rfl; subst fO))
 go_ret2; refine ⟨((znq _ w).alloc _).trans ai (fun k hk e => by omega), _, rfl, ?_⟩; exact zaj (HO.out.alloc _) ai (fun k hk => by have := zas HO.out hk; omega)
theorem zg3 (te : TypeId) (pe : Value) (dv : Value) (g base : Nat) (cur : Array Value) (rest : List UInt8) (bB : rest ≠ []) (v sv : Value) (w : World) (h : Rec te pe w g cur (2 :: rest) v) (ho : w.ownsRow base 137 3 sv 0 []) (hb : g < base /\ 2 < base /\ base <= w.heap.size) :
 Calls prog 71 #[dv, v, sv] w (zbn w base sv.ownBlock (2 :: rest)) := by
 obtain ⟨i0, aD, aA, az, aC⟩ := info_parts info137; have hD := h.dec; obtain ⟨off, c, rfl, _⟩ := h; have hQ := zbG te pe w.heap.size g cur _ _ hD; have e1 : zaD (some (2 :: rest)) = (2, some rest) := rfl; rw [e1] at hQ; have HO := zmk ho; obtain ⟨a', k', rfl⟩ := zaa ho
 have mb : ∀ (m : Int) (W : World), 0 <= m -> m <= 1099511627776 -> (Instr.makeSlice 131 (.int .i64 0) (.int .i64 m)).run prog W = .ok (.slice (some ⟨W.heap.size, 0, none⟩) 0 m.toNat) (W.alloc (.cells (madeCells (Value.agg #[.int .u64 0, .int .i64 0, .float .f64 0]).cells (m.toNat * 3)) 137)) := fun m W h0 h1 => by
  have h := run_make (P := prog) W 131 137 i0 _ underlying131 aD aA .i64 .i64 0 m (by omega) (by omega) (by rw [aC]; omega) (by omega); rw [az] at h; exact h
 have bA : ∃ b st, zab (some rest) = (b, st) := ⟨_, _, rfl⟩; obtain ⟨dz, bO, bA⟩ := bA; obtain ⟨bt, dQ, ge⟩ : ∃ b st, zao bO = (b, st) := ⟨_, _, rfl⟩; have jG : zal (2 :: rest) = match zbb dz bt rest.length dQ [] with | (l, some _) => some l | (_, none) => none := by
  show (if (2 : UInt8) = 2 then (if rest = [] then some [] else match zbb (zab (some rest)).1 (zao (zab (some rest)).2).1 rest.length (zao (zab (some rest)).2).2 [] with | (l, some _) => some l | (_, none) => none) else none) = _; rw [if_pos rfl, znh bB, bA, ge]
 have pi : ∀ l, dQ = some l -> l.length <= rest.length := by
  rintro l rfl; have e2 : (zab bO).2 = some l := by have := znb Prod.snd ge; exact this
  obtain ⟨l1, h1, qn⟩ := zbK e2; have e3 : (zab (some rest)).2 = some l1 := by rw [bA]; exact h1
  obtain ⟨l2, h2, qm⟩ := zbK e3; injection h2 with h2; subst h2; omega
 have oh : rest.length <= 1099511627776 := by
  obtain ⟨n, off', c', _, _, hn, aQ, _⟩ := hD.open_; have := hn _ rfl; simp at this; omega
 have hr0 : 0 < rest.length := List.length_pos_iff.2 bB; have bz := zmk pi; have HDE := zmk jG; clear hD e1 ho jG pi bB; go_enter func71, ntmps71
 go_wp2_with (first
  | (go_at_call 160; refine hQ.mono ?_; rintro r w1 ⟨rfl, cr, ai⟩; have hL := zff te pe _ _ _ _ _ cr; have hB := zcF te pe _ _ _ _ _ cr; rw [bA] at hB)
  | (go_at_call 118; refine hL.mono ?_; rintro r w2 ⟨n, rfl, hn, _, rfl⟩; have fO : n = rest.length := hn _ rfl; subst fO; clear hL)
  | (go_at_call 162; refine hB.mono ?_; rintro r w3 ⟨rfl, lm, bJ⟩; have lq := ziz te pe _ _ _ _ _ lm; rw [ge] at lq)
  | (go_at_call 164; refine lq.mono ?_; rintro r w4 ⟨rfl, mr, dw⟩; refine Hid.out ?_))
 have F4 : Fr (fun k => some k = (Value.slice a' 0 k').ownBlock) w w4 := (((((znq (fun k => some k = (Value.slice a' 0 k').ownBlock) w).alloc _).trans ai (fun k hk e => by omega)).trans bJ (fun k hk e => by omega)).trans dw (fun k hk e => by omega))
 have f14 : Fr (fun k => k = w.heap.size) (w.alloc (.cells #[.slice (some ⟨g, off, none⟩) (2 :: rest).length c, .nilIface] 229)) w4 := (ai.same bJ).same dw; have O4 : w4.ownsRow base 137 3 (.slice a' 0 k') 0 [] := zaj (HO.out.alloc _) f14 (fun k hk => by have := zas HO.out hk; omega); have hs4 := F4.size
 have hn4 : ∀ k, (Value.slice a' 0 k').ownBlock = some k -> k < w.heap.size := fun k hk => zas HO.out hk; have hL2 := decLen2 te pe _ _ _ _ _ mr; obtain ⟨m4, oO, c4, q0, q1, _, _, hd4, _⟩ := mr.open_; have iT := zmk F4; have dj := zmk O4; have dm := zmk mr; have HN4 := zmk hn4; clear cr ai bJ dw lm hB lq hQ F4 f14 O4 mr hn4 q0 q1; have pA := mb; clear mb
 have HMS := zmk pA; clear pA; refine zmk ?_
 go_wp2_with (first
  | (go_at_call 118; refine hL2.mono ?_; rintro r w5 ⟨n5, rfl, hn5, py, rfl⟩; refine Hid.out ?_))
 have hm0 : (0 : Int) <= (n5 : Int) / 10 := by omega
 have jv : (n5 : Int) / 10 <= 1099511627776 := by omega
 have pz := HMS.out ((n5 : Int) / 10) w4 hm0 jv; have hO5 := znp (base := base) (e := 137) (size := 3) w4 (madeCells #[.int .u64 0, .int .i64 0, .float .f64 0] (n5 / 10 * 3)) (n5 / 10) (by omega) (by unfold maxLen; omega) (size_madeCells _ _)
 have jM := dm.out.fr ((znq (fun _ => False) w4).alloc (.cells (madeCells #[.int .u64 0, .int .i64 0, .float .f64 0] (n5 / 10 * 3)) 137)) (fun e => e) (fun e => e) (fun e => e); have hF5 := iT.out.alloc (.cells (madeCells #[.int .u64 0, .int .i64 0, .float .f64 0] (n5 / 10 * 3)) 137); have oB := zmk hO5; have dB := zmk jM; have jg := zmk hF5; clear hO5 hL2 jM hF5
 by_cases hcap : (k' : Int) < (n5 : Int) / 10
 case' pos =>
  refine zmk ?_; go_wp2_with fail
  have cu : Hid (∀ k, (Value.slice (some ⟨w4.heap.size, 0, none⟩) 0 (n5 / 10)).ownBlock = some k -> (some k = (Value.slice a' 0 k').ownBlock ∨ w.heap.size < k)) := zmk fun k hk => .inr (by have hk : w4.heap.size = k := zna hk; omega); clear pz dj dm iT HMS; generalize w4.alloc _ = W5 at oB dB jg ⊢; clear hcap hm0 jv py hn5 hs4
  generalize (Value.slice (some ⟨w4.heap.size, 0, none⟩) 0 (n5 / 10)) = sv5 at oB cu ⊢; clear hd4
 case' neg =>
  refine zmk ?_; go_wp2_with fail
  have cu : Hid (∀ k, (Value.slice a' 0 k').ownBlock = some k -> (some k = (Value.slice a' 0 k').ownBlock ∨ w.heap.size < k)) := zmk fun k hk => .inl hk.symm; clear pz oB dB jg HMS; have oB := dj; have dB := dm; have jg := iT; clear dj dm iT hcap hm0 jv py hn5 hs4 hd4; generalize w4 = W5 at oB dB jg ⊢
 all_goals
  go_loopw [2] (fun sv wr => ∃ (st : St) (acc : List Smp) (j : Nat), Hid (Dec te pe wr w.heap.size g cur st) /\ Hid (wr.ownsRow base 137 3 sv acc.length (acc.flatMap Smp.b)) /\ Hid (Fr (fun k => some k = (Value.slice a' 0 k').ownBlock) w wr) /\ Hid (∀ k, sv.ownBlock = some k -> (some k = (Value.slice a' 0 k').ownBlock ∨ w.heap.size < k)) /\
   Hid (zbb dz bt j st acc = zbb dz bt rest.length dQ []) /\ Hid (∀ l, st = some l -> l.length <= j /\ acc.length + l.length <= rest.length) /\ acc.length <= rest.length + 1) (fun _ wr => zix w.heap.size wr)
  case atStart => exact ⟨dQ, [], rest.length, dB, oB, jg, cu, zmk rfl, zmk (fun l hl => ⟨bz.out l hl, by simpa using bz.out l hl⟩), by simp⟩
  case round =>
   obtain ⟨st, acc, j, HD, HO, HF, HB, HE, HL, mn⟩ := hrel; obtain ⟨n6, io, c6, p0, p1, cN, aQ, hd, hg, h2⟩ := HD.out.open_; have hE := zg6 te pe _ _ _ _ _ HD.out; obtain ⟨a6, k6, rfl⟩ := zaa HO.out; rcases st with _ | l
   ·clear cN p1
    have aI : zbb dz bt rest.length dQ [] = (acc, none) := by rw [<- HE.out]; unfold zbb; rcases j with _ | j <;> rfl
    have HR := zmk (show zal (2 :: rest) = none by rw [HDE.out, aI]); clear aI; simp only [zjH] at hE; rcases zmH n6 with rfl | om
    ·go_wp2_with (go_at_call 119; refine hE.mono ?_; rintro r w7 ⟨rfl, rfl⟩)
     go_ret2; exact zd1 HR.out HF.out
    ·have bV : (0 : Int) < (n6 : Int) := by omega
     go_wp2_with (go_at_call 119; refine hE.mono ?_; rintro r w7 ⟨rfl, rfl⟩)
     go_ret2; exact zd1 HR.out HF.out
   ·obtain rfl : n6 = l.length := cN l rfl
    simp only [zjH] at hE; rcases l with _ | ⟨x, r⟩
    ·have aI : zbb dz bt rest.length dQ [] = (acc, some []) := by rw [<- HE.out]; unfold zbb; rcases j with _ | j <;> rfl
     have HR := zmk (show zal (2 :: rest) = some acc by rw [HDE.out, aI]); clear aI cN p1; simp only [znd] at p0; go_wp2_with (go_at_call 119; refine hE.mono ?_; rintro r w7 ⟨rfl, rfl⟩)
     go_ret2; exact zfP HR.out HF.out HO.out
    ·obtain ⟨n7, bV⟩ := exE ((x :: r).length)
     have ma : (0 : Int) < (n7 : Int) := by rw [<- bV]; simp
     have gg := HL.out _ rfl; have hM := zbu HD.out; rw [bV] at p0 gg hM; have cS := zdC te pe _ _ _ _ _ HD.out; have eU := zmk bV; clear cN p1 bV
     go_wp2_with (first
      | (go_at_call 119; refine hE.mono ?_; rintro r w7 ⟨rfl, rfl⟩)
      | (go_at_call 165; refine cS.mono ?_; rintro r w8 ⟨rfl, fC, cA⟩; refine Hid.out ?_))
     have s8 := cA.size; have D8 := zmk fC; have ic := zdC te pe _ _ _ _ _ fC; have F8 := zmk cA; clear fC cA cS p0; refine zmk ?_; go_wp2_with (go_at_call 165; refine ic.mono ?_; rintro r w9 ⟨rfl, fe, dY⟩; refine Hid.out ?_)
     have s9 := dY.size; have D9 := zmk fe; have jJ := zcF te pe _ _ _ _ _ fe; have F9 := zmk dY; clear fe dY ic; refine zmk ?_; go_wp2_with (go_at_call 162; refine jJ.mono ?_; rintro r wA ⟨rfl, qi, iz⟩; refine Hid.out ?_)
     have FA : Fr (fun k => k = w.heap.size) wr wA := (F8.out.same F9.out).same iz; have sA := FA.size; have DA := zmk qi; have dP := zmk FA
     have OA : wA.ownsRow base 137 3 (.slice a6 acc.length k6) acc.length (acc.flatMap Smp.b) := zaj HO.out FA (fun k hk e => by
      rcases HB.out k hk with h | h
      ·have := HN4.out k h.symm; omega
      ·omega)
     have cR := zmk OA; have r6 := ziV; clear qi iz jJ FA OA D8 F8 D9 F9; refine zmk ?_
     go_wp2_with (first
      | (at_builtin; refine Hid.out ?_))
     have da : (#[Value.int IntKind.u64 (IntKind.u64.wrap (wrap64 (wrap64 ↑dz + (zaI (some (x :: r))).fst))), Value.int IntKind.i64 (wrap64 (bt + (zaI (zaI (some (x :: r))).snd).fst)), Value.float FloatKind.f64 (zab (zaI (zaI (some (x :: r))).snd).snd).fst] : Array Value) = (Smp.b (zba dz bt (some (x :: r))).1).toArray := smp_cells _ _ _; rw [da]
     have bW : ∀ l, (zba dz bt (some (x :: r))).2 = some l -> l.length < n7 := fun l hl => eU.out ▸ zjU hl; have ie : Dec te pe wA w.heap.size g cur (zba dz bt (some (x :: r))).2 := DA.out
     have dk : Hid (∀ j', j = j' + 1 -> zbb dz bt j' (zba dz bt (some (x :: r))).2 (acc ++ [(zba dz bt (some (x :: r))).1]) = zbb dz bt rest.length dQ []) := zmk (by rintro j' rfl; exact HE.out); clear da DA hE HE; generalize zba dz bt (some (x :: r)) = S at ie bW dk ⊢; obtain ⟨s1, ji⟩ := S; simp only [] at ie bW dk ⊢; have gO := zmk ie
     have bd := zmk bW; clear ie bW; refine zmk ?_
     refine zaf _ rfl _ _ 131 131 rfl base 137 i0 _ 3 24 underlying131 aD aA az aC rfl (by decide) (.slice a6 acc.length k6) acc.length (acc.flatMap Smp.b) rfl (cR.out.alloc _) _ 1 (Smp.b s1) rfl (zaH underlying131 (znr wA 137 (Smp.b s1).toArray) rfl (by simp [Smp.b, Value.oneCell'])) (by unfold maxLen; omega) (by omega) (by simp; omega) ?_
     intro v' w2 ac ad ax
     obtain ⟨a9, k9, rfl⟩ := zaa ac
     have aV : ∀ k, (Value.slice a6 acc.length k6).ownBlock = some k -> base <= k /\ k ≠ w.heap.size := fun k hk => ⟨(cR.out.lt k hk).1, by
      rcases HB.out k hk with h | h
      ·have := HN4.out k h.symm; omega
      ·omega⟩
     have ip := ad.size; simp at ip; have fG : Fr (fun k => some k = (Value.slice a6 acc.length k6).ownBlock) wA w2 := ((znq (fun k => some k = (Value.slice a6 acc.length k6).ownBlock) wA).alloc _).grown ad (fun k hk => .inl hk.symm)
     have rD : Dec te pe w2 w.heap.size g cur ji := gO.out.fr fG (fun e => (aV _ e.symm).2 rfl) (fun e => by have := (aV _ e.symm).1; omega) (fun e => by have := (aV _ e.symm).1; omega); have rO : w2.ownsRow base 137 3 (.slice a9 (acc.length + 1) k9) (acc ++ [s1]).length ((acc ++ [s1]).flatMap Smp.b) := by simpa using ac
     have rF : Fr (fun k => some k = (Value.slice a' 0 k').ownBlock) w w2 := (HF.out.trans dP.out (fun k hk e => by omega)).trans fG (fun k hk e => by
      rcases HB.out k e.symm with h | h
      ·exact h
      ·omega)
     have rB : ∀ k, (Value.slice a9 (acc.length + 1) k9).ownBlock = some k -> (some k = (Value.slice a' 0 k').ownBlock ∨ w.heap.size < k) := fun k hk => by
      rcases ax with h | h
      ·exact HB.out k (h ▸ hk)
      ·rw [h] at hk; injection hk with hk; simp at hk; exact .inr (by omega)
     have rM : zix w.heap.size w2 < n7 + 1 := by
      rcases ji with _ | l9
      ·rw [zdc rD]; omega
      ·rw [zbu rD]; have := bd.out l9 rfl; omega
     have RD := zmk rD; have RO := zmk rO; have RF := zmk rF; have RB := zmk rB; clear rD rO rF rB ac ad ax aV fG; go_wp2; go_roundw
     case rel =>
      obtain ⟨j', rfl⟩ : ∃ j', j = j' + 1 := ⟨j - 1, by have := eU.out; simp at this; omega⟩; refine ⟨ji, acc ++ [s1], j', RD, RO, RF, RB, zmk (dk.out j' rfl), zmk (fun l hl => ?_), by simp; omega⟩; have := bd.out l hl; rw [zml, zmB]; omega
     case measure => rw [hM]; exact rM
theorem zht (te : TypeId) (pe : Value) (dv : Value) (g base : Nat) (cur : Array Value) (xs : List UInt8) (v sv : Value) (w : World) (h : Rec te pe w g cur xs v) (ho : w.ownsRow base 137 3 sv 0 []) (hb : g < base /\ 2 < base /\ base <= w.heap.size) :
 Calls prog 71 #[dv, v, sv] w (zbn w base sv.ownBlock xs) := by
 by_cases hx : (zaD (some xs)).1 = 2
 ·rcases xs with _ | ⟨b, rest⟩
  ·exact absurd hx (by decide)
  ·have hb2 : b = 2 := by
    have : b.toNat = (2 : UInt8).toNat := hx; exact UInt8.toNat_inj.1 this
   subst hb2; by_cases hr : rest = []
   ·subst hr; exact zfW te pe dv g base cur v sv w h ho ⟨hb.1, hb.2.1⟩
   ·exact zg3 te pe dv g base cur rest hr v sv w h ho hb
 ·exact zg2 te pe dv g base cur xs v sv w h hx
theorem uvFrom_uv : ∀ (i x acc : Nat) (r : List UInt8), i <= 9 -> x * 2 ^ (7 * i) < 18446744073709551616 ->
 Lib.uvarintFrom i acc (Lib.uvarint x ++ r) = (acc + x * 2 ^ (7 * i), (i : Int) + (Lib.uvarint x).length) := by
 intro i x; induction x using Nat.strongRecOn generalizing i with
 | _ x ih =>
   intro acc r hi hx; rcases zmN x 128 with h | h
   ·rw [Lib.uvarint_small h]
    show Lib.uvarintFrom i acc (x.toUInt8 :: r) = _; have hn : (x.toUInt8).toNat = x := by simp; omega
    rw [Lib.uvarintFrom, znh (by omega), if_pos (by omega), hn]; rw [znh]
    ·simp
    ·rintro ⟨rfl, h2⟩
     simp at hx; omega
   ·rw [Lib.uvarint_big h]
    show Lib.uvarintFrom i acc ((x % 128 + 128).toUInt8 :: (Lib.uvarint (x / 128) ++ r)) = _; have hn : ((x % 128 + 128).toUInt8).toNat = x % 128 + 128 := by simp; omega
    have hi9 : i < 9 := by
     rcases zmN i 9 with h' | h'
     ·exact h'
     ·obtain rfl : i = 9 := by omega
      simp at hx; omega
    have hp : 2 ^ (7 * (i + 1)) = 128 * 2 ^ (7 * i) := by rw [Nat.mul_add, Nat.pow_add]; simp [Nat.mul_comm]
    have dS : (x / 128) * 2 ^ (7 * (i + 1)) <= x * 2 ^ (7 * i) := by
     rw [hp, <- Nat.mul_assoc]; exact zmx _ (Nat.div_mul_le_self x 128)
    rw [Lib.uvarintFrom, znh (by omega), znh (by omega), hn, ih (x / 128) (by omega) (i + 1) _ r (by omega) (by omega)]; have he : x * 2 ^ (7 * i) = x % 128 * 2 ^ (7 * i) + x / 128 * 2 ^ (7 * (i + 1)) := by
     rw [hp, <- Nat.mul_assoc, <- Nat.add_mul]; congr 1; omega
    have e1 : (x % 128 + 128) % 128 = x % 128 := by omega
    rw [e1, he]; simp only [zmC]; refine Prod.ext (by simp only []; omega) (by simp only []; omega)
theorem zeJ (x : Nat) (hx : x < 18446744073709551616) (r : List UInt8) : gUv (some (Lib.uvarint x ++ r)) = (x, some r) := by
 have h : Lib.uvarintDec (Lib.uvarint x ++ r) = (x, ((Lib.uvarint x).length : Int)) := by
  rw [Lib.uvarintDec, uvFrom_uv 0 x 0 r (by omega) (by simpa using hx)]; simp
 have hp := Lib.uvarint_pos x; unfold gUv; simp only [h]; rw [if_pos (by omega)]; simp
theorem unzz (x : Int) : Lib.unzigzag (Lib.zigzag x) = x := by
 unfold Lib.unzigzag Lib.zigzag; split <;> split <;> omega
theorem zce (x : Int) (h0 : -9223372036854775808 <= x) (h1 : x <= 9223372036854775807) (r : List UInt8) : zaI (some (Lib.uvarint (Lib.zigzag x) ++ r)) = (x, some r) := by
 unfold zaI; rw [zeJ _ (by unfold Lib.zigzag; split <;> omega), unzz]
theorem zaY (v : Nat) (hv : v < 18446744073709551616) (r : List UInt8) : zab (some (Lib.beBytes 8 v ++ r)) = (v, some r) := by
 have h := Lib.beNat_beBytes 8 v (by simpa using hv); have hl := zmu 8 v; generalize Lib.beBytes 8 v = l at h hl ⊢
 match l, hl with
 | [b0, b1, b2, b3, b4, b5, b6, b7], _ => rw [<- h]; rfl
theorem zkn (t : Int) (h0 : -9223372036854775808 <= t) (h1 : t <= 9223372036854775807) : i64 (u64 t) = t := by
 unfold i64 u64 wrap64; omega
theorem ref_back (a b : Nat) (ha : a < 18446744073709551616) : u64 (wrap64 (wrap64 b + wrap64 (wrap64 a - wrap64 b))) = a := by
 have h : wrap64 (wrap64 b + wrap64 (wrap64 a - wrap64 b)) % 18446744073709551616 = (a : Int) := by unfold wrap64; omega
 rw [u64, h]; rfl
theorem zkU (a b : Int) (h0 : -9223372036854775808 <= a) (h1 : a <= 9223372036854775807) : wrap64 (b + wrap64 (a - b)) = a := by unfold wrap64; omega
theorem zlj {br : Nat} {bt x y : Int} {v : Nat} {s0 s1 s2 s3 : St} (h1 : zaI s0 = (x, s1)) (h2 : zaI s1 = (y, s2)) (h3 : zab s2 = (v, s3)) : zba br bt s0 = (⟨u64 (wrap64 (i64 br + x)), wrap64 (bt + y), v⟩, s3) := by
 unfold zba; rw [h1]; show (Smp.mk _ (wrap64 (bt + (zaI s1).1)) (zab (zaI s1).2).1, (zab (zaI s1).2).2) = _; rw [h2]; show (Smp.mk _ _ (zab s2).1, (zab s2).2) = _; rw [h3]
theorem zjV (f s : Smp) (hf : f.wf) (hs : s.wf) (r : List UInt8) : zba f.ref f.t (some (zbx f s ++ r)) = (s, some r) := by
 have e0 : zbx f s ++ r = Lib.uvarint (Lib.zigzag (zmj f s)) ++ (Lib.uvarint (Lib.zigzag (dT f s)) ++ (Lib.beBytes 8 s.v ++ r)) := by simp only [zbx, zmn]
 rw [e0, zlj (zce (zmj f s) (zae _).1 (zae _).2 _) (zce (dT f s) (zae _).1 (zae _).2 _) (zaY _ hs.2.2.2 _)]; show (Smp.mk (u64 (wrap64 (wrap64 f.ref + wrap64 (wrap64 s.ref - wrap64 f.ref)))) (wrap64 (f.t + wrap64 (s.t - f.t))) s.v, some r) = _; rw [ref_back _ _ hs.1, zkU _ _ hs.2.1 hs.2.2.1]
theorem zhP (f s : Smp) : ∃ c r, zbx f s = c :: r := by
 have := Lib.uvarint_pos (Lib.zigzag (zmj f s)); rcases h : zbx f s with _ | ⟨c, r⟩
 ·have : (zbx f s).length = 0 := by rw [h]; rfl
  unfold zbx at this; simp only [zml] at this; omega
 ·exact ⟨c, r, rfl⟩
theorem zgp (f : Smp) (hf : f.wf) : ∀ (l : List Smp) (k : Nat) (acc : List Smp), (∀ s ∈ l, s.wf) -> l.length <= k -> zbb f.ref f.t k (some (l.flatMap (zbx f))) acc = (acc ++ l, some [])
 | [], k, acc, _, _ => by cases k <;> simp [zbb]
 | s :: l, 0, acc, _, h => by simp at h
 | s :: l, k + 1, acc, hw, h => by
   obtain ⟨c, r, e⟩ := zhP f s; have ba := zjV f s hf (hw s (by simp)) (l.flatMap (zbx f)); rw [zmz]; rw [e] at ba ⊢; show zbb f.ref f.t (k + 1) (some (c :: (r ++ l.flatMap (zbx f)))) acc = _; have jl : zba f.ref f.t (some (c :: (r ++ l.flatMap (zbx f)))) = (s, some (l.flatMap (zbx f))) := ba; rw [zbb, jl]; simp only []
   rw [zgp f hf l k (acc ++ [s]) (fun x hx => hw x (by simp [hx])) (by simpa using h)]; simp
theorem zir (f : Smp) (l : List Smp) : l.length <= (l.flatMap (zbx f)).length := by
 induction l with
 | nil => simp
 | cons s l ih =>
   obtain ⟨c, r, e⟩ := zhP f s; rw [zmz, zml, e]; simp only [zmC]; omega
theorem dec_enc (l : List Smp) (hl : ∀ s ∈ l, s.wf) : zal (zaC l) = some l := by
 rcases l with _ | ⟨f, r⟩
 ·rfl
 ·have hf := hl f (by simp)
  have hn := zir f (f :: r); obtain ⟨X, hX⟩ := exE ((f :: r).flatMap (zbx f)); have h1 := zaY f.ref hf.1 (Lib.beBytes 8 (u64 f.t) ++ X); have h2 := zaY (u64 f.t) (zkT _) X; have hL := zgp f hf (f :: r) (Lib.beBytes 8 f.ref ++ (Lib.beBytes 8 (u64 f.t) ++ X)).length [] hl (by simp only [zml]; rw [<- hX]; omega); rw [hX] at hL
  have e0 : zaC (f :: r) = 2 :: (Lib.beBytes 8 f.ref ++ (Lib.beBytes 8 (u64 f.t) ++ X)) := by
   rw [<- hX]; simp only [zaC, zd8, zmn]; rfl
  rw [e0, zal, if_pos rfl, znh (by
   intro h; have := znb List.length h
   simp [zmu] at this)]
  have e3 : zao (zab (some (Lib.beBytes 8 f.ref ++ (Lib.beBytes 8 (u64 f.t) ++ X)))).2 = (f.t, some X) := by
   rw [h1]; show (i64 (zab (some (Lib.beBytes 8 (u64 f.t) ++ X))).1, (zab (some (Lib.beBytes 8 (u64 f.t) ++ X))).2) = _; rw [h2]; show (i64 (u64 f.t), some X) = _; rw [zkn _ hf.2.1 hf.2.2.1]
  rw [e3, h1]; show (match zbb f.ref f.t _ (some X) [] with | (l, some _) => some l | (_, none) => none) = _; rw [hL]; rfl
def zad {α : Type} (step : St -> α × St) : Nat -> St -> List α -> List α × St
 | k + 1, some (c :: r), acc => zad step k (step (some (c :: r))).2 (acc ++ [(step (some (c :: r))).1])
 | _, st, acc => (acc, st)
theorem zgB {α : Type} (step : St -> α × St) (enc : α -> List UInt8) (Q : α -> Prop) (hs : ∀ x r, Q x -> step (some (enc x ++ r)) = (x, some r)) (hp : ∀ x, ∃ c r, enc x = c :: r) :
 ∀ (l : List α) (k : Nat) (acc : List α), (∀ x ∈ l, Q x) -> l.length <= k -> zad step k (some (l.flatMap enc)) acc = (acc ++ l, some [])
 | [], k, acc, _, _ => by cases k <;> simp [zad]
 | x :: l, 0, acc, _, h => by simp at h
 | x :: l, k + 1, acc, hw, h => by
   obtain ⟨c, r, e⟩ := hp x; have ba := hs x (l.flatMap enc) (hw x (by simp)); rw [zmz]; rw [e] at ba ⊢; show zad step (k + 1) (some (c :: (r ++ l.flatMap enc))) acc = _; have jl : step (some (c :: (r ++ l.flatMap enc))) = (x, some (l.flatMap enc)) := ba; rw [zad, jl]; simp only []
   rw [zgB step enc Q hs hp l k (acc ++ [x]) (fun y hy => hw y (by simp [hy])) (by simpa using h)]; simp
def zbq {α : Type} (t : UInt8) (step : St -> α × St) (xs : List UInt8) : Option (List α) :=
 match xs with
 | [] => none
 | b :: rest => if b = t then (match zad step rest.length (some rest) [] with
    | (l, some _) => some l
    | (_, none) => none) else none
theorem flat_pos {α : Type} (enc : α -> List UInt8) (hp : ∀ x, ∃ c r, enc x = c :: r) (l : List α) : l.length <= (l.flatMap enc).length := by
 induction l with
 | nil => simp
 | cons s l ih =>
   obtain ⟨c, r, e⟩ := hp s; rw [zmz, zml, e]; simp only [zmC]; omega
theorem zes {α : Type} (t : UInt8) (step : St -> α × St) (enc : α -> List UInt8) (Q : α -> Prop) (hs : ∀ x r, Q x -> step (some (enc x ++ r)) = (x, some r)) (hp : ∀ x, ∃ c r, enc x = c :: r) (l : List α) (hl : ∀ x ∈ l, Q x) :
 zbq t step (t :: l.flatMap enc) = some l := by
 rw [zbq, if_pos rfl, zgB step enc Q hs hp l _ [] hl (flat_pos enc hp l)]; rfl
structure Mrk where
 ref : Nat
 mm : Nat
def Mrk.wf (s : Mrk) : Prop := s.ref < 18446744073709551616 /\ s.mm < 18446744073709551616
def zbJ (st : St) : Mrk × St := (⟨(zab st).1, (zab (zab st).2).1⟩, (zab (zab st).2).2)
def zcx (s : Mrk) : List UInt8 := Lib.beBytes 8 s.ref ++ Lib.beBytes 8 s.mm
theorem zlZ (s : Mrk) : ∃ c r, zcx s = c :: r := by
 rcases h : zcx s with _ | ⟨c, r⟩
 ·have := znb List.length h
  simp [zcx, zmu] at this
 ·exact ⟨c, r, rfl⟩
theorem zlr {a b : Nat} {s0 s1 s2 : St} (h1 : zab s0 = (a, s1)) (h2 : zab s1 = (b, s2)) : zbJ s0 = (⟨a, b⟩, s2) := by
 unfold zbJ; rw [h1]; show (Mrk.mk a (zab s1).1, (zab s1).2) = _; rw [h2]
theorem zkc (s : Mrk) (r : List UInt8) (hs : s.wf) : zbJ (some (zcx s ++ r)) = (s, some r) := by
 have e0 : zcx s ++ r = Lib.beBytes 8 s.ref ++ (Lib.beBytes 8 s.mm ++ r) := by simp only [zcx, zmn]
 rw [e0, zlr (zaY _ hs.1 _) (zaY _ hs.2 _)]
def zaU (l : List Mrk) : List UInt8 := 5 :: l.flatMap zcx
def zaz (xs : List UInt8) : Option (List Mrk) := zbq 5 zbJ xs
theorem zhu (l : List Mrk) (hl : ∀ s ∈ l, s.wf) : zaz (zaU l) = some l := zes 5 zbJ zcx Mrk.wf zkc zlZ l hl
structure Stn where
 ref : Nat
 lo : Int
 hi : Int
def Stn.wf (s : Stn) : Prop := s.ref < 18446744073709551616 /\ (-9223372036854775808 <= s.lo /\ s.lo <= 9223372036854775807) /\ (-9223372036854775808 <= s.hi /\ s.hi <= 9223372036854775807)
def zbw (st : St) : Stn × St := (⟨(zab st).1, (zaI (zab st).2).1, (zaI (zaI (zab st).2).2).1⟩, (zaI (zaI (zab st).2).2).2)
def zb9 (s : Stn) : List UInt8 := Lib.beBytes 8 s.ref ++ (Lib.uvarint (Lib.zigzag s.lo) ++ Lib.uvarint (Lib.zigzag s.hi))
theorem zlX (s : Stn) : ∃ c r, zb9 s = c :: r := by
 rcases h : zb9 s with _ | ⟨c, r⟩
 ·have := znb List.length h
  simp [zb9, zmu] at this
 ·exact ⟨c, r, rfl⟩
theorem zli {a : Nat} {b c : Int} {s0 s1 s2 s3 : St} (h1 : zab s0 = (a, s1)) (h2 : zaI s1 = (b, s2)) (h3 : zaI s2 = (c, s3)) : zbw s0 = (⟨a, b, c⟩, s3) := by
 unfold zbw; rw [h1]; show (Stn.mk a (zaI s1).1 (zaI (zaI s1).2).1, (zaI (zaI s1).2).2) = _; rw [h2]; show (Stn.mk a b (zaI s2).1, (zaI s2).2) = _; rw [h3]
theorem zjT (s : Stn) (r : List UInt8) (hs : s.wf) : zbw (some (zb9 s ++ r)) = (s, some r) := by
 have e0 : zb9 s ++ r = Lib.beBytes 8 s.ref ++ (Lib.uvarint (Lib.zigzag s.lo) ++ (Lib.uvarint (Lib.zigzag s.hi) ++ r)) := by simp only [zb9, zmn]
 rw [e0, zli (zaY _ hs.1 _) (zce _ hs.2.1.1 hs.2.1.2 _) (zce _ hs.2.2.1 hs.2.2.2 _)]
def zky (l : List Stn) : List UInt8 := 3 :: l.flatMap zb9
def zaF (xs : List UInt8) : Option (List Stn) := zbq 3 zbw xs
theorem zit (l : List Stn) (hl : ∀ s ∈ l, s.wf) : zaF (zky l) = some l := zes 3 zbw zb9 Stn.wf zjT zlX l hl
theorem zdh {P : Nat -> Prop} {w : World} {v : Value} {size m tx e : Nat} {cs : List Value} (hk : prog.underlying tx = some (.slice e)) (h : Sl P w v size m cs) (h1 : ∀ u ∈ cs, u.oneCell' = true) : Src prog size tx v m cs w := by
 obtain ⟨A, c, rfl, hl, hc, hr⟩ := h; rcases zmH m with rfl | hm
 ·have : cs = [] := zmM (by simpa using hl)
  subst this; rcases A with _ | a
  ·exact Src.ofNil (e' := e) _ hk c
  ·exact Src.ofSlice (e' := e) _ hk a 0 c [] (by simp) (fun j u hj => by simp at hj) h1
 ·obtain ⟨g, off, rfl, _, aa⟩ := hr hm
  exact Src.ofSlice (e' := e) _ hk ⟨g, off, none⟩ m c cs hl (fun j u hj => by
   have e1 : (⟨g, off, none⟩ : Addr).add j = ⟨g, off + j, none⟩ := by unfold Addr.add; split <;> simp_all
   rw [e1]; exact aa j u hj) h1
def zla (L : Value -> World -> Prop) (w : World) (br bl : Nat) (o : Option Nat) (ys : List UInt8) (r : Ending) (w' : World) : Prop :=
 r = .returned (.tuple #[]) /\ ∃ v' lv, Blk w' br 44 #[v'] /\ Blk w' bl 52 #[lv] /\ L lv w' /\ w'.ownsRow 0 5 1 v' ys.length (bc ys) /\ Fr (fun k => some k = o ∨ k = br ∨ k = bl) w w' /\ (v'.ownBlock = o ∨ ∃ k, v'.ownBlock = some k /\ w.heap.size <= k)
def zbO (L : Value -> World -> Prop) (w : World) (ys : List UInt8) (r : Ending) (w' : World) : Prop :=
 ∃ v' lv, r = .returned (.tuple #[v', lv]) /\ L lv w' /\ w'.ownsRow w.heap.size 5 1 v' ys.length (bc ys) /\ Fr (fun _ => False) w w'
theorem own_up {w : World} {base b : Nat} {e : TypeId} {size n : Nat} {v : Value} {xs : List Value} (h : w.ownsRow b e size v n xs) (hb : ∀ g, v.ownBlock = some g -> base <= g) : w.ownsRow base e size v n xs :=
 ⟨h.1, h.2.imp id fun ⟨g, aO, cur, h1, h2, h3⟩ => ⟨g, aO, cur, h1, hb g (by rw [h1]; rfl), h3⟩⟩
theorem laid_mk (w : World) (kind bv : Value) (p : Array Value) :
 let W := ((((((w.alloc (.cells #[kind] 3)).alloc (.cells p 54)).alloc (.cells #[bv] 44)).alloc (.cells #[.slice none 0 0] 44)).alloc (.cells #[.slice none 0 0] 52)).alloc (.cells #[] 196)).alloc (.cells #[] 5)
 Blk W w.heap.size 3 #[kind] /\ Blk W (w.heap.size + 1) 54 p /\ Blk W (w.heap.size + 2) 44 #[bv] /\ Blk W (w.heap.size + 3) 44 #[.slice none 0 0] /\ Blk W (w.heap.size + 4) 52 #[.slice none 0 0] /\ Fr (fun _ => False) w W /\ W.heap.size = w.heap.size + 7 /\ W.ownsRow w.heap.size 5 1 (.slice (some ⟨w.heap.size + 6, 0, none⟩) 0 0) 0 [] := by
 intro W; have e : ∀ (w : World) (o : Obj), (w.alloc o).heap.size = w.heap.size + 1 := fun w o => by simp
 refine ⟨?_, ?_, ?_, ?_, ?_, ?_, ?_, ?_⟩
 ·exact ((((((znr w 3 _).alloc _).alloc _).alloc _).alloc _).alloc _).alloc _
 ·have := (((((znr (w.alloc (.cells #[kind] 3)) 54 p).alloc (.cells #[bv] 44)).alloc (.cells #[.slice none 0 0] 44)).alloc (.cells #[.slice none 0 0] 52)).alloc (.cells #[] 196)).alloc (.cells #[] 5)
  rwa [e] at this
 ·have := ((((znr ((w.alloc (.cells #[kind] 3)).alloc (.cells p 54)) 44 #[bv]).alloc (.cells #[.slice none 0 0] 44)).alloc (.cells #[.slice none 0 0] 52)).alloc (.cells #[] 196)).alloc (.cells #[] 5)
  rwa [e, e] at this
 ·have := (((znr (((w.alloc (.cells #[kind] 3)).alloc (.cells p 54)).alloc (.cells #[bv] 44)) 44 #[.slice none 0 0]).alloc (.cells #[.slice none 0 0] 52)).alloc (.cells #[] 196)).alloc (.cells #[] 5)
  rwa [e, e, e] at this
 ·have := ((znr ((((w.alloc (.cells #[kind] 3)).alloc (.cells p 54)).alloc (.cells #[bv] 44)).alloc (.cells #[.slice none 0 0] 44)) 52 #[.slice none 0 0]).alloc (.cells #[] 196)).alloc (.cells #[] 5)
  rwa [e, e, e, e] at this
 ·exact (((((((znq _ w).alloc _).alloc _).alloc _).alloc _).alloc _).alloc _).alloc _
 ·simp [W]
 ·have := znp (base := w.heap.size) (e := 5) (size := 1) ((((((w.alloc (.cells #[kind] 3)).alloc (.cells p 54)).alloc (.cells #[bv] 44)).alloc (.cells #[.slice none 0 0] 44)).alloc (.cells #[.slice none 0 0] 52)).alloc (.cells #[] 196)) #[] 0 (by simp; omega) (zmv _) rfl
  simp only [e] at this; exact this
theorem zi0 {g k n c : Nat} (h : g ≠ k) : some g ≠ (Value.slice (some ⟨k, 0, none⟩) n c).ownBlock := fun e => h (zna e)
def Vars (W W' : World) : Prop := Fr (fun k => ∃ cs, Blk W k 4 cs ∨ Blk W k 44 cs ∨ Blk W k 52 cs) W W'
theorem zaS (kind : Int) (s0 s1 s2 s3 s4 s5 s6 bv : Value) (xs ys : List UInt8) (P : Nat -> Prop) (L : Value -> World -> Prop) (w : World) (hb : Sl P w bv 1 xs.length (bc xs)) (bh : xs.length <= 1073741824)
 (au : ∀ s ∈ [s0, s1, s2, s3, s4, s5, s6], ∃ A m c, s = .slice A m c) (qc : ∀ lv W, L lv W -> ∃ A m c, lv = .slice A m c)
 (hL : ∀ lv W W', L lv W -> Vars W W' -> L lv W')
 (hc : ∀ (bk be bp bb br bl : Nat) (v : Value) (W : World), Blk W bk 3 #[.int .i64 kind] -> Blk W bp 54 #[s0, s1, s2, s3, s4, s5, s6] -> Blk W bb 44 #[v] -> Blk W br 44 #[.slice none 0 0] -> Blk W bl 52 #[.slice none 0 0] -> W.ownsRow w.heap.size 5 1 v xs.length (bc xs) ->
   bb ≠ br -> Fr (fun _ => False) w W -> Calls prog 90 #[.pointer (some ⟨bk, 0, none⟩), .pointer (some ⟨be, 0, none⟩), .pointer (some ⟨bp, 0, none⟩), .pointer (some ⟨bb, 0, none⟩), .pointer (some ⟨br, 0, none⟩), .pointer (some ⟨bl, 0, none⟩)] W (zla L W br bl v.ownBlock ys)) :
 Calls prog 31 #[.int .i64 kind, .agg #[s0, s1, s2, s3, s4, s5, s6], bv] w (zbO L w ys) := by
 obtain ⟨i0, aD, aA, az, aC⟩ := info_parts zfp; have HB := zmk hb; have HC := zmk hc; have HL := zmk hL; have HLS := zmk qc; have hbv : ∃ A m c, bv = .slice A m c := let ⟨A, c, h, _⟩ := hb; ⟨A, _, c, h⟩
 obtain ⟨A, m, c, rfl⟩ := hbv; obtain ⟨A0, m0, c0, rfl⟩ := au s0 (by simp); obtain ⟨A1, m1, c1, rfl⟩ := au s1 (by simp); obtain ⟨A2, m2, c2, rfl⟩ := au s2 (by simp); obtain ⟨A3, m3, c3, rfl⟩ := au s3 (by simp); obtain ⟨A4, m4, c4, rfl⟩ := au s4 (by simp); obtain ⟨A5, m5, c5, rfl⟩ := au s5 (by simp); obtain ⟨A6, m6, c6, rfl⟩ := au s6 (by simp); clear hb hc hL au qc
 have hmf : ∀ (fn : Fn) (first aO : Array Value) (w : World), (Instr.makeFunc fn first aO).run prog w = .ok (.func fn first aO) w := fun _ _ _ _ => rfl; go_enter func31, ntmps31; go_wp2_with (at_builtin; refine Hid.out ?_)
 have hM := laid_mk w (.int .i64 kind) (.slice A m c) #[.slice A0 m0 c0, .slice A1 m1 c1, .slice A2 m2 c2, .slice A3 m3 c3, .slice A4 m4 c4, .slice A5 m5 c5, .slice A6 m6 c6]; dsimp only at hM; generalize hW : World.alloc _ (Obj.cells #[] 5) = W at hM ⊢; clear hW; obtain ⟨B3, B4, B5, B6, B7, hF, hS, hO⟩ := hM; have HS := zmk hS
 have cK := zdh underlying44 (HB.out.fr hF (fun _ _ e => e)) (zfN xs); refine zaf _ rfl _ _ 44 44 rfl w.heap.size 5 i0 (.int .u8 0) 1 1 underlying44 aD aA az aC rfl (by decide) _ 0 [] rfl hO _ xs.length (bc xs) rfl cK (by unfold maxLen; omega) (by omega) (by omega) ?_; intro v' w2 ac ad ax
 rw [zmP, zmW] at ac; obtain ⟨a2, n2, k2, rfl⟩ := zac ac; have eK : ∀ g, (Value.slice a2 n2 k2).ownBlock = some g -> w.heap.size + 6 <= g := fun g hg => by
  rcases ax with h | h <;> rw [h] at hg
  ·injection hg with hg; exact Nat.le_of_eq hg
  ·injection hg with hg; omega
 have g3 := B3.grown ad (zi0 (by omega)); have g4 := B4.grown ad (zi0 (by omega)); have g5 := B5.grown ad (zi0 (by omega)); have g6 := B6.grown ad (zi0 (by omega)); have g7 := B7.grown ad (zi0 (by omega)); have gF := hF.grown ad (fun k hk => .inr (by have hk : w.heap.size + 6 = k := zna hk; omega))
 have q2 : w2.cell? ⟨w.heap.size + 1 + 1, 0, none⟩ = some (.slice A m c) := by simpa using g5.cell 0
 have z2 : w2.frozen? ⟨w.heap.size + 1 + 1, 0, none⟩ = false := g5.frozen 0; obtain ⟨W3, eQ⟩ : ∃ W3, w2.setCell ⟨w.heap.size + 1 + 1, 0, none⟩ (.slice a2 n2 k2) = W3 := ⟨_, rfl⟩; have h3 : Blk W3 w.heap.size 3 #[.int .i64 kind] := eQ ▸ g3.far (p := ⟨w.heap.size + 1 + 1, 0, none⟩) (by show w.heap.size ≠ w.heap.size + 1 + 1; omega) _
 have h4 : Blk W3 (w.heap.size + 1) 54 #[.slice A0 m0 c0, .slice A1 m1 c1, .slice A2 m2 c2, .slice A3 m3 c3, .slice A4 m4 c4, .slice A5 m5 c5, .slice A6 m6 c6] := eQ ▸ g4.far (p := ⟨w.heap.size + 1 + 1, 0, none⟩) (by show w.heap.size + 1 ≠ w.heap.size + 1 + 1; omega) _; have h5 : Blk W3 (w.heap.size + 2) 44 #[.slice a2 n2 k2] := eQ ▸ (by simpa using g5.set_ 0 (.slice a2 n2 k2))
 have h6 : Blk W3 (w.heap.size + 3) 44 #[.slice none 0 0] := eQ ▸ g6.far (p := ⟨w.heap.size + 1 + 1, 0, none⟩) (by show w.heap.size + 3 ≠ w.heap.size + 1 + 1; omega) _; have h7 : Blk W3 (w.heap.size + 4) 52 #[.slice none 0 0] := eQ ▸ g7.far (p := ⟨w.heap.size + 1 + 1, 0, none⟩) (by show w.heap.size + 4 ≠ w.heap.size + 1 + 1; omega) _
 have h8 : Fr (fun _ => False) w W3 := eQ ▸ gF.setCell (p := ⟨w.heap.size + 1 + 1, 0, none⟩) (.inr (by show w.heap.size <= w.heap.size + 1 + 1; omega)) _; have h9 : W3.ownsRow w.heap.size 5 1 (.slice a2 n2 k2) xs.length (bc xs) := eQ ▸ zaj ac (Fr.put_ w2 (w.heap.size + 1 + 1) 0 _) (fun g hg e => by have := eK g hg; omega); have pD := h7.lt
 have fT := HC.out w.heap.size (w.heap.size + 1 + 1 + 1 + 1 + 1) (w.heap.size + 1) (w.heap.size + 1 + 1) (w.heap.size + 1 + 1 + 1) (w.heap.size + 1 + 1 + 1 + 1) (.slice a2 n2 k2) _ (h3.alloc (.cells #[.bool false] 4)) (h4.alloc _) (h5.alloc _) (h6.alloc _) (h7.alloc _) (h9.alloc _) (by omega) (h8.alloc _)
 have fI := safe_ok 90 _ W3 _ (enters_of func90 (by kernel_rfl) rfl) (fT.mono (fun r w' hr => ⟨hr.1, hr.2, by
  obtain ⟨_, v', lv, _, _, _, _, hf, _⟩ := hr; refine (znr W3 4 #[.bool false]).fr hf ?_; rintro (h | h | h)
  ·have := zas h9 h.symm; omega
  ·omega
  ·omega⟩))
 have HW3 := zmk eQ; clear eQ; refine zmk ?_; have HH9 := zmk h9; have HH8 := zmk h8; have HH7 := zmk pD; have nX := zmk eK; clear fT h3 h4 h5 h6 h7 h8 h9 g3 g4 g5 g6 g7 gF B3 B4 B5 B6 B7 hF hO cK ad ax ac HB HC pD eK hS; refine Hid.out ?_; refine .inl ?_
 go_wp2_with (rw [HW3.out]; go_at_call 65; refine fI.mono ?_; rintro r w4 ⟨rfl, w5, hq, cg, rfl⟩; refine Hid.out ?_)
 obtain ⟨v3, lv, q6, q7, qL, qO, qF, qA⟩ := hq; obtain ⟨a3, n3, k3, rfl⟩ := zac qO; obtain ⟨a4, n4, k4, rfl⟩ := HLS.out lv _ qL; have s6 := q6.lt; have s7 := q7.lt; have hn3 := HH7.out
 have r6 : Blk ((w5.setCell ⟨W3.heap.size, 0, none⟩ (.bool true)).setCell ⟨W3.heap.size, 0, none⟩ (.bool true)) _ _ _ := (q6.far (p := ⟨W3.heap.size, 0, none⟩) (by show w.heap.size + 1 + 1 + 1 ≠ W3.heap.size; omega) _).far (p := ⟨W3.heap.size, 0, none⟩) (by show w.heap.size + 1 + 1 + 1 ≠ W3.heap.size; omega) _
 have r7 : Blk ((w5.setCell ⟨W3.heap.size, 0, none⟩ (.bool true)).setCell ⟨W3.heap.size, 0, none⟩ (.bool true)) _ _ _ := (q7.far (p := ⟨W3.heap.size, 0, none⟩) (by show w.heap.size + 1 + 1 + 1 + 1 ≠ W3.heap.size; omega) _).far (p := ⟨W3.heap.size, 0, none⟩) (by show w.heap.size + 1 + 1 + 1 + 1 ≠ W3.heap.size; omega) _
 have v5 : Vars w5 ((w5.setCell ⟨W3.heap.size, 0, none⟩ (.bool true)).setCell ⟨W3.heap.size, 0, none⟩ (.bool true)) :=
  ((znq _ w5).setCell (p := ⟨W3.heap.size, 0, none⟩) (.inl ⟨_, .inl cg⟩) _).setCell (p := ⟨W3.heap.size, 0, none⟩) (.inl ⟨_, .inl cg⟩) _
 have f5 : Fr (fun _ => False) w ((w5.setCell ⟨W3.heap.size, 0, none⟩ (.bool true)).setCell ⟨W3.heap.size, 0, none⟩ (.bool true)) := by
  have bN := HH8.out.size; refine Fr.setCell (Fr.setCell ?_ (p := ⟨W3.heap.size, 0, none⟩) (.inr bN) _) (p := ⟨W3.heap.size, 0, none⟩) (.inr bN) _; refine (HH8.out.alloc (.cells #[.bool false] 4)).trans qF ?_; rintro k hk (h | h | h)
  ·have := nX.out k h.symm; omega
  ·omega
  ·omega
 have aM : ((w5.setCell ⟨W3.heap.size, 0, none⟩ (.bool true)).setCell ⟨W3.heap.size, 0, none⟩ (.bool true)).ownsRow w.heap.size 5 1 (.slice a3 n3 k3) ys.length (bc ys) := by
  refine own_up (zaj qO (((znq (fun k => k = W3.heap.size) w5).setCell (p := ⟨W3.heap.size, 0, none⟩) (.inl rfl) _).setCell (p := ⟨W3.heap.size, 0, none⟩) (.inl rfl) _) (fun g hg e => zak qO cg (by decide) (by rw [hg, e]))) ?_; intro g hg; rcases qA with h | ⟨k, h, hk⟩
  ·have := nX.out g (h ▸ hg); omega
  ·rw [h] at hg; injection hg with hg; simp at hk; omega
 have km := HL.out _ _ _ qL v5; refine zmk ?_; generalize World.setCell _ _ _ = w6 at r6 r7 v5 f5 aM km ⊢; have l6 := r6.cell 0; have l7 := r7.cell 0; have z6 := r6.frozen 0; have z7 := r7.frozen 0; simp at l6 l7; have m6 : Blk (w6.setCell ⟨w.heap.size + 1 + 1 + 1, 0, none⟩ (.slice a3 n3 k3)) (w.heap.size + 1 + 1 + 1) 44 #[.slice a3 n3 k3] := by simpa using r6.set_ 0 (.slice a3 n3 k3)
 have m7 : Blk (w6.setCell ⟨w.heap.size + 1 + 1 + 1, 0, none⟩ (.slice a3 n3 k3)) (w.heap.size + 1 + 1 + 1 + 1) 52 #[.slice a4 n4 k4] := r7.far (p := ⟨w.heap.size + 1 + 1 + 1, 0, none⟩) (by show w.heap.size + 1 + 1 + 1 + 1 ≠ w.heap.size + 1 + 1 + 1; omega) _; have j6 := m6.cell 0; have j7 := m7.cell 0
 have m8 : Blk ((w6.setCell ⟨w.heap.size + 1 + 1 + 1, 0, none⟩ (.slice a3 n3 k3)).setCell ⟨w.heap.size + 1 + 1 + 1 + 1, 0, none⟩ (.slice a4 n4 k4)) (w.heap.size + 1 + 1 + 1) 44 #[.slice a3 n3 k3] := m6.far (p := ⟨w.heap.size + 1 + 1 + 1 + 1, 0, none⟩) (by show w.heap.size + 1 + 1 + 1 ≠ w.heap.size + 1 + 1 + 1 + 1; omega) _
 have m9 : Blk ((w6.setCell ⟨w.heap.size + 1 + 1 + 1, 0, none⟩ (.slice a3 n3 k3)).setCell ⟨w.heap.size + 1 + 1 + 1 + 1, 0, none⟩ (.slice a4 n4 k4)) (w.heap.size + 1 + 1 + 1 + 1) 52 #[.slice a4 n4 k4] := by simpa using m7.set_ 0 (.slice a4 n4 k4)
 have j8 := m8.cell 0; have j9 := m9.cell 0; simp at j6 j7 j8 j9; have M8 := zmk m8; have M9 := zmk m9; clear m6 m7 m8 m9; have R6 := zmk r6; have R7 := zmk r7; have F6 := zmk f5; have gp := zmk aM; have oD := zmk km; clear aM km r6 r7 v5 f5 qL qO qF qA q6 q7 cg fI q2 z2 HW3 s6 s7 hn3; go_wp2_with fail
 go_region_held3 (fun w' => w'.cell? ⟨w.heap.size + 1 + 1 + 1, 0, none⟩ = some (.slice a3 n3 k3) /\ w'.cell? ⟨w.heap.size + 1 + 1 + 1 + 1, 0, none⟩ = some (.slice a4 n4 k4))
  ((first | (go_split_ands; refine ⟨?_, ?_⟩ <;> first | exact j6 | exact j7) | (go_split_ands; refine ⟨?_, ?_⟩ <;> first | exact j8 | exact j9) | go_keep)) (fail)
 have HE : Fr (fun _ => False) w ((w6.setCell ⟨w.heap.size + 1 + 1 + 1, 0, none⟩ (.slice a3 n3 k3)).setCell ⟨w.heap.size + 1 + 1 + 1 + 1, 0, none⟩ (.slice a4 n4 k4)) :=
  (F6.out.setCell (p := ⟨w.heap.size + 1 + 1 + 1, 0, none⟩) (.inr (by show w.heap.size <= w.heap.size + 1 + 1 + 1; omega)) _).setCell (p := ⟨w.heap.size + 1 + 1 + 1 + 1, 0, none⟩) (.inr (by show w.heap.size <= w.heap.size + 1 + 1 + 1 + 1; omega)) _
 have HV : Vars w6 ((w6.setCell ⟨w.heap.size + 1 + 1 + 1, 0, none⟩ (.slice a3 n3 k3)).setCell ⟨w.heap.size + 1 + 1 + 1 + 1, 0, none⟩ (.slice a4 n4 k4)) :=
  ((znq _ w6).setCell (p := ⟨w.heap.size + 1 + 1 + 1, 0, none⟩) (.inl ⟨_, .inr (.inl R6.out)⟩) _).setCell (p := ⟨w.heap.size + 1 + 1 + 1 + 1, 0, none⟩) (.inl ⟨_, .inr (.inr R7.out)⟩) _
 have lX := zaj gp.out (((znq (fun k => k = w.heap.size + 1 + 1 + 1 ∨ k = w.heap.size + 1 + 1 + 1 + 1) w6).setCell (p := ⟨w.heap.size + 1 + 1 + 1, 0, none⟩) (.inl (.inl rfl)) (.slice a3 n3 k3)).setCell (p := ⟨w.heap.size + 1 + 1 + 1 + 1, 0, none⟩) (.inl (.inr rfl)) (.slice a4 n4 k4)) (by
  rintro g hg (e | e)
  ·exact zak gp.out R6.out (by decide) (by rw [hg, e])
  ·exact zak gp.out R7.out (by decide) (by rw [hg, e]))
 have HF := zmk HE.drew; have rb := zmk (HL.out _ _ _ oD.out HV.drew); have HO7 := zmk (World.ownsRow.drew lX); clear HE HV lX; go_wp2; simp [Exit.then, bodyPost, results, results31, go_sem, j8, j9]; exact ⟨_, _, rfl, rb.out, HO7.out, HF.out⟩
theorem zde {w : World} {br bl : Nat} {v : Value} {n : Nat} {xs : List Value} {ys : List UInt8} {z : Value} (ab : w.ownsRow 0 5 1 v n xs) (hr : Blk w br 44 #[z]) (hl : Blk w bl 52 #[.slice none 0 0]) {r : Ending} {w' : World} (h : zcu w br v.ownBlock ys r w') : zla (fun lv _ => lv = .slice none 0 0) w br bl v.ownBlock ys r w' := by
 obtain ⟨rfl, v', hb, ho, hf, ha⟩ := h; refine ⟨rfl, v', _, hb, hl.fr hf ?_, rfl, ho, hf.mono ?_, ha⟩
 ·rintro (e | e)
  ·exact zak ab hl (by decide) e.symm
  ·exact zns hl hr (by decide) e
 ·rintro k _ (e | e)
  ·exact .inl e
  ·exact .inr (.inl e)
theorem zc5 (s0 s1 s2 s3 s4 s5 s6 bv : Value) (xs : List UInt8) (l : List Smp) (P : Nat -> Prop) (w : World) (hb : Sl P w bv 1 xs.length (bc xs)) (bh : xs.length <= 1073741824)
 (au : ∀ s ∈ [s0, s1, s2, s3, s4, s5, s6], ∃ A m c, s = .slice A m c) (hs : Sl P w s1 3 l.length (l.flatMap Smp.a)) (dh : l.length <= 1073741824) (aG : ∀ s ∈ l, s.wf) :
 Calls prog 31 #[.int .i64 2, .agg #[s0, s1, s2, s3, s4, s5, s6], bv] w (zbO (fun lv _ => lv = .slice none 0 0) w (xs ++ zaC l)) := by
 refine zaS 2 s0 s1 s2 s3 s4 s5 s6 bv xs _ P _ w hb bh au (by rintro lv W rfl; exact ⟨_, _, _, rfl⟩) (fun _ _ _ h _ => h) ?_; intro bk be bp bb br bl v W hk hp bK hr hl ab bL hF
 exact (zhc bk bp bb br _ _ P s0 s1 s2 s3 s4 s5 s6 v _ xs l W hk hp bK hr (zai ab (zmv _)) (hs.fr hF (fun _ _ e => e)) bh dh aG bL).mono fun r w' h => zde (zai ab (zmv _)) hr hl h
def Mrk.c (s : Mrk) : List Value := [.int .u64 s.ref, .int .u64 s.mm]
theorem info166 : (prog.info? 166).map (fun i => (i.zero, i.size, i.bytes)) = some (some (.agg #[.int .u64 0, .int .u64 0]), 2, 16) := by kernel_rfl
theorem info168 : (prog.info? 168).map (fun i => (i.zero, i.size, i.bytes)) = some (some (.agg #[.int .u64 0, .int .u64 0]), 2, 16) := by kernel_rfl
theorem zbE {α : Type} (f : α -> List Value) (h3 : ∀ x, (f x).length = 2) : ∀ (l : List α) (k : Nat) (x : α), l[k]? = some x -> ∀ j, j < 2 -> (l.flatMap f)[k * 2 + j]? = (f x)[j]?
 | [], k, x, h, j, hj => by simp at h
 | y :: l, 0, x, h, j, hj => by
   simp at h; subst h; rw [zmz, zm8 (by rw [h3]; omega)]; simp
 | y :: l, k + 1, x, h, j, hj => by
   rw [zmz, zm9 (by rw [h3]; omega), h3, show (k + 1) * 2 + j - 2 = k * 2 + j by omega]; exact zbE f h3 l k x (by simpa using h) j hj
def zhy (w : World) (l : List Mrk) (r : Ending) (w' : World) : Prop :=
 ∃ v, r = .returned v /\ w'.ownsRow w.heap.size 166 2 v l.length (l.flatMap Mrk.c) /\ Fr (fun _ => False) w w'
theorem zeF (P : Nat -> Prop) (v : Value) (l : List Mrk) (w : World) (h : Sl P w v 2 l.length (l.flatMap Mrk.c)) (hl : l.length <= 1099511627776) :
 Calls prog 80 #[v] w (zhy w l) := by
 obtain ⟨A, c, rfl, ak, aQ, hr⟩ := h; obtain ⟨n, hn⟩ := exE l.length; rw [hn] at hr aQ hl ⊢; have HN := zmk hn; have HR := zmk hr; obtain ⟨i0, aD, aA, az, aC⟩ := info_parts info166; clear hn hr ak; go_enter func80, ntmps80; go_wp2
 go_loopw [2, 7] (fun v i wr => ∃ k : Nat, k <= n /\ i = .int .i64 k /\ wr.ownsRow w.heap.size 166 2 v k ((l.take k).flatMap Mrk.c) /\ Fr (fun _ => False) w wr) (fun _ i _ => n - (intOf i).toNat)
 case atStart => exact ⟨0, zmv _, rfl, zmy _ _ _ _, znq _ _⟩
 case round =>
  obtain ⟨k, hk, rfl, ab, hf⟩ := hrel; by_cases hlt : k < n
  ·obtain ⟨g, off, rfl, _, aa⟩ := HR.out (by omega)
   obtain ⟨x, hx⟩ : ∃ x, l[k]? = some x := ⟨_, zmm (by rw [HN.out]; exact hlt)⟩; have cc : ∀ j, j < 2 -> ∀ u, (Mrk.c x)[j]? = some u -> wr.cell? ⟨g, off + (k * 2 + j), none⟩ = some u := fun j hj u hu => by
    have := aa (k * 2 + j) u (by rw [zbE Mrk.c (fun _ => rfl) l k x hx j hj]; exact hu); rw [hf.cell (p := ⟨g, off + (k * 2 + j), none⟩) (zmr w _ this) (fun e => e)]; exact this
   have c0 : wr.cell? ⟨g, off + k * 2, none⟩ = some (.int .u64 x.ref) := cc 0 (by omega) _ rfl; have c1 : wr.cell? ⟨g, off + k * 2 + 1, none⟩ = some (.int .u64 x.mm) := cc 1 (by omega) _ rfl; have HC := zmk aa; have HO := zmk ab; have HX := zmk hx; obtain ⟨a', n', k', rfl⟩ := zac ab; clear aa cc ab hx; go_wp2_with (at_builtin; refine Hid.out ?_)
   refine zmk ?_
   refine zaf _ rfl _ _ 160 160 rfl w.heap.size 166 i0 _ 2 16 underlying160 aD aA az aC rfl (by decide) _ k ((l.take k).flatMap Mrk.c) rfl ((HO.out.alloc _).alloc _) _ 1 (Mrk.c x) rfl (zaH underlying160 (zaK wr _ 166 (Mrk.c x).toArray) rfl (by simp [Mrk.c, Value.oneCell'])) (by unfold maxLen; omega) (by omega) (by first | omega | (simp; omega) | (have := hf.size; simp; omega)) ?_
   intro v' w2 ac ad ax
   have af : w2.ownsRow w.heap.size 166 2 v' (k + 1) ((l.take (k + 1)).flatMap Mrk.c) := by rw [zan Mrk.c l k x HX.out]; exact ac
   have ar : Fr (fun _ => False) w w2 := ((hf.alloc _).alloc _).grown ad (fun g hg => .inr (((HO.out.lt g hg)).1)); have cH := zmk af; have bg := zmk ar; clear ac ad af ar hf c0 c1 ax
   go_wp2; go_roundw
   case rel => exact ⟨k + 1, by omega, by go_num, cH.out, bg.out⟩
   case measure => simp [intOf]; omega
  ·go_wp2
   go_ret; obtain rfl : k = n := by omega
   refine ⟨_, rfl, ?_, hf⟩; rw [<- HN.out] at ab ⊢; rw [zmL] at ab; exact ab
theorem zhV (s : Mrk) : (zcx s).length = 16 := by simp [zcx, zmu]
theorem zhp (ep : Value) (sv : Value) (P : Nat -> Prop) (v : Value) (xs : List UInt8) (l : List Mrk) (w : World) (h : Sl P w sv 2 l.length (l.flatMap Mrk.c)) (ab : w.ownsRow 0 5 1 v xs.length (bc xs)) (hl : xs.length <= 1073741824)
 (au : l.length <= 1073741824) (aG : ∀ s ∈ l, s.wf) (hP : ∀ g, P g -> g < w.heap.size /\ some g ≠ v.ownBlock) :
 Calls prog 95 #[ep, sv, v] w (zbR w v.ownBlock (xs ++ zaU l)) := by
 obtain ⟨A, c, rfl, ak, aQ, hr⟩ := h; obtain ⟨a', n', k', rfl⟩ := zac ab; obtain ⟨n, hn⟩ := exE l.length; rw [hn] at aQ hr au ⊢; have hE := Enc.made (z := .int .u8 0) ab _ rfl; have hQ := zcm w.heap.size _ xs 5 _ hE (by omega); have e2 : ((5 : UInt8).toNat : Int) = 5 := rfl; rw [e2] at hQ; have HN := zmk hn; have HR := zmk hr; have HP := zmk hP; have HE := zmk hE
 clear hE hr e2 hn ak hP; go_enter func95, ntmps95; go_wp2_with (go_at_call 180; refine hQ.mono ?_; rintro r1 w1 ⟨rfl, R⟩; refine Hid.out ?_)
 have cU := zmk R; clear R hQ; refine zmk ?_; go_wp2_with fail
 have cP : Fr (fun k => some k = (Value.slice a' n' k').ownBlock) w (w.alloc (.cells #[.slice a' n' k', .int .u8 0, .int .u8 0, .int .u8 0, .int .u8 0, .int .u8 0, .int .u8 0, .int .u8 0, .int .u8 0, .int .u8 0, .int .u8 0] 224)) := (znq _ w).alloc _; generalize dZ : w.alloc _ = WB at HE cU cP; have hB : w.heap.size < WB.heap.size := by rw [<- dZ]; simp
 clear dZ; have dF := zmk cP; clear cP; go_loopw [15] (fun i wr => ∃ k : Nat, k <= n /\ i = .int .i64 k /\ Put WB w.heap.size (Value.slice a' n' k').ownBlock xs ([5] ++ (l.take k).flatMap zcx) wr) (fun i _ => n - (intOf i).toNat)
 case atStart => exact ⟨0, zmv _, rfl, by simpa using cU.out⟩
 case round =>
  obtain ⟨k, hk, rfl, R⟩ := hrel; by_cases hlt : k < n
  ·obtain ⟨g, off, rfl, fV, aa⟩ := HR.out (by omega)
   have hg := HP.out g fV; obtain ⟨x, hx⟩ : ∃ x, l[k]? = some x := ⟨_, zmm (by rw [HN.out]; exact hlt)⟩; have eV := aG x (zms hx)
   have dM : Fr (fun k => some k = (Value.slice a' n' k').ownBlock) w wr := dF.out.trans R.fr (fun k hk e => by
    rcases e with e | e
    ·omega
    ·exact e)
   have cc : ∀ j, j < 2 -> ∀ u, (Mrk.c x)[j]? = some u -> wr.cell? ⟨g, off + (k * 2 + j), none⟩ = some u := fun j hj u hu => by
    have := aa (k * 2 + j) u (by rw [zbE Mrk.c (fun _ => rfl) l k x hx j hj]; exact hu); rw [dM.cell (p := ⟨g, off + (k * 2 + j), none⟩) hg.1 hg.2]; exact this
   have d0 : wr.cell? ⟨g, off + k * 2, none⟩ = some (.int .u64 x.ref) := cc 0 (by omega) _ rfl; have d1 : wr.cell? ⟨g, off + k * 2 + 1, none⟩ = some (.int .u64 x.mm) := cc 1 (by omega) _ rfl; have bF : ([(5 : UInt8)] ++ (l.take k).flatMap zcx).length <= 1 + k * 16 := by
    have h1 := zdR zcx 16 (fun s => Nat.le_of_eq (zhV s)) (l.take k); have h2 : (l.take k).length <= k := znl _ _; have h3 : (l.take k).length * 16 <= k * 16 := zmx _ h2; rw [zml, zmB]; omega
   have RA := R.alloc (.cells #[.int .u64 x.ref, .int .u64 x.mm] 166); have ee := zag RA (f := 181) (args := #[.pointer (some ⟨w.heap.size, 0, none⟩), .int .u64 x.ref]) (zs := Lib.beBytes 8 x.ref) (fun o2 he => zcn _ o2 _ _ eV.1 _ he (by rw [zml]; omega)); have df := znr wr 166 #[.int .u64 x.ref, .int .u64 x.mm]; have x0 := df.cell 0; simp at x0; have HX := zmk hx
   have cV := zmk df; have HL := zmk bF; clear hx dM cc df bF aa; go_wp2_with (go_at_call 181; refine ee.mono ?_; rintro rA wA ⟨rfl, RB, KB⟩; refine Hid.out ?_)
   have df := KB.out _ _ _ (by decide) (by decide) cV.out; have x1 := df.cell 1; simp at x1; have de := zag RB (f := 181) (args := #[.pointer (some ⟨w.heap.size, 0, none⟩), .int .u64 x.mm]) (zs := Lib.beBytes 8 x.mm) (fun o2 he => zcn _ o2 _ _ eV.2 _ he (by have := HL.out; rw [zml, zml, zmu]; omega)); clear ee d0 d1 x0 df; refine zmk ?_
   go_wp2_with (go_at_call 181; refine de.mono ?_; rintro rD wD ⟨rfl, RD, KD⟩)
   have RE : Put WB w.heap.size (Value.slice a' n' k').ownBlock xs ([5] ++ (l.take (k + 1)).flatMap zcx) wD := by
    rw [zam zcx l k x HX.out]; simpa [zcx, zmn] using RD
   have cQ := zmk RE; clear RE RD RB de x1 KB KD R RA; go_wp2; go_roundw
   case rel => exact ⟨k + 1, by omega, by go_num, cQ.out⟩
   case measure => simp [intOf]; omega
  ·obtain rfl : k = n := by omega
   obtain ⟨oZ, dy, dX, fN⟩ := R; have hG := zd9 _ _ _ _ dy; have HEZ := zmk dy; have HZ := zmk dX; clear dy dX; go_wp2_with (go_at_call 116; refine hG.mono ?_; rintro rr w2 ⟨v2, rfl, rfl, af, bI⟩)
   go_ret; refine ⟨v2, rfl, ?_, dF.out.trans HZ.out (fun k hk e => ?_), ?_⟩
   ·have e1 : l.take k = l := zmt (by rw [HN.out]; exact zmw _)
    rw [e1] at af; simpa [zaU] using af
   ·rcases e with e | e
    ·omega
    ·exact e
   ·rw [bI]
    rcases fN with h | ⟨k2, h, cO⟩
    ·exact .inl h
    ·exact .inr ⟨k2, h, by omega⟩
def zha (V : Value -> World -> Prop) (w : World) (r : Ending) (w' : World) : Prop := ∃ v, r = .returned v /\ V v w' /\ Fr (fun _ => False) w w'
theorem zik : (prog.info? 108).map (fun i => (i.zero, i.size, i.bytes)) = some (some (.agg #[.string ⟨#[]⟩, .string ⟨#[]⟩]), 2, 32) := by kernel_rfl
theorem zjZ (w : World) : Calls prog 129 #[.int .i64 0] w (zha (fun v _ => ∃ a, v = .agg #[.slice (some a) 0 0, .string ⟨#[]⟩, .slice none 0 0]) w) := by
 obtain ⟨i0, aD, aA, az, aC⟩ := info_parts zik; have mb : ∀ W : World, (Instr.makeSlice 115 (.int .i64 0) (.int .i64 0)).run prog W = .ok (.slice (some ⟨W.heap.size, 0, none⟩) 0 0) (W.alloc (.cells #[] 108)) := fun W => by
  have h := run_make (P := prog) W 115 108 i0 _ underlying115 aD aA .i64 .i64 0 0 (by omega) (by omega) (by omega) (by omega); simp [madeCells, az, Array.range_zero'] at h; exact h
 go_enter func129, ntmps129; go_wp2_with fail
 simp [Exit.then, bodyPost, results, results129, go_sem]; exact ⟨_, rfl, ⟨_, rfl⟩, (((znq _ w).alloc _).alloc _)⟩
theorem type_none (d : Value) (P : Nat -> Prop) (v : Value) (w : World) (h : Sl P w v 1 0 []) : Calls prog 112 #[d, v] w fun r w' => r = .returned (.int .u8 255) /\ w = w' := by
 obtain ⟨A, c, rfl, _⟩ := h; go_enter func112, ntmps112; go_wp2_with fail
 go_ret; exact ⟨rfl, rfl⟩
def zcg : List UInt8 -> Nat
 | [] => 255
 | c :: _ => if 1 <= c.toNat /\ c.toNat <= 10 then c.toNat else 255
theorem type_ten (k : Nat) (hk : 1 <= k /\ k <= 10) (d : Value) (a : Addr) (n c : Nat) (hn : 0 < n) (w : World) (h : w.cell? a = some (.int .u8 k)) : Calls prog 112 #[d, .slice (some a) n c] w fun r w' => r = .returned (.int .u8 k) /\ w = w' := by
 have fO : ¬ ((n : Int) < 1) := by omega
 have eM : (0 : Int) < (n : Int) := by omega
 obtain ⟨g, off, x⟩ := a; obtain rfl | rfl | rfl | rfl | rfl | rfl | rfl | rfl | rfl | rfl : k = 1 ∨ k = 2 ∨ k = 3 ∨ k = 4 ∨ k = 5 ∨ k = 6 ∨ k = 7 ∨ k = 8 ∨ k = 9 ∨ k = 10 := by omega
 all_goals
  go_enter func112, ntmps112; go_wp2_with fail
  go_ret; exact ⟨rfl, rfl⟩
theorem type_odd (k : Nat) (hk : ¬ (1 <= k /\ k <= 10)) (d : Value) (a : Addr) (n c : Nat) (hn : 0 < n) (w : World) (h : w.cell? a = some (.int .u8 k)) : Calls prog 112 #[d, .slice (some a) n c] w fun r w' => r = .returned (.int .u8 255) /\ w = w' := by
 have fO : ¬ ((n : Int) < 1) := by omega
 have eM : (0 : Int) < (n : Int) := by omega
 obtain ⟨g, off, x⟩ := a; have e1 : ¬ (k : Int) = 1 := by omega
 have e2 : ¬ (k : Int) = 2 := by omega
 have e3 : ¬ (k : Int) = 3 := by omega
 have e4 : ¬ (k : Int) = 4 := by omega
 have e5 : ¬ (k : Int) = 5 := by omega
 have e6 : ¬ (k : Int) = 6 := by omega
 have e7 : ¬ (k : Int) = 7 := by omega
 have e8 : ¬ (k : Int) = 8 := by omega
 have e9 : ¬ (k : Int) = 9 := by omega
 have kp : ¬ (k : Int) = 10 := by omega
 clear hk; go_enter func112, ntmps112; go_wp2_with fail
 go_ret; exact ⟨rfl, rfl⟩
theorem type_any (d v : Value) (P : Nat -> Prop) (xs : List UInt8) (w : World) (h : Sl P w v 1 xs.length (bc xs)) : Calls prog 112 #[d, v] w fun r w' => r = .returned (.int .u8 (zcg xs)) /\ w = w' := by
 rcases xs with _ | ⟨c, r⟩
 ·exact type_none d P v w h
 ·obtain ⟨A, aO, rfl, _, _, hr⟩ := h
  obtain ⟨g, off, rfl, _, hc⟩ := hr (by simp); have h0 := hc 0 _ rfl; by_cases hk : 1 <= c.toNat /\ c.toNat <= 10
  ·rw [zcg, if_pos hk]; exact type_ten c.toNat hk d _ _ _ (by simp) w h0
  ·rw [zcg, znh hk]; exact type_odd c.toNat hk d _ _ _ (by simp) w h0
theorem zdx (v : Value) (w : World) : Calls prog 67 #[v] w (zha (fun v _ => ∃ a, v = .agg #[.slice (some a) 0 0, .string ⟨#[]⟩, .slice none 0 0]) w) := by
 have hS := zjZ (w.alloc (.cells #[.slice none 0 0, .string ⟨#[]⟩, .slice none 0 0] 119)); go_enter func67, ntmps67; go_wp2_with (refine hS.mono ?_; rintro r w1 ⟨v1, rfl, ⟨a, rfl⟩, ai⟩; refine Hid.out ?_)
 have hB := (znr w 119 #[.slice none 0 0, .string ⟨#[]⟩, .slice none 0 0]).fr ai (fun e => e); have k0 := hB.cell 0; have k1 := hB.cell 1; have k2 := hB.cell 2; have z0 := hB.frozen 0; have z1 := hB.frozen 1; have z2 := hB.frozen 2; simp at k0 k1 k2; have m1 := hB.set_ 0 (.slice (some a) 0 0); have m2 := m1.set_ 1 (.string ⟨#[]⟩); have m3 := m2.set_ 2 (.slice none 0 0); have e0 := m1.cell 0
 have e1 := m2.cell 1; have e2 := m3.cell 2; simp only [List.size_toArray, zmC, zmo, zmp, zmq, zmF, zmD, zmE] at e0 e1 e2; have HF := zmk ((((znq (fun _ => False) w).alloc _).same ai)); have HB := zmk hB; clear hS ai hB m1 m2 m3; refine zmk ?_
 go_wp2_with fail
 simp [Exit.then, bodyPost, results, results67, go_sem, e0, e1, e2]; exact ⟨_, rfl, ⟨_, rfl⟩, ((HF.out.setCell (p := ⟨w.heap.size, 0, none⟩) (.inr (zmw _)) _).setCell (p := ⟨w.heap.size, 1, none⟩) (.inr (zmw _)) _).setCell (p := ⟨w.heap.size, 2, none⟩) (.inr (zmw _)) _⟩
def typeName : Nat -> ByteArray
 | 1 => ⟨#[115, 101, 114, 105, 101, 115]⟩
 | 2 => ⟨#[115, 97, 109, 112, 108, 101, 115]⟩
 | 3 => ⟨#[116, 111, 109, 98, 115, 116, 111, 110, 101, 115]⟩
 | 4 => ⟨#[101, 120, 101, 109, 112, 108, 97, 114, 115]⟩
 | 5 => ⟨#[109, 109, 97, 112, 109, 97, 114, 107, 101, 114, 115]⟩
 | 6 => ⟨#[109, 101, 116, 97, 100, 97, 116, 97]⟩
 | 7 => ⟨#[104, 105, 115, 116, 111, 103, 114, 97, 109, 95, 115, 97, 109, 112, 108, 101, 115]⟩
 | 8 => ⟨#[102, 108, 111, 97, 116, 95, 104, 105, 115, 116, 111, 103, 114, 97, 109, 95, 115, 97, 109, 112, 108, 101, 115]⟩
 | 9 => ⟨#[99, 117, 115, 116, 111, 109, 95, 98, 117, 99, 107, 101, 116, 115, 95, 104, 105, 115, 116, 111, 103, 114, 97, 109, 95, 115, 97, 109, 112, 108, 101, 115]⟩
 | 10 => ⟨#[99, 117, 115, 116, 111, 109, 95, 98, 117, 99, 107, 101, 116, 115, 95, 102, 108, 111, 97, 116, 95, 104, 105, 115, 116, 111, 103, 114, 97, 109, 95, 115, 97, 109, 112, 108, 101, 115]⟩
 | _ => ⟨#[117, 110, 107, 110, 111, 119, 110]⟩
theorem zhe (k : Nat) (hk : k = 1 ∨ k = 2 ∨ k = 3 ∨ k = 4 ∨ k = 5 ∨ k = 6 ∨ k = 7 ∨ k = 8 ∨ k = 9 ∨ k = 10 ∨ k = 255) (w : World) : Calls prog 113 #[.int .u8 k] w fun r w' => r = .returned (.string (typeName k)) /\ w = w' := by
 obtain rfl | rfl | rfl | rfl | rfl | rfl | rfl | rfl | rfl | rfl | rfl := hk; all_goals
  go_enter func113, ntmps113; go_wp2_with fail
  go_ret; exact ⟨rfl, rfl⟩
theorem zlh (xs : List UInt8) : zcg xs = 1 ∨ zcg xs = 2 ∨ zcg xs = 3 ∨ zcg xs = 4 ∨ zcg xs = 5 ∨ zcg xs = 6 ∨ zcg xs = 7 ∨ zcg xs = 8 ∨ zcg xs = 9 ∨ zcg xs = 10 ∨ zcg xs = 255 := by
 rcases xs with _ | ⟨c, r⟩
 ·simp [zcg]
 ·have e : zcg (c :: r) = if 1 <= c.toNat /\ c.toNat <= 10 then c.toNat else 255 := rfl
  rw [e]; by_cases h : 1 <= c.toNat /\ c.toNat <= 10
  ·rw [if_pos h]; omega
  ·rw [znh h]; simp
theorem zhh (v : Value) (P : Nat -> Prop) (xs : List UInt8) (w : World) (h : Sl P w v 1 xs.length (bc xs)) : Calls prog 42 #[v] w (zha (fun u _ => u = .tuple #[.int .i64 (zcg xs), .string (typeName (zcg xs))]) w) := by
 have HS := zmk h; have h3 := zlh xs; generalize hk : zcg xs = k at h3 ⊢; have HK := zmk hk; have hkb : k <= 255 := by omega
 have H3 := zmk h3; clear hk h h3; go_enter func42, ntmps42
 go_wp2_with (first
  | (go_at_call 67; refine (zdx _ _).mono ?_; rintro r w1 ⟨v1, rfl, ⟨a, rfl⟩, ai⟩)
  | (go_at_call 112; refine (type_any _ v P xs _ ((HS.out.fr ai (fun _ _ e => e)).fr ((znq (fun _ => False) w1).alloc _) (fun _ _ e => e))).mono ?_; rintro r w2 ⟨rfl, rfl⟩; rw [HK.out])
  | (go_at_call 113; refine (zhe k H3.out _).mono ?_; rintro r w3 ⟨rfl, rfl⟩))
 go_ret2; exact ⟨_, rfl, rfl, ((znq (fun _ => False) w).same ai).alloc _⟩
end Go.Proofs.YtbkookiigkckdaaGreatDoor
