/- Merged. -/
import Derived.Test.YtbkookiigkckdaaGreatDoorKD02
import Derived.Lib.Zigzag
import Derived.Laws.MakeOwn
set_option linter.unusedVariables false
set_option linter.unusedSimpArgs false
set_option maxRecDepth 100000
set_option maxHeartbeats 8000000
namespace Go.Proofs.YtbkookiigkckdaaGreatDoor
open Go.RowKit Go.Proofs.Tryz
theorem ziv : ∀ (l : List UInt8) (i acc : Nat), (Lib.uvarintFrom i acc l).2 <= i + l.length
 | [], i, acc => by simp only [Lib.uvarintFrom, zm9]; omega
 | b :: r, i, acc => by
   rw [Lib.uvarintFrom]; have := ziv r (i + 1) (acc + b.toNat % 128 * 2 ^ (7 * i)); simp only [zmz]
   repeat' split
   all_goals first | omega | (simp only []; omega)
theorem zhN (l : List UInt8) : (Lib.uvarintDec l).2 <= l.length := by have := ziv l 0 0; rw [Lib.uvarintDec]; omega
def gUv : St -> Nat × St
 | some l => if 1 <= (Lib.uvarintDec l).2 then ((Lib.uvarintDec l).1, some (l.drop (Lib.uvarintDec l).2.toNat)) else (0, none)
 | none => (0, none)
theorem uv_read {w : World} {g off c n : Nat} {cur : Array Value} {l : List UInt8} (hg : Blk w g 5 cur) (hr : ∀ j u, (bc l)[j]? = some u -> cur[off + j]? = some u) (hn : l.length = n) (hl : n <= c) (hm : c <= 9223372036854775807) :
 Calls prog 231 #[.slice (some ⟨g, off, none⟩) n c] w (zk5 w l) :=
 uvAny g off n c w l hn hl hm (fun j b hb => by
  have := hr j (.int .u8 b.toNat) (by rw [zd6, hb]; rfl)
  rw [hg.cell, this])
theorem zlW (te : TypeId) (pe : Value) (d g : Nat) (cur : Array Value) (st : St) (w : World) (h : Dec te pe w d g cur st) :
 Calls prog 171 #[.pointer (some ⟨d, 0, none⟩)] w (zb0 te pe w d g cur (.int .u64 (gUv st).1) (gUv st).2) := by
 rcases st with _ | l
 ·obtain ⟨rest, h⟩ := h
  have H := zmh h; obtain ⟨off, c, hb, hg, hl, hm, hr, hE⟩ := h; have bP := hb.cell 1; simp at bP; clear hb hr hg; go_enter func171, ntmps171; go_wp2; go_ret; exact ⟨rfl, ⟨_, H.out⟩, znl _ _⟩
 ·have h : DecOk (.iface te pe) w d g cur l .nilIface := h
  have H := zmh h; obtain ⟨off, c, hb, hg, hl, hm, hr, hE⟩ := h; obtain ⟨n, hn⟩ := exE l.length; rw [hn] at hb hl; have fe := hb.cell 0; have bP := hb.cell 1; simp at fe bP; have HB := zmh hb; have HR := zmh hr; have HN := zmh hn; have hP := uv_read (c := c) hg hr hn hl hm.1; have bQ := zhN l; have fo := hb.frozen 0; have ah := hb.frozen 1
  by_cases hk : 1 <= (Lib.uvarintDec l).2
  ·obtain ⟨k, hK⟩ : ∃ k : Nat, (Lib.uvarintDec l).2 = k := ⟨(Lib.uvarintDec l).2.toNat, by omega⟩
   have kq : Calls prog 231 #[.slice (some ⟨g, off, none⟩) n c] w fun r w' => r = .returned (.tuple #[.int .u64 (Lib.uvarintDec l).1, .int .i64 k]) /\ w = w' :=
    hP.mono fun r w' ⟨x, y, h1, h2, h3, _⟩ => ⟨by rw [h1, (h3 hk).1, (h3 hk).2, hK], h2⟩
   have dU : gUv (some l) = ((Lib.uvarintDec l).1, some (l.drop k)) := by show (if 1 <= (Lib.uvarintDec l).2 then ((Lib.uvarintDec l).1, some (l.drop (Lib.uvarintDec l).2.toNat)) else (0, none)) = _; rw [if_pos hk, hK]; rfl
   rw [dU]; simp only []; have ez : k <= n := by omega
   have oL : (1 : Int) <= (k : Int) := by omega
   obtain ⟨off', ho, nv⟩ := zl3 g off n c k .i64 k rfl ez; have HO := zmh ho; have HK := zmh hK; clear hb hr hg hn ho hP bQ hk dU hK; generalize (Lib.uvarintDec l).1 = x at kq ⊢; go_enter func171, ntmps171; go_wp2_with (go_at_call 231; refine kq.mono ?_; rintro r w' ⟨rfl, rfl⟩)
   go_ret; exact ⟨rfl, DecOk.cut H.out (znl _ _) HB.out HR.out HN.out hl ⟨hm.1, HN.out ▸ hm.2⟩ ez HO.out, Fr.at_ _ _ _ _⟩
  ·have kq : Calls prog 231 #[.slice (some ⟨g, off, none⟩) n c] w fun r w' => ∃ y : Int, r = .returned (.tuple #[.int .u64 0, .int .i64 y]) /\ y < 1 /\ w = w' :=
    hP.mono fun r w' ⟨x, y, h1, h2, _, h4⟩ => ⟨y, by rw [h1, (h4 (by omega)).1], (h4 (by omega)).2, h2⟩
   have dU : gUv (some l) = (0, none) := by show (if 1 <= (Lib.uvarintDec l).2 then ((Lib.uvarintDec l).1, some (l.drop (Lib.uvarintDec l).2.toNat)) else (0, none)) = _; rw [znd hk]
   rw [dU]; simp only []; clear hb hr hg hn hP bQ hk dU; go_enter func171, ntmps171; go_wp2_with (go_at_call 231; refine kq.mono ?_; rintro r w' ⟨y, rfl, hy, rfl⟩)
   go_ret; refine ⟨rfl, ⟨l, H.out.move (Fr.at_ _ _ _ _) (off' := off) (c' := c) ?_ (by rw [HN.out]; exact hl) hm HR.out⟩, Fr.at_ _ _ _ _⟩; rw [HN.out]; simpa using HB.out.set_ 1 (Value.iface te pe)
def zaJ (st : St) : Int × St := (Lib.unzigzag (gUv st).1, (gUv st).2)
theorem zdA (te : TypeId) (pe : Value) (d g : Nat) (cur : Array Value) (st : St) (w : World) (h : Dec te pe w d g cur st) :
 Calls prog 165 #[.pointer (some ⟨d, 0, none⟩)] w (zb0 te pe w d g cur (.int .i64 (zaJ st).1) (zaJ st).2) := by
 rcases st with _ | l
 ·obtain ⟨rest, h⟩ := h
  have H := zmh h; obtain ⟨off, c, hb, hg, hl, hm, hr, hE⟩ := h; have bP := hb.cell 1; simp at bP; clear hb hr hg; go_enter func165, ntmps165; go_wp2; go_ret; exact ⟨rfl, ⟨_, H.out⟩, znl _ _⟩
 ·have h : DecOk (.iface te pe) w d g cur l .nilIface := h
  have H := zmh h; obtain ⟨off, c, hb, hg, hl, hm, hr, hE⟩ := h; obtain ⟨n, hn⟩ := exE l.length; rw [hn] at hb hl; have fe := hb.cell 0; have bP := hb.cell 1; simp at fe bP; have HB := zmh hb; have HR := zmh hr; have HN := zmh hn; have hP := uv_read (c := c) hg hr hn hl hm.1; have bQ := zhN l; have fo := hb.frozen 0; have ah := hb.frozen 1
  by_cases hk : 1 <= (Lib.uvarintDec l).2
  ·obtain ⟨k, hK⟩ : ∃ k : Nat, (Lib.uvarintDec l).2 = k := ⟨(Lib.uvarintDec l).2.toNat, by omega⟩
   have kq : Calls prog 231 #[.slice (some ⟨g, off, none⟩) n c] w fun r w' => r = .returned (.tuple #[.int .u64 (Lib.uvarintDec l).1, .int .i64 k]) /\ w = w' :=
    hP.mono fun r w' ⟨x, y, h1, h2, h3, _⟩ => ⟨by rw [h1, (h3 hk).1, (h3 hk).2, hK], h2⟩
   have dU : zaJ (some l) = (Lib.unzigzag (Lib.uvarintDec l).1, some (l.drop k)) := by
    show (Lib.unzigzag (if 1 <= (Lib.uvarintDec l).2 then ((Lib.uvarintDec l).1, some (l.drop (Lib.uvarintDec l).2.toNat)) else (0, none)).1, (if 1 <= (Lib.uvarintDec l).2 then ((Lib.uvarintDec l).1, some (l.drop (Lib.uvarintDec l).2.toNat)) else (0, none)).2) = _; rw [if_pos hk, hK]; rfl
   rw [dU]; simp only []; have ez : k <= n := by omega
   have oL : (1 : Int) <= (k : Int) := by omega
   obtain ⟨off', ho, nv⟩ := zl3 g off n c k .i64 k rfl ez; have HO := zmh ho; have HK := zmh hK; have hu := Lib.uvarintDec_lt l; clear hb hr hg hn ho hP bQ hk dU hK; generalize (Lib.uvarintDec l).1 = u at kq hu ⊢; have lA := Lib.u64_and1 (u : Int) (by omega) (by omega); by_cases hodd : u % 2 = 0
   ·have hand0 : bits .and .u64 (u : Int) 1 = 0 := by rw [lA]; omega
    have hz : Lib.unzigzag u = (u : Int) / 2 := by simp [Lib.unzigzag, hodd]
    rw [hz]; clear lA hz; go_enter func165, ntmps165; go_wp2_with (go_at_call 231; refine kq.mono ?_; rintro r w' ⟨rfl, rfl⟩)
    go_ret; exact ⟨rfl, DecOk.cut H.out (znl _ _) HB.out HR.out HN.out hl ⟨hm.1, HN.out ▸ hm.2⟩ ez HO.out, Fr.at_ _ _ _ _⟩
   ·have hand1 : bits .and .u64 (u : Int) 1 = 1 := by rw [lA]; omega
    have kW : bits .xor .i64 (-1) ((u : Int) / 2) = -((u : Int) / 2) - 1 := by
     have h3 := Lib.i64_not (u / 2) (by omega); rw [show (((u / 2 : Nat) : Int)) = (u : Int) / 2 by omega] at h3; exact h3
    have hz : Lib.unzigzag u = -((u : Int) / 2) - 1 := by simp [Lib.unzigzag, hodd]
    rw [hz]; clear lA hz; go_enter func165, ntmps165; go_wp2_with (go_at_call 231; refine kq.mono ?_; rintro r w' ⟨rfl, rfl⟩)
    go_ret; exact ⟨rfl, DecOk.cut H.out (znl _ _) HB.out HR.out HN.out hl ⟨hm.1, HN.out ▸ hm.2⟩ ez HO.out, Fr.at_ _ _ _ _⟩
  ·have kq : Calls prog 231 #[.slice (some ⟨g, off, none⟩) n c] w fun r w' => ∃ y : Int, r = .returned (.tuple #[.int .u64 0, .int .i64 y]) /\ y < 1 /\ w = w' :=
    hP.mono fun r w' ⟨x, y, h1, h2, _, h4⟩ => ⟨y, by rw [h1, (h4 (by omega)).1], (h4 (by omega)).2, h2⟩
   have dU : zaJ (some l) = (0, none) := by
    show (Lib.unzigzag (if 1 <= (Lib.uvarintDec l).2 then ((Lib.uvarintDec l).1, some (l.drop (Lib.uvarintDec l).2.toNat)) else (0, none)).1, (if 1 <= (Lib.uvarintDec l).2 then ((Lib.uvarintDec l).1, some (l.drop (Lib.uvarintDec l).2.toNat)) else (0, none)).2) = _; rw [znd hk]; rfl
   rw [dU]; simp only []; clear hb hr hg hn hP bQ hk dU; go_enter func165, ntmps165; go_wp2_with (go_at_call 231; refine kq.mono ?_; rintro r w' ⟨y, rfl, hy, rfl⟩)
   go_ret; refine ⟨rfl, ⟨l, H.out.move (Fr.at_ _ _ _ _) (off' := off) (c' := c) ?_ (by rw [HN.out]; exact hl) hm HR.out⟩, Fr.at_ _ _ _ _⟩; rw [HN.out]; simpa using HB.out.set_ 1 (Value.iface te pe)
def i64 (n : Nat) : Int := wrap64 n
def zav (st : St) : Int × St := (i64 (zac st).1, (zac st).2)
theorem zil (te : TypeId) (pe : Value) (d g : Nat) (cur : Array Value) (st : St) (w : World) (h : Dec te pe w d g cur st) :
 Calls prog 164 #[.pointer (some ⟨d, 0, none⟩)] w (zb0 te pe w d g cur (.int .i64 (zav st).1) (zav st).2) := by
 have hP := zcA te pe d g cur st w h; have he : zav st = (i64 (zac st).1, (zac st).2) := rfl; rw [he]; clear h he; obtain ⟨⟨x, st'⟩, hx⟩ := exE (zac st); rw [hx] at hP ⊢; clear hx; simp only [] at hP ⊢; unfold i64; go_enter func164, ntmps164; go_wp2_with (go_at_call 162; refine hP.mono ?_; rintro r w1 ⟨rfl, hd, hf⟩)
 go_ret; exact ⟨rfl, hd, hf⟩
theorem zcz (te : TypeId) (pe : Value) (d g : Nat) (cur : Array Value) (st : St) (w : World) (h : Dec te pe w d g cur st) :
 Calls prog 172 #[.pointer (some ⟨d, 0, none⟩)] w (zb0 te pe w d g cur (.int .i64 (i64 (gUv st).1)) (gUv st).2) := by
 have hP := zlW te pe d g cur st w h; clear h; obtain ⟨⟨x, st'⟩, hx⟩ := exE (gUv st); rw [hx] at hP ⊢; clear hx; simp only [] at hP ⊢; unfold i64; go_enter func172, ntmps172; go_wp2_with (go_at_call 171; refine hP.mono ?_; rintro r w1 ⟨rfl, hd, hf⟩)
 go_ret; exact ⟨rfl, hd, hf⟩
theorem zfB (te : TypeId) (pe : Value) (d g : Nat) (cur : Array Value) (st : St) (w : World) (h : Dec te pe w d g cur st) :
 Calls prog 232 #[.pointer (some ⟨d, 0, none⟩)] w (zb0 te pe w d g cur (.int .u32 (IntKind.u32.wrap (gUv st).1)) (gUv st).2) := by
 have hP := zlW te pe d g cur st w h; clear h; obtain ⟨⟨x, st'⟩, hx⟩ := exE (gUv st); rw [hx] at hP ⊢; clear hx; simp only [] at hP ⊢; go_enter func232, ntmps232; go_wp2_with (go_at_call 171; refine hP.mono ?_; rintro r w1 ⟨rfl, hd, hf⟩)
 go_ret; exact ⟨rfl, hd, hf⟩
theorem zdQ (te : TypeId) (pe : Value) (d g : Nat) (cur : Array Value) (st : St) (w : World) (h : Dec te pe w d g cur st) :
 Calls prog 234 #[.pointer (some ⟨d, 0, none⟩)] w (zb0 te pe w d g cur (.float .f64 (zac st).1) (zac st).2) := by
 have hP := zcA te pe d g cur st w h; have hr := ziE; clear h; obtain ⟨⟨x, st'⟩, hx⟩ := exE (zac st); rw [hx] at hP ⊢; clear hx; simp only [] at hP ⊢; go_enter func234, ntmps234; go_wp2_with (go_at_call 162; refine hP.mono ?_; rintro r w1 ⟨rfl, hd, hf⟩)
 go_ret; exact ⟨rfl, hd, hf⟩
def zju (te : TypeId) (pe : Value) : St -> Value
 | some _ => .nilIface
 | none => .iface te pe
theorem zgS (te : TypeId) (pe : Value) (d g : Nat) (cur : Array Value) (st : St) (w : World) (h : Dec te pe w d g cur st) :
 Calls prog 119 #[.pointer (some ⟨d, 0, none⟩)] w fun r w' => r = .returned (zju te pe st) /\ w = w' := by
 rcases st with _ | l
 ·obtain ⟨rest, off, c, hb, hg, hl, hm, hr, hE⟩ := h
  have bP := hb.cell 1; simp at bP; clear hb hr hg; go_enter func119, ntmps119; go_wp2; go_ret; exact ⟨rfl, rfl⟩
 ·obtain ⟨off, c, hb, hg, hl, hm, hr, hE⟩ := h
  have bP := hb.cell 1; simp at bP; clear hb hr hg; go_enter func119, ntmps119; go_wp2; go_ret; exact ⟨rfl, rfl⟩
def lenEnds (w : World) (st : St) (r : Ending) (w' : World) : Prop := ∃ n : Nat, r = .returned (.int .i64 n) /\ (∀ l, st = some l -> n = l.length) /\ n <= 9223372036854775807 /\ w = w'
theorem ze5 (te : TypeId) (pe : Value) (d g : Nat) (cur : Array Value) (st : St) (w : World) (h : Dec te pe w d g cur st) :
 Calls prog 118 #[.pointer (some ⟨d, 0, none⟩)] w (lenEnds w st) := by
 have hx : ∃ (n off c : Nat) (E : Value), Blk w d 229 #[.slice (some ⟨g, off, none⟩) n c, E] /\ (∀ l, st = some l -> n = l.length) /\ n <= 9223372036854775807 := by
  rcases st with _ | l
  ·obtain ⟨rest, off, c, hb, hg, hl, hm, _⟩ := h
   exact ⟨_, _, _, _, hb, (fun _ e => by cases e), by omega⟩
  ·obtain ⟨off, c, hb, hg, hl, hm, _⟩ := h
   exact ⟨_, _, _, _, hb, (fun _ e => by cases e; rfl), by omega⟩
 obtain ⟨n, off, c, E, hb, H1, H2⟩ := hx; have fe := hb.cell 0; simp at fe; have HH := zmh H1; clear hb h H1; go_enter func118, ntmps118; go_wp2; go_ret; exact ⟨n, rfl, HH.out, H2, rfl⟩
def zbG (br : Nat) (bt : Int) (st : St) : Smp × St :=
 (⟨u64 (wrap64 (i64 br + (zaJ st).1)), wrap64 (bt + (zaJ (zaJ st).2).1), (zac (zaJ (zaJ st).2).2).1⟩, (zac (zaJ (zaJ st).2).2).2)
def zbh (br : Nat) (bt : Int) : Nat -> St -> List Smp -> List Smp × St
 | k + 1, some (c :: r), acc => zbh br bt k (zbG br bt (some (c :: r))).2 (acc ++ [(zbG br bt (some (c :: r))).1])
 | _, st, acc => (acc, st)
theorem smp_cells (br : Nat) (bt : Int) (st : St) : (#[Value.int IntKind.u64 (IntKind.u64.wrap (wrap64 (wrap64 ↑br + (zaJ st).fst))), Value.int IntKind.i64 (wrap64 (bt + (zaJ (zaJ st).snd).fst)), Value.float FloatKind.f64 (zac (zaJ (zaJ st).snd).snd).fst] : Array Value) = (Smp.b (zbG br bt st).1).toArray := by
 have h : ∀ x : Int, IntKind.u64.wrap x = (u64 x : Int) := fun x => by rw [IntKind.wrap_u64]; unfold u64; omega
 simp only [zbG, Smp.b, h]; rfl
def zan (xs : List UInt8) : Option (List Smp) :=
 match xs with
 | [] => none
 | b :: rest => if b = 2 then (if rest = [] then some [] else
    match zbh (zac (some rest)).1 (zav (zac (some rest)).2).1 rest.length (zav (zac (some rest)).2).2 [] with
    | (l, some _) => some l
    | (_, none) => none) else none
theorem zb5 {st : St} {l : List UInt8} (h : (gUv st).2 = some l) : ∃ l0, st = some l0 /\ l.length < l0.length := by
 rcases st with _ | l0
 ·cases h
 ·refine ⟨l0, rfl, ?_⟩
  unfold gUv at h; simp only [] at h; by_cases hk : 1 <= (Lib.uvarintDec l0).2
  ·rw [if_pos hk] at h
   injection h with h; have := zhN l0; rw [<- h, List.length_drop]; omega
  ·rw [znd hk] at h; cases h
theorem zbH {st : St} {l : List UInt8} (h : (zac st).2 = some l) : ∃ l0, st = some l0 /\ l.length < l0.length := by
 rcases st with _ | l0
 ·cases h
 ·refine ⟨l0, rfl, ?_⟩
  by_cases hk : 8 <= l0.length
  ·rw [zhv hk] at h; injection h with h; rw [<- h, List.length_drop]; omega
  ·rw [zgA (by omega)] at h; cases h
theorem zjJ {br : Nat} {bt : Int} {l0 l : List UInt8} (h : (zbG br bt (some l0)).2 = some l) : l.length < l0.length := by
 obtain ⟨l1, h1, qV⟩ := zbH h; obtain ⟨l2, h2, qU⟩ := zb5 (st := (zaJ (some l0)).2) h1; obtain ⟨l3, h3, h3'⟩ := zb5 (st := some l0) h2; injection h3 with h3; subst h3; omega
theorem Dec.fr {te : TypeId} {pe : Value} {w w' : World} {d g : Nat} {cur : Array Value} {st : St} {S : Nat -> Prop} (h : Dec te pe w d g cur st) (hf : Fr S w w') (hd : ¬ S d) (hg : ¬ S g) (h2 : ¬ S 2) : Dec te pe w' d g cur st := by
 have go : ∀ {rest : List UInt8} {E : Value}, DecOk (.iface te pe) w d g cur rest E -> DecOk (.iface te pe) w' d g cur rest E := by
  rintro rest E ⟨off, c, hb, qe, hl, hm, hr, hE⟩; refine ⟨off, c, hb.fr hf hd, qe.fr hf hg, hl, hm, hr, ?_⟩; rw [hf.cell (p := ⟨2, 0, none⟩) (zmo w _ hE) h2]; exact hE
 rcases st with _ | l
 ·obtain ⟨rest, h⟩ := h; exact ⟨rest, go h⟩
 ·exact go h
def zij (d : Nat) (w : World) : Nat :=
 match w.cell? ⟨d, 1, none⟩, w.cell? ⟨d, 0, none⟩ with
 | some .nilIface, some (.slice _ n _) => n + 1
 | _, _ => 0
theorem zbo {te : TypeId} {pe : Value} {w : World} {d g : Nat} {cur : Array Value} {l : List UInt8} (h : Dec te pe w d g cur (some l)) : zij d w = l.length + 1 := by
 obtain ⟨off, c, hb, _⟩ := h; have h0 := hb.cell 0; have h1 := hb.cell 1; simp at h0 h1; simp [zij, h0, h1]
theorem zc7 {te : TypeId} {pe : Value} {w : World} {d g : Nat} {cur : Array Value} (h : Dec te pe w d g cur none) : zij d w = 0 := by
 obtain ⟨rest, off, c, hb, _⟩ := h; have h0 := hb.cell 0; have h1 := hb.cell 1; simp at h0 h1; simp [zij, h0, h1]
theorem Dec.open_ {te : TypeId} {pe : Value} {w : World} {d g : Nat} {cur : Array Value} {st : St} (h : Dec te pe w d g cur st) :
 ∃ (n : Nat) (off c : Nat), w.cell? ⟨d, 0, none⟩ = some (.slice (some ⟨g, off, none⟩) n c) /\ w.cell? ⟨d, 1, none⟩ = some (zju te pe st) /\ (∀ l, st = some l -> n = l.length) /\ n <= 1099511627776 /\ d < w.heap.size /\ g < w.heap.size /\ 2 < w.heap.size := by
 have aw : ∀ {rest : List UInt8} {E : Value}, DecOk (.iface te pe) w d g cur rest E -> ∃ off c : Nat, w.cell? ⟨d, 0, none⟩ = some (.slice (some ⟨g, off, none⟩) rest.length c) /\ w.cell? ⟨d, 1, none⟩ = some E /\ rest.length <= 1099511627776 /\ d < w.heap.size /\ g < w.heap.size /\ 2 < w.heap.size := by
  rintro rest E ⟨off, c, hb, qe, hl, hm, hr, hE⟩; have h0 := hb.cell 0; have h1 := hb.cell 1; simp at h0 h1; exact ⟨off, c, h0, h1, hm.2, hb.lt, qe.lt, zmo w _ hE⟩
 rcases st with _ | l
 ·obtain ⟨rest, h⟩ := h
  obtain ⟨off, c, h0, h1, h2, h3⟩ := aw h; exact ⟨_, off, c, h0, h1, (fun _ e => by cases e), h2, h3⟩
 ·obtain ⟨off, c, h0, h1, h2, h3⟩ := aw h
  exact ⟨_, off, c, h0, h1, (fun _ e => by cases e; rfl), h2, h3⟩
def ErrNew (w : World) (r : Ending) (w' : World) : Prop := ∃ t a, r = .returned (.iface t a) /\ z_F w w'
theorem zbN (s : ByteArray) (w : World) : Calls prog 161 #[.string s] w (ErrNew w) := by
 go_enter func161, ntmps161; go_wp2_with fail
 go_ret; exact ⟨_, _, rfl, (znl _ w).alloc _⟩
theorem zaa {w : World} {base : Nat} {e : TypeId} {size n : Nat} {v : Value} {xs : List Value} (h : w.ownsRow base e size v n xs) : ∃ a c, v = .slice a n c := by
 rcases h.2 with ⟨rfl, rfl⟩ | ⟨g', aK, cur, rfl, _⟩
 ·exact ⟨_, _, rfl⟩
 ·exact ⟨_, _, rfl⟩
def LenEnds2 (w : World) (cur : Array Value) (st : St) (r : Ending) (w' : World) : Prop := ∃ n : Nat, r = .returned (.int .i64 n) /\ (∀ l, st = some l -> n = l.length) /\ n <= 1099511627776 /\ w = w'
theorem decLen2 (te : TypeId) (pe : Value) (d g : Nat) (cur : Array Value) (st : St) (w : World) (h : Dec te pe w d g cur st) : Calls prog 118 #[.pointer (some ⟨d, 0, none⟩)] w (LenEnds2 w cur st) := by
 obtain ⟨n, off, c, fe, _, H1, H2, _⟩ := h.open_; have HH := zmh H1; clear h H1; go_enter func118, ntmps118; go_wp2; go_ret; exact ⟨n, rfl, HH.out, H2, rfl⟩
def Rec (te : TypeId) (pe : Value) (w : World) (g : Nat) (cur : Array Value) (xs : List UInt8) (v : Value) : Prop :=
 ∃ off c, v = .slice (some ⟨g, off, none⟩) xs.length c /\ Blk w g 5 cur /\ xs.length <= c /\ (c <= 9223372036854775807 /\ xs.length <= 1099511627776) /\ (∀ j u, (bc xs)[j]? = some u -> cur[off + j]? = some u) /\ w.cell? ⟨2, 0, none⟩ = some (.iface te pe)
theorem Rec.dec {te : TypeId} {pe : Value} {w : World} {g : Nat} {cur : Array Value} {xs : List UInt8} {v : Value} (h : Rec te pe w g cur xs v) : Dec te pe (w.alloc (.cells #[v, .nilIface] 229)) w.heap.size g cur (some xs) := by
 obtain ⟨off, c, rfl, hg, hl, hm, hr, hE⟩ := h; refine ⟨off, c, znm w 229 _, hg.alloc _, hl, hm, hr, ?_⟩; rw [((znl (fun _ => False) w).alloc _).cell (p := ⟨2, 0, none⟩) (zmo w _ hE) id]; exact hE
def zbf (w : World) (base : Nat) (o : Option Nat) (xs : List UInt8) (r : Ending) (w' : World) : Prop :=
 Fr (fun k => some k = o) w w' /\ match zan xs with
  | some l => ∃ v', r = .returned (.tuple #[v', .nilIface]) /\ w'.ownsRow base 137 3 v' l.length (l.flatMap Smp.b)
  | none => ∃ t a, r = .returned (.tuple #[.slice none 0 0, .iface t a])
theorem zdX {w w' : World} {base : Nat} {o : Option Nat} {xs : List UInt8} {t : TypeId} {a : Value} (hd : zan xs = none) (hf : Fr (fun k => some k = o) w w') : zbf w base o xs (.returned (.tuple #[.slice none 0 0, .iface t a])) w' := by
 unfold zbf; rw [hd]; exact ⟨hf, _, _, rfl⟩
theorem zfE {w w' : World} {base : Nat} {o : Option Nat} {xs : List UInt8} {l : List Smp} {v : Value} (hd : zan xs = some l) (hf : Fr (fun k => some k = o) w w') (ho : w'.ownsRow base 137 3 v l.length (l.flatMap Smp.b)) : zbf w base o xs (.returned (.tuple #[v, .nilIface])) w' := by
 unfold zbf; rw [hd]; exact ⟨hf, _, rfl, ho⟩
theorem zgO (te : TypeId) (pe : Value) (dv : Value) (g base : Nat) (cur : Array Value) (xs : List UInt8) (v sv : Value) (w : World) (h : Rec te pe w g cur xs v) (hx : (zaD (some xs)).1 ≠ 2) :
 Calls prog 71 #[dv, v, sv] w (zbf w base sv.ownBlock xs) := by
 have hd : zan xs = none := by
  rcases xs with _ | ⟨b, r⟩
  ·rfl
  ·have : ¬ b = 2 := by rintro rfl; exact hx rfl
   simp [zan, this]
 unfold zbf; rw [hd]; clear hd; have hD := h.dec; obtain ⟨off, c, rfl, _⟩ := h; have hQ := zbC te pe w.heap.size g cur _ _ hD; have dS : ¬ ((zaD (some xs)).1 : Int) = 2 := by omega
 clear hD hx; generalize (zaD (some xs)).1 = x at hQ dS; generalize (zaD (some xs)).2 = st at hQ; go_enter func71, ntmps71; go_wp2_with (first | (go_at_call 160; refine hQ.mono ?_; rintro r w1 ⟨rfl, cr, ah⟩) | (go_at_call 161; refine (zbN _ _).mono ?_; rintro r w2 ⟨t, a, rfl, aq⟩))
 go_ret2; refine ⟨?_, _, _, rfl⟩; have f1 := (((znl (fun k => some k = sv.ownBlock) w).alloc (.cells #[.slice (some ⟨g, off, none⟩) xs.length c, .nilIface] 229)).trans ah (fun k hk e => by omega)); exact f1.trans aq (fun _ _ e => e.elim)
theorem zfL (te : TypeId) (pe : Value) (dv : Value) (g base : Nat) (cur : Array Value) (v sv : Value) (w : World) (h : Rec te pe w g cur [2] v) (ho : w.ownsRow base 137 3 sv 0 []) (hb : g < base /\ 2 < base) :
 Calls prog 71 #[dv, v, sv] w (zbf w base sv.ownBlock [2]) := by
 have hD := h.dec; obtain ⟨off, c, rfl, _⟩ := h; have hQ := zbC te pe w.heap.size g cur _ _ hD; have e1 : zaD (some [(2 : UInt8)]) = (2, some []) := rfl; rw [e1] at hQ; have HO := zmh ho; obtain ⟨a', n', k', rfl⟩ := zab ho; clear hD e1 ho; go_enter func71, ntmps71
 go_wp2_with (first | (go_at_call 160; refine hQ.mono ?_; rintro r w1 ⟨rfl, cr, ah⟩; have hL := ze5 te pe _ _ _ _ _ cr) | (go_at_call 118; refine hL.mono ?_; rintro r w2 ⟨n, rfl, hn, _, rfl⟩; have fT := hn _ rfl; subst fT))
 go_ret2; refine ⟨((znl _ w).alloc _).trans ah (fun k hk e => by omega), _, rfl, ?_⟩; exact zai (HO.out.alloc _) ah (fun k hk => by have := zaq HO.out hk; omega)
theorem zgP (te : TypeId) (pe : Value) (dv : Value) (g base : Nat) (cur : Array Value) (rest : List UInt8) (aN : rest ≠ []) (v sv : Value) (w : World) (h : Rec te pe w g cur (2 :: rest) v) (ho : w.ownsRow base 137 3 sv 0 []) (hb : g < base /\ 2 < base /\ base <= w.heap.size) :
 Calls prog 71 #[dv, v, sv] w (zbf w base sv.ownBlock (2 :: rest)) := by
 obtain ⟨i0, aC, az, ay, aB⟩ := info_parts info137; have hD := h.dec; obtain ⟨off, c, rfl, _⟩ := h; have hQ := zbC te pe w.heap.size g cur _ _ hD; have e1 : zaD (some (2 :: rest)) = (2, some rest) := rfl; rw [e1] at hQ; have HO := zmh ho; obtain ⟨a', k', rfl⟩ := zaa ho
 have ms : ∀ (m : Int) (W : World), 0 <= m -> m <= 1099511627776 -> (Instr.makeSlice 131 (.int .i64 0) (.int .i64 m)).run prog W = .ok (.slice (some ⟨W.heap.size, 0, none⟩) 0 m.toNat) (W.alloc (.cells (madeCells (Value.agg #[.int .u64 0, .int .i64 0, .float .f64 0]).cells (m.toNat * 3)) 137)) := fun m W h0 h1 => by
  have h := run_make (P := prog) W 131 137 i0 _ underlying131 aC az .i64 .i64 0 m (by omega) (by omega) (by rw [aB]; omega) (by omega); rw [ay] at h; exact h
 have bh : ∃ b st, zac (some rest) = (b, st) := ⟨_, _, rfl⟩; obtain ⟨dy, bO, bh⟩ := bh; obtain ⟨bt, dQ, ek⟩ : ∃ b st, zav bO = (b, st) := ⟨_, _, rfl⟩; have jM : zan (2 :: rest) = match zbh dy bt rest.length dQ [] with | (l, some _) => some l | (_, none) => none := by
  show (if (2 : UInt8) = 2 then (if rest = [] then some [] else match zbh (zac (some rest)).1 (zav (zac (some rest)).2).1 rest.length (zav (zac (some rest)).2).2 [] with | (l, some _) => some l | (_, none) => none) else none) = _; rw [if_pos rfl, znd aN, bh, ek]
 have pF : ∀ l, dQ = some l -> l.length <= rest.length := by
  rintro l rfl; have e2 : (zac bO).2 = some l := by have := zm7 Prod.snd ek; exact this
  obtain ⟨l1, h1, qV⟩ := zbH e2; have e3 : (zac (some rest)).2 = some l1 := by rw [bh]; exact h1
  obtain ⟨l2, h2, qU⟩ := zbH e3; injection h2 with h2; subst h2; omega
 have oH : rest.length <= 1099511627776 := by
  obtain ⟨n, off', c', _, _, hn, aQ, _⟩ := hD.open_; have := hn _ rfl; simp at this; omega
 have pI : 0 < rest.length := List.length_pos_iff.2 aN; have bC := zmh pF; have HDE := zmh jM; clear hD e1 ho jM pF aN; go_enter func71, ntmps71
 go_wp2_with (first
  | (go_at_call 160; refine hQ.mono ?_; rintro r w1 ⟨rfl, cr, ah⟩; have hL := ze5 te pe _ _ _ _ _ cr; have hB := zcA te pe _ _ _ _ _ cr; rw [bh] at hB)
  | (go_at_call 118; refine hL.mono ?_; rintro r w2 ⟨n, rfl, hn, _, rfl⟩; have fT : n = rest.length := hn _ rfl; subst fT; clear hL)
  | (go_at_call 162; refine hB.mono ?_; rintro r w3 ⟨rfl, lE, bL⟩; have lG := zil te pe _ _ _ _ _ lE; rw [ek] at lG)
  | (go_at_call 164; refine lG.mono ?_; rintro r w4 ⟨rfl, mE, du⟩; refine Hid.out ?_))
 have F4 : Fr (fun k => some k = (Value.slice a' 0 k').ownBlock) w w4 := (((((znl (fun k => some k = (Value.slice a' 0 k').ownBlock) w).alloc _).trans ah (fun k hk e => by omega)).trans bL (fun k hk e => by omega)).trans du (fun k hk e => by omega))
 have f14 : Fr (fun k => k = w.heap.size) (w.alloc (.cells #[.slice (some ⟨g, off, none⟩) (2 :: rest).length c, .nilIface] 229)) w4 := (ah.same bL).same du; have O4 : w4.ownsRow base 137 3 (.slice a' 0 k') 0 [] := zai (HO.out.alloc _) f14 (fun k hk => by have := zaq HO.out hk; omega); have hs4 := F4.size
 have hn4 : ∀ k, (Value.slice a' 0 k').ownBlock = some k -> k < w.heap.size := fun k hk => zaq HO.out hk; have hL2 := decLen2 te pe _ _ _ _ _ mE; obtain ⟨m4, po, c4, q0, q1, _, _, hd4, _⟩ := mE.open_; have iw := zmh F4; have dj := zmh O4; have dm := zmh mE; have HN4 := zmh hn4; clear cr ah bL du lE hB lG hQ F4 f14 O4 mE hn4 q0 q1; have pT := ms; clear ms
 have HMS := zmh pT; clear pT; refine zmh ?_
 go_wp2_with (first
  | (go_at_call 118; refine hL2.mono ?_; rintro r w5 ⟨n5, rfl, hn5, pR, rfl⟩; refine Hid.out ?_))
 have hm0 : (0 : Int) <= (n5 : Int) / 10 := by omega
 have kY : (n5 : Int) / 10 <= 1099511627776 := by omega
 have pS := HMS.out ((n5 : Int) / 10) w4 hm0 kY; have hO5 := znk (base := base) (e := 137) (size := 3) w4 (madeCells #[.int .u64 0, .int .i64 0, .float .f64 0] (n5 / 10 * 3)) (n5 / 10) (by omega) (by unfold maxLen; omega) (size_madeCells _ _)
 have jS := dm.out.fr ((znl (fun _ => False) w4).alloc (.cells (madeCells #[.int .u64 0, .int .i64 0, .float .f64 0] (n5 / 10 * 3)) 137)) id id id; have hF5 := iw.out.alloc (.cells (madeCells #[.int .u64 0, .int .i64 0, .float .f64 0] (n5 / 10 * 3)) 137); have oY := zmh hO5; have dA := zmh jS; have gk := zmh hF5; clear hO5 hL2 jS hF5
 by_cases hcap : (k' : Int) < (n5 : Int) / 10
 case' pos =>
  refine zmh ?_; go_wp2_with fail
  have cj : Hid (∀ k, (Value.slice (some ⟨w4.heap.size, 0, none⟩) 0 (n5 / 10)).ownBlock = some k -> (some k = (Value.slice a' 0 k').ownBlock ∨ w.heap.size < k)) := zmh fun k hk => .inr (by have hk : w4.heap.size = k := zm6 hk; omega); clear pS dj dm iw HMS; generalize w4.alloc _ = W5 at oY dA gk ⊢; clear hcap hm0 kY pR hn5 hs4
  generalize (Value.slice (some ⟨w4.heap.size, 0, none⟩) 0 (n5 / 10)) = sv5 at oY cj ⊢; clear hd4
 case' neg =>
  refine zmh ?_; go_wp2_with fail
  have cj : Hid (∀ k, (Value.slice a' 0 k').ownBlock = some k -> (some k = (Value.slice a' 0 k').ownBlock ∨ w.heap.size < k)) := zmh fun k hk => .inl hk.symm; clear pS oY dA gk HMS; have oY := dj; have dA := dm; have gk := iw; clear dj dm iw hcap hm0 kY pR hn5 hs4 hd4; generalize w4 = W5 at oY dA gk ⊢
 all_goals
  go_loopw [2] (fun sv wr => ∃ (st : St) (acc : List Smp) (j : Nat), Hid (Dec te pe wr w.heap.size g cur st) /\ Hid (wr.ownsRow base 137 3 sv acc.length (acc.flatMap Smp.b)) /\ Hid (Fr (fun k => some k = (Value.slice a' 0 k').ownBlock) w wr) /\ Hid (∀ k, sv.ownBlock = some k -> (some k = (Value.slice a' 0 k').ownBlock ∨ w.heap.size < k)) /\
   Hid (zbh dy bt j st acc = zbh dy bt rest.length dQ []) /\ Hid (∀ l, st = some l -> l.length <= j /\ acc.length + l.length <= rest.length) /\ acc.length <= rest.length + 1) (fun _ wr => zij w.heap.size wr)
  case atStart => exact ⟨dQ, [], rest.length, dA, oY, gk, cj, zmh rfl, zmh (fun l hl => ⟨bC.out l hl, by simpa using bC.out l hl⟩), by simp⟩
  case round =>
   obtain ⟨st, acc, j, HD, HO, HF, HB, HE, HL, mC⟩ := hrel; obtain ⟨n6, iA, c6, p0, p1, cK, aQ, hd, hg, h2⟩ := HD.out.open_; have hE := zgS te pe _ _ _ _ _ HD.out; obtain ⟨a6, k6, rfl⟩ := zaa HO.out; rcases st with _ | l
   ·clear cK p1
    have aG : zbh dy bt rest.length dQ [] = (acc, none) := by rw [<- HE.out]; unfold zbh; rcases j with _ | j <;> rfl
    have HR := zmh (show zan (2 :: rest) = none by rw [HDE.out, aG]); clear aG; simp only [zju] at hE; rcases zmE n6 with rfl | oJ
    ·go_wp2_with (go_at_call 119; refine hE.mono ?_; rintro r w7 ⟨rfl, rfl⟩)
     go_ret2; exact zdX HR.out HF.out
    ·have bY : (0 : Int) < (n6 : Int) := by omega
     go_wp2_with (go_at_call 119; refine hE.mono ?_; rintro r w7 ⟨rfl, rfl⟩)
     go_ret2; exact zdX HR.out HF.out
   ·obtain rfl : n6 = l.length := cK l rfl
    simp only [zju] at hE; rcases l with _ | ⟨x, r⟩
    ·have aG : zbh dy bt rest.length dQ [] = (acc, some []) := by rw [<- HE.out]; unfold zbh; rcases j with _ | j <;> rfl
     have HR := zmh (show zan (2 :: rest) = some acc by rw [HDE.out, aG]); clear aG cK p1; simp only [zm9] at p0; go_wp2_with (go_at_call 119; refine hE.mono ?_; rintro r w7 ⟨rfl, rfl⟩)
     go_ret2; exact zfE HR.out HF.out HO.out
    ·obtain ⟨n7, bY⟩ := exE ((x :: r).length)
     have mr : (0 : Int) < (n7 : Int) := by rw [<- bY]; simp
     have gm := HL.out _ rfl; have hM := zbo HD.out; rw [bY] at p0 gm hM; have cP := zdA te pe _ _ _ _ _ HD.out; have eV := zmh bY; clear cK p1 bY
     go_wp2_with (first
      | (go_at_call 119; refine hE.mono ?_; rintro r w7 ⟨rfl, rfl⟩)
      | (go_at_call 165; refine cP.mono ?_; rintro r w8 ⟨rfl, fF, cB⟩; refine Hid.out ?_))
     have s8 := cB.size; have D8 := zmh fF; have ip := zdA te pe _ _ _ _ _ fF; have F8 := zmh cB; clear fF cB cP p0; refine zmh ?_; go_wp2_with (go_at_call 165; refine ip.mono ?_; rintro r w9 ⟨rfl, fh, dY⟩; refine Hid.out ?_)
     have s9 := dY.size; have D9 := zmh fh; have jP := zcA te pe _ _ _ _ _ fh; have F9 := zmh dY; clear fh dY ip; refine zmh ?_; go_wp2_with (go_at_call 162; refine jP.mono ?_; rintro r wA ⟨rfl, qJ, iK⟩; refine Hid.out ?_)
     have FA : Fr (fun k => k = w.heap.size) wr wA := (F8.out.same F9.out).same iK; have sA := FA.size; have DA := zmh qJ; have dP := zmh FA
     have OA : wA.ownsRow base 137 3 (.slice a6 acc.length k6) acc.length (acc.flatMap Smp.b) := zai HO.out FA (fun k hk e => by
      rcases HB.out k hk with h | h
      ·have := HN4.out k h.symm; omega
      ·omega)
     have cN := zmh OA; have r6 := ziE; clear qJ iK jP FA OA D8 F8 D9 F9; refine zmh ?_
     go_wp2_with (first
      | (at_builtin; refine Hid.out ?_))
     have cY : (#[Value.int IntKind.u64 (IntKind.u64.wrap (wrap64 (wrap64 ↑dy + (zaJ (some (x :: r))).fst))), Value.int IntKind.i64 (wrap64 (bt + (zaJ (zaJ (some (x :: r))).snd).fst)), Value.float FloatKind.f64 (zac (zaJ (zaJ (some (x :: r))).snd).snd).fst] : Array Value) = (Smp.b (zbG dy bt (some (x :: r))).1).toArray := smp_cells _ _ _; rw [cY]
     have bZ : ∀ l, (zbG dy bt (some (x :: r))).2 = some l -> l.length < n7 := fun l hl => eV.out ▸ zjJ hl; have iq : Dec te pe wA w.heap.size g cur (zbG dy bt (some (x :: r))).2 := DA.out
     have dk : Hid (∀ j', j = j' + 1 -> zbh dy bt j' (zbG dy bt (some (x :: r))).2 (acc ++ [(zbG dy bt (some (x :: r))).1]) = zbh dy bt rest.length dQ []) := zmh (by rintro j' rfl; exact HE.out); clear cY DA hE HE; generalize zbG dy bt (some (x :: r)) = S at iq bZ dk ⊢; obtain ⟨s1, jo⟩ := S; simp only [] at iq bZ dk ⊢; have gV := zmh iq
     have bi := zmh bZ; clear iq bZ; refine zmh ?_
     refine zaf _ rfl _ _ 131 131 rfl base 137 i0 _ 3 24 underlying131 aC az ay aB rfl (by decide) (.slice a6 acc.length k6) acc.length (acc.flatMap Smp.b) rfl (cN.out.alloc _) _ 1 (Smp.b s1) rfl (zaF underlying131 (znm wA 137 (Smp.b s1).toArray) rfl (by simp [Smp.b, Value.oneCell'])) (by unfold maxLen; omega) (by omega) (by simp; omega) ?_
     intro v' w2 ac ad av
     obtain ⟨a9, k9, rfl⟩ := zaa ac
     have aO : ∀ k, (Value.slice a6 acc.length k6).ownBlock = some k -> base <= k /\ k ≠ w.heap.size := fun k hk => ⟨(cN.out.lt k hk).1, by
      rcases HB.out k hk with h | h
      ·have := HN4.out k h.symm; omega
      ·omega⟩
     have iB := ad.size; simp at iB; have fG : Fr (fun k => some k = (Value.slice a6 acc.length k6).ownBlock) wA w2 := ((znl (fun k => some k = (Value.slice a6 acc.length k6).ownBlock) wA).alloc _).grown ad (fun k hk => .inl hk.symm)
     have rD : Dec te pe w2 w.heap.size g cur jo := gV.out.fr fG (fun e => (aO _ e.symm).2 rfl) (fun e => by have := (aO _ e.symm).1; omega) (fun e => by have := (aO _ e.symm).1; omega); have rO : w2.ownsRow base 137 3 (.slice a9 (acc.length + 1) k9) (acc ++ [s1]).length ((acc ++ [s1]).flatMap Smp.b) := by simpa using ac
     have rF : Fr (fun k => some k = (Value.slice a' 0 k').ownBlock) w w2 := (HF.out.trans dP.out (fun k hk e => by omega)).trans fG (fun k hk e => by
      rcases HB.out k e.symm with h | h
      ·exact h
      ·omega)
     have rB : ∀ k, (Value.slice a9 (acc.length + 1) k9).ownBlock = some k -> (some k = (Value.slice a' 0 k').ownBlock ∨ w.heap.size < k) := fun k hk => by
      rcases av with h | h
      ·exact HB.out k (h ▸ hk)
      ·rw [h] at hk; injection hk with hk; simp at hk; exact .inr (by omega)
     have rM : zij w.heap.size w2 < n7 + 1 := by
      rcases jo with _ | l9
      ·rw [zc7 rD]; omega
      ·rw [zbo rD]; have := bi.out l9 rfl; omega
     have RD := zmh rD; have RO := zmh rO; have RF := zmh rF; have RB := zmh rB; clear rD rO rF rB ac ad av aO fG; go_wp2; go_roundw
     case rel =>
      obtain ⟨j', rfl⟩ : ∃ j', j = j' + 1 := ⟨j - 1, by have := eV.out; simp at this; omega⟩; refine ⟨jo, acc ++ [s1], j', RD, RO, RF, RB, zmh (dk.out j' rfl), zmh (fun l hl => ?_), by simp; omega⟩; have := bi.out l hl; rw [zmi, zmy]; omega
     case measure => rw [hM]; exact rM
theorem zhe (te : TypeId) (pe : Value) (dv : Value) (g base : Nat) (cur : Array Value) (xs : List UInt8) (v sv : Value) (w : World) (h : Rec te pe w g cur xs v) (ho : w.ownsRow base 137 3 sv 0 []) (hb : g < base /\ 2 < base /\ base <= w.heap.size) :
 Calls prog 71 #[dv, v, sv] w (zbf w base sv.ownBlock xs) := by
 by_cases hx : (zaD (some xs)).1 = 2
 ·rcases xs with _ | ⟨b, rest⟩
  ·exact absurd hx (by decide)
  ·have hb2 : b = 2 := by
    have : b.toNat = (2 : UInt8).toNat := hx; exact UInt8.toNat_inj.1 this
   subst hb2; by_cases hr : rest = []
   ·subst hr; exact zfL te pe dv g base cur v sv w h ho ⟨hb.1, hb.2.1⟩
   ·exact zgP te pe dv g base cur rest hr v sv w h ho hb
 ·exact zgO te pe dv g base cur xs v sv w h hx
end Go.Proofs.YtbkookiigkckdaaGreatDoor
