/- Texts of this seat, merged and shortened: Md, J2, J3, Ll, J13, J4. -/
import Derived.Test.YtbkookiigkckdaaGreatDoorK04
import Derived.Test.YtbkookiigkckdaaGreatDoorK06
import Derived.Test.YtbkookiigkckdaaGreatDoorK07
import Derived.Test.YtbkookiigkckdaaGreatDoorK08
set_option linter.unusedVariables false
set_option linter.unusedSimpArgs false
set_option maxRecDepth 100000
set_option maxHeartbeats 8000000
namespace Go.Proofs.YtbkookiigkckdaaGreatDoor
open Go.RowKit
def zbc (w : World) (base : Nat) (o : Option Nat) (pre : List Mrk) (xs : List UInt8) (r : Ending) (w' : World) : Prop :=
 Fr (fun k => some k = o) w w' ∧ match zaC xs with
  | some l => ∃ v', r = .returned (.tuple #[v', .nilIface]) ∧ w'.ownsRow base 166 2 v' (pre ++ l).length ((pre ++ l).flatMap Mrk.c)
  | none => ∃ t a, r = .returned (.tuple #[.slice none 0 0, .iface t a])
theorem zdV {w w' : World} {base : Nat} {o : Option Nat} {pre : List Mrk} {xs : List UInt8} {t : TypeId} {a : Value} (hd : zaC xs = none) (hf : Fr (fun k => some k = o) w w') : zbc w base o pre xs (.returned (.tuple #[.slice none 0 0, .iface t a])) w' := by
 unfold zbc; rw [hd]; exact ⟨hf, _, _, rfl⟩
theorem zdU {w w' : World} {base : Nat} {o : Option Nat} {pre : List Mrk} {xs : List UInt8} {l : List Mrk} {v : Value} (hd : zaC xs = some l) (hf : Fr (fun k => some k = o) w w') (ho : w'.ownsRow base 166 2 v (pre ++ l).length ((pre ++ l).flatMap Mrk.c)) : zbc w base o pre xs (.returned (.tuple #[v, .nilIface])) w' := by
 unfold zbc; rw [hd]; exact ⟨hf, _, rfl, ho⟩
theorem zjh {l0 l : List UInt8} (h : (zbO (some l0)).2 = some l) : l.length < l0.length := by
 obtain ⟨l1, h1, h1'⟩ := zbC (st := (zac (some l0)).2) h; obtain ⟨l2, h2, h2'⟩ := zbC (st := some l0) h1; injection h2 with h2; subst h2; omega
theorem zgf (te : TypeId) (pe : Value) (dv : Value) (g base : Nat) (cur : Array Value) (pre : List Mrk) (xs : List UInt8) (v sv : Value) (w : World) (h : Rec te pe w g cur xs v) (hx : (zaB (some xs)).1 ≠ 5) :
 Calls Tryz.prog 79 #[dv, v, sv] w (zbc w base sv.ownBlock pre xs) := by
 have hd : zaC xs = none := by
  rcases xs with _ | ⟨b, r⟩
  ·rfl
  ·have : ¬ b = 5 := by rintro rfl; exact hx rfl
   simp [zaC, za5, this]
 unfold zbc; rw [hd]; clear hd; have hD := h.dec; obtain ⟨off, c, rfl, _⟩ := h; have hQ := zbo te pe w.heap.size g cur _ _ hD; have hx2 : ¬ ((zaB (some xs)).1 : Int) = 5 := by omega
 clear hD hx; generalize (zaB (some xs)).1 = x at hQ hx2; generalize (zaB (some xs)).2 = st at hQ; go_enter Tryz.func79, Tryz.ntmps79; go_wp2_with (first | (go_at_call 160; refine hQ.mono ?_; rintro r w1 ⟨rfl, hD1, hf1⟩) | (go_at_call 161; refine (zbL _ _).mono ?_; rintro r w2 ⟨t, a, rfl, hf2⟩))
 go_ret2; refine ⟨?_, _, _, rfl⟩; have f1 := (((zlW (fun k => some k = sv.ownBlock) w).alloc (.cells #[.slice (some ⟨g, off, none⟩) xs.length c, .nilIface] 229)).trans hf1 (fun k hk e => by omega)); exact f1.trans hf2 (fun _ _ e => e.elim)
theorem zfq (te : TypeId) (pe : Value) (dv : Value) (g base : Nat) (cur : Array Value) (pre : List Mrk) (v sv : Value) (w : World) (h : Rec te pe w g cur [5] v) (ho : w.ownsRow base 166 2 sv pre.length (pre.flatMap Mrk.c)) (hb : g < base ∧ 2 < base) :
 Calls Tryz.prog 79 #[dv, v, sv] w (zbc w base sv.ownBlock pre [5]) := by
 have hD := h.dec; obtain ⟨off, c, rfl, _⟩ := h; have hQ := zbo te pe w.heap.size g cur _ _ hD; have e1 : zaB (some [(5 : UInt8)]) = (5, some []) := rfl; rw [e1] at hQ; have HO := zk7 ho; obtain ⟨a', n', k', rfl⟩ := zae ho; clear hD e1 ho; go_enter Tryz.func79, Tryz.ntmps79
 go_wp2_with (first | (go_at_call 160; refine hQ.mono ?_; rintro r w1 ⟨rfl, hD1, hf1⟩; have hL := zeV te pe _ _ _ _ _ hD1) | (go_at_call 118; refine hL.mono ?_; rintro r w2 ⟨n, rfl, hn, _, rfl⟩; have hn0 := hn _ rfl; subst hn0))
 go_ret2; refine zdU (l := []) rfl (((zlW _ w).alloc _).trans hf1 (fun k hk e => by omega)) ?_; rw [zlt]; exact zah (HO.out.alloc _) hf1 (fun k hk => by have := zav HO.out hk; omega)
theorem zcR {α : Type} {t : UInt8} {step : St → α × St} {rest s : List UInt8} {l : List α} (h : zaj step rest.length (some rest) [] = (l, some s)) : za5 t step (t :: rest) = some l := by rw [za5, if_pos rfl, h]
theorem zcS {α : Type} {t : UInt8} {step : St → α × St} {rest : List UInt8} {l : List α} (h : zaj step rest.length (some rest) [] = (l, none)) : za5 t step (t :: rest) = none := by rw [za5, if_pos rfl, h]
theorem zgg (te : TypeId) (pe : Value) (dv : Value) (g base : Nat) (cur : Array Value) (pre : List Mrk) (rest : List UInt8) (hne : rest ≠ []) (v sv : Value) (w : World) (h : Rec te pe w g cur (5 :: rest) v) (ho : w.ownsRow base 166 2 sv pre.length (pre.flatMap Mrk.c)) (hb : g < base ∧ 2 < base ∧ base ≤ w.heap.size) (hpl : pre.length ≤ 1073741824) :
 Calls Tryz.prog 79 #[dv, v, sv] w (zbc w base sv.ownBlock pre (5 :: rest)) := by
 obtain ⟨i0, hi0, hz0, hz1, hz2⟩ := info_parts Tryz.info166; have hD := h.dec; obtain ⟨off, c, rfl, _⟩ := h; have hQ := zbo te pe w.heap.size g cur _ _ hD; have e1 : zaB (some (5 :: rest)) = (5, some rest) := rfl; rw [e1] at hQ; have HO := zk7 ho; obtain ⟨a', k', rfl⟩ := zaa ho; have hrl : rest.length ≤ 1099511627776 := by
  obtain ⟨n, off', c', _, _, hn, hnc, _⟩ := hD.open_; have := hn _ rfl; simp at this; omega
 have hr0 : 0 < rest.length := List.length_pos_iff.2 hne; have hr1 : ((rest.length : Int) == 0) = false := by simp; omega
 obtain ⟨np, hnp⟩ : ∃ np, pre.length = np := ⟨_, rfl⟩; have HNP := zk7 hnp; rw [hnp] at HO hpl ⊢; clear hD e1 ho hne hnp; go_enter Tryz.func79, Tryz.ntmps79
 go_wp2_with (first
  | (go_at_call 160; refine hQ.mono ?_; rintro r w1 ⟨rfl, hD1, hf1⟩; have hL := zeV te pe _ _ _ _ _ hD1)
  | (go_at_call 118; refine hL.mono ?_; rintro r w2 ⟨n, rfl, hn, _, rfl⟩; have hn0 : n = rest.length := hn _ rfl; subst hn0; clear hL; refine Hid.out ?_))
 have F1 : Fr (fun k => some k = (Value.slice a' np k').ownBlock) w w1 := ((zlW (fun k => some k = (Value.slice a' np k').ownBlock) w).alloc _).trans hf1 (fun k hk e => by omega); have O1 : w1.ownsRow base 166 2 (.slice a' np k') np (pre.flatMap Mrk.c) := zah (HO.out.alloc _) hf1 (fun k hk => by have := zav HO.out hk; omega); have hs1 := F1.size
 have hn1 : ∀ k, (Value.slice a' np k').ownBlock = some k → k < w.heap.size := fun k hk => zav HO.out hk; have HF1 := zk7 F1; have HO1 := zk7 O1; have HD1 := zk7 hD1; have HN1 := zk7 hn1; clear hD1 hf1 hQ F1 O1 hn1; refine zk7 ?_; go_wp2_with fail
 go_loopw [2] (fun sv wr => ∃ (st : St) (acc : List Mrk) (j : Nat), Hid (Dec te pe wr w.heap.size g cur st) ∧ Hid (wr.ownsRow base 166 2 sv (np + acc.length) ((pre ++ acc).flatMap Mrk.c)) ∧ Hid (Fr (fun k => some k = (Value.slice a' np k').ownBlock) w wr) ∧ Hid (∀ k, sv.ownBlock = some k → (some k = (Value.slice a' np k').ownBlock ∨ w.heap.size < k)) ∧
  Hid (zaj zbO j st acc = zaj zbO rest.length (some rest) []) ∧ Hid (∀ l, st = some l → l.length ≤ j ∧ acc.length + l.length ≤ rest.length) ∧ acc.length ≤ rest.length + 1) (fun _ wr => zhE w.heap.size wr)
 case atStart => exact ⟨some rest, [], rest.length, HD1, zk7 (by simpa using HO1.out), HF1, zk7 (fun k hk => .inl hk.symm), zk7 rfl, zk7 (fun l hl => by cases hl; simp), by simp⟩
 case round =>
  obtain ⟨st, acc, j, HD, HO, HF, HB, HE, HL, hal⟩ := hrel; obtain ⟨n6, off6, c6, p0, p1, hnl, hnc, hd, hg, h2⟩ := HD.out.open_; have hE := zgh te pe _ _ _ _ _ HD.out; obtain ⟨a6, k6, rfl⟩ := zaa HO.out; rcases st with _ | l
  ·clear hnl p1
   have hres : zaj zbO rest.length (some rest) [] = (acc, none) := by rw [← HE.out]; unfold zaj; rcases j with _ | j <;> rfl
   have HR := zk7 (show zaC (5 :: rest) = none from zcS hres); clear hres; simp only [ziS] at hE; rcases zlu n6 with rfl | hn6
   ·go_wp2_with (first | (go_at_call 119; refine hE.mono ?_; rintro r w7 ⟨rfl, rfl⟩) | (go_at_call 161; refine (zbL _ _).mono ?_; rintro r w8 ⟨t, ae, rfl, hf8⟩))
    go_ret2; exact zdV HR.out (HF.out.trans hf8 (fun _ _ e => e.elim))
   ·have hn7 : (0 : Int) < (n6 : Int) := by omega
    go_wp2_with (first | (go_at_call 119; refine hE.mono ?_; rintro r w7 ⟨rfl, rfl⟩) | (go_at_call 161; refine (zbL _ _).mono ?_; rintro r w8 ⟨t, ae, rfl, hf8⟩))
    go_ret2; exact zdV HR.out (HF.out.trans hf8 (fun _ _ e => e.elim))
  ·obtain rfl : n6 = l.length := hnl l rfl
   simp only [ziS] at hE; rcases l with _ | ⟨x, r⟩
   ·have hres : zaj zbO rest.length (some rest) [] = (acc, some []) := by rw [← HE.out]; unfold zaj; rcases j with _ | j <;> rfl
    have HR := zk7 (show zaC (5 :: rest) = some acc from zcR hres); clear hres hnl p1; simp only [List.length_nil] at p0; go_wp2_with (go_at_call 119; refine hE.mono ?_; rintro r w7 ⟨rfl, rfl⟩)
    go_ret2; refine zdU HR.out HF.out ?_; have h := HO.out; rw [zk8, HNP.out]; exact h
   ·obtain ⟨n7, hn7⟩ : ∃ n7, (x :: r).length = n7 := ⟨_, rfl⟩
    have hn8 : (0 : Int) < (n7 : Int) := by rw [← hn7]; simp
    have hlb := HL.out _ rfl; have hM := zbm HD.out; rw [hn7] at p0 hlb hM; have hV1 := zcA te pe _ _ _ _ _ HD.out; have HN7 := zk7 hn7; clear hnl p1 hn7
    go_wp2_with (first
     | (go_at_call 119; refine hE.mono ?_; rintro r w7 ⟨rfl, rfl⟩)
     | (go_at_call 162; refine hV1.mono ?_; rintro r w8 ⟨rfl, hD8, hf8⟩; refine Hid.out ?_))
    have s8 := hf8.size; have D8 := zk7 hD8; have hV2 := zcA te pe _ _ _ _ _ hD8; have F8 := zk7 hf8; clear hD8 hf8 hV1 p0; refine zk7 ?_; go_wp2_with (go_at_call 162; refine hV2.mono ?_; rintro r w9 ⟨rfl, hD9, hf9⟩; refine Hid.out ?_)
    have FA : Fr (fun k => k = w.heap.size) wr w9 := F8.out.same hf9; have sA := FA.size; have DA := zk7 hD9; have HFA := zk7 FA
    have OA : w9.ownsRow base 166 2 (.slice a6 (np + acc.length) k6) (np + acc.length) ((pre ++ acc).flatMap Mrk.c) := zah HO.out FA (fun k hk e => by
     rcases HB.out k hk with h | h
     ·have := HN1.out k h.symm; omega
     ·omega)
    have HOA := zk7 OA; clear hD9 hf9 hV2 FA OA D8 F8; refine zk7 ?_
    go_wp2_with (first
     | (at_builtin; refine Hid.out ?_))
    have hcells : (#[Value.int IntKind.u64 (zac (some (x :: r))).1, Value.int IntKind.u64 (zac (zac (some (x :: r))).2).1] : Array Value) = (Mrk.c (zbO (some (x :: r))).1).toArray := rfl; rw [hcells]; have hlen7 : ∀ l, (zbO (some (x :: r))).2 = some l → l.length < n7 := fun l hl => HN7.out ▸ zjh hl; have hDS : Dec te pe w9 w.heap.size g cur (zbO (some (x :: r))).2 := DA.out
    have HE2 : Hid (∀ j', j = j' + 1 → zaj zbO j' (zbO (some (x :: r))).2 (acc ++ [(zbO (some (x :: r))).1]) = zaj zbO rest.length (some rest) []) := zk7 (by rintro j' rfl; exact HE.out); clear hcells DA hE HE; generalize zbO (some (x :: r)) = S at hDS hlen7 HE2 ⊢; obtain ⟨s1, st9⟩ := S; simp only [] at hDS hlen7 HE2 ⊢; have hDS2 := zk7 hDS
    have hlen8 := zk7 hlen7; clear hDS hlen7; refine zk7 ?_
    refine zad _ rfl _ _ 160 160 rfl base 166 i0 _ 2 16 Tryz.underlying160 hi0 hz0 hz1 hz2 rfl (by decide) (.slice a6 (np + acc.length) k6) (np + acc.length) ((pre ++ acc).flatMap Mrk.c) rfl (HOA.out.alloc _) _ 1 (Mrk.c s1) rfl (zaF Tryz.underlying160 (Blk.new w9 166 (Mrk.c s1).toArray) rfl (by simp [Mrk.c, Value.oneCell'])) (by unfold maxLen; omega) (by omega) (by simp; omega) ?_
    intro v' w2 hown' hgrow hat
    obtain ⟨a9, k9, rfl⟩ := zaa hown'
    have hrow : ∀ k, (Value.slice a6 (np + acc.length) k6).ownBlock = some k → base ≤ k ∧ k ≠ w.heap.size := fun k hk => ⟨(HOA.out.lt k hk).1, by
     rcases HB.out k hk with h | h
     ·have := HN1.out k h.symm; omega
     ·omega⟩
    have hsG := hgrow.size; simp at hsG; have fG : Fr (fun k => some k = (Value.slice a6 (np + acc.length) k6).ownBlock) w9 w2 := ((zlW (fun k => some k = (Value.slice a6 (np + acc.length) k6).ownBlock) w9).alloc _).grown hgrow (fun k hk => .inl hk.symm)
    have rD : Dec te pe w2 w.heap.size g cur st9 := hDS2.out.fr fG (fun e => (hrow _ e.symm).2 rfl) (fun e => by have := (hrow _ e.symm).1; omega) (fun e => by have := (hrow _ e.symm).1; omega); have rO : w2.ownsRow base 166 2 (.slice a9 (np + acc.length + 1) k9) (np + (acc ++ [s1]).length) ((pre ++ (acc ++ [s1])).flatMap Mrk.c) := by
     rw [← zla, zlG, zk8, zlo]; simpa [Nat.add_assoc] using hown'
    have rF : Fr (fun k => some k = (Value.slice a' np k').ownBlock) w w2 := (HF.out.trans HFA.out (fun k hk e => by omega)).trans fG (fun k hk e => by
     rcases HB.out k e.symm with h | h
     ·exact h
     ·omega)
    have rB : ∀ k, (Value.slice a9 (np + acc.length + 1) k9).ownBlock = some k → (some k = (Value.slice a' np k').ownBlock ∨ w.heap.size < k) := fun k hk => by
     rcases hat with h | h
     ·exact HB.out k (h ▸ hk)
     ·rw [h] at hk; injection hk with hk; simp at hk; exact .inr (by omega)
    have rM : zhE w.heap.size w2 < n7 + 1 := by
     rcases st9 with _ | l9
     ·rw [zc5 rD]; omega
     ·rw [zbm rD]; have := hlen8.out l9 rfl; omega
    have RD := zk7 rD; have RO := zk7 rO; have RF := zk7 rF; have RB := zk7 rB; clear rD rO rF rB hown' hgrow hat hrow fG; go_wp2; go_roundw
    case rel =>
     obtain ⟨j', rfl⟩ : ∃ j', j = j' + 1 := ⟨j - 1, by have := HN7.out; simp at this; omega⟩; refine ⟨st9, acc ++ [s1], j', RD, RO, RF, RB, zk7 (HE2.out j' rfl), zk7 (fun l hl => ?_), by simp; omega⟩; have := hlen8.out l hl; rw [zk8, zlo]; omega
    case measure => rw [hM]; exact rM
theorem zgD (te : TypeId) (pe : Value) (dv : Value) (g base : Nat) (cur : Array Value) (pre : List Mrk) (xs : List UInt8) (v sv : Value) (w : World) (h : Rec te pe w g cur xs v) (ho : w.ownsRow base 166 2 sv pre.length (pre.flatMap Mrk.c)) (hb : g < base ∧ 2 < base ∧ base ≤ w.heap.size) (hpl : pre.length ≤ 1073741824) :
 Calls Tryz.prog 79 #[dv, v, sv] w (zbc w base sv.ownBlock pre xs) := by
 by_cases hx : (zaB (some xs)).1 = 5
 ·rcases xs with _ | ⟨b, rest⟩
  ·exact absurd hx (by decide)
  ·have hb2 : b = 5 := by
    have : b.toNat = (5 : UInt8).toNat := hx; exact UInt8.toNat_inj.1 this
   subst hb2; by_cases hr : rest = []
   ·subst hr; exact zfq te pe dv g base cur pre v sv w h ho ⟨hb.1, hb.2.1⟩
   ·exact zgg te pe dv g base cur pre rest hr v sv w h ho hb hpl
 ·exact zgf te pe dv g base cur pre xs v sv w h hx
structure SerD where
 ref : Nat
 labs : List Lab
def zhT (x : SerD) : List Value := [.int .u64 x.ref, .string (zas x.labs)]
def zfz (st : St) : List Lab × St := za9 (gUv st).2 (gUv st).1
def za0 (st : St) : SerD × St := (⟨(zac st).1, (zfz (zac st).2).1⟩, (zfz (zac st).2).2)
def ze6 (st : St) : Prop := (gUv st).1 ≤ 4096 ∧ (∀ k, k < (gUv st).1 → (gUv (za9 (gUv st).2 k).2).1 < 9223372036854775808 ∧ (gUv (zch (za9 (gUv st).2 k).2).2).1 < 9223372036854775808) ∧ ∀ p ∈ (zfz st).1, p.1.size ≤ 1048576 ∧ p.2.size ≤ 1048576
def zdq (st : St) : Prop := ze6 (zac st).2
def zba (xs : List UInt8) : Option (List SerD) := za5 1 za0 xs
theorem zez (st : St) : ∀ k, (za9 st k).1.length = k
 | 0 => rfl
 | k + 1 => by
   show ((za9 st k).1 ++ [_]).length = k + 1; rw [zk8, zez st k]; rfl
theorem zid {st : St} {l : List UInt8} (h : (zch st).2 = some l) : ∃ l0, st = some l0 ∧ l.length ≤ l0.length := by
 rcases st with _ | l0
 ·have : zch none = (⟨#[]⟩, none) := rfl
  rw [this] at h; cases h
 ·exact ⟨l0, rfl, (zic l0 (zch (some l0)).1 (zch (some l0)).2 rfl).2 l h⟩
theorem zgO (st : St) : ∀ (k : Nat) (l : List UInt8), (za9 st k).2 = some l → ∃ l0, st = some l0 ∧ l.length ≤ l0.length
 | 0, l, h => ⟨l, h, zlj _⟩
 | k + 1, l, h => by
   obtain ⟨l1, h1, e1⟩ := zid (st := (zch (za9 st k).2).2) h; obtain ⟨l2, h2, e2⟩ := zid h1; obtain ⟨l3, h3, e3⟩ := zgO st k l2 h2; exact ⟨l3, h3, by omega⟩
theorem zjZ {st : St} {l : List UInt8} (h : (zfz st).2 = some l) : ∃ l0, st = some l0 ∧ l.length < l0.length := by
 obtain ⟨l1, h1, e1⟩ := zgO _ _ _ h; obtain ⟨l2, h2, e2⟩ := zb4 (st := st) h1; exact ⟨l2, h2, by omega⟩
theorem zi7 {l0 l : List UInt8} (h : (za0 (some l0)).2 = some l) : l.length < l0.length := by
 obtain ⟨l1, h1, e1⟩ := zjZ h; obtain ⟨l2, h2, e2⟩ := zbC (st := some l0) h1; injection h2 with h2; subst h2; omega
theorem own_DS {w w' : World} {b0 d d2 base e size n : Nat} {v : Value} {xs : List Value} {cs : Array Value} (h : w.ownsRow base e size v n xs) (h1 : e ≠ 108) (h2 : e ≠ 119) (hb : Blk w d 119 cs) (hd : ∀ g, v.ownBlock = some g → g ≠ d2) (hf : Fr (DS w b0 d d2) w w') : w'.ownsRow base e size v n xs :=
 zah h hf (fun g hg k => by
  rcases k with k | k | ⟨_, cs', k⟩
  ·exact hd g hg k
  ·exact zak h hb h2 (by rw [hg, k])
  ·exact zak h k h1 hg)
theorem back_S {w w' : World} {o : Option Nat} {b0 d d2 : Nat} (hd2 : w.heap.size ≤ d2) (h : Fr (fun k => some k = o ∨ zdr w b0 d k) w w') (k : Nat) (hk : k < w.heap.size) (hs : DS w' b0 d d2 k) : some k = o ∨ zdr w b0 d k := by
 rcases Classical.em (some k = o ∨ zdr w b0 d k) with hy | hn
 ·exact hy
 ·rcases hs with rfl | rfl | ⟨hb, cs, hc⟩
  ·omega
  ·exact .inr (.inl rfl)
  ·exact .inr (.inr ⟨hb, cs, (h.block k hk hn).symm.trans hc⟩)
def zcG (b0 d : Nat) (w : World) (base : Nat) (o : Option Nat) (pre : List SerD) (xs : List UInt8) (r : Ending) (w' : World) : Prop :=
 Fr (fun k => some k = o ∨ zdr w b0 d k) w w' ∧ match zba xs with
  | some l => ∃ v', r = .returned (.tuple #[v', .nilIface]) ∧ w'.ownsRow base 127 2 v' (pre ++ l).length ((pre ++ l).flatMap zhT)
  | none => ∃ t a, r = .returned (.tuple #[.slice none 0 0, .iface t a])
theorem zeH {b0 d : Nat} {w w' : World} {base : Nat} {o : Option Nat} {pre : List SerD} {xs : List UInt8} {t : TypeId} {a : Value} (hd : zba xs = none) (hf : Fr (fun k => some k = o ∨ zdr w b0 d k) w w') : zcG b0 d w base o pre xs (.returned (.tuple #[.slice none 0 0, .iface t a])) w' := by
 unfold zcG; rw [hd]; exact ⟨hf, _, _, rfl⟩
theorem zhh {b0 d : Nat} {w w' : World} {base : Nat} {o : Option Nat} {pre : List SerD} {xs : List UInt8} {l : List SerD} {v : Value} (hd : zba xs = some l) (hf : Fr (fun k => some k = o ∨ zdr w b0 d k) w w') (ho : w'.ownsRow base 127 2 v (pre ++ l).length ((pre ++ l).flatMap zhT)) : zcG b0 d w base o pre xs (.returned (.tuple #[v, .nilIface])) w' := by
 unfold zcG; rw [hd]; exact ⟨hf, _, rfl, ho⟩
theorem ziw (te : TypeId) (pe : Value) (b0 d g base : Nat) (cur : Array Value) (pre : List SerD) (xs : List UInt8) (v sv : Value) (w : World) (h : Rec te pe w g cur xs v) (hx : (zaB (some xs)).1 ≠ 1) :
 Calls Tryz.prog 68 #[.pointer (some ⟨d, 0, none⟩), v, sv] w (zcG b0 d w base sv.ownBlock pre xs) := by
 have hd : zba xs = none := by
  rcases xs with _ | ⟨b, r⟩
  ·rfl
  ·have : ¬ b = 1 := by rintro rfl; exact hx rfl
   simp [zba, za5, this]
 unfold zcG; rw [hd]; clear hd; have hD := h.dec; obtain ⟨off, c, rfl, _⟩ := h; have hQ := zbo te pe w.heap.size g cur _ _ hD; have hx2 : ¬ ((zaB (some xs)).1 : Int) = 1 := by omega
 clear hD hx; generalize (zaB (some xs)).1 = x at hQ hx2; generalize (zaB (some xs)).2 = st at hQ; go_enter Tryz.func68, Tryz.ntmps68; go_wp2_with (first | (go_at_call 160; refine hQ.mono ?_; rintro r w1 ⟨rfl, hD1, hf1⟩) | (go_at_call 161; refine (zbL _ _).mono ?_; rintro r w2 ⟨t, a, rfl, hf2⟩))
 go_ret2; refine ⟨?_, _, _, rfl⟩; have f1 := (((zlW (fun k => some k = sv.ownBlock ∨ zdr w b0 d k) w).alloc (.cells #[.slice (some ⟨g, off, none⟩) xs.length c, .nilIface] 229)).trans hf1 (fun k hk e => by omega)); exact f1.trans hf2 (fun _ _ e => e.elim)
theorem zix (Good : St → Prop) (hG : ∀ l, Good (some l) → zdq (some l) ∧ Good (za0 (some l)).2) (te : TypeId) (pe : Value) (b0 d g base : Nat) (cur : Array Value) (pre : List SerD) (rest : List UInt8) (v sv : Value) (w : World) (h : Rec te pe w g cur (1 :: rest) v) (ho : w.ownsRow base 127 2 sv pre.length (pre.flatMap zhT)) (hb : 2 < base ∧ base ≤ w.heap.size ∧ g < w.heap.size) (hpl : pre.length ≤ 1073741824) (hG0 : Good (some rest))
 (lb : List Lab) (ob : ByteArray) (hB : Bld w b0 d lb ob) (hb0 : b0 ≤ w.heap.size ∧ 2 < b0 ∧ b0 ≤ d) :
 Calls Tryz.prog 68 #[.pointer (some ⟨d, 0, none⟩), v, sv] w (zcG b0 d w base sv.ownBlock pre (1 :: rest)) := by
 obtain ⟨i0, hi0, hz0, hz1, hz2⟩ := info_parts Tryz.info127; have HGD := zk7 hG; clear hG; have HG0 := zk7 hG0; clear hG0; have hD := h.dec; obtain ⟨off, c, rfl, _⟩ := h; have hQ := zbo te pe w.heap.size g cur _ _ hD; have e1 : zaB (some (1 :: rest)) = (1, some rest) := rfl; rw [e1] at hQ; have HO := zk7 ho; obtain ⟨a', k', rfl⟩ := zaa ho
 have hrl : rest.length ≤ 1099511627776 := by
  obtain ⟨n, off', c', _, _, hn, hnc, _⟩ := hD.open_; have := hn _ rfl; simp at this; omega
 obtain ⟨np, hnp⟩ : ∃ np, pre.length = np := ⟨_, rfl⟩; have HNP := zk7 hnp; rw [hnp] at HO hpl ⊢; have HB0 := zk7 hB; have hdw : d < w.heap.size := let ⟨_, _, h, _⟩ := hB; h.lt
 clear hD e1 ho hnp hB; go_enter Tryz.func68, Tryz.ntmps68; go_wp2_with (go_at_call 160; refine hQ.mono ?_; rintro r w1 ⟨rfl, hD1, hf1⟩; refine Hid.out ?_)
 have F1 : Fr (fun k => some k = (Value.slice a' np k').ownBlock ∨ zdr w b0 d k) w w1 := ((zlW (fun k => some k = (Value.slice a' np k').ownBlock ∨ zdr w b0 d k) w).alloc _).trans hf1 (fun k hk e => by omega); have O1 : w1.ownsRow base 127 2 (.slice a' np k') np (pre.flatMap zhT) := zah (HO.out.alloc _) hf1 (fun k hk => by have := zav HO.out hk; omega)
 have B1 : Bld w1 b0 d lb ob := (HB0.out.fr ((zlW (fun _ => False) w).alloc _) (fun e => e) (fun _ _ _ e => e)).fr hf1 (by omega) (fun k hk hc e => by
  obtain ⟨cs, hc⟩ := hc; subst e; have := Blk.new w 229 #[.slice (some ⟨g, off, none⟩) (1 :: rest).length c, .nilIface]
  exact Blk.ne_ hc this (by decide) rfl)
 have hs1 := F1.size; have hn1 : ∀ k, (Value.slice a' np k').ownBlock = some k → k < w.heap.size := fun k hk => zav HO.out hk; have HF1 := zk7 F1; have HO1 := zk7 O1; have HB1 := zk7 B1; have HD1 := zk7 hD1; have HN1 := zk7 hn1; clear hD1 hf1 hQ F1 O1 hn1 B1; refine zk7 ?_; go_wp2_with fail
 go_loopw [2] (fun sv wr => ∃ (st : St) (acc : List SerD) (j : Nat), Hid (Dec te pe wr w.heap.size g cur st) ∧ Hid (wr.ownsRow base 127 2 sv (np + acc.length) ((pre ++ acc).flatMap zhT)) ∧ Hid (Fr (fun k => some k = (Value.slice a' np k').ownBlock ∨ zdr w b0 d k) w wr) ∧ Hid (∀ k, sv.ownBlock = some k → (some k = (Value.slice a' np k').ownBlock ∨ w.heap.size < k)) ∧
  Hid (zaj za0 j st acc = zaj za0 rest.length (some rest) []) ∧ Hid (∀ l, st = some l → l.length ≤ j ∧ acc.length + l.length ≤ rest.length) ∧ acc.length ≤ rest.length + 1 ∧ Hid (Good st) ∧ Hid (∃ lb ob, Bld wr b0 d lb ob)) (fun _ wr => zhE w.heap.size wr)
 case atStart => exact ⟨some rest, [], rest.length, HD1, zk7 (by simpa using HO1.out), HF1, zk7 (fun k hk => .inl hk.symm), zk7 rfl, zk7 (fun l hl => by cases hl; simp), by simp, HG0, zk7 ⟨_, _, HB1.out⟩⟩
 case round =>
  obtain ⟨st, acc, j, HD, HO, HF, HB, HE, HL, hal, HGS, HBL⟩ := hrel; obtain ⟨n6, off6, c6, p0, p1, hnl, hnc, hd, hg, h2⟩ := HD.out.open_; have hE := zgh te pe _ _ _ _ _ HD.out; obtain ⟨a6, k6, rfl⟩ := zaa HO.out; rcases st with _ | l
  ·clear hnl p1
   have hres : zaj za0 rest.length (some rest) [] = (acc, none) := by rw [← HE.out]; unfold zaj; rcases j with _ | j <;> rfl
   have HR := zk7 (show zba (1 :: rest) = none from zcS hres); clear hres; simp only [ziS] at hE; rcases zlu n6 with rfl | hn6
   ·go_wp2_with (go_at_call 119; refine hE.mono ?_; rintro r w7 ⟨rfl, rfl⟩)
    go_ret2; exact zeH HR.out HF.out
   ·have hn7 : (0 : Int) < (n6 : Int) := by omega
    go_wp2_with (go_at_call 119; refine hE.mono ?_; rintro r w7 ⟨rfl, rfl⟩)
    go_ret2; exact zeH HR.out HF.out
  ·obtain rfl : n6 = l.length := hnl l rfl
   simp only [ziS] at hE; rcases l with _ | ⟨x, r⟩
   ·have hres : zaj za0 rest.length (some rest) [] = (acc, some []) := by rw [← HE.out]; unfold zaj; rcases j with _ | j <;> rfl
    have HR := zk7 (show zba (1 :: rest) = some acc from zcR hres); clear hres hnl p1; simp only [List.length_nil] at p0; go_wp2_with (go_at_call 119; refine hE.mono ?_; rintro r w7 ⟨rfl, rfl⟩)
    go_ret2; refine zhh HR.out HF.out ?_; have h := HO.out; rw [zk8, HNP.out]; exact h
   ·obtain ⟨n7, hn7⟩ : ∃ n7, (x :: r).length = n7 := ⟨_, rfl⟩
    have hn8 : (0 : Int) < (n7 : Int) := by rw [← hn7]; simp
    have hlb := HL.out _ rfl; have hM := zbm HD.out; rw [hn7] at p0 hlb hM; have hV1 := zcA te pe _ _ _ _ _ HD.out; obtain ⟨hfine, hgood⟩ := HGD.out _ HGS.out; have HN7 := zk7 hn7; obtain ⟨S0, hS0⟩ : ∃ S0 : St, some (x :: r) = S0 := ⟨_, rfl⟩; rw [hS0] at hV1 hfine hgood; have HS0 := zk7 hS0; have HGN := zk7 hgood; obtain ⟨v0, hv0⟩ : ∃ v, (zac S0).1 = v := ⟨_, rfl⟩
    obtain ⟨S1, hS1⟩ : ∃ S, (zac S0).2 = S := ⟨_, rfl⟩; rw [hv0, hS1] at hV1; unfold zdq at hfine; rw [hS1] at hfine; have HFI := zk7 hfine; have HSS := zk7 (And.intro hv0 hS1); clear hnl p1 hn7 hS0 hgood hfine hv0 hS1; have hsw := HF.out.size
    go_wp2_with (first
     | (go_at_call 119; refine hE.mono ?_; rintro r w7 ⟨rfl, rfl⟩)
     | (go_at_call 162; refine hV1.mono ?_; rintro r w8 ⟨rfl, hD8, hf8⟩; refine Hid.out ?_))
    obtain ⟨lb8, ob8, hB8⟩ := HBL.out; obtain ⟨cs8, hbd8, _, _⟩ := zb6 HD.out; have hB9 := zha hB8 hbd8 hf8; have hs8 := hf8.size; obtain ⟨LN, hLN⟩ : ∃ n, (gUv S1).1 = n := ⟨_, rfl⟩; obtain ⟨S2, hS2⟩ : ∃ s, (gUv S1).2 = s := ⟨_, rfl⟩; have hfi := HFI.out; unfold ze6 zfz at hfi; rw [hLN, hS2] at hfi
    have hX := zdy te pe b0 d w.heap.size g cur lb8 ob8 S1 w8 hB9 hD8 (by omega) (by omega) (by omega) LN S2 (Prod.ext hLN hS2) hfi.1 hfi.2.1 hfi.2.2 (zez S2); have hlg : zfz S1 = za9 S2 LN := by unfold zfz; rw [hLN, hS2]
    rw [← hlg] at hX; obtain ⟨ll, hll⟩ : ∃ x, (zfz S1).1 = x := ⟨_, rfl⟩; obtain ⟨S3, hS3⟩ : ∃ x, (zfz S1).2 = x := ⟨_, rfl⟩; rw [hll, hS3] at hX; obtain ⟨st1, hst1⟩ : ∃ x, zas ll = x := ⟨_, rfl⟩
    have O8 : w8.ownsRow base 127 2 (.slice a6 (np + acc.length) k6) (np + acc.length) ((pre ++ acc).flatMap zhT) := zah HO.out hf8 (fun k hk e => by
     rcases HB.out k hk with h | h
     ·have := HN1.out k h.symm; omega
     ·omega)
    have F8 : Fr (fun k => some k = (Value.slice a' np k').ownBlock ∨ zdr w b0 d k) w w8 := HF.out.trans hf8 (fun k hk e => by omega); have HBD := zk7 (show ∃ cs, Blk w8 d 119 cs from let ⟨_, _, h, _⟩ := hB9; ⟨_, h⟩); rw [hst1] at hX; have HX := zk7 hX; have HO8 := zk7 O8; have HF8 := zk7 F8; have HST := zk7 (And.intro hll (And.intro hS3 hst1))
    clear hX O8 F8 hll hS3 hst1 hlg hfi hLN hS2 hB9 hbd8 hB8 hD8 hf8 hV1 p0; refine zk7 ?_
    go_wp2_with (first
     | (go_at_call 117; refine HX.out.mono ?_; rintro r w9 ⟨rfl, hD9, hf9, hB9⟩; have JD9 := zk7 hD9; have JF9 := zk7 hf9; have JB9 := zk7 hB9; clear hD9 hf9 hB9)
     | (at_builtin; refine Hid.out ?_))
    obtain ⟨cs9, hbd9⟩ := HBD.out; have hs9 := JF9.out.size
    have O9 : w9.ownsRow base 127 2 (.slice a6 (np + acc.length) k6) (np + acc.length) ((pre ++ acc).flatMap zhT) := own_DS HO8.out (by decide) (by decide) hbd9 (fun k hk => by
     rcases HB.out k hk with h | h
     ·have := HN1.out k h.symm; omega
     ·omega) JF9.out
    have F9 : Fr (fun k => some k = (Value.slice a' np k').ownBlock ∨ zdr w b0 d k) w w9 := HF8.out.trans JF9.out (fun k hk e => back_S (zlj _) HF8.out k hk e); have HOA := zk7 O9; have HFA := zk7 F9; obtain ⟨q0, q1⟩ := HSS.out; obtain ⟨q2, q3, q4⟩ := HST.out; have hst : za0 S0 = (⟨v0, ll⟩, S3) := by unfold za0; rw [q0, q1, q2, q3]
    have HE2 : Hid (∀ j', j = j' + 1 → zaj za0 j' S3 (acc ++ [⟨v0, ll⟩]) = zaj za0 rest.length (some rest) []) := zk7 (by
     rintro j' rfl; have h := HE.out; have h2 : zaj za0 (j' + 1) (some (x :: r)) acc = zaj za0 j' (za0 (some (x :: r))).2 (acc ++ [(za0 (some (x :: r))).1]) := rfl; rw [h2, HS0.out, hst] at h
     exact h)
    have hlen8 : Hid (∀ l, S3 = some l → l.length < n7) := zk7 (fun l hl => by
     have h := zi7 (l0 := x :: r) (l := l) (by rw [HS0.out, hst]; exact hl)
     rw [HN7.out] at h; exact h)
    have HGP : Hid (Good S3) := zk7 (by have h := HGN.out; rw [hst] at h; exact h); have HQ4 := zk7 q4; clear O9 F9 q0 q1 q2 q3 q4 hst hE hbd9; refine zk7 ?_
    refine zad _ rfl _ _ 121 121 rfl base 127 i0 _ 2 24 Tryz.underlying121 hi0 hz0 hz1 hz2 rfl (by decide) (.slice a6 (np + acc.length) k6) (np + acc.length) ((pre ++ acc).flatMap zhT) rfl ((HOA.out.alloc _).alloc _) _ 1 [.int .u64 v0, .string st1] rfl (zaF Tryz.underlying121 (za6 w9 _ 127 #[.int .u64 v0, .string st1]) rfl (by simp [Value.oneCell'])) (by unfold maxLen; omega) (by omega) (by simp; omega) ?_
    intro v' w2 hown' hgrow hat
    obtain ⟨a9, k9, rfl⟩ := zaa hown'
    have hrow : ∀ k, (Value.slice a6 (np + acc.length) k6).ownBlock = some k → base ≤ k ∧ k ≠ w.heap.size := fun k hk => ⟨(HOA.out.lt k hk).1, by
     rcases HB.out k hk with h | h
     ·have := HN1.out k h.symm; omega
     ·omega⟩
    have hsG := hgrow.size; simp at hsG; have fG : Fr (fun k => some k = (Value.slice a6 (np + acc.length) k6).ownBlock) w9 w2 := (((zlW (fun k => some k = (Value.slice a6 (np + acc.length) k6).ownBlock) w9).alloc _).alloc _).grown hgrow (fun k hk => .inl hk.symm); obtain ⟨cs10, hb10, hg10, _⟩ := zb6 JD9.out
    have rD : Dec te pe w2 w.heap.size g cur S3 := JD9.out.fr fG (fun e => (hrow _ e.symm).2 rfl) (fun e => zak HOA.out hg10 (by decide) e.symm) (fun e => by have := (hrow _ e.symm).1; omega); have rBL : Bld w2 b0 d ll st1 := by
     have h2 := JB9.out; obtain ⟨_, _, hbd, _⟩ := h2; exact JB9.out.fr fG (fun e => zak HOA.out hbd (by decide) e.symm) (fun g' _ hc e => by obtain ⟨cs, hc⟩ := hc; exact zak HOA.out hc (by decide) e.symm)
    have rO : w2.ownsRow base 127 2 (.slice a9 (np + acc.length + 1) k9) (np + (acc ++ [(⟨v0, ll⟩ : SerD)]).length) ((pre ++ (acc ++ [(⟨v0, ll⟩ : SerD)])).flatMap zhT) := by
     rw [← zla, zlG, zk8, zlo]; simpa [zhT, HQ4.out, Nat.add_assoc] using hown'
    have rF : Fr (fun k => some k = (Value.slice a' np k').ownBlock ∨ zdr w b0 d k) w w2 := HFA.out.trans fG (fun k hk e => by
     rcases HB.out k e.symm with h | h
     ·exact .inl h
     ·omega)
    have rB : ∀ k, (Value.slice a9 (np + acc.length + 1) k9).ownBlock = some k → (some k = (Value.slice a' np k').ownBlock ∨ w.heap.size < k) := fun k hk => by
     rcases hat with h | h
     ·exact HB.out k (h ▸ hk)
     ·rw [h] at hk; injection hk with hk; simp at hk; exact .inr (by omega)
    have rM : zhE w.heap.size w2 < n7 + 1 := by
     rcases S3 with _ | l9
     ·rw [zc5 rD]; omega
     ·rw [zbm rD]; have := hlen8.out l9 rfl; omega
    have RD := zk7 rD; have RO := zk7 rO; have RF := zk7 rF; have RB := zk7 rB; have RBL : Hid (∃ lb ob, Bld w2 b0 d lb ob) := zk7 ⟨_, _, rBL⟩; clear rD rO rF rB rBL hown' hgrow hat hrow fG hb10 hg10; go_wp2; go_roundw
    case rel =>
     obtain ⟨j', rfl⟩ : ∃ j', j = j' + 1 := ⟨j - 1, by have := HN7.out; simp at this; omega⟩; refine ⟨S3, acc ++ [⟨v0, ll⟩], j', RD, RO, RF, RB, zk7 (HE2.out j' rfl), zk7 (fun l hl => ?_), by simp; omega, HGP, RBL⟩; have := hlen8.out l hl; rw [zk8, zlo]; omega
    case measure => rw [hM]; exact rM
theorem zjD (Good : St → Prop) (hG : ∀ l, Good (some l) → zdq (some l) ∧ Good (za0 (some l)).2) (te : TypeId) (pe : Value) (b0 d g base : Nat) (cur : Array Value) (pre : List SerD) (xs : List UInt8) (v sv : Value) (w : World) (h : Rec te pe w g cur xs v) (ho : w.ownsRow base 127 2 sv pre.length (pre.flatMap zhT)) (hb : 2 < base ∧ base ≤ w.heap.size ∧ g < w.heap.size) (hpl : pre.length ≤ 1073741824) (hG0 : ∀ r, xs = 1 :: r → Good (some r))
 (lb : List Lab) (ob : ByteArray) (hB : Bld w b0 d lb ob) (hb0 : b0 ≤ w.heap.size ∧ 2 < b0 ∧ b0 ≤ d) :
 Calls Tryz.prog 68 #[.pointer (some ⟨d, 0, none⟩), v, sv] w (zcG b0 d w base sv.ownBlock pre xs) := by
 by_cases hx : (zaB (some xs)).1 = 1
 ·rcases xs with _ | ⟨b, rest⟩
  ·exact absurd hx (by decide)
  ·have hb2 : b = 1 := by
    have : b.toNat = (1 : UInt8).toNat := hx; exact UInt8.toNat_inj.1 this
   subst hb2; exact zix Good hG te pe b0 d g base cur pre rest v sv w h ho hb hpl (hG0 _ rfl) lb ob hB hb0
 ·exact ziw te pe b0 d g base cur pre xs v sv w h hx
structure ExD where
 ref : Nat
 t : Int
 v : Nat
 labs : List Lab
def exd (x : ExD) : List Value := [.int .u64 x.ref, .int .i64 x.t, .float .f64 x.v, .string (zas x.labs)]
def zaQ (br : Nat) (bt : Int) (st : St) : ExD × St :=
 (⟨u64 ((br : Int) + u64 (zaE st).1), wrap64 (bt + (zaE (zaE st).2).1), (zac (zaE (zaE st).2).2).1, (zfz (zac (zaE (zaE st).2).2).2).1⟩, (zfz (zac (zaE (zaE st).2).2).2).2)
def zd0 (st : St) : Prop := ze6 (zac (zaE (zaE st).2).2).2
def zbJ (rest : List UInt8) : Option (List ExD) :=
 if rest = [] then some [] else match zaj (zaQ (zac (some rest)).1 (zaq (zac (some rest)).2).1) rest.length (zaq (zac (some rest)).2).2 [] with
  | (l, some _) => some l
  | (_, none) => none
def zbf (xs : List UInt8) : Option (List ExD) :=
 match xs with
 | [] => none
 | b :: rest => if b = 4 then zbJ rest else none
theorem zjv {br : Nat} {bt : Int} {l0 l : List UInt8} (h : (zaQ br bt (some l0)).2 = some l) : l.length < l0.length := by
 obtain ⟨l1, h1, e1⟩ := zjZ h; obtain ⟨l2, h2, e2⟩ := zbC (st := (zaE (zaE (some l0)).2).2) h1; obtain ⟨l3, h3, e3⟩ := zb4 (st := (zaE (some l0)).2) h2; obtain ⟨l4, h4, e4⟩ := zb4 (st := some l0) h3; injection h4 with h4; subst h4; omega
def zev (S : Nat → Prop) (w : World) (base : Nat) (pre : List ExD) (res : Option (List ExD)) (r : Ending) (w' : World) : Prop :=
 Fr S w w' ∧ match res with
  | some l => ∃ v', r = .returned (.tuple #[v', .nilIface]) ∧ w'.ownsRow base 157 4 v' (pre ++ l).length ((pre ++ l).flatMap exd)
  | none => ∃ t a, r = .returned (.tuple #[.slice none 0 0, .iface t a])
theorem zdM {S : Nat → Prop} {w w' : World} {base : Nat} {pre : List ExD} {res : Option (List ExD)} {t : TypeId} {a : Value} (hd : res = none) (hf : Fr S w w') : zev S w base pre res (.returned (.tuple #[.slice none 0 0, .iface t a])) w' := by
 unfold zev; rw [hd]; exact ⟨hf, _, _, rfl⟩
theorem zeB {S : Nat → Prop} {w w' : World} {base : Nat} {pre : List ExD} {res : Option (List ExD)} {l : List ExD} {v : Value} (hd : res = some l) (hf : Fr S w w') (ho : w'.ownsRow base 157 4 v (pre ++ l).length ((pre ++ l).flatMap exd)) : zev S w base pre res (.returned (.tuple #[v, .nilIface])) w' := by
 unfold zev; rw [hd]; exact ⟨hf, _, rfl, ho⟩
theorem back_S2 {w w' : World} {o : Option Nat} {b0 d d2 : Nat} (h : Fr (fun k => some k = o ∨ k = d2 ∨ zdr w b0 d k) w w') (k : Nat) (hk : k < w.heap.size) (hs : DS w' b0 d d2 k) : some k = o ∨ k = d2 ∨ zdr w b0 d k := by
 rcases Classical.em (some k = o ∨ k = d2 ∨ zdr w b0 d k) with hy | hn
 ·exact hy
 ·rcases hs with rfl | rfl | ⟨hb, cs, hc⟩
  ·exact .inr (.inl rfl)
  ·exact .inr (.inr (.inl rfl))
  ·exact .inr (.inr (.inr ⟨hb, cs, (h.block k hk hn).symm.trans hc⟩))
theorem zkY {br : Nat} {bt : Int} {rest s : List UInt8} {st2 : St} {l : List ExD} (h0 : rest ≠ []) (h1 : (zac (some rest)).1 = br) (h2 : (zaq (zac (some rest)).2) = (bt, st2)) (h : zaj (zaQ br bt) rest.length st2 [] = (l, some s)) : zbJ rest = some l := by
 unfold zbJ; rw [if_neg h0, h1, h2]; simp only []; rw [h]
theorem zkZ {br : Nat} {bt : Int} {rest : List UInt8} {st2 : St} {l : List ExD} (h0 : rest ≠ []) (h1 : (zac (some rest)).1 = br) (h2 : (zaq (zac (some rest)).2) = (bt, st2)) (h : zaj (zaQ br bt) rest.length st2 [] = (l, none)) : zbJ rest = none := by
 unfold zbJ; rw [if_neg h0, h1, h2]; simp only []; rw [h]
theorem zim (te : TypeId) (pe : Value) (b0 d d2 g base : Nat) (cur : Array Value) (pre : List ExD) (sv : Value) (w : World) (hD : Dec te pe w d2 g cur (some [])) (ho : w.ownsRow base 157 4 sv pre.length (pre.flatMap exd)) :
 Calls Tryz.prog 170 #[.pointer (some ⟨d, 0, none⟩), .pointer (some ⟨d2, 0, none⟩), sv] w (zev (fun k => some k = sv.ownBlock ∨ k = d2 ∨ zdr w b0 d k) w base pre (zbJ [])) := by
 have hL := zeV te pe _ _ _ _ _ hD; have HO := zk7 ho; obtain ⟨a', n', k', rfl⟩ := zae ho; clear ho hD; go_enter Tryz.func170, Tryz.ntmps170; go_wp2_with (go_at_call 118; refine hL.mono ?_; rintro r w2 ⟨n, rfl, hn, _, rfl⟩; have hn0 := hn _ rfl; subst hn0)
 go_ret2; exact zeB (l := []) rfl (zlW _ w) (by rw [zlt]; exact HO.out)
theorem zjw (te : TypeId) (pe : Value) (b0 d d2 g base : Nat) (cur : Array Value) (pre : List ExD) (rest : List UInt8) (hne : rest ≠ []) (sv : Value) (w : World) (hD : Dec te pe w d2 g cur (some rest)) (ho : w.ownsRow base 157 4 sv pre.length (pre.flatMap exd)) (hb : 2 < base ∧ base ≤ w.heap.size) (hpl : pre.length ≤ 1073741824)
 (Good : St → Prop) (hG : ∀ l, Good (some l) → zd0 (some l) ∧ Good (zaQ (zac (some rest)).1 (zaq (zac (some rest)).2).1 (some l)).2) (hG0 : Good (zaq (zac (some rest)).2).2)
 (lb : List Lab) (ob : ByteArray) (hB : Bld w b0 d lb ob) (hb0 : b0 ≤ w.heap.size ∧ 2 < b0 ∧ b0 ≤ d) :
 Calls Tryz.prog 170 #[.pointer (some ⟨d, 0, none⟩), .pointer (some ⟨d2, 0, none⟩), sv] w (zev (fun k => some k = sv.ownBlock ∨ k = d2 ∨ zdr w b0 d k) w base pre (zbJ rest)) := by
 have mixed : Tryz.prog.follows .mixedOrders = true := by kernel_rfl
 obtain ⟨i0, hi0, hz0, hz1, hz2⟩ := info_parts Tryz.info157; have hL := zeV te pe _ _ _ _ _ hD; have hV1 := zcA te pe _ _ _ _ _ hD; have hrl : rest.length ≤ 1099511627776 := by
  obtain ⟨n, off', c', _, _, hn, hnc, _⟩ := hD.open_; have := hn _ rfl; omega
 obtain ⟨cs0, hbd0, hbg0, hlt2⟩ := zb6 hD; obtain ⟨br, hbr⟩ : ∃ b, (zac (some rest)).1 = b := ⟨_, rfl⟩; obtain ⟨T1, hT1⟩ : ∃ b, (zac (some rest)).2 = b := ⟨_, rfl⟩; obtain ⟨bt, hbt⟩ : ∃ b, (zaq T1).1 = b := ⟨_, rfl⟩; obtain ⟨T2, hT2⟩ : ∃ b, (zaq T1).2 = b := ⟨_, rfl⟩; rw [hbr, hT1] at hV1; rw [hbr, hT1, hbt] at hG; rw [hT1, hT2] at hG0
 have hpair : zaq (zac (some rest)).2 = (bt, T2) := by rw [hT1]; exact Prod.ext hbt hT2
 have HNE := zk7 hne; have HBR := zk7 hbr; have HPR := zk7 hpair; have HGD := zk7 hG; have HG0 := zk7 hG0; have HO := zk7 ho; have hod : ∀ k, sv.ownBlock = some k → k ≠ d2 := fun k hk e => zak ho hbd0 (by decide) (by rw [hk, e]); obtain ⟨a', k', rfl⟩ := zaa ho; obtain ⟨np, hnp⟩ : ∃ np, pre.length = np := ⟨_, rfl⟩; have HNP := zk7 hnp; rw [hnp] at HO hpl hod ⊢
 have HOD := zk7 hod; have HB0 := zk7 hB; have hdw : d < w.heap.size := let ⟨_, _, h, _⟩ := hB; h.lt
 have hd2w : d2 < w.heap.size := hbd0.lt; have HQ2 : Hid (∀ W, Dec te pe W d2 g cur T1 → Calls Tryz.prog 164 #[.pointer (some ⟨d2, 0, none⟩)] W (zap te pe W d2 g cur (.int .i64 bt) T2)) := zk7 (fun W hW => by have := zhG te pe _ _ _ _ _ hW; rwa [hbt, hT2] at this); have HBD0 := zk7 hbd0
 have hr1 : ((rest.length : Int) == 0) = false := by have := List.length_pos_iff.2 hne; simp; omega
 clear hD ho hnp hB hne hbr hpair hG hG0 hbt hT2 hT1 hod hbd0 hbg0; go_enter Tryz.func170, Tryz.ntmps170
 go_wp2_with (first
  | (go_at_call 118; refine hL.mono ?_; rintro r w0 ⟨n, rfl, hn, _, rfl⟩; have hn0 : n = rest.length := hn _ rfl; subst hn0)
  | (go_at_call 162; refine hV1.mono ?_; rintro r w1 ⟨rfl, hDa, hfa⟩; have HDa := zk7 hDa; have HFa := zk7 hfa; clear hDa hfa)
  | (go_at_call 164; refine (HQ2.out _ HDa.out).mono ?_; rintro r w2 ⟨rfl, hDb, hfb⟩; have HDb := zk7 hDb; have HFb := zk7 (HFa.out.same hfb); clear hDb hfb))
 have F1 : Fr (fun k => some k = (Value.slice a' np k').ownBlock ∨ k = d2 ∨ zdr w b0 d k) w w2 := HFb.out.mono (fun _ _ e => .inr (.inl e)); have O1 : w2.ownsRow base 157 4 (.slice a' np k') np (pre.flatMap exd) := zah HO.out HFb.out (fun k hk => HOD.out k hk); have B1 : Bld w2 b0 d lb ob := zha HB0.out HBD0.out HFb.out; have hs1 := F1.size
 have hn1 : ∀ k, (Value.slice a' np k').ownBlock = some k → k < w.heap.size := fun k hk => zav HO.out hk; have HF1 := zk7 F1; have HO1 := zk7 O1; have HB1 := zk7 B1; have HN1 := zk7 hn1; clear F1 O1 hn1 B1 hV1 hL
 go_loopw [2] (fun sv wr => ∃ (st : St) (acc : List ExD) (j : Nat), Hid (Dec te pe wr d2 g cur st) ∧ Hid (wr.ownsRow base 157 4 sv (np + acc.length) ((pre ++ acc).flatMap exd)) ∧ Hid (Fr (fun k => some k = (Value.slice a' np k').ownBlock ∨ k = d2 ∨ zdr w b0 d k) w wr) ∧ Hid (∀ k, sv.ownBlock = some k → (some k = (Value.slice a' np k').ownBlock ∨ w.heap.size ≤ k)) ∧
  Hid (zaj (zaQ br bt) j st acc = zaj (zaQ br bt) rest.length T2 []) ∧ Hid (∀ l, st = some l → l.length ≤ j ∧ acc.length + l.length ≤ rest.length) ∧ acc.length ≤ rest.length + 1 ∧ Hid (Good st) ∧ Hid (∃ lb ob, Bld wr b0 d lb ob)) (fun _ wr => zhE d2 wr)
 case atStart => exact ⟨T2, [], rest.length, HDb, zk7 (by simpa using HO1.out), HF1, zk7 (fun k hk => .inl hk.symm), zk7 rfl, zk7 (fun l hl => by
  have h : (zac (zac (some rest)).2).2 = T2 := congrArg Prod.snd HPR.out; obtain ⟨l1, h1, e1⟩ := zbC (st := (zac (some rest)).2) (h.trans hl); obtain ⟨l2, h2, e2⟩ := zbC (st := some rest) h1; injection h2 with h2; subst h2
  simp; omega), by simp, HG0, zk7 ⟨_, _, HB1.out⟩⟩
 case round =>
  obtain ⟨st, acc, j, HD, HO, HF, HB, HE, HL, hal, HGS, HBL⟩ := hrel; obtain ⟨n6, off6, c6, p0, p1, hnl, hnc, hd, hg, h2⟩ := HD.out.open_; have hE := zgh te pe _ _ _ _ _ HD.out; obtain ⟨a6, k6, rfl⟩ := zaa HO.out; rcases st with _ | l
  ·clear hnl p1
   have hres : zaj (zaQ br bt) rest.length T2 [] = (acc, none) := by rw [← HE.out]; unfold zaj; rcases j with _ | j <;> rfl
   have HR := zk7 (zkZ HNE.out HBR.out HPR.out hres); clear hres; simp only [ziS] at hE; rcases zlu n6 with rfl | hn6
   ·go_wp2_with (go_at_call 119; refine hE.mono ?_; rintro r w7 ⟨rfl, rfl⟩)
    go_ret2; exact zdM HR.out HF.out
   ·have hn7 : (0 : Int) < (n6 : Int) := by omega
    go_wp2_with (go_at_call 119; refine hE.mono ?_; rintro r w7 ⟨rfl, rfl⟩)
    go_ret2; exact zdM HR.out HF.out
  ·obtain rfl : n6 = l.length := hnl l rfl
   simp only [ziS] at hE; rcases l with _ | ⟨x, r⟩
   ·have hres : zaj (zaQ br bt) rest.length T2 [] = (acc, some []) := by rw [← HE.out]; unfold zaj; rcases j with _ | j <;> rfl
    have HR := zk7 (zkY HNE.out HBR.out HPR.out hres); clear hres hnl p1; simp only [List.length_nil] at p0; go_wp2_with (go_at_call 119; refine hE.mono ?_; rintro r w7 ⟨rfl, rfl⟩)
    go_ret2; refine zeB HR.out HF.out ?_; have h := HO.out; rw [zk8, HNP.out]; exact h
   ·obtain ⟨n7, hn7⟩ : ∃ n7, (x :: r).length = n7 := ⟨_, rfl⟩
    have hn8 : (0 : Int) < (n7 : Int) := by rw [← hn7]; simp
    have hlb := HL.out _ rfl; have hM := zbm HD.out; rw [hn7] at p0 hlb hM; obtain ⟨hfine, hgood⟩ := HGD.out _ HGS.out; have HN7 := zk7 hn7; obtain ⟨S0, hS0⟩ : ∃ S0 : St, some (x :: r) = S0 := ⟨_, rfl⟩; have hD0 := HD.out; rw [hS0] at hfine hgood hD0; have HS0 := zk7 hS0; have HGN := zk7 hgood; have hV1 := zcO te pe _ _ _ _ _ hD0; obtain ⟨v0, hv0⟩ : ∃ v, (zaE S0).1 = v := ⟨_, rfl⟩
    obtain ⟨S1, hS1⟩ : ∃ S, (zaE S0).2 = S := ⟨_, rfl⟩; obtain ⟨v1, hv1⟩ : ∃ v, (zaE S1).1 = v := ⟨_, rfl⟩; obtain ⟨S2, hS2⟩ : ∃ S, (zaE S1).2 = S := ⟨_, rfl⟩; obtain ⟨v2, hv2⟩ : ∃ v, (zac S2).1 = v := ⟨_, rfl⟩; obtain ⟨S3, hS3⟩ : ∃ S, (zac S2).2 = S := ⟨_, rfl⟩; rw [hv0, hS1] at hV1
    have HV2 : Hid (∀ W, Dec te pe W d2 g cur S1 → Calls Tryz.prog 165 #[.pointer (some ⟨d2, 0, none⟩)] W (zap te pe W d2 g cur (.int .i64 v1) S2)) := zk7 (fun W hW => by have := zcO te pe _ _ _ _ _ hW; rwa [hv1, hS2] at this)
    have HV3 : Hid (∀ W, Dec te pe W d2 g cur S2 → Calls Tryz.prog 162 #[.pointer (some ⟨d2, 0, none⟩)] W (zap te pe W d2 g cur (.int .u64 v2) S3)) := zk7 (fun W hW => by have := zcA te pe _ _ _ _ _ hW; rwa [hv2, hS3] at this); unfold zd0 at hfine; rw [hS1, hS2, hS3] at hfine; have HFI := zk7 hfine
    have HSS := zk7 (And.intro hv0 (And.intro hS1 (And.intro hv1 (And.intro hS2 (And.intro hv2 hS3))))); obtain ⟨cs8, hbd8, _, _⟩ := zb6 HD.out; have HBD8 := zk7 hbd8; clear hnl p1 hn7 hS0 hgood hfine hv0 hS1 hv1 hS2 hv2 hS3 hbd8 hD0; have hsw := HF.out.size
    go_wp2_with (first
     | (go_at_call 119; refine hE.mono ?_; rintro r w7 ⟨rfl, rfl⟩)
     | (go_at_call 162; refine (HV3.out _ HDb.out).mono ?_; rintro r w8 ⟨rfl, hDc, hfc⟩; have HDc := zk7 hDc; have HFc := zk7 (HFb.out.same hfc); clear hDc hfc; refine Hid.out ?_)
     | (go_at_call 165; refine (HV2.out _ HDa.out).mono ?_; rintro r w8 ⟨rfl, hDb, hfb⟩; have HDb := zk7 hDb; have HFb := zk7 (HFa.out.same hfb); clear hDb hfb)
     | (go_at_call 165; refine hV1.mono ?_; rintro r w8 ⟨rfl, hDa, hfa⟩; have HDa := zk7 hDa; have HFa := zk7 hfa; clear hDa hfa))
    obtain ⟨lb8, ob8, hB8⟩ := HBL.out; have hB9 := zha hB8 HBD8.out HFc.out; have hs8 := HFc.out.size; obtain ⟨LN, hLN⟩ : ∃ n, (gUv S3).1 = n := ⟨_, rfl⟩; obtain ⟨S4, hS4⟩ : ∃ s, (gUv S3).2 = s := ⟨_, rfl⟩; have hfi := HFI.out; unfold ze6 zfz at hfi; rw [hLN, hS4] at hfi
    have hX := zdy te pe b0 d d2 g cur lb8 ob8 S3 w8 hB9 HDc.out (by omega) (by omega) (by omega) LN S4 (Prod.ext hLN hS4) hfi.1 hfi.2.1 hfi.2.2 (zez S4); have hlg : zfz S3 = za9 S4 LN := by unfold zfz; rw [hLN, hS4]
    rw [← hlg] at hX; obtain ⟨ll, hll⟩ : ∃ x, (zfz S3).1 = x := ⟨_, rfl⟩; obtain ⟨S5, hS5⟩ : ∃ x, (zfz S3).2 = x := ⟨_, rfl⟩; rw [hll, hS5] at hX; obtain ⟨st1, hst1⟩ : ∃ x, zas ll = x := ⟨_, rfl⟩; have hbn : ∀ k, (Value.slice a6 (np + acc.length) k6).ownBlock = some k → k ≠ d2 := fun k hk e => zak HO.out HBD8.out (by decide) (by rw [hk, e])
    have O8 : w8.ownsRow base 157 4 (.slice a6 (np + acc.length) k6) (np + acc.length) ((pre ++ acc).flatMap exd) := zah HO.out HFc.out (fun k hk e => hbn k hk e); have F8 : Fr (fun k => some k = (Value.slice a' np k').ownBlock ∨ k = d2 ∨ zdr w b0 d k) w w8 := HF.out.trans HFc.out (fun k hk e => .inr (.inl e)); have HBD := zk7 (show ∃ cs, Blk w8 d 119 cs from let ⟨_, _, h, _⟩ := hB9; ⟨_, h⟩)
    rw [hst1] at hX; have HX := zk7 hX; have HO8 := zk7 O8; have HF8 := zk7 F8; have HBN := zk7 hbn; have HST := zk7 (And.intro hll (And.intro hS5 hst1)); have hr6 := zgJ; clear hX O8 F8 hll hS5 hst1 hlg hfi hLN hS4 hB9 hB8 hV1 p0 hbn; refine zk7 ?_
    go_wp2_with (go_at_call 117; refine HX.out.mono ?_; rintro r w9 ⟨rfl, hD9, hf9, hB9⟩; have JD9 := zk7 hD9; have JF9 := zk7 hf9; have JB9 := zk7 hB9; clear hD9 hf9 hB9)
    obtain ⟨cs9, hbd9⟩ := HBD.out; have hs9 := JF9.out.size; have O9 : w9.ownsRow base 157 4 (.slice a6 (np + acc.length) k6) (np + acc.length) ((pre ++ acc).flatMap exd) := own_DS HO8.out (by decide) (by decide) hbd9 (fun k hk => HBN.out k hk) JF9.out
    have F9 : Fr (fun k => some k = (Value.slice a' np k').ownBlock ∨ k = d2 ∨ zdr w b0 d k) w w9 := HF8.out.trans JF9.out (fun k hk e => back_S2 HF8.out k hk e); have HOA := zk7 O9; have HFA := zk7 F9; obtain ⟨q0, q1, q2, q3, q4, q5⟩ := HSS.out; obtain ⟨q6, q7, q8⟩ := HST.out
    have hst : zaQ br bt S0 = (⟨u64 ((br : Int) + u64 v0), wrap64 (bt + v1), v2, ll⟩, S5) := by unfold zaQ; rw [q1, q0, q3, q2, q5, q4, q6, q7]
    obtain ⟨y0, hy0⟩ : ∃ y, u64 ((br : Int) + u64 v0) = y := ⟨_, rfl⟩; obtain ⟨y1, hy1⟩ : ∃ y, wrap64 (bt + v1) = y := ⟨_, rfl⟩; rw [hy0, hy1] at hst; have hw0 : IntKind.u64.wrap ((br : Int) + IntKind.u64.wrap v0) = (y0 : Int) := by rw [← hy0, IntKind.wrap_u64, IntKind.wrap_u64]; unfold u64; omega
    have hw1 : IntKind.i64.wrap (bt + v1) = y1 := by rw [← hy1, IntKind.wrap_i64]; unfold wrap64; omega
    have HE2 : Hid (∀ j', j = j' + 1 → zaj (zaQ br bt) j' S5 (acc ++ [⟨y0, y1, v2, ll⟩]) = zaj (zaQ br bt) rest.length T2 []) := zk7 (by
     rintro j' rfl; have h := HE.out; have h2 : zaj (zaQ br bt) (j' + 1) (some (x :: r)) acc = zaj (zaQ br bt) j' (zaQ br bt (some (x :: r))).2 (acc ++ [(zaQ br bt (some (x :: r))).1]) := rfl; rw [h2, HS0.out, hst] at h
     exact h)
    have hlen8 : Hid (∀ l, S5 = some l → l.length < n7) := zk7 (fun l hl => by
     have h := zjv (br := br) (bt := bt) (l0 := x :: r) (l := l) (by rw [HS0.out, hst]; exact hl)
     rw [HN7.out] at h; exact h)
    have HGP : Hid (Good S5) := zk7 (by have h := HGN.out; rw [hst] at h; exact h); have HQ8 := zk7 q8; clear O9 F9 q0 q1 q2 q3 q4 q5 q6 q7 q8 hst hE hbd9 hy0 hy1; have KB9 := zk7 (Blk.new w9 99 #[.string st1]); have s0 : (w9.alloc (.cells #[.string st1] 99)).drew.cell? ⟨w9.heap.size, 0, none⟩ = some (.string st1) := KB9.out.cell 0
    go_region_held3 (fun w' => w'.cell? ⟨w9.heap.size, 0, none⟩ = some (.string st1))
     ((first | exact KX9.out.cell 0 | exact (KB9.out.drew.alloc _).cell 0 | exact KB9.out.drew.cell 0 | exact s0 | go_keep))
     ((first
       | (refine zat _ (by rfl) _ _ 152 152 (by rfl) base 157 i0 _ 4 40 Tryz.underlying152 hi0 hz0 hz1 hz2 rfl (by decide) (.slice a6 (np + acc.length) k6) (np + acc.length) ((pre ++ acc).flatMap exd) (by rfl) ((HOA.out.alloc _).alloc _).drew _ 1 [.int .u64 y0, .int .i64 y1, .float .f64 v2, .string st1] (by rfl) (zaF Tryz.underlying152 (za6 w9 (.cells #[.string st1] 99) 157 #[.int .u64 y0, .int .i64 y1, .float .f64 v2, .string st1]).drew rfl (by simp [Value.oneCell'])) (by unfold maxLen; omega) (by omega) (by simp; omega) ?_; intro v' w2 hown' hgrow hat; have KX9 := zk7 ((KB9.out.alloc (.cells #[.int .u64 y0, .int .i64 y1, .float .f64 v2, .string st1] 157)).drew.grown hgrow (fun e => zlR _ (zav HOA.out e.symm))))))
    obtain ⟨a9, k9, rfl⟩ := zaa hown'; have hrow : ∀ k, (Value.slice a6 (np + acc.length) k6).ownBlock = some k → base ≤ k ∧ k ≠ d2 := fun k hk => ⟨(HOA.out.lt k hk).1, HBN.out k hk⟩; have hsG := hgrow.size; simp at hsG
    have fG : Fr (fun k => some k = (Value.slice a6 (np + acc.length) k6).ownBlock) w9 w2 := ((((zlW (fun k => some k = (Value.slice a6 (np + acc.length) k6).ownBlock) w9).alloc _).alloc _).drew).grown hgrow (fun k hk => .inl hk.symm); obtain ⟨cs10, hb10, hg10, _⟩ := zb6 JD9.out
    have rD : Dec te pe w2 d2 g cur S5 := JD9.out.fr fG (fun e => (hrow _ e.symm).2 rfl) (fun e => zak HOA.out hg10 (by decide) e.symm) (fun e => by have := (hrow _ e.symm).1; omega); have rBL : Bld w2 b0 d ll st1 := by
     have h2 := JB9.out; obtain ⟨_, _, hbd, _⟩ := h2; exact JB9.out.fr fG (fun e => zak HOA.out hbd (by decide) e.symm) (fun g' _ hc e => by obtain ⟨cs, hc⟩ := hc; exact zak HOA.out hc (by decide) e.symm)
    have rO : w2.ownsRow base 157 4 (.slice a9 (np + acc.length + 1) k9) (np + (acc ++ [(⟨y0, y1, v2, ll⟩ : ExD)]).length) ((pre ++ (acc ++ [(⟨y0, y1, v2, ll⟩ : ExD)])).flatMap exd) := by
     rw [← zla, zlG, zk8, zlo]; simpa [exd, HQ8.out, Nat.add_assoc] using hown'
    have rF : Fr (fun k => some k = (Value.slice a' np k').ownBlock ∨ k = d2 ∨ zdr w b0 d k) w w2 := HFA.out.trans fG (fun k hk e => by
     rcases HB.out k e.symm with h | h
     ·exact .inl h
     ·omega)
    have rB : ∀ k, (Value.slice a9 (np + acc.length + 1) k9).ownBlock = some k → (some k = (Value.slice a' np k').ownBlock ∨ w.heap.size ≤ k) := fun k hk => by
     rcases hat with h | h
     ·exact HB.out k (h ▸ hk)
     ·rw [h] at hk; injection hk with hk; simp at hk; exact .inr (by omega)
    have rM : zhE d2 w2 < n7 + 1 := by
     rcases S5 with _ | l9
     ·rw [zc5 rD]; omega
     ·rw [zbm rD]; have := hlen8.out l9 rfl; omega
    have RD := zk7 rD; have RO := zk7 rO; have RF := zk7 rF; have RB := zk7 rB; have RBL : Hid (∃ lb ob, Bld w2 b0 d lb ob) := zk7 ⟨_, _, rBL⟩; clear rD rO rF rB rBL hown' hgrow hat hrow fG hb10 hg10 s0 KX9; go_wp2; go_roundw
    case rel =>
     obtain ⟨j', rfl⟩ : ∃ j', j = j' + 1 := ⟨j - 1, by have := HN7.out; simp at this; omega⟩; refine ⟨S5, acc ++ [⟨y0, y1, v2, ll⟩], j', RD, RO, RF, RB, zk7 (HE2.out j' rfl), zk7 (fun l hl => ?_), by simp; omega, HGP, RBL⟩; have := hlen8.out l hl; rw [zk8, zlo]; omega
    case measure => rw [hM]; exact rM
theorem zgX (te : TypeId) (pe : Value) (b0 d d2 g base : Nat) (cur : Array Value) (pre : List ExD) (rest : List UInt8) (sv : Value) (w : World) (hD : Dec te pe w d2 g cur (some rest)) (ho : w.ownsRow base 157 4 sv pre.length (pre.flatMap exd)) (hb : 2 < base ∧ base ≤ w.heap.size) (hpl : pre.length ≤ 1073741824)
 (Good : St → Prop) (hG : ∀ l, Good (some l) → zd0 (some l) ∧ Good (zaQ (zac (some rest)).1 (zaq (zac (some rest)).2).1 (some l)).2) (hG0 : rest ≠ [] → Good (zaq (zac (some rest)).2).2)
 (lb : List Lab) (ob : ByteArray) (hB : Bld w b0 d lb ob) (hb0 : b0 ≤ w.heap.size ∧ 2 < b0 ∧ b0 ≤ d) :
 Calls Tryz.prog 170 #[.pointer (some ⟨d, 0, none⟩), .pointer (some ⟨d2, 0, none⟩), sv] w (zev (fun k => some k = sv.ownBlock ∨ k = d2 ∨ zdr w b0 d k) w base pre (zbJ rest)) := by
 by_cases h : rest = []
 ·subst h
  exact zim te pe b0 d d2 g base cur pre sv w hD ho
 ·exact zjw te pe b0 d d2 g base cur pre rest h sv w hD ho hb hpl Good hG (hG0 h) lb ob hB hb0
theorem zjK (te : TypeId) (pe : Value) (b0 d g base : Nat) (cur : Array Value) (pre : List ExD) (xs : List UInt8) (v sv : Value) (w : World) (h : Rec te pe w g cur xs v) (ho : w.ownsRow base 157 4 sv pre.length (pre.flatMap exd)) (hb : 2 < base ∧ base ≤ w.heap.size) (hpl : pre.length ≤ 1073741824)
 (Good : St → Prop) (hG : ∀ rest, xs = 4 :: rest → ∀ l, Good (some l) → zd0 (some l) ∧ Good (zaQ (zac (some rest)).1 (zaq (zac (some rest)).2).1 (some l)).2) (hG0 : ∀ rest, xs = 4 :: rest → rest ≠ [] → Good (zaq (zac (some rest)).2).2)
 (lb : List Lab) (ob : ByteArray) (hB : Bld w b0 d lb ob) (hb0 : b0 ≤ w.heap.size ∧ 2 < b0 ∧ b0 ≤ d) :
 Calls Tryz.prog 77 #[.pointer (some ⟨d, 0, none⟩), v, sv] w (zev (fun k => some k = sv.ownBlock ∨ zdr w b0 d k) w base pre (zbf xs)) := by
 have hD := h.dec; obtain ⟨off, c, rfl, _⟩ := h; have hQ := zbo te pe w.heap.size g cur _ _ hD; have HO := zk7 ho; have HB := zk7 hB; have hdw : d < w.heap.size := let ⟨_, _, h, _⟩ := hB; h.lt
 have hD9 := zk7 hD; have HG := zk7 hG; have HG0 := zk7 hG0; obtain ⟨a', n', k', rfl⟩ := zae ho; clear hD ho hB hG hG0; by_cases hx : (zaB (some xs)).1 = 4
 ·rcases xs with _ | ⟨b, rest⟩
  ·exact absurd hx (by decide)
  ·have hb2 : b = 4 := by
    have : b.toNat = (4 : UInt8).toNat := hx; exact UInt8.toNat_inj.1 this
   subst hb2; have e1 : zaB (some (4 :: rest)) = (4, some rest) := rfl; rw [e1] at hQ; have hdec : zbf (4 :: rest) = zbJ rest := rfl; rw [hdec]; obtain ⟨n, hn⟩ : ∃ n, (4 :: rest).length = n := ⟨_, rfl⟩; have HBK := zk7 (Blk.new w 229 #[.slice (some ⟨g, off, none⟩) (4 :: rest).length c, .nilIface]); rw [hn] at hQ HBK ⊢
   have HFA : Hid (Fr (fun _ => False) w (w.alloc (.cells #[.slice (some ⟨g, off, none⟩) n c, .nilIface] 229))) := zk7 ((zlW _ w).alloc _); clear hx e1 hdec; rcases hdx : zbJ rest with _ | l
   ·have HDX := zk7 hdx
    clear hdx; go_enter Tryz.func77, Tryz.ntmps77
    go_wp2_with (first
     | (go_at_call 160; refine hQ.mono ?_; rintro r w1 ⟨rfl, hDa, hfa⟩
        have B1 := (HB.out.fr HFA.out (fun e => e) (fun _ _ _ e => e)).fr hfa (by omega) (fun k hk hc e => by
         obtain ⟨cs, hc⟩ := hc; subst e
         exact Blk.ne_ hc HBK.out (by decide) rfl)
        have O1 : w1.ownsRow base 157 4 (.slice a' n' k') pre.length (pre.flatMap exd) := zah (HO.out.alloc _) hfa (fun k hk => by have := zav HO.out hk; omega); have hs1 := hfa.size; simp at hs1; have hX := zgX te pe b0 d w.heap.size g base cur pre rest (.slice a' n' k') w1 hDa O1 (by omega) hpl Good (HG.out rest rfl) (HG0.out rest rfl) lb ob B1 (by omega); rw [HDX.out] at hX
        have HX := zk7 hX; have HFB := zk7 hfa
        clear hX B1 O1 hDa hfa)
     | (go_at_call 170; refine HX.out.mono ?_; rintro r w2 ⟨hF2, t, a, rfl⟩))
    go_ret2
    have HF9 : Fr (fun k => some k = (Value.slice a' n' k').ownBlock ∨ zdr w b0 d k) w w2 := ((((zlW (fun k => some k = (Value.slice a' n' k').ownBlock ∨ zdr w b0 d k) w).alloc _).trans HFB.out (fun k hk e => by omega))).trans hF2 (fun k hk e => by
     rcases e with e | e | e | ⟨e, cs, hc⟩
     ·exact .inl e
     ·omega
     ·exact .inr (.inl e)
     ·rcases Classical.em (zdr w b0 d k) with hy | hn
      ·exact .inr hy
      ·refine .inr (.inr ⟨e, cs, ?_⟩)
       have h1 := (HFA.out.block k hk (fun e => e)); have h2 := HFB.out.block k (by simp; omega) (by omega)
       exact (h1.symm.trans h2.symm).trans hc)
    exact zdM rfl HF9
   ·have HDX := zk7 hdx
    clear hdx; go_enter Tryz.func77, Tryz.ntmps77
    go_wp2_with (first
     | (go_at_call 160; refine hQ.mono ?_; rintro r w1 ⟨rfl, hDa, hfa⟩
        have B1 := (HB.out.fr HFA.out (fun e => e) (fun _ _ _ e => e)).fr hfa (by omega) (fun k hk hc e => by
         obtain ⟨cs, hc⟩ := hc; subst e
         exact Blk.ne_ hc HBK.out (by decide) rfl)
        have O1 : w1.ownsRow base 157 4 (.slice a' n' k') pre.length (pre.flatMap exd) := zah (HO.out.alloc _) hfa (fun k hk => by have := zav HO.out hk; omega); have hs1 := hfa.size; simp at hs1; have hX := zgX te pe b0 d w.heap.size g base cur pre rest (.slice a' n' k') w1 hDa O1 (by omega) hpl Good (HG.out rest rfl) (HG0.out rest rfl) lb ob B1 (by omega); rw [HDX.out] at hX
        have HX := zk7 hX; have HFB := zk7 hfa
        clear hX B1 O1 hDa hfa)
     | (go_at_call 170; refine HX.out.mono ?_; rintro r w2 ⟨hF2, v', rfl, ho2⟩))
    go_ret2
    have HF9 : Fr (fun k => some k = (Value.slice a' n' k').ownBlock ∨ zdr w b0 d k) w w2 := ((((zlW (fun k => some k = (Value.slice a' n' k').ownBlock ∨ zdr w b0 d k) w).alloc _).trans HFB.out (fun k hk e => by omega))).trans hF2 (fun k hk e => by
     rcases e with e | e | e | ⟨e, cs, hc⟩
     ·exact .inl e
     ·omega
     ·exact .inr (.inl e)
     ·rcases Classical.em (zdr w b0 d k) with hy | hn
      ·exact .inr hy
      ·refine .inr (.inr ⟨e, cs, ?_⟩)
       have h1 := (HFA.out.block k hk (fun e => e)); have h2 := HFB.out.block k (by simp; omega) (by omega)
       exact (h1.symm.trans h2.symm).trans hc)
    exact zeB rfl HF9 ho2
 ·have hd : zbf xs = none := by
   rcases xs with _ | ⟨b, r⟩
   ·rfl
   ·have : ¬ b = 4 := by rintro rfl; exact hx rfl
    simp [zbf, this]
  rw [hd]; have hx2 : ¬ ((zaB (some xs)).1 : Int) = 4 := by omega
  clear hx hd; generalize (zaB (some xs)).1 = x at hQ hx2; generalize (zaB (some xs)).2 = st at hQ; go_enter Tryz.func77, Tryz.ntmps77; go_wp2_with (first | (go_at_call 160; refine hQ.mono ?_; rintro r w1 ⟨rfl, hD1, hf1⟩) | (go_at_call 161; refine (zbL _ _).mono ?_; rintro r w2 ⟨t, a, rfl, hf2⟩))
  go_ret2; have f1 := (((zlW (fun k => some k = (Value.slice a' n' k').ownBlock ∨ zdr w b0 d k) w).alloc (.cells #[.slice (some ⟨g, off, none⟩) xs.length c, .nilIface] 229)).trans hf1 (fun k hk e => by omega)); exact zdM rfl (f1.trans hf2 (fun _ _ e => e.elim))
theorem zi8 (w : World) : Calls Tryz.prog 129 #[.int .i64 0] w (zgl (fun v w' => ∃ g, v = .agg #[.slice (some ⟨g, 0, none⟩) 0 0, .string ⟨#[]⟩, .slice none 0 0] ∧ w'.ownsRow w.heap.size 108 2 (.slice (some ⟨g, 0, none⟩) 0 0) 0 []) w) := by
 obtain ⟨i0, hi0, hz0, hz1, hz2⟩ := info_parts Tryz.info108; have hms : ∀ W : World, (Instr.makeSlice 115 (.int .i64 0) (.int .i64 0)).run Tryz.prog W = .ok (.slice (some ⟨W.heap.size, 0, none⟩) 0 0) (W.alloc (.cells #[] 108)) := fun W => by
  have h := run_make (P := Tryz.prog) W 115 108 i0 _ Tryz.underlying115 hi0 hz0 .i64 .i64 0 0 (by omega) (by omega) (by omega) (by omega); simp [madeCells, hz1, Array.range_zero'] at h; exact h
 go_enter Tryz.func129, Tryz.ntmps129; go_wp2_with fail
 simp [Exit.then, bodyPost, results, Tryz.results129, go_sem]; refine ⟨_, rfl, ⟨w.heap.size + 1, rfl, ?_⟩, (((zlW _ w).alloc _).alloc _)⟩; have h := World.ownsRow_made (base := w.heap.size) (e := 108) (size := 2) (w.alloc (.cells #[.slice (some ⟨w.heap.size + 1, 0, none⟩) 0 0, .string ⟨#[]⟩, .slice none 0 0] 117)) #[] 0 (by simp) (zli _) rfl; simpa using h
theorem zgL (v : Value) (w : World) : Calls Tryz.prog 67 #[v] w (zgl (fun v w' => ∃ g, v = .agg #[.slice (some ⟨g, 0, none⟩) 0 0, .string ⟨#[]⟩, .slice none 0 0] ∧ w'.ownsRow w.heap.size 108 2 (.slice (some ⟨g, 0, none⟩) 0 0) 0 []) w) := by
 have hS := zi8 (w.alloc (.cells #[.slice none 0 0, .string ⟨#[]⟩, .slice none 0 0] 119)); go_enter Tryz.func67, Tryz.ntmps67; go_wp2_with (refine hS.mono ?_; rintro r w1 ⟨v1, rfl, ⟨a, rfl, ho1⟩, hf1⟩; refine Hid.out ?_)
 have hB := (Blk.new w 119 #[.slice none 0 0, .string ⟨#[]⟩, .slice none 0 0]).fr hf1 (fun e => e); have k0 := hB.cell 0; have k1 := hB.cell 1; have k2 := hB.cell 2; have z0 := hB.frozen 0; have z1 := hB.frozen 1; have z2 := hB.frozen 2; simp at k0 k1 k2; have m1 := hB.set_ 0 (.slice (some ⟨a, 0, none⟩) 0 0); have m2 := m1.set_ 1 (.string ⟨#[]⟩); have m3 := m2.set_ 2 (.slice none 0 0)
 have e0 := m1.cell 0; have e1 := m2.cell 1; have e2 := m3.cell 2; simp only [List.size_toArray, zlp, zlb, zlc, zld, zls, zlq, zlr] at e0 e1 e2; have HF := zk7 ((((zlW (fun _ => False) w).alloc _).same hf1)); have HB := zk7 hB; clear hS hf1 hB m1 m2 m3
 refine zk7 ?_; go_wp2_with fail
 simp [Exit.then, bodyPost, results, Tryz.results67, go_sem, e0, e1, e2]; refine ⟨_, rfl, ⟨a, rfl, ?_⟩, ((HF.out.setCell (p := ⟨w.heap.size, 0, none⟩) (.inr (zlj _)) _).setCell (p := ⟨w.heap.size, 1, none⟩) (.inr (zlj _)) _).setCell (p := ⟨w.heap.size, 2, none⟩) (.inr (zlj _)) _⟩; have hO := zai ho1 (show w.heap.size ≤ _ by simp)
 exact zah (S := fun k => k = w.heap.size) hO (((Fr.at_ w1 w.heap.size 0 _).setCell (p := ⟨w.heap.size, 1, none⟩) (.inl rfl) _).setCell (p := ⟨w.heap.size, 2, none⟩) (.inl rfl) _) (fun g hg e => zak ho1 HB.out (by decide) (by rw [hg]; exact congrArg some e))
theorem bld_new {w w1 : World} {gb : Nat} (ho : w1.ownsRow w.heap.size 108 2 (.slice (some ⟨gb, 0, none⟩) 0 0) 0 []) :
 Bld ((w1.alloc (.cells #[.slice (some ⟨gb, 0, none⟩) 0 0, .string ⟨#[]⟩, .slice none 0 0] 119)).alloc (.cells #[] 5)) w.heap.size w1.heap.size [] ⟨#[]⟩ :=
 ⟨_, _, (Blk.new w1 119 _).alloc _, (ho.alloc _).alloc _⟩
def OwnR (base : Nat) (w : World) (v : Value) (lo : List (Ser × Value)) : Prop :=
 w.ownsRow base 130 2 v lo.length (lo.flatMap zi6) ∧ ∀ p ∈ lo, w.ownsRow base 40 2 p.2 p.1.labs.length (p.1.labs.flatMap zbv)
theorem OwnR.nil (base : Nat) (w : World) : OwnR base w (.slice none 0 0) [] := ⟨zll _ _ _ _, fun p hp => by cases hp⟩
theorem OwnR.fr {S : Nat → Prop} {base : Nat} {w w' : World} {v : Value} {lo : List (Ser × Value)} (h : OwnR base w v lo) (hf : Fr S w w') (hs : ∀ k, base ≤ k → k < w.heap.size → ¬ S k) : OwnR base w' v lo :=
 ⟨zah h.1 hf (fun g hg => hs g (h.1.lt g hg).1 (zav h.1 hg)), fun p hp => zah (h.2 p hp) hf (fun g hg => hs g ((h.2 p hp).lt g hg).1 (zav (h.2 p hp) hg))⟩
theorem OwnR.mono {base base' : Nat} {w : World} {v : Value} {lo : List (Ser × Value)} (h : OwnR base w v lo) (hb : base' ≤ base) : OwnR base' w v lo :=
 ⟨zai h.1 hb, fun p hp => zai (h.2 p hp) hb⟩
theorem OwnR.push {base : Nat} {w w2 : World} {v v' : Value} {lo : List (Ser × Value)} {p : Ser × Value} (h : OwnR base w v lo) (hp : w.ownsRow base 40 2 p.2 p.1.labs.length (p.1.labs.flatMap zbv)) (hg : w.grownBy w2 v.ownBlock)
 (ho : w2.ownsRow base 130 2 v' (lo.length + 1) (lo.flatMap zi6 ++ zi6 p)) : OwnR base w2 v' (lo ++ [p]) := by
 have hf : Fr (fun k => some k = v.ownBlock) w w2 := (zlW (fun k => some k = v.ownBlock) w).grown hg (fun k hk => .inl hk.symm); refine ⟨by simpa using ho, fun q hq => ?_⟩; rcases zlN.1 hq with hq | hq
 ·exact zah (h.2 q hq) hf (fun g hgq e => zbU (h.2 q hq) h.1 (by decide) g hgq e.symm)
 ·rw [zlO] at hq
  subst hq; exact zah hp hf (fun g hgq e => zbU hp h.1 (by decide) g hgq e.symm)
theorem OwnR.off {base : Nat} {w w' : World} {v : Value} {lo : List (Ser × Value)} {d t : Nat} {cs : Array Value} (h : OwnR base w v lo) (hb : Blk w d t cs) (h1 : 130 ≠ t) (h2 : 40 ≠ t) (hf : Fr (fun k => k = d) w w') : OwnR base w' v lo :=
 ⟨zah h.1 hf (fun g hg e => zak h.1 hb h1 (by rw [hg, e])), fun p hp => zah (h.2 p hp) hf (fun g hg e => zak (h.2 p hp) hb h2 (by rw [hg, e]))⟩
def gN {α : Type} (f : St → α × St) : Nat → St → List α × St
 | 0, st => ([], st)
 | n + 1, st => ((f st).1 :: (gN f n (f st).2).1, (gN f n (f st).2).2)
def gSp (st : St) : (Int × Nat) × St := ((wrap32 (zaE st).1, (gUv (zaE st).2).1 % 4294967296), (gUv (zaE st).2).2)
theorem zbX {α : Type} (f : St → α × St) : ∀ (n : Nat) (st : St), (gN f n st).1.length = n
 | 0, st => rfl
 | n + 1, st => by simp [gN, zbX f n]
structure Rw where
 e : TypeId
 z : Nat
 v : Value
 n : Nat
 xs : List Value
def Rows (base : Nat) (W : World) : List Rw → Prop
 | [] => True
 | x :: L => W.ownsRow base x.e x.z x.v x.n x.xs ∧ (∀ y ∈ L, ∀ k, x.v.ownBlock = some k → y.v.ownBlock ≠ some k) ∧ Rows base W L
theorem Rows.fr {S : Nat → Prop} {base : Nat} {W W' : World} (hf : Fr S W W') (hs : ∀ k, base ≤ k → ¬ S k) : ∀ {L : List Rw}, Rows base W L → Rows base W' L
 | [], _ => trivial
 | x :: L, ⟨h1, h2, h3⟩ => ⟨zah h1 hf (fun g hg => hs g (h1.lt g hg).1), h2, Rows.fr hf hs h3⟩
theorem Rows.lt {base : Nat} {W : World} : ∀ {L : List Rw}, Rows base W L → ∀ y ∈ L, ∀ k, y.v.ownBlock = some k → base ≤ k ∧ k < W.heap.size
 | x :: L, ⟨h1, h2, h3⟩, y, hy, k, hk => by
   rcases zlL.1 hy with rfl | hy
   ·exact h1.lt k hk
   ·exact Rows.lt h3 y hy k hk
theorem own_set {W : World} {base e size n m c o : Nat} {xs : List Value} (h : W.ownsRow base e size (.slice (some ⟨m, 0, none⟩) n c) n xs) (u : Value) : (W.setCell ⟨m, o, none⟩ u).ownsRow base e size (.slice (some ⟨m, 0, none⟩) n c) n (xs.set o u) := by
 refine ⟨by rw [List.length_set]; exact h.1, ?_⟩; rcases h.2 with ⟨h0, _⟩ | ⟨g, cap, cur, h1, hb, hg, h2, h3, h4, h5⟩
 ·cases h0
 ·injection h1 with e1 e2 e3
  injection e1 with e1; injection e1 with e1; subst e1; subst e3; refine .inr ⟨m, c, cur.setIfInBounds o u, rfl, hb, ?_, h2, h3, by simpa using h4, ?_⟩
  ·exact Blk.set_ (w := W) (g := m) (t := e) (cs := cur) hg o u
  ·rw [Array.toList_setIfInBounds, List.take_set, h5]
theorem zbj {W : World} {base e size n m c o : Nat} {xs : List Value} {u : Value} (h : W.ownsRow base e size (.slice (some ⟨m, 0, none⟩) n c) n xs) (hx : xs[o]? = some u) : W.cell? ⟨m, o, none⟩ = some u := by
 rcases h.2 with ⟨h0, _⟩ | ⟨g, cap, cur, h1, hb, hg, h2, h3, h4, h5⟩
 ·cases h0
 ·injection h1 with e1 e2 e3
  injection e1 with e1; injection e1 with e1; subst e1; have hb2 : Blk W m e cur := hg; rw [hb2.cell]; rw [← h5, List.getElem?_take] at hx; split at hx
  ·simpa using hx
  ·cases hx
theorem zbi {W : World} {base e size n m c : Nat} {xs : List Value} (h : W.ownsRow base e size (.slice (some ⟨m, 0, none⟩) n c) n xs) (o : Nat) : W.frozen? ⟨m, o, none⟩ = false := by
 rcases h.2 with ⟨h0, _⟩ | ⟨g, cap, cur, h1, hb, hg, h2, h3, h4, h5⟩
 ·cases h0
 ·injection h1 with e1 e2 e3
  injection e1 with e1; injection e1 with e1; subst e1; exact Blk.frozen (w := W) (t := e) (cs := cur) hg o
theorem zen {W : World} {base e size n : Nat} {v : Value} {xs : List Value} (h : W.ownsRow base e size v n xs) (hn : 0 < n) : ∃ m c, v = .slice (some ⟨m, 0, none⟩) n c ∧ base ≤ m ∧ n ≤ c := by
 rcases h.2 with ⟨_, h0⟩ | ⟨g, cap, cur, h1, hb, hg, h2, h3, h4, h5⟩
 ·omega
 ·exact ⟨g, cap, h1, hb, h2⟩
def DH (te : TypeId) (pe : Value) (d g0 : Nat) (cur : Array Value) (g t : Nat) (w W : World) (st : St) (cs : Array Value) (L : List Rw) : Prop :=
 Dec te pe W d g0 cur st ∧ Blk W g t cs ∧ Rows w.heap.size W L ∧ Fr (fun k => k = d ∨ k = g) w W ∧ (2 < w.heap.size ∧ g < w.heap.size ∧ d < w.heap.size ∧ g0 < w.heap.size ∧ g ≠ d ∧ g ≠ g0 ∧ g ≠ 2)
section
variable {te : TypeId} {pe : Value} {d g0 g t : Nat} {cur : Array Value} {w W W' : World} {st st' : St} {cs : Array Value} {L : List Rw}
theorem DH.call (h : DH te pe d g0 cur g t w W st cs L) (hd : Dec te pe W' d g0 cur st') (hf : Fr (fun k => k = d) W W') : DH te pe d g0 cur g t w W' st' cs L := by
 obtain ⟨_, h2, h3, h4, h5⟩ := h; exact ⟨hd, h2.fr hf (by omega), h3.fr hf (fun k hk => by omega), h4.trans hf (fun k hk e => .inl e), h5⟩
theorem DH.fr0 (h : DH te pe d g0 cur g t w W st cs L) (hf : Fr (fun _ => False) W W') : DH te pe d g0 cur g t w W' st cs L := by
 obtain ⟨h1, h2, h3, h4, h5⟩ := h; exact ⟨h1.fr hf (fun e => e) (fun e => e) (fun e => e), h2.fr hf (fun e => e), h3.fr hf (fun _ _ e => e), h4.trans hf (fun k hk e => e.elim), h5⟩
theorem DH.set (h : DH te pe d g0 cur g t w W st cs L) (i : Nat) (u : Value) : DH te pe d g0 cur g t w (W.setCell ⟨g, i, none⟩ u) st (cs.setIfInBounds i u) L := by
 obtain ⟨h1, h2, h3, h4, h5⟩ := h; have hf : Fr (fun k => k = g) W (W.setCell ⟨g, i, none⟩ u) := Fr.put_ W g i u; exact ⟨h1.fr hf (by omega) (by omega) (by omega), h2.set_ i u, h3.fr hf (fun k hk => by omega), h4.trans hf (fun k hk e => .inr e), h5⟩
theorem DH.put {e z m n c o : Nat} {xs : List Value} (h : DH te pe d g0 cur g t w W st cs (⟨e, z, .slice (some ⟨m, 0, none⟩) n c, n, xs⟩ :: L)) (u : Value) : DH te pe d g0 cur g t w (W.setCell ⟨m, o, none⟩ u) st cs (⟨e, z, .slice (some ⟨m, 0, none⟩) n c, n, xs.set o u⟩ :: L) := by
 obtain ⟨h1, h2, ⟨h3, h6, h7⟩, h4, h5⟩ := h; have hm := h3.lt m rfl; have hf : Fr (fun k => k = m) W (W.setCell ⟨m, o, none⟩ u) := Fr.put_ W m o u; have h8 : ∀ {L' : List Rw}, (∀ y ∈ L', y.v.ownBlock ≠ some m) → Rows w.heap.size W L' → Rows w.heap.size (W.setCell ⟨m, o, none⟩ u) L' := by
  intro L'; induction L' with
  | nil => intro _ _; trivial
  | cons x L' ih =>
    rintro hx ⟨a1, a2, a3⟩; exact ⟨zah a1 hf (fun k hk e => hx x (List.mem_cons_self ..) (by rw [hk, e])), a2, ih (fun y hy => hx y (List.mem_cons_of_mem _ hy)) a3⟩
 exact ⟨h1.fr hf (by omega) (by omega) (by omega), h2.fr hf (by omega), ⟨own_set h3 u, h6, h8 (fun y hy => h6 y hy m rfl) h7⟩, h4.trans hf (fun k hk e => by omega), h5⟩
theorem DH.none_ (h : DH te pe d g0 cur g t w W st cs L) (e z : Nat) : DH te pe d g0 cur g t w W st cs (⟨e, z, .slice none 0 0, 0, []⟩ :: L) := by
 obtain ⟨h1, h2, h3, h4, h5⟩ := h; exact ⟨h1, h2, ⟨zll _ _ _ _, (fun y hy k hk => by cases hk), h3⟩, h4, h5⟩
theorem DH.make {α : Type} {f : α → List Value} {zr : α} {Z : Array Value} {e z n : Nat} (h : DH te pe d g0 cur g t w W st cs L) (hZ : Z.toList = (List.replicate n zr).flatMap f) (hl : Z.size = n * z) (hn : n ≤ maxLen) :
 DH te pe d g0 cur g t w (W.alloc (.cells Z e)) st cs (⟨e, z, .slice (some ⟨W.heap.size, 0, none⟩) n n, n, (List.replicate n zr).flatMap f⟩ :: L) := by
 have h0 := h.fr0 ((zlW (fun _ => False) W).alloc (.cells Z e)); have hr : Rows w.heap.size W L := h.2.2.1; obtain ⟨h1, h2, h3, h4, h5⟩ := h0; have hsz : w.heap.size ≤ W.heap.size := h.2.2.2.1.size; refine ⟨h1, h2, ⟨⟨?_, .inr ⟨W.heap.size, n, Z, rfl, hsz, heap_alloc_new W _, zlj _, hn, hl, ?_⟩⟩, fun y hy k hk e => ?_, h3⟩, h4, h5⟩
 ·show ((List.replicate n zr).flatMap f).length = n * z
  rw [← hZ, Array.length_toList, hl]
 ·show Z.toList.take (n * z) = (List.replicate n zr).flatMap f
  rw [hZ, zlg]; rw [← hZ, Array.length_toList, hl]; exact zlj _
 ·have e1 : W.heap.size = k := by simpa [Value.ownBlock] using hk
  have := (hr.lt y hy k e).2; omega
end
theorem zb9 {α : Type} (f : α → List Value) (zr : α) (zc : Array Value) (z : Nat) (hz : zc.toList = f zr) (hs : zc.size = z) (h0 : 0 < z) (hf : ∀ x, (f x).length = z) (n : Nat) : (madeCells zc (n * z)).toList = (List.replicate n zr).flatMap f := by
 have hlen : ((List.replicate n zr).flatMap f).length = n * z := by
  rw [List.length_flatMap]; simp [hf]
 apply List.ext_getElem?; intro k; rcases zlA k (n * z) with hk | hk
 ·have hq : k / z < n := Nat.div_lt_of_lt_mul (by rw [Nat.mul_comm]; exact hk)
  have hr := Nat.mod_lt k h0; have e1 : k / z * z + k % z = k := by rw [Nat.mul_comm]; exact Nat.div_add_mod k z
  have h2 := zig z f hf (List.replicate n zr) (k / z) zr (by simp [hq]) (k % z) hr; rw [e1] at h2; rw [h2, ← hz]; simp [madeCells, hk, hs, hr]
 ·rw [zlB (by simpa [madeCells] using hk), zlB (by rw [hlen]; exact hk)]
theorem zfe {α : Type} (f : α → List Value) (z : Nat) (hf : ∀ x, (f x).length = z) : ∀ l : List α, (l.flatMap f).length = l.length * z
 | [] => by simp
 | x :: l => by rw [zlm, zk8, hf, zfe f z hf l, zlp, Nat.succ_mul, Nat.add_comm]
theorem zbP {α : Type} (f : α → List Value) (z : Nat) (hf : ∀ x, (f x).length = z) (acc r : List α) (x y : α) (k j o : Nat) (hk : acc.length = k) (ho : o = k * z + j) (hj : j < z) (u : Value) (hy : f y = (f x).set j u) :
 ((acc ++ x :: r).flatMap f).set o u = (acc ++ y :: r).flatMap f := by
 have hl : (acc.flatMap f).length = k * z := by rw [zfe f z hf, hk]
 subst ho; rw [zlG, zlG, zlm, zlm, List.set_append_right _ _ (by rw [hl]; omega), hl, Nat.add_sub_cancel_left, List.set_append_left _ _ (by rw [hf]; exact hj), hy]
theorem zbQ {α : Type} (f : α → List Value) (z : Nat) (hf : ∀ x, (f x).length = z) (acc r : List α) (x : α) (k j o : Nat) (hk : acc.length = k) (ho : o = k * z + j) (hj : j < z) : ((acc ++ x :: r).flatMap f)[o]? = (f x)[j]? := by
 subst ho; exact zig z f hf _ k x (by rw [← hk]; simp) j hj
theorem zcB {α : Type} (acc : List α) (zr : α) (n k : Nat) (h : k < n) : acc ++ List.replicate (n - k) zr = acc ++ zr :: List.replicate (n - (k + 1)) zr := by
 have : n - k = (n - (k + 1)) + 1 := by omega
 rw [this, List.replicate_succ]
end Go.Proofs.YtbkookiigkckdaaGreatDoor
