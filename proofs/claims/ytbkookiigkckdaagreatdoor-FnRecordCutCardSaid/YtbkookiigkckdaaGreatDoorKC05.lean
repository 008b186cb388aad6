/- Texts of this seat, merged and shortened. -/
import Derived.Test.YtbkookiigkckdaaGreatDoorKC04
set_option linter.unusedVariables false
set_option linter.unusedSimpArgs false
set_option maxRecDepth 100000
set_option maxHeartbeats 8000000
namespace Go.Proofs.YtbkookiigkckdaaGreatDoor
open Go.RowKit Go.Proofs.Tryz
def zbo (w : World) (base : Nat) (o : Option Nat) (pre : List Mrk) (xs : List UInt8) (r : Ending) (w' : World) : Prop :=
 Fr (fun k => some k = o) w w' /\ match zaz xs with
  | some l => ∃ v', r = .returned (.tuple #[v', .nilIface]) /\ w'.ownsRow base 166 2 v' (pre ++ l).length ((pre ++ l).flatMap Mrk.c)
  | none => ∃ t a, r = .returned (.tuple #[.slice none 0 0, .iface t a])
theorem zd5 {w w' : World} {base : Nat} {o : Option Nat} {pre : List Mrk} {xs : List UInt8} {t : TypeId} {a : Value} (hd : zaz xs = none) (hf : Fr (fun k => some k = o) w w') : zbo w base o pre xs (.returned (.tuple #[.slice none 0 0, .iface t a])) w' := by
 unfold zbo; rw [hd]; exact ⟨hf, _, _, rfl⟩
theorem zd4 {w w' : World} {base : Nat} {o : Option Nat} {pre : List Mrk} {xs : List UInt8} {l : List Mrk} {v : Value} (hd : zaz xs = some l) (hf : Fr (fun k => some k = o) w w') (ho : w'.ownsRow base 166 2 v (pre ++ l).length ((pre ++ l).flatMap Mrk.c)) : zbo w base o pre xs (.returned (.tuple #[v, .nilIface])) w' := by
 unfold zbo; rw [hd]; exact ⟨hf, _, rfl, ho⟩
theorem zkb {l0 l : List UInt8} (h : (zbJ (some l0)).2 = some l) : l.length < l0.length := by
 obtain ⟨l1, h1, qn⟩ := zbK (st := (zab (some l0)).2) h; obtain ⟨l2, h2, qm⟩ := zbK (st := some l0) h1; injection h2 with h2; subst h2; omega
theorem zg4 (te : TypeId) (pe : Value) (dv : Value) (g base : Nat) (cur : Array Value) (pre : List Mrk) (xs : List UInt8) (v sv : Value) (w : World) (h : Rec te pe w g cur xs v) (hx : (zaD (some xs)).1 ≠ 5) :
 Calls prog 79 #[dv, v, sv] w (zbo w base sv.ownBlock pre xs) := by
 have hd : zaz xs = none := by
  rcases xs with _ | ⟨b, r⟩
  ·rfl
  ·have : ¬ b = 5 := by rintro rfl; exact hx rfl
   simp [zaz, zbq, this]
 unfold zbo; rw [hd]; clear hd; have hD := h.dec; obtain ⟨off, c, rfl, _⟩ := h; have hQ := zbG te pe w.heap.size g cur _ _ hD; have dS : ¬ ((zaD (some xs)).1 : Int) = 5 := by omega
 clear hD hx; generalize (zaD (some xs)).1 = x at hQ dS; generalize (zaD (some xs)).2 = st at hQ; go_enter func79, ntmps79; go_wp2_with (first | (go_at_call 160; refine hQ.mono ?_; rintro r w1 ⟨rfl, cr, ai⟩) | (go_at_call 161; refine (zbP _ _).mono ?_; rintro r w2 ⟨t, a, rfl, ar⟩))
 go_ret2; refine ⟨?_, _, _, rfl⟩; have f1 := (((znq (fun k => some k = sv.ownBlock) w).alloc (.cells #[.slice (some ⟨g, off, none⟩) xs.length c, .nilIface] 229)).trans ai (fun k hk e => by omega)); exact f1.trans ar (fun _ _ e => e.elim)
theorem zfX (te : TypeId) (pe : Value) (dv : Value) (g base : Nat) (cur : Array Value) (pre : List Mrk) (v sv : Value) (w : World) (h : Rec te pe w g cur [5] v) (ho : w.ownsRow base 166 2 sv pre.length (pre.flatMap Mrk.c)) (hb : g < base /\ 2 < base) :
 Calls prog 79 #[dv, v, sv] w (zbo w base sv.ownBlock pre [5]) := by
 have hD := h.dec; obtain ⟨off, c, rfl, _⟩ := h; have hQ := zbG te pe w.heap.size g cur _ _ hD; have e1 : zaD (some [(5 : UInt8)]) = (5, some []) := rfl; rw [e1] at hQ; have HO := zmk ho; obtain ⟨a', n', k', rfl⟩ := zac ho; clear hD e1 ho; go_enter func79, ntmps79
 go_wp2_with (first | (go_at_call 160; refine hQ.mono ?_; rintro r w1 ⟨rfl, cr, ai⟩; have hL := zff te pe _ _ _ _ _ cr) | (go_at_call 118; refine hL.mono ?_; rintro r w2 ⟨n, rfl, hn, _, rfl⟩; have fO := hn _ rfl; subst fO))
 go_ret2; refine zd4 (l := []) rfl (((znq _ w).alloc _).trans ai (fun k hk e => by omega)) ?_; rw [zmG]; exact zaj (HO.out.alloc _) ai (fun k hk => by have := zas HO.out hk; omega)
theorem zc1 {α : Type} {t : UInt8} {step : St -> α × St} {rest s : List UInt8} {l : List α} (h : zad step rest.length (some rest) [] = (l, some s)) : zbq t step (t :: rest) = some l := by rw [zbq, if_pos rfl, h]
theorem zc2 {α : Type} {t : UInt8} {step : St -> α × St} {rest : List UInt8} {l : List α} (h : zad step rest.length (some rest) [] = (l, none)) : zbq t step (t :: rest) = none := by rw [zbq, if_pos rfl, h]
theorem zgD {α : Type} (step : St -> α × St) : ∀ (k : Nat) (st : St) (pre acc : List α), zad step k st (pre ++ acc) = (pre ++ (zad step k st acc).1, (zad step k st acc).2)
 | 0, st, pre, acc => by simp [zad]
 | k + 1, none, pre, acc => by simp [zad]
 | k + 1, some [], pre, acc => by simp [zad]
 | k + 1, some (c :: r), pre, acc => by
   rw [zad, zad, zmn]; exact zgD step k _ pre _
theorem zg5 (te : TypeId) (pe : Value) (dv : Value) (g base : Nat) (cur : Array Value) (pre : List Mrk) (rest : List UInt8) (bB : rest ≠ []) (v sv : Value) (w : World) (h : Rec te pe w g cur (5 :: rest) v) (ho : w.ownsRow base 166 2 sv pre.length (pre.flatMap Mrk.c)) (hb : g < base /\ 2 < base /\ base <= w.heap.size) (bm : pre.length <= 1073741824) :
 Calls prog 79 #[dv, v, sv] w (zbo w base sv.ownBlock pre (5 :: rest)) := by
 obtain ⟨i0, aD, aA, az, aC⟩ := info_parts info166; have hD := h.dec; obtain ⟨off, c, rfl, _⟩ := h; have hQ := zbG te pe w.heap.size g cur _ _ hD; have e1 : zaD (some (5 :: rest)) = (5, some rest) := rfl; rw [e1] at hQ; have HO := zmk ho; obtain ⟨a', k', rfl⟩ := zaa ho; have oh : rest.length <= 1099511627776 := by
  obtain ⟨n, off', c', _, _, hn, aQ, _⟩ := hD.open_; have := hn _ rfl; simp at this; omega
 have hr0 : 0 < rest.length := List.length_pos_iff.2 bB; have hr1 : ((rest.length : Int) == 0) = false := by simp; omega
 obtain ⟨np, fh⟩ := exE pre.length; have lC := zmk fh; rw [fh] at HO bm ⊢; clear hD e1 ho bB fh; go_enter func79, ntmps79
 go_wp2_with (first
  | (go_at_call 160; refine hQ.mono ?_; rintro r w1 ⟨rfl, cr, ai⟩; have hL := zff te pe _ _ _ _ _ cr)
  | (go_at_call 118; refine hL.mono ?_; rintro r w2 ⟨n, rfl, hn, _, rfl⟩; have fO : n = rest.length := hn _ rfl; subst fO; clear hL; refine Hid.out ?_))
 have F1 : Fr (fun k => some k = (Value.slice a' np k').ownBlock) w w1 := ((znq (fun k => some k = (Value.slice a' np k').ownBlock) w).alloc _).trans ai (fun k hk e => by omega); have O1 : w1.ownsRow base 166 2 (.slice a' np k') np (pre.flatMap Mrk.c) := zaj (HO.out.alloc _) ai (fun k hk => by have := zas HO.out hk; omega); have bA := F1.size
 have eM : ∀ k, (Value.slice a' np k').ownBlock = some k -> k < w.heap.size := fun k hk => zas HO.out hk; have cd := zmk F1; have dg := zmk O1; have aT := zmk cr; have ig := zmk eM; clear cr ai hQ F1 O1 eM; refine zmk ?_; go_wp2_with fail
 go_loopw [2] (fun sv wr => ∃ (st : St) (acc : List Mrk) (j : Nat), Hid (Dec te pe wr w.heap.size g cur st) /\ Hid (wr.ownsRow base 166 2 sv (np + acc.length) ((pre ++ acc).flatMap Mrk.c)) /\ Hid (Fr (fun k => some k = (Value.slice a' np k').ownBlock) w wr) /\ Hid (∀ k, sv.ownBlock = some k -> (some k = (Value.slice a' np k').ownBlock ∨ w.heap.size < k)) /\
  Hid (zad zbJ j st acc = zad zbJ rest.length (some rest) []) /\ Hid (∀ l, st = some l -> l.length <= j /\ acc.length + l.length <= rest.length) /\ acc.length <= rest.length + 1) (fun _ wr => zix w.heap.size wr)
 case atStart => exact ⟨some rest, [], rest.length, aT, zmk (by simpa using dg.out), cd, zmk (fun k hk => .inl hk.symm), zmk rfl, zmk (fun l hl => by cases hl; simp), by simp⟩
 case round =>
  obtain ⟨st, acc, j, HD, HO, HF, HB, HE, HL, mn⟩ := hrel; obtain ⟨n6, io, c6, p0, p1, cN, aQ, hd, hg, h2⟩ := HD.out.open_; have hE := zg6 te pe _ _ _ _ _ HD.out; obtain ⟨a6, k6, rfl⟩ := zaa HO.out; rcases st with _ | l
  ·clear cN p1
   have aI : zad zbJ rest.length (some rest) [] = (acc, none) := by rw [<- HE.out]; unfold zad; rcases j with _ | j <;> rfl
   have HR := zmk (show zaz (5 :: rest) = none from zc2 aI); clear aI; simp only [zjH] at hE; rcases zmH n6 with rfl | om
   ·go_wp2_with (first | (go_at_call 119; refine hE.mono ?_; rintro r w7 ⟨rfl, rfl⟩) | (go_at_call 161; refine (zbP _ _).mono ?_; rintro r w8 ⟨t, ae, rfl, cA⟩))
    go_ret2; exact zd5 HR.out (HF.out.trans cA (fun _ _ e => e.elim))
   ·have bV : (0 : Int) < (n6 : Int) := by omega
    go_wp2_with (first | (go_at_call 119; refine hE.mono ?_; rintro r w7 ⟨rfl, rfl⟩) | (go_at_call 161; refine (zbP _ _).mono ?_; rintro r w8 ⟨t, ae, rfl, cA⟩))
    go_ret2; exact zd5 HR.out (HF.out.trans cA (fun _ _ e => e.elim))
  ·obtain rfl : n6 = l.length := cN l rfl
   simp only [zjH] at hE; rcases l with _ | ⟨x, r⟩
   ·have aI : zad zbJ rest.length (some rest) [] = (acc, some []) := by rw [<- HE.out]; unfold zad; rcases j with _ | j <;> rfl
    have HR := zmk (show zaz (5 :: rest) = some acc from zc1 aI); clear aI cN p1; simp only [znd] at p0; go_wp2_with (go_at_call 119; refine hE.mono ?_; rintro r w7 ⟨rfl, rfl⟩)
    go_ret2; refine zd4 HR.out HF.out ?_; have h := HO.out; rw [zml, lC.out]; exact h
   ·obtain ⟨n7, bV⟩ := exE ((x :: r).length)
    have ma : (0 : Int) < (n7 : Int) := by rw [<- bV]; simp
    have gg := HL.out _ rfl; have hM := zbu HD.out; rw [bV] at p0 gg hM; have cS := zcF te pe _ _ _ _ _ HD.out; have eU := zmk bV; clear cN p1 bV
    go_wp2_with (first
     | (go_at_call 119; refine hE.mono ?_; rintro r w7 ⟨rfl, rfl⟩)
     | (go_at_call 162; refine cS.mono ?_; rintro r w8 ⟨rfl, fC, cA⟩; refine Hid.out ?_))
    have s8 := cA.size; have D8 := zmk fC; have ic := zcF te pe _ _ _ _ _ fC; have F8 := zmk cA; clear fC cA cS p0; refine zmk ?_; go_wp2_with (go_at_call 162; refine ic.mono ?_; rintro r w9 ⟨rfl, fe, dY⟩; refine Hid.out ?_)
    have FA : Fr (fun k => k = w.heap.size) wr w9 := F8.out.same dY; have sA := FA.size; have DA := zmk fe; have dP := zmk FA
    have OA : w9.ownsRow base 166 2 (.slice a6 (np + acc.length) k6) (np + acc.length) ((pre ++ acc).flatMap Mrk.c) := zaj HO.out FA (fun k hk e => by
     rcases HB.out k hk with h | h
     ·have := ig.out k h.symm; omega
     ·omega)
    have cR := zmk OA; clear fe dY ic FA OA D8 F8; refine zmk ?_
    go_wp2_with (first
     | (at_builtin; refine Hid.out ?_))
    have da : (#[Value.int IntKind.u64 (zab (some (x :: r))).1, Value.int IntKind.u64 (zab (zab (some (x :: r))).2).1] : Array Value) = (Mrk.c (zbJ (some (x :: r))).1).toArray := rfl; rw [da]; have bW : ∀ l, (zbJ (some (x :: r))).2 = some l -> l.length < n7 := fun l hl => eU.out ▸ zkb hl; have ie : Dec te pe w9 w.heap.size g cur (zbJ (some (x :: r))).2 := DA.out
    have dk : Hid (∀ j', j = j' + 1 -> zad zbJ j' (zbJ (some (x :: r))).2 (acc ++ [(zbJ (some (x :: r))).1]) = zad zbJ rest.length (some rest) []) := zmk (by rintro j' rfl; exact HE.out); clear da DA hE HE; generalize zbJ (some (x :: r)) = S at ie bW dk ⊢; obtain ⟨s1, ji⟩ := S; simp only [] at ie bW dk ⊢; have gO := zmk ie
    have bd := zmk bW; clear ie bW; refine zmk ?_
    refine zaf _ rfl _ _ 160 160 rfl base 166 i0 _ 2 16 underlying160 aD aA az aC rfl (by decide) (.slice a6 (np + acc.length) k6) (np + acc.length) ((pre ++ acc).flatMap Mrk.c) rfl (cR.out.alloc _) _ 1 (Mrk.c s1) rfl (zaH underlying160 (znr w9 166 (Mrk.c s1).toArray) rfl (by simp [Mrk.c, Value.oneCell'])) (by unfold maxLen; omega) (by omega) (by simp; omega) ?_
    intro v' w2 ac ad ax
    obtain ⟨a9, k9, rfl⟩ := zaa ac
    have aV : ∀ k, (Value.slice a6 (np + acc.length) k6).ownBlock = some k -> base <= k /\ k ≠ w.heap.size := fun k hk => ⟨(cR.out.lt k hk).1, by
     rcases HB.out k hk with h | h
     ·have := ig.out k h.symm; omega
     ·omega⟩
    have ip := ad.size; simp at ip; have fG : Fr (fun k => some k = (Value.slice a6 (np + acc.length) k6).ownBlock) w9 w2 := ((znq (fun k => some k = (Value.slice a6 (np + acc.length) k6).ownBlock) w9).alloc _).grown ad (fun k hk => .inl hk.symm)
    have rD : Dec te pe w2 w.heap.size g cur ji := gO.out.fr fG (fun e => (aV _ e.symm).2 rfl) (fun e => by have := (aV _ e.symm).1; omega) (fun e => by have := (aV _ e.symm).1; omega); have rO : w2.ownsRow base 166 2 (.slice a9 (np + acc.length + 1) k9) (np + (acc ++ [s1]).length) ((pre ++ (acc ++ [s1])).flatMap Mrk.c) := by
     rw [<- zmn, zmT, zml, zmB]; simpa [Nat.add_assoc] using ac
    have rF : Fr (fun k => some k = (Value.slice a' np k').ownBlock) w w2 := (HF.out.trans dP.out (fun k hk e => by omega)).trans fG (fun k hk e => by
     rcases HB.out k e.symm with h | h
     ·exact h
     ·omega)
    have rB : ∀ k, (Value.slice a9 (np + acc.length + 1) k9).ownBlock = some k -> (some k = (Value.slice a' np k').ownBlock ∨ w.heap.size < k) := fun k hk => by
     rcases ax with h | h
     ·exact HB.out k (h ▸ hk)
     ·rw [h] at hk; injection hk with hk; simp at hk; exact .inr (by omega)
    have rM : zix w.heap.size w2 < n7 + 1 := by
     rcases ji with _ | l9
     ·rw [zdc rD]; omega
     ·rw [zbu rD]; have := bd.out l9 rfl; omega
    have RD := zmk rD; have RO := zmk rO; have RF := zmk rF; have RB := zmk rB; clear rD rO rF rB ac ad ax aV fG; go_wp2; go_roundw
    case rel =>
     obtain ⟨j', rfl⟩ : ∃ j', j = j' + 1 := ⟨j - 1, by have := eU.out; simp at this; omega⟩; refine ⟨ji, acc ++ [s1], j', RD, RO, RF, RB, zmk (dk.out j' rfl), zmk (fun l hl => ?_), by simp; omega⟩; have := bd.out l hl; rw [zml, zmB]; omega
    case measure => rw [hM]; exact rM
theorem zhv (te : TypeId) (pe : Value) (dv : Value) (g base : Nat) (cur : Array Value) (pre : List Mrk) (xs : List UInt8) (v sv : Value) (w : World) (h : Rec te pe w g cur xs v) (ho : w.ownsRow base 166 2 sv pre.length (pre.flatMap Mrk.c)) (hb : g < base /\ 2 < base /\ base <= w.heap.size) (bm : pre.length <= 1073741824) :
 Calls prog 79 #[dv, v, sv] w (zbo w base sv.ownBlock pre xs) := by
 by_cases hx : (zaD (some xs)).1 = 5
 ·rcases xs with _ | ⟨b, rest⟩
  ·exact absurd hx (by decide)
  ·have hb2 : b = 5 := by
    have : b.toNat = (5 : UInt8).toNat := hx; exact UInt8.toNat_inj.1 this
   subst hb2; by_cases hr : rest = []
   ·subst hr; exact zfX te pe dv g base cur pre v sv w h ho ⟨hb.1, hb.2.1⟩
   ·exact zg5 te pe dv g base cur pre rest hr v sv w h ho hb bm
 ·exact zg4 te pe dv g base cur pre xs v sv w h hx
end Go.Proofs.YtbkookiigkckdaaGreatDoor
namespace Go.Proofs.YtbkookiigkckdaaGreatDoor
open Go.Proofs.Tryz
def zid {α} (lt : α -> α -> Bool) (x : α) (out : List α) : Nat -> Nat
 | 0 => 0
 | k + 1 => match out[k]? with
   | some y => if lt x y = true then zid lt x out k else k + 1
   | none => k + 1
def zjG {α} (lt : α -> α -> Bool) (out : List α) (x : α) : List α := out.take (zid lt x out out.length) ++ x :: out.drop (zid lt x out out.length)
def zi3 {α} (lt : α -> α -> Bool) (l : List α) : List α := l.foldl (zjG lt) []
theorem lpos_le {α} (lt : α -> α -> Bool) (x : α) (out : List α) : ∀ k, zid lt x out k <= k
 | 0 => zmw _
 | k + 1 => by
   unfold zid; split
   ·split
    ·exact Nat.le_succ_of_le (lpos_le lt x out k)
    ·exact zmw _
   ·exact zmw _
theorem zgH {α} (lt : α -> α -> Bool) (x : α) (out : List α) : ∀ k j y, zid lt x out k <= j -> j < k -> out[j]? = some y -> lt x y = true
 | 0, j, y, _, h, _ => by omega
 | k + 1, j, y, h1, h2, hy => by
   unfold zid at h1; split at h1
   ·rename_i z hz
    split at h1
    ·rename_i hlt
     by_cases e : j = k
     ·subst e; rw [hy] at hz; injection hz with hz; subst hz; exact hlt
     ·exact zgH lt x out k j y h1 (by omega) hy
    ·omega
   ·omega
theorem zgI {α} (lt : α -> α -> Bool) (x : α) (out : List α) : ∀ k p, k <= out.length -> zid lt x out k = p + 1 -> ∃ y, out[p]? = some y /\ lt x y = false
 | 0, p, _, h => by simp [zid] at h
 | k + 1, p, hk, h => by
   unfold zid at h; split at h
   ·rename_i z hz
    split at h
    ·exact zgI lt x out k p (by omega) h
    ·rename_i hlt
     injection h with h; subst h; exact ⟨z, hz, by simpa using hlt⟩
   ·rename_i hz
    rw [List.getElem?_eq_none_iff] at hz; omega
theorem zi4 {α} (lt : α -> α -> Bool) (out : List α) (x : α) : (zjG lt out x).Perm (x :: out) := by
 unfold zjG; refine List.perm_middle.trans ?_; rw [List.take_append_drop]
theorem zkd {α} (lt : α -> α -> Bool) (ht : ∀ a b c, lt a b = true -> lt b c = true -> lt a c = true) (hi : ∀ a, lt a a = false) (hn : ∀ a b c, lt a b = false -> lt b c = false -> lt a c = false)
 (out : List α) (x : α) (h : out.Pairwise (fun a b => lt b a = false)) : (zjG lt out x).Pairwise (fun a b => lt b a = false) := by
 have pY : ∀ a b, lt a b = true -> lt b a = false := fun a b hab => by
  cases e : lt b a with
  | false => rfl
  | true => have := ht a b a hab e; rw [hi] at this; cases this
 unfold zjG; obtain ⟨p, hp⟩ := exE (zid lt x out out.length); rw [hp]; have bN := lpos_le lt x out out.length; rw [hp] at bN; have ld : ∀ y ∈ out.drop p, lt x y = true := fun y hy => by
  obtain ⟨j, hj⟩ := List.mem_iff_getElem?.mp hy; rw [List.getElem?_drop] at hj; have hlt := (List.getElem?_eq_some_iff.mp hj).1; exact zgH lt x out out.length (p + j) y (by omega) hlt hj
 have le : ∀ y ∈ out.take p, lt x y = false := fun y hy => by
  obtain ⟨j, hj⟩ := List.mem_iff_getElem?.mp hy; rw [List.getElem?_take] at hj; split at hj
  ·rename_i hjp
   obtain ⟨q, rfl⟩ : ∃ q, p = q + 1 := ⟨p - 1, by omega⟩; obtain ⟨z, hz, hxz⟩ := zgI lt x out out.length q (zmw _) hp; by_cases e : j = q
   ·subst e; rw [hj] at hz; injection hz with hz; subst hz; exact hxz
   ·have hq := (List.getElem?_eq_some_iff.mp hz)
    have hjj := (List.getElem?_eq_some_iff.mp hj); obtain ⟨eY, kN⟩ := hq; obtain ⟨hj1, pG⟩ := hjj; have := List.pairwise_iff_getElem.mp h j q hj1 eY (by omega); rw [kN, pG] at this; exact hn x z y hxz this
  ·cases hj
 have jm := h; rw [<- List.take_append_drop p out, List.pairwise_append] at jm; obtain ⟨h1, h2, h3⟩ := jm; rw [List.pairwise_append]; refine ⟨h1, List.pairwise_cons.mpr ⟨fun y hy => pY _ _ (ld y hy), h2⟩, ?_⟩; intro a ha b hb; rcases List.mem_cons.mp hb with rfl | hb
 ·exact le a ha
 ·exact h3 a ha b hb
theorem zgQ {α} (lt : α -> α -> Bool) (ht : ∀ a b c, lt a b = true -> lt b c = true -> lt a c = true) (hi : ∀ a, lt a a = false) (hn : ∀ a b c, lt a b = false -> lt b c = false -> lt a c = false) :
 ∀ (l out : List α), out.Pairwise (fun a b => lt b a = false) -> (l.foldl (zjG lt) out).Pairwise (fun a b => lt b a = false) /\ (l.foldl (zjG lt) out).Perm (l ++ out)
 | [], out, h => ⟨h, List.Perm.refl _⟩
 | x :: l, out, h => by
   have ⟨h1, h2⟩ := zgQ lt ht hi hn l (zjG lt out x) (zkd lt ht hi hn out x h); refine ⟨h1, h2.trans ?_⟩; refine (List.Perm.append_left l (zi4 lt out x)).trans ?_; exact List.perm_middle
theorem zbW {α} (lt : α -> α -> Bool) (ht : ∀ a b c, lt a b = true -> lt b c = true -> lt a c = true) (hi : ∀ a, lt a a = false) (hn : ∀ a b c, lt a b = false -> lt b c = false -> lt a c = false) (l : List α) :
 (zi3 lt l).Pairwise (fun a b => lt b a = false) /\ (zi3 lt l).Perm l := by
 have h := zgQ lt ht hi hn l [] List.Pairwise.nil; rw [zmG] at h; exact h
theorem zhz {α} (lt : α -> α -> Bool) : ∀ (l l' : List α), l'.Perm l -> l.Pairwise (fun a b => lt b a = false) -> l'.Pairwise (fun a b => lt b a = false) ->
 (∀ a ∈ l, ∀ b ∈ l, lt a b = false -> lt b a = false -> a = b) -> l' = l
 | [], l', hp, _, _, _ => List.Perm.eq_nil hp
 | x :: l, [], hp, _, _, _ => by have := hp.length_eq; simp at this
 | x :: l, y :: l', hp, h, h', ha => by
   have ey : y = x := by
    have hy : y ∈ x :: l := hp.mem_iff.mp (zne); have hx : x ∈ y :: l' := hp.mem_iff.mpr (zne); rcases List.mem_cons.mp hy with e | hy'
    ·exact e
    rcases List.mem_cons.mp hx with e | hx'
    ·exact e.symm
    exact ha y hy x zne ((List.pairwise_cons.mp h).1 y hy') ((List.pairwise_cons.mp h').1 x hx')
   subst ey; have hp' := (List.perm_cons y).mp hp; rw [zhz lt l l' hp' (List.pairwise_cons.mp h).2 (List.pairwise_cons.mp h').2 (fun a h1 b h2 => ha a (znk _ h1) b (znk _ h2))]
theorem zls {α} (lt : α -> α -> Bool) (l : List α) (k : Nat) (x : α) (h : l[k]? = some x) : zi3 lt (l.take (k + 1)) = zjG lt (zi3 lt (l.take k)) x := by
 obtain ⟨hk, rfl⟩ := List.getElem?_eq_some_iff.mp h; unfold zi3; rw [List.take_succ_eq_append_getElem hk, List.foldl_append]; rfl
theorem zke {α} (lt : α -> α -> Bool) (out : List α) (x : α) : (zjG lt out x).length = out.length + 1 := by
 rw [(zi4 lt out x).length_eq]; rfl
theorem za2 {α} (lt : α -> α -> Bool) (l : List α) : (zi3 lt l).length = l.length := by
 unfold zi3; have : ∀ (l out : List α), (l.foldl (zjG lt) out).length = l.length + out.length := by
  intro l; induction l with
  | nil => intro out; simp
  | cons x l ih => intro out; rw [List.foldl_cons, ih, zke, zmC]; omega
 rw [this]; simp
end Go.Proofs.YtbkookiigkckdaaGreatDoor
namespace Go.Proofs.YtbkookiigkckdaaGreatDoor
open Go.RowKit Go.Sort Go.Proofs.Tryz
def ltL (a b : Lab) : Bool := nlt a.1 b.1
theorem zcC (a : Lab) : ltL a a = false := by simp [ltL, nlt, List.lt_irrefl]
theorem zc9 (a b c : Lab) (h1 : ltL a b = true) (h2 : ltL b c = true) : ltL a c = true := by
 simp only [ltL, nlt, decide_eq_true_eq] at *; exact List.lt_trans h1 h2
theorem zcB (a b c : Lab) (h1 : ltL a b = false) (h2 : ltL b c = false) : ltL a c = false := by
 simp only [ltL, nlt, decide_eq_false_iff_not, List.not_lt] at *
 exact List.le_trans h2 h1
abbrev zaG (l : List Lab) : List Lab := zi3 ltL l
theorem zi1 : ∀ (l : List Lab), l.Pairwise (fun a b => a.1 ≠ b.1) -> ∀ a ∈ l, ∀ b ∈ l, a.1 = b.1 -> a = b
 | [], _, a, ha, _, _, _ => by cases ha
 | x :: l, h, a, ha, b, hb, e => by
   obtain ⟨h1, h2⟩ := List.pairwise_cons.mp h; rcases List.mem_cons.mp ha with ea | cB
   ·subst ea
    rcases List.mem_cons.mp hb with eb | hb2
    ·exact eb.symm
    ·exact absurd e (h1 b hb2)
   ·rcases List.mem_cons.mp hb with eb | hb2
    ·subst eb
     exact absurd e.symm (h1 a cB)
    ·exact zi1 l h2 a cB b hb2 e
theorem zgm (l l' : List Lab) (hp : l'.Perm l) (hs : l'.Pairwise (fun a b => nlt b.1 a.1 = false)) (hu : l.Pairwise (fun a b => a.1 ≠ b.1)) : l' = zaG l := by
 obtain ⟨h1, h2⟩ := zbW ltL zc9 zcC zcB l; refine zhz ltL (zaG l) l' (hp.trans h2.symm) h1 hs ?_; intro a ha b hb h3 h4; refine zi1 l hu a (h2.mem_iff.mp ha) b (h2.mem_iff.mp hb) ?_; simp only [ltL, nlt, decide_eq_false_iff_not, List.not_lt] at h3 h4; have h5 : a.1.data.toList = b.1.data.toList := List.le_antisymm h4 h3
 exact ByteArray.ext (Array.toList_inj.1 h5)
end Go.Proofs.YtbkookiigkckdaaGreatDoor
namespace Go.Proofs.YtbkookiigkckdaaGreatDoor
open Go.RowKit Go.Proofs.Tryz
theorem zg8 {s : ByteArray} {i : Nat} {r : List UInt8} (h : s.data.toList.drop i = r) (j : Nat) (c : UInt8) (hj : r[j]? = some c) : ∃ h : i + j < s.size, s[i + j] = c := by
 subst h; rw [List.getElem?_drop] at hj; have hlt : i + j < s.data.toList.length := by
  rcases zmN (i + j) s.data.toList.length with h | h
  ·exact h
  ·rw [zmO h] at hj; cases hj
 have hlt2 : i + j < s.size := by rw [<- znf] at hlt; exact hlt
 refine ⟨hlt2, ?_⟩; rw [zmm hlt] at hj; injection hj
theorem zdu (s : ByteArray) (i v : Nat) (r : List UInt8) (hv : v < 16777216) (hi : i <= 1099511627776) (h : s.data.toList.drop i = zbA v ++ r) (w : World) :
 Calls prog 150 #[.string s, .int .i64 i] w fun e w' => e = .returned (.tuple #[.int .i64 v, .int .i64 (i + zaB v : Nat)]) /\ Fr (fun _ => False) w w' := by
 by_cases hlt : v < 255
 ·have e1 : zaB v = 1 := if_pos hlt
  rw [e1]; have e2 : zbA v = [UInt8.ofNat v] := if_pos hlt; rw [e2] at h; obtain ⟨h0, jq⟩ := zg8 h 0 (UInt8.ofNat v) rfl; rw [znn] at h0; have hs0' : s[i] = UInt8.ofNat v := jq; have e3 : ((UInt8.ofNat v).toNat : Int) = v := by simp; omega
  have h1 : ¬ (v : Int) = 255 := by omega
  clear h jq; go_enter func150, ntmps150; go_wp2; refine bodyPost_ret (results_tmp2 rfl _ _ _) rfl ?_; refine ⟨?_, znq _ _⟩; have e4 : (v : Int) % 256 = v := by omega
  simp [e4]
 ·have e1 : zaB v = 4 := znh hlt
  rw [e1]; have e2 : zbA v = [255, UInt8.ofNat v, UInt8.ofNat (v / 256), UInt8.ofNat (v / 65536)] := znh hlt; rw [e2] at h; obtain ⟨h0, jq⟩ := zg8 h 0 255 rfl; obtain ⟨h1, bA⟩ := zg8 h 1 (UInt8.ofNat v) rfl; obtain ⟨h2, ge⟩ := zg8 h 2 (UInt8.ofNat (v / 256)) rfl; obtain ⟨h3, hs3⟩ := zg8 h 3 (UInt8.ofNat (v / 65536)) rfl; rw [znn] at h0
  have hs0' : s[i] = 255 := jq; have ix : ∀ (a : Int) (j : Nat) (c : UInt8) (hj : j < s.size) (hc : s[j] = c) (ha : a = j) (W : World), (Instr.index 9 (.string s) (.int .i64 a)).run prog W = .ok (.int .u8 c.toNat) W := by
   intro a j c hj hc ha W; subst ha; rw [run_index_string W 9 s .i64 j underlying9]; simp [hj, hc]
  have x1 := ix (i + 1) (i + 1) _ h1 bA (by omega); have x2 := ix (i + 1 + 1) (i + 2) _ h2 ge (by omega); have x3 := ix (i + 1 + 2) (i + 3) _ h3 hs3 (by omega); clear h jq ix; go_enter func150, ntmps150; go_wp2; go_big_region
  all_goals go_wp2
  refine bodyPost_ret (results_tmp2 rfl _ _ _) rfl ?_; refine ⟨?_, (znq _ _).drew⟩; have e5 : (v : Int) % 256 + (v : Int) / 256 % 256 * 256 + (v : Int) / 65536 % 256 * 65536 = v := by omega
  have e6 : (i : Int) + 1 + 3 = ((i + 4 : Nat) : Int) := by omega
  simp [e5, e6]
theorem zlU {s : ByteArray} {i : Nat} {a : ByteArray} {r : List UInt8} (h : s.data.toList.drop i = a.data.toList ++ r) : s.extract i (i + a.size) = a := by
 apply ByteArray.ext; apply Array.toList_inj.1; rw [Lib.extract_data, h, Nat.add_sub_cancel_left, znf, List.take_left']; rfl
theorem zcs {s : ByteArray} {i : Nat} {a r : List UInt8} (h : s.data.toList.drop i = a ++ r) : s.data.toList.drop (i + a.length) = r := by
 rw [<- List.drop_drop, h, List.drop_left]
theorem zdt {s : ByteArray} {i : Nat} {a r : List UInt8} (h : s.data.toList.drop i = a ++ r) (hi : i <= s.size) : i + a.length <= s.size := by
 have h2 : (s.data.toList.drop i).length = (a ++ r).length := by rw [h]
 rw [List.length_drop, zml, <- znf] at h2; omega
theorem zea (s a : ByteArray) (i : Nat) (r : List UInt8) (hv : a.size < 16777216) (hi : i <= s.size) (hs : s.size <= 1099511627776) (h : s.data.toList.drop i = zbA a.size ++ (a.data.toList ++ r)) (w : World) :
 Calls prog 158 #[.string s, .int .i64 i] w fun e w' => e = .returned (.tuple #[.string a, .int .i64 (i + zaB a.size + a.size : Nat)]) /\ Fr (fun _ => False) w w' := by
 have hD := zdu s i a.size _ hv (by omega) h w; have h2 := zcs h; have hl := zdt h hi; rw [zbX] at h2 hl; have hE := zlU h2; have jz := zdt h2 hl; have e1 : a.data.toList.length = a.size := by rw [<- znf]
 rw [e1] at jz; clear h h2 e1; generalize i + zaB a.size = j at hD hE hl jz ⊢; have au : ∀ W : World, (Instr.slice 9 (.string s) (some (.int .i64 (j : Int))) (some (.int .i64 ((j : Int) + a.size))) none).run prog W = .ok (.string a) W := fun W => by
  rw [run_slice_string W 9 s .i64 .i64 j (j + a.size) underlying9 (by omega) (by omega) (by omega)]; have e2 : ((j : Int) + a.size).toNat = j + a.size := by omega
  rw [e2, zm6, hE]
 go_enter func158, ntmps158; go_wp2_with (go_at_call 150; refine hD.mono ?_; rintro e w1 ⟨rfl, hf⟩)
 refine bodyPost_ret (results_tmp2 rfl _ _ _) rfl ?_; exact ⟨by simp, hf⟩
theorem zeP (l : List Lab) : (zau l).size = zaE l := by
 rw [<- zig]; rfl
theorem ziY (l : List Lab) (g : FuncId) (cb : Array Value) (eg : ∀ args w, (callFunc g args).run prog w = .ok (.enter g args) w) (J : Nat -> World -> Prop) (w : World)
 (hs : ∀ p ∈ l, p.1.size < 16777216 /\ p.2.size < 16777216) (bG : zaE l <= 1099511627776)
 (hJ : ∀ k W W', J k W -> Fr (fun _ => False) W W' -> J k W') (h0 : J 0 w)
 (step : ∀ k x W, l[k]? = some x -> J k W -> Blk W w.heap.size 99 #[.string (zau l)] -> Calls prog g (#[.agg #[.string x.1, .string x.2]] ++ cb) W fun r w' => r = .returned (.tuple #[]) /\ J (k + 1) w' /\ Blk w' w.heap.size 99 #[.string (zau l)]) :
 Calls prog 152 #[.agg #[.string (zau l)], .func (.func g) #[] cb] w fun r w' => r = .returned (.tuple #[]) /\ J l.length w' := by
 have mR : (zau l).size <= 1099511627776 := by rw [zeP]; exact bG
 have nj : (zau l).data.toList.drop 0 = zaw (l.drop 0) := by simp [zau]
 have J1 : J 0 (w.alloc (.cells #[.string (zau l)] 99)) := hJ 0 w _ h0 ((znq _ w).alloc _); have B1 : Blk (w.alloc (.cells #[.string (zau l)] 99)) w.heap.size 99 #[.string (zau l)] := znr w 99 _; generalize hS : zau l = s at *
 have STEP := zmk step; have HJ := zmk hJ; have HS := zmk hs; have HJ1 := zmk J1; have cD := zmk B1; have iV := zmk nj; clear step hJ hs J1 B1 nj h0 hS; go_enter func152, ntmps152; go_wp2
 go_loopw [4] (fun vi wr => ∃ (i k : Nat), vi = .int .i64 i /\ k <= l.length /\ i <= s.size /\ Hid (s.data.toList.drop i = zaw (l.drop k)) /\ Hid (J k wr) /\ Hid (Blk wr w.heap.size 99 #[.string s])) (fun vi _ => s.size - (intOf vi).toNat)
 case atStart => exact ⟨0, 0, rfl, zmv _, zmv _, iV, HJ1, cD⟩
 case round =>
  obtain ⟨i, k, rfl, hk, hi, HD, HJk, HB⟩ := hrel; have c0 : wr.cell? ⟨w.heap.size, 0, none⟩ = some (.string s) := HB.out.cell 0; by_cases hlt : k < l.length
  ·obtain ⟨x, hx⟩ : ∃ x, l[k]? = some x := ⟨_, zmm hlt⟩
   have ej := HS.out x (zms hx); have hD : s.data.toList.drop i = zbA x.1.size ++ (x.1.data.toList ++ (zbA x.2.size ++ (x.2.data.toList ++ zaw (l.drop (k + 1))))) := by
    rw [HD.out, zdr l k x hx]; simp [zcY]
   have q1 := fun W => zea s x.1 i _ ej.1 hi mR hD W; have d1 := zdt hD hi; have h2 := zcs hD; have d2 := zdt h2 d1; have h3 := zcs h2; have e1 : x.1.data.toList.length = x.1.size := by rw [<- znf]
   rw [zbX, e1] at h3 d2; obtain ⟨i2, iu⟩ := exE (i + zaB x.1.size + x.1.size); rw [iu] at h3 d2; have q2 := fun W => zea s x.2 i2 _ ej.2 d2 mR h3 W; have d3 := zdt h3 d2; have h4 := zcs h3; have d4 := zdt h4 d3; have h5 := zcs h4; have e2 : x.2.data.toList.length = x.2.size := by rw [<- znf]
   rw [zbX, e2] at h5 d4; obtain ⟨i3, nd⟩ := exE (i2 + zaB x.2.size + x.2.size); rw [nd] at h5 d4; simp only [iu] at q1; simp only [nd] at q2; have fL : 0 < zaB x.1.size := by unfold zaB; split <;> omega
   have ir : i < s.size := by omega
   have hgo : i < i3 := by omega
   have H5 := zmk h5; have HX := zmk hx; clear hD d1 h2 h3 d2 d3 h4 h5 e1 e2 hx iu nd ej fL
   go_wp2_with (first
    | (go_at_call_of 158 (Value.int .i64 (i : Int)); refine (q1 _).mono ?_; rintro r w1 ⟨rfl, ai⟩; have cM := zmk (HB.out.fr ai (fun e => e)); have HJ2 := zmk (HJ.out _ _ _ HJk.out ai); have c1 := cM.out.cell 0)
    | (go_at_call_of 158 (Value.int .i64 (i2 : Int)); refine (q2 _).mono ?_; rintro r w2 ⟨rfl, ar⟩; have bE := zmk (cM.out.fr ar (fun e => e)); have HJ3 := zmk (HJ.out _ _ _ HJ2.out ar))
    | (go_at_fn g; refine (STEP.out k x _ HX.out HJ3.out bE.out).mono ?_; rintro r w3 ⟨rfl, hj4, pW⟩))
   exact ⟨⟨i3, k + 1, rfl, hlt, d4, H5, zmk hj4, zmk pW⟩, by show s.size - ((i3 : Int)).toNat < s.size - ((i : Int)).toNat; omega⟩
  ·obtain rfl : k = l.length := by omega
   have hD := HD.out; rw [List.drop_length] at hD; have iu : i = s.size := by
    have h := znb List.length hD; rw [List.length_drop, <- znf] at h; simp [zaw] at h; omega
   subst iu; have ir : ¬ ((s.size : Int) < s.size) := by omega
   go_wp2; go_end0; exact ⟨rfl, HJk.out⟩
theorem cv_fr {S : Nat -> Prop} {w w' : World} (h : Fr S w w') (s : ByteArray) : Fr S w (Lib.bytesWorld w' 5 s) := by
 refine h.trans (S' := fun _ => False) ⟨?_, ?_, ?_, by rw [Lib.bytesWorld_size]; omega, fun k hk _ => Lib.bytesWorld_at_old w' 5 s k hk⟩ (fun _ _ e => e.elim); all_goals rfl
theorem cv_go (w : World) (s : ByteArray) : (convert 9 44 (.string s)).run prog w = .ok (.slice (some ⟨w.heap.size, 0, none⟩) s.size (grownCap w s.size 0 5)) (Lib.bytesWorld w 5 s) :=
 Lib.run_convert_string_bytes w 9 44 5 s underlying9 underlying44 underlying5
theorem cv_back (w : World) (s : ByteArray) (c : Nat) : (convert 44 9 (.slice (some ⟨w.heap.size, 0, none⟩) s.size c)).run prog (Lib.bytesWorld w 5 s) = .ok (.string s) (Lib.bytesWorld w 5 s) := by
 have h := run_convert_bytes_back (P := prog) (Lib.bytesWorld w 5 s) 44 9 5 ⟨w.heap.size, 0, none⟩ c s.data.toList underlying44 underlying5 underlying9 (fun j hj => by
  have e1 : (⟨w.heap.size, 0, none⟩ : Addr).add j = ⟨w.heap.size, 0 + j, none⟩ := by unfold Addr.add; split <;> simp_all
  have pG : j < s.size := by rw [znf]; exact hj
  rw [e1, zmP, Lib.bytesWorld_cell w 5 s j pG]
  simp [List.getD, zmm hj])
 rw [<- znf] at h; rw [h]
def UJ (w0 : World) (c : Nat) (l : List Lab) (k : Nat) (W : World) : Prop :=
 ∃ v, Blk W c 31 #[v] /\ W.ownsRow w0.heap.size 40 2 v k ((l.take k).flatMap zaJ) /\ Fr (fun _ => False) w0 W
theorem zjO (w0 : World) (c b : Nat) (hc : w0.heap.size <= c) (cs : Array Value) (l : List Lab) (k : Nat) (x : Lab) (hx : l[k]? = some x) (hl : l.length <= 1099511627776) (W : World) (h : UJ w0 c l k W) (hb : Blk W b 99 cs) :
 Calls prog 163 #[.agg #[.string x.1, .string x.2], .pointer (some ⟨c, 0, none⟩)] W fun r w' => r = .returned (.tuple #[]) /\ UJ w0 c l (k + 1) w' /\ Blk w' b 99 cs := by
 obtain ⟨v, kX, ab, hf⟩ := h; obtain ⟨i0, aD, aA, az, aC⟩ := info_parts info40; have hk : k < l.length := (List.getElem?_eq_some_iff.mp hx).1; obtain ⟨n, y⟩ := x; obtain ⟨W1, ib⟩ := exE (W.alloc (.cells #[.string n, .string y] 108)); have aw : Blk W1 W.heap.size 108 #[.string n, .string y] := by rw [<- ib]; exact znr W 108 _
 have F1 : Fr (fun _ => False) W W1 := by rw [<- ib]; exact (znq _ W).alloc _
 obtain ⟨W2, jI⟩ := exE (Lib.bytesWorld W1 5 n); have F2 : Fr (fun _ => False) W1 W2 := by rw [<- jI]; exact cv_fr (znq _ W1) n
 obtain ⟨W3, eQ⟩ := exE (Lib.bytesWorld W2 5 y); have F3 : Fr (fun _ => False) W2 W3 := by rw [<- eQ]; exact cv_fr (znq _ W2) y
 have a1 := cv_go W1 n; have a2 := cv_back W1 n (grownCap W1 n.size 0 5); have a3 := cv_go W2 y; have a4 := cv_back W2 y (grownCap W2 y.size 0 5); rw [jI] at a1 a2; rw [eQ] at a3 a4; have c1 : W1.cell? ⟨c, 0, none⟩ = some v := (kX.fr F1 (fun e => e)).cell 0; have c2 : W1.cell? ⟨W.heap.size, 0, none⟩ = some (.string n) := aw.cell 0
 have c3 : W2.cell? ⟨W.heap.size, 1, none⟩ = some (.string y) := (aw.fr F2 (fun e => e)).cell 1; obtain ⟨a', n', k', rfl⟩ := zac ab; have FF : Fr (fun _ => False) W W3 := (F1.same F2).same F3; have HO := zmk (zaj ab FF (fun _ _ e => e)); have HC := zmk (kX.fr FF (fun e => e)); have HBb := zmk (hb.fr FF (fun e => e)); have HF := zmk (hf.same FF); have HX := zmk hx
 have hsz0 : w0.heap.size <= W3.heap.size := (hf.same FF).size; clear ab kX hb hf FF F1 F2 F3 aw; go_enter func163, ntmps163; go_wp2_with (at_builtin; refine Hid.out ?_)
 refine zmk ?_; refine zaf _ rfl _ _ 31 31 rfl w0.heap.size 40 i0 _ 2 32 underlying31 aD aA az aC rfl (by decide) _ k ((l.take k).flatMap zaJ) rfl (HO.out.alloc _) _ 1 (zaJ (n, y)) rfl (zaH underlying31 (znr W3 40 (zaJ (n, y)).toArray) rfl (by simp [zaJ, Value.oneCell'])) (by unfold maxLen; omega) (by omega) (by simp; omega) ?_; intro v' w2 ac ad ax
 have hg : (W3.alloc (.cells (zaJ (n, y)).toArray 40)).grownBy w2 (Value.slice a' n' k').ownBlock := ad; have n1 := zak HO.out HC.out (by decide); have n2 := zak HO.out HBb.out (by decide); have iI : Blk w2 c 31 #[.slice a' n' k'] := (HC.out.alloc _).grown hg (fun e => n1 e.symm); have bi : Blk w2 b 99 cs := (HBb.out.alloc _).grown hg (fun e => n2 e.symm)
 have fW : Fr (fun _ => False) w0 w2 := (HF.out.alloc _).grown hg (fun k hk => .inr ((HO.out.lt k hk).1)); have af : w2.ownsRow w0.heap.size 40 2 v' (k + 1) ((l.take (k + 1)).flatMap zaJ) := by rw [zan zaJ l k _ HX.out]; exact ac
 obtain ⟨a5, n5, k5, rfl⟩ := zac af; have c4 := iI.cell 0; have f4 := iI.frozen 0; have bB : b ≠ c := zns bi iI (by decide); have HH := zmk (znc iI (znc bi (znc fW (znc af bB)))); clear ad ax hg ac n1 n2 iI bi fW af bB a1 a2 a3 a4 c1 c2 c3 ib jI eQ; go_wp2; go_end0; obtain ⟨iI, bi, fW, af, bB⟩ := HH.out
 refine ⟨rfl, ⟨_, iI.set_ 0 _, ?_, fW.setCell (p := ⟨c, 0, none⟩) (.inr hc) _⟩, bi.far bB _⟩; exact zaj (S := fun k => k = c) af (Fr.at_ w2 c 0 _) (fun g hg e => zak af iI (by decide) (by rw [hg]; exact znb some e))
theorem UJ.fr {w0 : World} {c : Nat} {l : List Lab} {k : Nat} {W W' : World} (h : UJ w0 c l k W) (hf : Fr (fun _ => False) W W') : UJ w0 c l k W' := by
 obtain ⟨v, h1, h2, h3⟩ := h; exact ⟨v, h1.fr hf (fun e => e), zaj h2 hf (fun _ _ e => e), h3.same hf⟩
theorem zlg (l : List Lab) (w : World) (hl : l.length <= 1099511627776) (hs : ∀ p ∈ l, p.1.size < 16777216 /\ p.2.size < 16777216) (bG : zaE l <= 1099511627776) :
 Calls prog 70 #[.agg #[.string (zau l)]] w (zew 40 w l) := by
 have eg : ∀ args w, (callFunc 163 args).run prog w = .ok (.enter 163 args) w := enters_of func163 (by kernel_rfl) rfl; obtain ⟨W, hW⟩ := exE ((w.alloc (.cells #[.string (zau l)] 99)).alloc (.cells #[.slice none 0 0] 31)); have hb1 : Blk W (w.heap.size + 1) 31 #[.slice none 0 0] := by rw [<- hW]; exact zaK w _ 31 _
 have hF : Fr (fun _ => False) w W := by rw [<- hW]; exact ((znq _ w).alloc _).alloc _
 have hJ0 : UJ w (w.heap.size + 1) l 0 W := ⟨_, hb1, zmy _ _ _ _, hF⟩; have hR := ziY l 163 #[.pointer (some ⟨w.heap.size + 1, 0, none⟩)] eg (UJ w (w.heap.size + 1) l) W hs bG (fun _ _ _ h hf => h.fr hf) hJ0
  (fun k x W' hx hj hb => zjO w (w.heap.size + 1) W.heap.size (by omega) _ l k x hx hl W' hj hb)
 have c0 : W.cell? ⟨w.heap.size, 0, none⟩ = some (.string (zau l)) := by rw [<- hW]; exact ((znr w 99 #[.string (zau l)]).alloc _).cell 0
 generalize zau l = s at hR hW c0 ⊢; clear hJ0 hF hb1 hs bG; have hmf : ∀ (fn : Fn) (first aO : Array Value) (w : World), (Instr.makeFunc fn first aO).run prog w = .ok (.func fn first aO) w := fun _ _ _ _ => rfl; go_enter func70, ntmps70; go_wp2_with (go_at_call 152; refine hR.mono ?_; rintro r w1 ⟨rfl, v, h1, h2, h3⟩; have c1 := h1.cell 0)
 go_ret; rw [zmL] at h2; exact ⟨v, rfl, h2, h3⟩
def zap (w : World) (r : Ending) (w' : World) : Prop := r = .returned (.bool true) /\ Fr (fun _ => False) w w'
theorem zj4 (A B : Option Addr) (c d : Nat) (w : World) : Calls prog 103 #[.slice A 0 c, .slice B 0 d] w (zap w) := by
 go_enter func103, ntmps103; go_wp2; go_loopw [5] (fun i wr => i = .int .i64 0 /\ wr = w) (fun i _ => 0)
 case atStart => exact ⟨rfl, rfl⟩
 case round =>
  obtain ⟨rfl, rfl⟩ := hrel; go_wp2; go_ret; exact ⟨rfl, znq _ _⟩
theorem zj2 (A B : Option Addr) (c d : Nat) (w : World) : Calls prog 104 #[.slice A 0 c, .slice B 0 d] w (zap w) := by
 go_enter func104, ntmps104; go_wp2; go_loopw [5] (fun i wr => i = .int .i64 0 /\ wr = w) (fun i _ => 0)
 case atStart => exact ⟨rfl, rfl⟩
 case round =>
  obtain ⟨rfl, rfl⟩ := hrel; go_wp2; go_ret; exact ⟨rfl, znq _ _⟩
theorem zj6 (A B : Option Addr) (c d : Nat) (w : World) : Calls prog 102 #[.slice A 0 c, .slice B 0 d] w (zap w) := by
 go_enter func102, ntmps102; go_wp2; go_loopw [5] (fun i wr => i = .int .i64 0 /\ wr = w) (fun i _ => 0)
 case atStart => exact ⟨rfl, rfl⟩
 case round =>
  obtain ⟨rfl, rfl⟩ := hrel; go_wp2; go_ret; exact ⟨rfl, znq _ _⟩
theorem zlk (A B : Option Addr) (c d : Nat) (w : World) : Calls prog 37 #[.slice A 0 c, .slice B 0 d] w (zap w) := by
 go_enter func37, ntmps37; go_wp2; go_loopw [5] (fun i wr => i = .int .i64 0 /\ wr = w) (fun i _ => 0)
 case atStart => exact ⟨rfl, rfl⟩
 case round =>
  obtain ⟨rfl, rfl⟩ := hrel; go_wp2; go_ret; exact ⟨rfl, znq _ _⟩
theorem zgu (P Q : Nat -> Prop) (u v : Value) (l : List Smp) (w : World) (hu : Sl P w u 3 l.length (l.flatMap Smp.a)) (hv : Sl Q w v 3 l.length (l.flatMap Smp.a)) (hl : l.length <= 1099511627776) : Calls prog 101 #[u, v] w (zap w) := by
 obtain ⟨A, c, rfl, _, hc, hr⟩ := hu; obtain ⟨B, d, rfl, _, hd, hs⟩ := hv; obtain ⟨n, hn⟩ := exE l.length; rw [hn] at hr hs hc hd hl ⊢; have HN := zmk hn; have HR := zmk hr; have HS := zmk hs; clear hn hr hs; go_enter func101, ntmps101; go_wp2; go_loopw [5] (fun i wr => ∃ k : Nat, k <= n /\ i = .int .i64 k /\ Fr (fun _ => False) w wr) (fun i _ => n - (intOf i).toNat)
 case atStart => exact ⟨0, zmv _, rfl, znq _ _⟩
 case round =>
  obtain ⟨k, hk, rfl, hf⟩ := hrel; by_cases hlt : k < n
  ·obtain ⟨g, off, rfl, _, aa⟩ := HR.out (by omega)
   obtain ⟨g2, ap, rfl, _, al⟩ := HS.out (by omega); obtain ⟨x, hx⟩ : ∃ x, l[k]? = some x := ⟨_, zmm (by rw [HN.out]; exact hlt)⟩; have ay : ∀ {g off : Nat}, (∀ j u, (l.flatMap Smp.a)[j]? = some u -> w.cell? ⟨g, off + j, none⟩ = some u) -> ∀ j, j < 3 -> ∀ u, (Smp.a x)[j]? = some u -> wr.drew.cell? ⟨g, off + (k * 3 + j), none⟩ = some u := fun {g off} aa j hj u hu => by
    have := aa (k * 3 + j) u (by rw [zfc Smp.a (fun _ => rfl) l k x hx j hj]; exact hu); rw [hf.drew.cell (p := ⟨g, off + (k * 3 + j), none⟩) (zmr w _ this) (fun e => e)]; exact this
   have c0 : wr.drew.cell? ⟨g, off + k * 3, none⟩ = some (.int .u64 x.ref) := ay aa 0 (by omega) _ rfl; have c1 : wr.drew.cell? ⟨g, off + k * 3 + 1, none⟩ = some (.int .i64 x.t) := ay aa 1 (by omega) _ rfl; have c2 : wr.drew.cell? ⟨g, off + k * 3 + 2, none⟩ = some (.int .u64 x.v) := ay aa 2 (by omega) _ rfl
   have d0 : wr.drew.cell? ⟨g2, ap + k * 3, none⟩ = some (.int .u64 x.ref) := ay al 0 (by omega) _ rfl; have d1 : wr.drew.cell? ⟨g2, ap + k * 3 + 1, none⟩ = some (.int .i64 x.t) := ay al 1 (by omega) _ rfl; have d2 : wr.drew.cell? ⟨g2, ap + k * 3 + 2, none⟩ = some (.int .u64 x.v) := ay al 2 (by omega) _ rfl; have ar := zmk hf.drew; clear aa al ay hf hx; go_wp2
   go_region; go_wp2; go_roundw
   case rel => exact ⟨k + 1, by omega, by go_num, ar.out⟩
   case measure => simp [intOf]; omega
  ·obtain rfl : k = n := by omega
   go_wp2; go_ret; exact ⟨rfl, hf⟩
theorem ziS (A0 B0 A3 B3 : Option Addr) (c0 d0 c3 d3 : Nat) (p1 p2 p4 p5 p6 q1 q2 q4 q5 q6 : Value) (w : World)
 (au : ∀ s ∈ [p1, p2, p4, p5, p6, q1, q2, q4, q5, q6], ∃ A m c, s = .slice A m c)
 (h1 : ∀ W, Fr (fun _ => False) w W -> Calls prog 101 #[p1, q1] W (zap W)) (h2 : ∀ W, Fr (fun _ => False) w W -> Calls prog 102 #[p2, q2] W (zap W)) (h4 : ∀ W, Fr (fun _ => False) w W -> Calls prog 103 #[p4, q4] W (zap W))
 (h5 : ∀ W, Fr (fun _ => False) w W -> Calls prog 104 #[p5, q5] W (zap W)) (h6 : ∀ W, Fr (fun _ => False) w W -> Calls prog 37 #[p6, q6] W (zap W)) :
 Calls prog 32 #[.agg #[.slice A0 0 c0, p1, p2, .slice A3 0 c3, p4, p5, p6], .agg #[.slice B0 0 d0, q1, q2, .slice B3 0 d3, q4, q5, q6]] w (zap w) := by
 obtain ⟨a1, m1, k1, rfl⟩ := au p1 (by simp); obtain ⟨a2, m2, k2, rfl⟩ := au p2 (by simp); obtain ⟨a4, m4, k4, rfl⟩ := au p4 (by simp); obtain ⟨a5, m5, k5, rfl⟩ := au p5 (by simp); obtain ⟨a6, m6, k6, rfl⟩ := au p6 (by simp); obtain ⟨b1, n1, j1, rfl⟩ := au q1 (by simp); obtain ⟨b2, n2, j2, rfl⟩ := au q2 (by simp); obtain ⟨b4, n4, j4, rfl⟩ := au q4 (by simp)
 obtain ⟨b5, n5, j5, rfl⟩ := au q5 (by simp); obtain ⟨b6, n6, j6, rfl⟩ := au q6 (by simp); have H1 := zmk h1; have H2 := zmk h2; have H4 := zmk h4; have H5 := zmk h5; have H6 := zmk h6; clear au h1 h2 h4 h5 h6; go_enter func32, ntmps32; go_wp2_with fail
 have hP := (znr w 54 #[.slice A0 0 c0, .slice a1 m1 k1, .slice a2 m2 k2, .slice A3 0 c3, .slice a4 m4 k4, .slice a5 m5 k5, .slice a6 m6 k6]).alloc (.cells #[.slice B0 0 d0, .slice b1 n1 j1, .slice b2 n2 j2, .slice B3 0 d3, .slice b4 n4 j4, .slice b5 n5 j5, .slice b6 n6 j6] 54)
 have hQ := znr (w.alloc (.cells #[.slice A0 0 c0, .slice a1 m1 k1, .slice a2 m2 k2, .slice A3 0 c3, .slice a4 m4 k4, .slice a5 m5 k5, .slice a6 m6 k6] 54)) 54 #[.slice B0 0 d0, .slice b1 n1 j1, .slice b2 n2 j2, .slice B3 0 d3, .slice b4 n4 j4, .slice b5 n5 j5, .slice b6 n6 j6]
 obtain ⟨W, hW⟩ := exE ((w.alloc (.cells #[.slice A0 0 c0, .slice a1 m1 k1, .slice a2 m2 k2, .slice A3 0 c3, .slice a4 m4 k4, .slice a5 m5 k5, .slice a6 m6 k6] 54)).alloc (.cells #[.slice B0 0 d0, .slice b1 n1 j1, .slice b2 n2 j2, .slice B3 0 d3, .slice b4 n4 j4, .slice b5 n5 j5, .slice b6 n6 j6] 54)); have hF : Fr (fun _ => False) w W := hW ▸ ((znq _ w).alloc _).alloc _; rw [hW] at hP hQ ⊢
 have e1 : ∀ (w : World) (o : Obj), (w.alloc o).heap.size = w.heap.size + 1 := fun w o => by simp
 rw [e1] at hQ; have x0 := hP.cell 0; have x1 := hP.cell 1; have x2 := hP.cell 2; have x3 := hP.cell 3; have x4 := hP.cell 4; have x5 := hP.cell 5; have x6 := hP.cell 6; have y0 := hQ.cell 0; have y1 := hQ.cell 1; have y2 := hQ.cell 2; have y3 := hQ.cell 3; have y4 := hQ.cell 4; have y5 := hQ.cell 5; have y6 := hQ.cell 6
 simp only [zmF, zmD, zmE] at x0 x1 x2 x3 x4 x5 x6 y0 y1 y2 y3 y4 y5 y6; have HP := zmk hP; have HQ := zmk hQ; have HF := zmk hF; clear hW hP hQ hF e1; go_loopw [5] (fun i wr => i = .int .i64 0 /\ wr = W) (fun i _ => 0)
 case atStart => exact ⟨rfl, rfl⟩
 case round =>
  obtain ⟨rfl, rfl⟩ := hrel; go_wp2_with fail
  go_loopw [6] (fun i w' => i = .int .i64 0 /\ w' = wr) (fun i _ => 0)
  case atStart => exact ⟨rfl, rfl⟩
  case round =>
   obtain ⟨rfl, rfl⟩ := hrel; go_wp2_with (go_at_call 101; refine (H1.out _ HF.out).mono ?_; rintro r W1 ⟨rfl, ai⟩; refine Hid.out ?_)
   have F1 := zmk (HF.out.same ai); have ov := HP.out.fr ai (fun e => e); have ee := HQ.out.fr ai (fun e => e); have P1 := zmk ov; have Q1 := zmk ee; have u1 := ov.cell 2; have v1 := ee.cell 2; simp only [zmF, zmD, zmE] at u1 v1; clear ai ov ee; refine zmk ?_
   go_wp2_with (go_at_call 102; refine (H2.out _ F1.out).mono ?_; rintro r W2 ⟨rfl, ar⟩; refine Hid.out ?_)
   have F2 := zmk (F1.out.same ar); have pZ := P1.out.fr ar (fun e => e); have de := Q1.out.fr ar (fun e => e); have P2 := zmk pZ; have Q2 := zmk de; have u2 := pZ.cell 4; have v2 := de.cell 4; simp only [zmF, zmD, zmE] at u2 v2; clear ar pZ de; refine zmk ?_
   go_wp2_with (go_at_call 103; refine (H4.out _ F2.out).mono ?_; rintro r W3 ⟨rfl, bJ⟩; refine Hid.out ?_)
   have F3 := zmk (F2.out.same bJ); have hP3 := P2.out.fr bJ (fun e => e); have iY := Q2.out.fr bJ (fun e => e); have P3 := zmk hP3; have Q3 := zmk iY; have u3 := hP3.cell 5; have v3 := iY.cell 5; simp only [zmF, zmD, zmE] at u3 v3; clear bJ hP3 iY; refine zmk ?_
   go_wp2_with (go_at_call 104; refine (H5.out _ F3.out).mono ?_; rintro r W4 ⟨rfl, dw⟩; refine Hid.out ?_)
   have F4 := zmk (F3.out.same dw); have hP4 := P3.out.fr dw (fun e => e); have hQ4 := Q3.out.fr dw (fun e => e); have P4 := zmk hP4; have Q4 := zmk hQ4; have u4 := hP4.cell 6; have v4 := hQ4.cell 6; simp only [zmF, zmD, zmE] at u4 v4; clear dw hP4 hQ4; refine zmk ?_
   go_wp2_with (go_at_call 37; refine (H6.out _ F4.out).mono ?_; rintro r W5 ⟨rfl, aq⟩; refine Hid.out ?_)
   have F5 := zmk (F4.out.same aq); have hP5 := P4.out.fr aq (fun e => e); have hQ5 := Q4.out.fr aq (fun e => e); have P5 := zmk hP5; have Q5 := zmk hQ5; clear aq hP5 hQ5; refine zmk ?_; go_wp2; go_ret; exact ⟨rfl, F5.out⟩
theorem zeD (P Q : Nat -> Prop) (u v : Value) (l : List Lab) (w : World) (hu : Sl P w u 2 l.length (l.flatMap zaJ)) (hv : Sl Q w v 2 l.length (l.flatMap zaJ)) (hl : l.length <= 1099511627776) : Calls prog 25 #[u, v] w (zap w) := by
 obtain ⟨A, c, rfl, _, hc, hr⟩ := hu; obtain ⟨B, d, rfl, _, hd, hs⟩ := hv; obtain ⟨n, hn⟩ := exE l.length; rw [hn] at hr hs hc hd hl ⊢; have HN := zmk hn; have HR := zmk hr; have HS := zmk hs; clear hn hr hs; go_enter func25, ntmps25; go_wp2; go_loopw [5] (fun i wr => ∃ k : Nat, k <= n /\ i = .int .i64 k /\ Fr (fun _ => False) w wr) (fun i _ => n - (intOf i).toNat)
 case atStart => exact ⟨0, zmv _, rfl, znq _ _⟩
 case round =>
  obtain ⟨k, hk, rfl, hf⟩ := hrel; by_cases hlt : k < n
  ·obtain ⟨g, off, rfl, _, aa⟩ := HR.out (by omega)
   obtain ⟨g2, ap, rfl, _, al⟩ := HS.out (by omega); obtain ⟨x, hx⟩ : ∃ x, l[k]? = some x := ⟨_, zmm (by rw [HN.out]; exact hlt)⟩; have ay : ∀ {g off : Nat}, (∀ j u, (l.flatMap zaJ)[j]? = some u -> w.cell? ⟨g, off + j, none⟩ = some u) -> ∀ j, j < 2 -> ∀ u, (zaJ x)[j]? = some u -> wr.drew.cell? ⟨g, off + (k * 2 + j), none⟩ = some u := fun {g off} aa j hj u hu => by
    have := aa (k * 2 + j) u (by rw [zbE zaJ (fun _ => rfl) l k x hx j hj]; exact hu); rw [hf.drew.cell (p := ⟨g, off + (k * 2 + j), none⟩) (zmr w _ this) (fun e => e)]; exact this
   have c0 : wr.drew.cell? ⟨g, off + k * 2, none⟩ = some (.string x.1) := ay aa 0 (by omega) _ rfl; have c1 : wr.drew.cell? ⟨g, off + k * 2 + 1, none⟩ = some (.string x.2) := ay aa 1 (by omega) _ rfl; have d0 : wr.drew.cell? ⟨g2, ap + k * 2, none⟩ = some (.string x.1) := ay al 0 (by omega) _ rfl
   have d1 : wr.drew.cell? ⟨g2, ap + k * 2 + 1, none⟩ = some (.string x.2) := ay al 1 (by omega) _ rfl; have ar := zmk hf.drew; clear aa al ay hf hx; go_wp2; go_region; go_wp2; go_roundw
   case rel => exact ⟨k + 1, by omega, by go_num, ar.out⟩
   case measure => simp [intOf]; omega
  ·obtain rfl : k = n := by omega
   go_wp2; go_ret; exact ⟨rfl, hf⟩
def LabOk (l : List Lab) (cJ bytes : Nat) : Prop := l.length <= cJ /\ (∀ p ∈ l, p.1.size ≠ 0 /\ p.1.size <= bytes /\ p.2.size <= bytes) /\ l.Pairwise (fun a b => a.1 ≠ b.1)
def RightEnds (l : List Lab) (cJ bytes : Nat) (w : World) (r : Ending) (w' : World) : Prop := ∃ b : Bool, r = .returned (.bool b) /\ (b = true ↔ LabOk l cJ bytes) /\ Fr (fun _ => False) w w'
def LabPre (l : List Lab) (bytes k : Nat) : Prop :=
 (∀ (i : Nat) (x : Lab), i < k -> l[i]? = some x -> x.1.size ≠ 0 /\ x.1.size <= bytes /\ x.2.size <= bytes) /\ ∀ (i j : Nat) (x y : Lab), j < i -> i < k -> l[i]? = some x -> l[j]? = some y -> y.1 ≠ x.1
theorem LabPre.ok {l : List Lab} {cJ bytes : Nat} (h : LabPre l bytes l.length) (hl : l.length <= cJ) : LabOk l cJ bytes := by
 refine ⟨hl, fun p hp => ?_, ?_⟩
 ·obtain ⟨i, hi⟩ := List.mem_iff_getElem?.mp hp
  exact h.1 i p (List.getElem?_eq_some_iff.mp hi).1 hi
 ·rw [List.pairwise_iff_getElem]
  intro i j hi hj hij; exact h.2 j i _ _ hij hj (zmm hj) (zmm hi)
theorem LabOk.at {l : List Lab} {cJ bytes : Nat} (h : LabOk l cJ bytes) (k : Nat) (x : Lab) (hx : l[k]? = some x) : x.1.size ≠ 0 /\ x.1.size <= bytes /\ x.2.size <= bytes := h.2.1 x (zms hx)
theorem LabOk.ne {l : List Lab} {cJ bytes : Nat} (h : LabOk l cJ bytes) (k j : Nat) (x y : Lab) (hx : l[k]? = some x) (hy : l[j]? = some y) (hj : j < k) : y.1 ≠ x.1 := by
 obtain ⟨hk, rfl⟩ := List.getElem?_eq_some_iff.mp hx; obtain ⟨hj', rfl⟩ := List.getElem?_eq_some_iff.mp hy; exact List.pairwise_iff_getElem.mp h.2.2 j k hj' hk hj
theorem zjn (s : ByteArray) : s.toList.isEmpty = decide (s.size = 0) := by
 rw [Lib.toList_data, znf]; cases s.data.toList <;> simp
theorem zgJ (P : Nat -> Prop) (v : Value) (l : List Lab) (cJ bytes : Nat) (w : World) (h : Sl P w v 2 l.length (l.flatMap zaJ)) (hl : l.length <= 1099511627776) (hm : cJ <= 1099511627776) (hb : bytes <= 1099511627776) :
 Calls prog 53 #[v, .int .i64 cJ, .int .i64 bytes] w (RightEnds l cJ bytes w) := by
 obtain ⟨A, c, rfl, _, hc, hr⟩ := h; obtain ⟨n, hn⟩ := exE l.length; rw [hn] at hr hc hl ⊢; have HN := zmk hn; have HR := zmk hr; clear hn hr; by_cases hmn : cJ < n
 ·have hmn' : (cJ : Int) < n := by omega
  go_enter func53, ntmps53; go_wp2; go_ret; exact ⟨false, rfl, ⟨fun h => (by cases h), fun h => absurd h.1 (by rw [HN.out]; omega)⟩, znq _ _⟩
 ·have hmn' : ¬ (cJ : Int) < n := by omega
  go_enter func53, ntmps53; go_wp2; go_loopw [7] (fun i wr => ∃ k : Nat, k <= n /\ i = .int .i64 k /\ Hid (LabPre l bytes k) /\ Hid (Fr (fun _ => False) w wr)) (fun i _ => n - (intOf i).toNat)
  case atStart => exact ⟨0, zmv _, rfl, zmk ⟨fun i x h => absurd h (zm5 _), fun i j x y _ h => absurd h (zm5 _)⟩, zmk (znq _ _)⟩
  case round =>
   obtain ⟨k, hk, rfl, HP, HF⟩ := hrel; by_cases hlt : k < n
   ·obtain ⟨g, off, rfl, _, aa⟩ := HR.out (by omega)
    obtain ⟨x, hx⟩ : ∃ x, l[k]? = some x := ⟨_, zmm (by rw [HN.out]; exact hlt)⟩; have ay : ∀ (i : Nat) (z : Lab), l[i]? = some z -> ∀ W, Fr (fun _ => False) w W -> W.cell? ⟨g, off + i * 2, none⟩ = some (.string z.1) /\ W.cell? ⟨g, off + i * 2 + 1, none⟩ = some (.string z.2) := fun i z hz W hF => by
     have cc : ∀ j, j < 2 -> ∀ u, (zaJ z)[j]? = some u -> W.cell? ⟨g, off + (i * 2 + j), none⟩ = some u := fun j hj u hu => by
      have := aa (i * 2 + j) u (by rw [zbE zaJ (fun _ => rfl) l i z hz j hj]; exact hu); rw [hF.cell (p := ⟨g, off + (i * 2 + j), none⟩) (zmr w _ this) (fun e => e)]; exact this
     exact ⟨cc 0 (by omega) _ rfl, cc 1 (by omega) _ rfl⟩
    obtain ⟨c0, c1⟩ := ay k x hx wr HF.out; have HK := zmk ay; have HX := zmk hx; clear ay aa hx; by_cases e0 : x.1.size = 0
    ·have e0' : x.1.toList.isEmpty = true := by rw [zjn]; exact decide_eq_true e0
     go_wp2; go_ret; exact ⟨false, rfl, ⟨fun h => (by cases h), fun h => absurd e0 (h.at k x HX.out).1⟩, HF.out⟩
    ·have e0' : x.1.toList.isEmpty = false := by rw [zjn]; exact decide_eq_false e0
     by_cases h1 : bytes < x.1.size
     ·have qn : (bytes : Int) < x.1.size := by omega
      go_wp2; go_ret; exact ⟨false, rfl, ⟨fun h => (by cases h), fun h => absurd h1 (by have := (h.at k x HX.out).2.1; omega)⟩, HF.out⟩
     ·have qn : ¬ (bytes : Int) < x.1.size := by omega
      by_cases h2 : bytes < x.2.size
      ·have qm : (bytes : Int) < x.2.size := by omega
       go_wp2; go_ret; exact ⟨false, rfl, ⟨fun h => (by cases h), fun h => absurd h2 (by have := (h.at k x HX.out).2.2; omega)⟩, HF.out⟩
      ·have qm : ¬ (bytes : Int) < x.2.size := by omega
       go_wp2; clear c0 c1; go_loopw [8] (fun i w' => ∃ j : Nat, j <= k /\ i = .int .i64 j /\ Hid (∀ (i : Nat) (y : Lab), i < j -> l[i]? = some y -> y.1 ≠ x.1) /\ Hid (Fr (fun _ => False) w w')) (fun i _ => k - (intOf i).toNat)
       case atStart => exact ⟨0, zmv _, rfl, zmk (fun i y h => absurd h (zm5 _)), HF⟩
       case round =>
        obtain ⟨j, hj, rfl, HJ, bg⟩ := hrel; by_cases hlt2 : j < k
        ·obtain ⟨y, hy⟩ : ∃ y, l[j]? = some y := ⟨_, zmm (by rw [HN.out]; omega)⟩
         obtain ⟨c0, _⟩ := HK.out k x HX.out wr bg.out; obtain ⟨b0, _⟩ := HK.out j y hy wr bg.out; obtain ⟨d0, _⟩ := HK.out k x HX.out wr.drew bg.out.drew; obtain ⟨d1, _⟩ := HK.out j y hy wr.drew bg.out.drew; have HY := zmk hy; have bx := zmk bg.out.drew; clear hy; by_cases he : y.1 = x.1
         ·have HE := zmk he
          go_wp2; go_region; all_goals go_wp2
          go_ret; exact ⟨false, rfl, ⟨fun h => (by cases h), fun h => absurd HE.out (h.ne k j x y HX.out HY.out hlt2)⟩, bx.out⟩
         ·have he1 : (y.1.toList == x.1.toList) = false := by rw [beq_eq_false_iff_ne, Lib.toList_data, Lib.toList_data]; exact fun e => he (ByteArray.ext (Array.toList_inj.1 e))
          have HE := zmk he; go_wp2; go_region; all_goals go_wp2
          refine ⟨⟨j + 1, hlt2, rfl, zmk ?_, bx⟩, ?_⟩
          ·intro i z hi hz
           by_cases e : i = j
           ·subst e
            have := HY.out; rw [hz] at this; injection this with this; rw [this]; exact HE.out
           ·exact HJ.out i z (by omega) hz
          ·show k - ((j : Int) + 1).toNat < k - (j : Int).toNat; omega
        ·obtain rfl : j = k := by omega
         go_wp2; go_roundw
         case rel =>
          refine ⟨j + 1, by omega, by go_num, zmk ?_, bg⟩; have hp := HP.out; refine ⟨fun i z hi hz => ?_, fun i j' z y hji hi hz hy => ?_⟩
          ·by_cases e : i = j
           ·subst e
            have := HX.out; rw [hz] at this; injection this with this; rw [this]; exact ⟨e0, by omega, by omega⟩
           ·exact hp.1 i z (by omega) hz
          ·by_cases e : i = j
           ·subst e
            have := HX.out; rw [hz] at this; injection this with this; rw [this]; exact HJ.out j' y hji hy
           ·exact hp.2 i j' z y hji (by omega) hz hy
         case measure => simp [intOf]; omega
   ·obtain rfl : k = n := by omega
    go_wp2; go_ret; refine ⟨true, rfl, ⟨fun _ => ?_, fun _ => rfl⟩, HF.out⟩; have hp := HP.out; rw [<- HN.out] at hp; exact hp.ok (by rw [HN.out]; omega)
structure Ser where
 ref : Nat
 labs : List Lab
def ziL (p : Ser × Value) : List Value := [.int .u64 p.1.ref, p.2]
def SlR (P : Nat -> Prop) (w : World) (v : Value) (lv : List (Ser × Value)) : Prop :=
 Sl P w v 2 lv.length (lv.flatMap ziL) /\ ∀ p ∈ lv, Sl P w p.2 2 p.1.labs.length (p.1.labs.flatMap zaJ)
theorem SlR.fr {P S : Nat -> Prop} {w w' : World} {v : Value} {lv : List (Ser × Value)} (h : SlR P w v lv) (hf : Fr S w w') (hs : ∀ g, P g -> ¬ S g) : SlR P w' v lv :=
 ⟨h.1.fr hf hs, fun p hp => (h.2 p hp).fr hf hs⟩
def sero (x : Ser) : List Value := [.int .u64 x.ref, .string (zau (zaG x.labs))]
theorem info127 : (prog.info? 127).map (fun i => (i.zero, i.size, i.bytes)) = some (some (.agg #[.int .u64 0, .string ⟨#[]⟩]), 2, 24) := by kernel_rfl
theorem made_ok (P : Nat -> Prop) (v : Value) (l : List Lab) (w : World) (h : Sl P w v 2 l.length (l.flatMap zaJ)) (hl : LabOk l 12 600) :
 Calls prog 54 #[v] w fun r w' => r = .returned (.agg #[.string (zau (zaG l))]) /\ Fr (fun _ => False) w w' := by
 refine (made_any P v l w h hl.1 (fun p hp => by have := hl.2.1 p hp; omega)).mono ?_; rintro r w' ⟨l', h1, h2, rfl, hf⟩; exact ⟨by rw [zgm l l' h1 h2 hl.2.2], hf⟩
def ziJ (w : World) (l : List Ser) (r : Ending) (w' : World) : Prop :=
 ∃ v, r = .returned v /\ w'.ownsRow w.heap.size 127 2 v l.length (l.flatMap sero) /\ Fr (fun _ => False) w w'
theorem ze2 (P : Nat -> Prop) (v : Value) (lv : List (Ser × Value)) (w : World) (h : SlR P w v lv) (hl : lv.length <= 1099511627776) (aP : ∀ p ∈ lv, LabOk p.1.labs 12 600) :
 Calls prog 69 #[v] w (ziJ w (lv.map Prod.fst)) := by
 have mixed : prog.follows .mixedOrders = true := by kernel_rfl
 obtain ⟨⟨A, c, rfl, ak, aQ, hr⟩, cl⟩ := h; obtain ⟨n, hn⟩ := exE lv.length; rw [hn] at hr aQ hl ⊢; have HN := zmk hn; have HR := zmk hr; have HI := zmk cl
 have gq := zmk aP; obtain ⟨i0, aD, aA, az, aC⟩ := info_parts info127; clear hn hr ak cl aP; go_enter func69, ntmps69; go_wp2; go_loopw [2, 7] (fun v i wr => ∃ k : Nat, k <= n /\ i = .int .i64 k /\ Hid (wr.ownsRow w.heap.size 127 2 v k (((lv.map Prod.fst).take k).flatMap sero)) /\ Hid (Fr (fun _ => False) w wr)) (fun _ i _ => n - (intOf i).toNat)
 case atStart => exact ⟨0, zmv _, rfl, zmk (zmy _ _ _ _), zmk (znq _ _)⟩
 case round =>
  obtain ⟨k, hk, rfl, HO, HF⟩ := hrel; by_cases hlt : k < n
  ·obtain ⟨g, off, rfl, _, aa⟩ := HR.out (by omega)
   obtain ⟨x, hx⟩ : ∃ x, lv[k]? = some x := ⟨_, zmm (by rw [HN.out]; exact hlt)⟩; have cc : ∀ j, j < 2 -> ∀ u, (ziL x)[j]? = some u -> wr.cell? ⟨g, off + (k * 2 + j), none⟩ = some u := fun j hj u hu => by
    have := aa (k * 2 + j) u (by rw [zbE ziL (fun _ => rfl) lv k x hx j hj]; exact hu); rw [HF.out.cell (p := ⟨g, off + (k * 2 + j), none⟩) (zmr w _ this) (fun e => e)]; exact this
   have c0 : wr.cell? ⟨g, off + k * 2, none⟩ = some (.int .u64 x.1.ref) := cc 0 (by omega) _ rfl; have c1 : wr.cell? ⟨g, off + k * 2 + 1, none⟩ = some x.2 := cc 1 (by omega) _ rfl; have aH := zms hx; have b8 := HI.out x aH; have bC := gq.out x aH; have dJ : (lv.map Prod.fst)[k]? = some x.1 := by rw [zmU, hx]; rfl
   obtain ⟨⟨ref, labs⟩, iv⟩ := x; simp only [] at c0 c1 b8 bC dJ; have jD : ∃ A m c, iv = .slice A m c := let ⟨A, c, h, _⟩ := b8; ⟨A, _, c, h⟩
   obtain ⟨Ai, mi, ci, rfl⟩ := jD; have HX := zmk dJ; obtain ⟨a', n', k', rfl⟩ := zac HO.out; clear aa cc hx aH dJ; go_wp2_with fail
   have ch := znr wr 130 #[.int .u64 ref, .slice Ai mi ci]; have s0 := ch.cell 0; have s1 := ch.cell 1; simp only [zmF, zmD, zmE] at s0 s1; have bG := HF.out.size; have dn := zmk ch
   have hC := made_ok P (.slice Ai mi ci) labs (wr.alloc (.cells #[.int .u64 ref, .slice Ai mi ci] 130)).drew (b8.fr (HF.out.alloc _).drew (fun _ _ e => e)) bC; obtain ⟨st, ba⟩ := exE (zau (zaG labs)); rw [ba] at hC; have jc := zmk ba; clear ch b8 ba bC; have oV : (wr.alloc (.cells #[.int .u64 ref, .slice Ai mi ci] 130)).drew.heap.size = wr.heap.size + 1 := by simp
   go_region_held3 (fun w' => w'.cell? ⟨wr.heap.size, 0, none⟩ = some (.int .u64 ref) /\ w'.cell? ⟨wr.heap.size, 1, none⟩ = some (.slice Ai mi ci))
    ((first | (go_split_ands; refine ⟨?_, ?_⟩ <;> first | exact ef.out.cell 0 | exact ef.out.cell 1) | (go_split_ands; refine ⟨?_, ?_⟩ <;> first | exact (cG.out.alloc _).cell 0 | exact (cG.out.alloc _).cell 1) | (go_split_ands; refine ⟨?_, ?_⟩ <;> first | exact cG.out.cell 0 | exact cG.out.cell 1) | go_keep))
    ((first
      | (go_at_call 54; refine hC.mono ?_; rintro r5 w5 ⟨rfl, aq⟩; have cG := zmk (dn.out.drew.fr aq (fun e => e)); have F5 := zmk (((znq (fun _ => False) wr).alloc (.cells #[.int .u64 ref, .slice Ai mi ci] 130)).drew.same aq); have O5 := zmk (zaj HO.out F5.out (fun _ _ e => e)); have lO := F5.out.size)
      | (refine zat _ (by rfl) _ _ 121 121 (by rfl) w.heap.size 127 i0 _ 2 24 underlying121 aD aA az aC rfl (by decide) (.slice a' n' k') k (((lv.map Prod.fst).take k).flatMap sero) (by rfl) (O5.out.alloc _) _ 1 [.int .u64 ref, .string st] (by rfl) (zaH underlying121 (znr w5 127 #[.int .u64 ref, .string st]) rfl (by simp [Value.oneCell'])) (by unfold maxLen; omega) (by omega) (by simp; omega) ?_; intro v' w2 ac ad ax; have ef := zmk ((cG.out.alloc (.cells #[.int .u64 ref, .string st] 127)).grown ad (fun e => zm4 _ (zas HO.out e.symm))))))
   have NO : Hid (w2.ownsRow w.heap.size 127 2 v' (k + 1) (((lv.map Prod.fst).take (k + 1)).flatMap sero)) := zmk (by
    rw [zan sero _ k _ HX.out]; unfold sero; rw [jc.out]
    exact ac)
   have NF : Hid (Fr (fun _ => False) w w2) := zmk (((HF.out.same F5.out).alloc _).grown ad (fun g hg => .inr ((HO.out.lt g hg).1))); clear ac ad ax c0 c1 s0 s1 hC aq ef O5; go_wp2; go_roundw
   case rel => exact ⟨k + 1, by omega, by go_num, NO, NF⟩
   case measure => simp [intOf]; omega
  ·go_wp2
   go_ret; obtain rfl : k = n := by omega
   have h := HO.out; have e : (lv.map Prod.fst).take k = lv.map Prod.fst := zmt (by rw [zmI, HN.out]; exact zmw _); rw [e] at h; refine ⟨_, rfl, ?_, HF.out⟩; rw [zmI, HN.out]; exact h
structure SerD where
 ref : Nat
 labs : List Lab
def ziR (x : SerD) : List Value := [.int .u64 x.ref, .string (zau x.labs)]
def zfo (st : St) : List Lab × St := za6 (gUv st).2 (gUv st).1
def zbc (st : St) : SerD × St := (⟨(zab st).1, (zfo (zab st).2).1⟩, (zfo (zab st).2).2)
def zev (st : St) : Prop := (gUv st).1 <= 4096 /\ (∀ k, k < (gUv st).1 -> (gUv (za6 (gUv st).2 k).2).1 < 9223372036854775808 /\ (gUv (zb3 (za6 (gUv st).2 k).2).2).1 < 9223372036854775808) /\ ∀ p ∈ (zfo st).1, p.1.size <= 1048576 /\ p.2.size <= 1048576
def zdd (st : St) : Prop := zev (zab st).2
def za8 (xs : List UInt8) : Option (List SerD) := zbq 1 zbc xs
theorem zeQ (st : St) : ∀ k, (za6 st k).1.length = k
 | 0 => rfl
 | k + 1 => by
   show ((za6 st k).1 ++ [_]).length = k + 1; rw [zml, zeQ st k]; rfl
theorem zja {st : St} {l : List UInt8} (h : (zb3 st).2 = some l) : ∃ l0, st = some l0 /\ l.length <= l0.length := by
 rcases st with _ | l0
 ·have : zb3 none = (⟨#[]⟩, none) := rfl
  rw [this] at h; cases h
 ·exact ⟨l0, rfl, (zi9 l0 (zb3 (some l0)).1 (zb3 (some l0)).2 rfl).2 l h⟩
theorem zhE (st : St) : ∀ (k : Nat) (l : List UInt8), (za6 st k).2 = some l -> ∃ l0, st = some l0 /\ l.length <= l0.length
 | 0, l, h => ⟨l, h, zmw _⟩
 | k + 1, l, h => by
   obtain ⟨l1, h1, e1⟩ := zja (st := (zb3 (za6 st k).2).2) h; obtain ⟨l2, h2, e2⟩ := zja h1; obtain ⟨l3, h3, e3⟩ := zhE st k l2 h2; exact ⟨l3, h3, by omega⟩
theorem zkZ {st : St} {l : List UInt8} (h : (zfo st).2 = some l) : ∃ l0, st = some l0 /\ l.length < l0.length := by
 obtain ⟨l1, h1, e1⟩ := zhE _ _ _ h; obtain ⟨l2, h2, e2⟩ := zb7 (st := st) h1; exact ⟨l2, h2, by omega⟩
theorem zjW {l0 l : List UInt8} (h : (zbc (some l0)).2 = some l) : l.length < l0.length := by
 obtain ⟨l1, h1, e1⟩ := zkZ h; obtain ⟨l2, h2, e2⟩ := zbK (st := some l0) h1; injection h2 with h2; subst h2; omega
theorem own_DS {w w' : World} {b0 d d2 base e size n : Nat} {v : Value} {xs : List Value} {cs : Array Value} (h : w.ownsRow base e size v n xs) (h1 : e ≠ 108) (h2 : e ≠ 119) (hb : Blk w d 119 cs) (hd : ∀ g, v.ownBlock = some g -> g ≠ d2) (hf : Fr (DS w b0 d d2) w w') : w'.ownsRow base e size v n xs :=
 zaj h hf (fun g hg k => by
  rcases k with k | k | ⟨_, jN, k⟩
  ·exact hd g hg k
  ·exact zak h hb h2 (by rw [hg, k])
  ·exact zak h k h1 hg)
theorem back_S {w w' : World} {o : Option Nat} {b0 d d2 : Nat} (hd2 : w.heap.size <= d2) (h : Fr (fun k => some k = o ∨ zdv w b0 d k) w w') (k : Nat) (hk : k < w.heap.size) (hs : DS w' b0 d d2 k) : some k = o ∨ zdv w b0 d k := by
 rcases Classical.em (some k = o ∨ zdv w b0 d k) with hy | hn
 ·exact hy
 ·rcases hs with rfl | rfl | ⟨hb, cs, hc⟩
  ·omega
  ·exact .inr (.inl rfl)
  ·exact .inr (.inr ⟨hb, cs, (h.block k hk hn).symm.trans hc⟩)
def zcO (b0 d : Nat) (w : World) (base : Nat) (o : Option Nat) (pre : List SerD) (xs : List UInt8) (r : Ending) (w' : World) : Prop :=
 Fr (fun k => some k = o ∨ zdv w b0 d k) w w' /\ match za8 xs with
  | some l => ∃ v', r = .returned (.tuple #[v', .nilIface]) /\ w'.ownsRow base 127 2 v' (pre ++ l).length ((pre ++ l).flatMap ziR)
  | none => ∃ t a, r = .returned (.tuple #[.slice none 0 0, .iface t a])
theorem ze0 {b0 d : Nat} {w w' : World} {base : Nat} {o : Option Nat} {pre : List SerD} {xs : List UInt8} {t : TypeId} {a : Value} (hd : za8 xs = none) (hf : Fr (fun k => some k = o ∨ zdv w b0 d k) w w') : zcO b0 d w base o pre xs (.returned (.tuple #[.slice none 0 0, .iface t a])) w' := by
 unfold zcO; rw [hd]; exact ⟨hf, _, _, rfl⟩
theorem zh5 {b0 d : Nat} {w w' : World} {base : Nat} {o : Option Nat} {pre : List SerD} {xs : List UInt8} {l : List SerD} {v : Value} (hd : za8 xs = some l) (hf : Fr (fun k => some k = o ∨ zdv w b0 d k) w w') (ho : w'.ownsRow base 127 2 v (pre ++ l).length ((pre ++ l).flatMap ziR)) : zcO b0 d w base o pre xs (.returned (.tuple #[v, .nilIface])) w' := by
 unfold zcO; rw [hd]; exact ⟨hf, _, rfl, ho⟩
theorem zjp (te : TypeId) (pe : Value) (b0 d g base : Nat) (cur : Array Value) (pre : List SerD) (xs : List UInt8) (v sv : Value) (w : World) (h : Rec te pe w g cur xs v) (hx : (zaD (some xs)).1 ≠ 1) :
 Calls prog 68 #[.pointer (some ⟨d, 0, none⟩), v, sv] w (zcO b0 d w base sv.ownBlock pre xs) := by
 have hd : za8 xs = none := by
  rcases xs with _ | ⟨b, r⟩
  ·rfl
  ·have : ¬ b = 1 := by rintro rfl; exact hx rfl
   simp [za8, zbq, this]
 unfold zcO; rw [hd]; clear hd; have hD := h.dec; obtain ⟨off, c, rfl, _⟩ := h; have hQ := zbG te pe w.heap.size g cur _ _ hD; have dS : ¬ ((zaD (some xs)).1 : Int) = 1 := by omega
 clear hD hx; generalize (zaD (some xs)).1 = x at hQ dS; generalize (zaD (some xs)).2 = st at hQ; go_enter func68, ntmps68; go_wp2_with (first | (go_at_call 160; refine hQ.mono ?_; rintro r w1 ⟨rfl, cr, ai⟩) | (go_at_call 161; refine (zbP _ _).mono ?_; rintro r w2 ⟨t, a, rfl, ar⟩))
 go_ret2; refine ⟨?_, _, _, rfl⟩; have f1 := (((znq (fun k => some k = sv.ownBlock ∨ zdv w b0 d k) w).alloc (.cells #[.slice (some ⟨g, off, none⟩) xs.length c, .nilIface] 229)).trans ai (fun k hk e => by omega)); exact f1.trans ar (fun _ _ e => e.elim)
theorem zjq (aj : St -> Prop) (hG : ∀ l, aj (some l) -> zdd (some l) /\ aj (zbc (some l)).2) (te : TypeId) (pe : Value) (b0 d g base : Nat) (cur : Array Value) (pre : List SerD) (rest : List UInt8) (v sv : Value) (w : World) (h : Rec te pe w g cur (1 :: rest) v) (ho : w.ownsRow base 127 2 sv pre.length (pre.flatMap ziR)) (hb : 2 < base /\ base <= w.heap.size /\ g < w.heap.size) (bm : pre.length <= 1073741824) (aZ : aj (some rest))
 (lb : List Lab) (ob : ByteArray) (hB : Bld w b0 d lb ob) (fB : b0 <= w.heap.size /\ 2 < b0 /\ b0 <= d) :
 Calls prog 68 #[.pointer (some ⟨d, 0, none⟩), v, sv] w (zcO b0 d w base sv.ownBlock pre (1 :: rest)) := by
 obtain ⟨i0, aD, aA, az, aC⟩ := info_parts info127; have gZ := zmk hG; clear hG; have kv := zmk aZ; clear aZ; have hD := h.dec; obtain ⟨off, c, rfl, _⟩ := h; have hQ := zbG te pe w.heap.size g cur _ _ hD; have e1 : zaD (some (1 :: rest)) = (1, some rest) := rfl; rw [e1] at hQ; have HO := zmk ho; obtain ⟨a', k', rfl⟩ := zaa ho
 have oh : rest.length <= 1099511627776 := by
  obtain ⟨n, off', c', _, _, hn, aQ, _⟩ := hD.open_; have := hn _ rfl; simp at this; omega
 obtain ⟨np, fh⟩ := exE pre.length; have lC := zmk fh; rw [fh] at HO bm ⊢; have HB0 := zmk hB; have hdw : d < w.heap.size := let ⟨_, _, h, _⟩ := hB; h.lt
 clear hD e1 ho fh hB; go_enter func68, ntmps68; go_wp2_with (go_at_call 160; refine hQ.mono ?_; rintro r w1 ⟨rfl, cr, ai⟩; refine Hid.out ?_)
 have F1 : Fr (fun k => some k = (Value.slice a' np k').ownBlock ∨ zdv w b0 d k) w w1 := ((znq (fun k => some k = (Value.slice a' np k').ownBlock ∨ zdv w b0 d k) w).alloc _).trans ai (fun k hk e => by omega); have O1 : w1.ownsRow base 127 2 (.slice a' np k') np (pre.flatMap ziR) := zaj (HO.out.alloc _) ai (fun k hk => by have := zas HO.out hk; omega)
 have B1 : Bld w1 b0 d lb ob := (HB0.out.fr ((znq (fun _ => False) w).alloc _) (fun e => e) (fun _ _ _ e => e)).fr ai (by omega) (fun k hk hc e => by
  obtain ⟨cs, hc⟩ := hc; subst e; have := znr w 229 #[.slice (some ⟨g, off, none⟩) (1 :: rest).length c, .nilIface]
  exact zns hc this (by decide) rfl)
 have bA := F1.size; have eM : ∀ k, (Value.slice a' np k').ownBlock = some k -> k < w.heap.size := fun k hk => zas HO.out hk; have cd := zmk F1; have dg := zmk O1; have cD := zmk B1; have aT := zmk cr; have ig := zmk eM; clear cr ai hQ F1 O1 eM B1; refine zmk ?_; go_wp2_with fail
 go_loopw [2] (fun sv wr => ∃ (st : St) (acc : List SerD) (j : Nat), Hid (Dec te pe wr w.heap.size g cur st) /\ Hid (wr.ownsRow base 127 2 sv (np + acc.length) ((pre ++ acc).flatMap ziR)) /\ Hid (Fr (fun k => some k = (Value.slice a' np k').ownBlock ∨ zdv w b0 d k) w wr) /\ Hid (∀ k, sv.ownBlock = some k -> (some k = (Value.slice a' np k').ownBlock ∨ w.heap.size < k)) /\
  Hid (zad zbc j st acc = zad zbc rest.length (some rest) []) /\ Hid (∀ l, st = some l -> l.length <= j /\ acc.length + l.length <= rest.length) /\ acc.length <= rest.length + 1 /\ Hid (aj st) /\ Hid (∃ lb ob, Bld wr b0 d lb ob)) (fun _ wr => zix w.heap.size wr)
 case atStart => exact ⟨some rest, [], rest.length, aT, zmk (by simpa using dg.out), cd, zmk (fun k hk => .inl hk.symm), zmk rfl, zmk (fun l hl => by cases hl; simp), by simp, kv, zmk ⟨_, _, cD.out⟩⟩
 case round =>
  obtain ⟨st, acc, j, HD, HO, HF, HB, HE, HL, mn, nU, mD⟩ := hrel; obtain ⟨n6, io, c6, p0, p1, cN, aQ, hd, hg, h2⟩ := HD.out.open_; have hE := zg6 te pe _ _ _ _ _ HD.out; obtain ⟨a6, k6, rfl⟩ := zaa HO.out; rcases st with _ | l
  ·clear cN p1
   have aI : zad zbc rest.length (some rest) [] = (acc, none) := by rw [<- HE.out]; unfold zad; rcases j with _ | j <;> rfl
   have HR := zmk (show za8 (1 :: rest) = none from zc2 aI); clear aI; simp only [zjH] at hE; rcases zmH n6 with rfl | om
   ·go_wp2_with (go_at_call 119; refine hE.mono ?_; rintro r w7 ⟨rfl, rfl⟩)
    go_ret2; exact ze0 HR.out HF.out
   ·have bV : (0 : Int) < (n6 : Int) := by omega
    go_wp2_with (go_at_call 119; refine hE.mono ?_; rintro r w7 ⟨rfl, rfl⟩)
    go_ret2; exact ze0 HR.out HF.out
  ·obtain rfl : n6 = l.length := cN l rfl
   simp only [zjH] at hE; rcases l with _ | ⟨x, r⟩
   ·have aI : zad zbc rest.length (some rest) [] = (acc, some []) := by rw [<- HE.out]; unfold zad; rcases j with _ | j <;> rfl
    have HR := zmk (show za8 (1 :: rest) = some acc from zc1 aI); clear aI cN p1; simp only [znd] at p0; go_wp2_with (go_at_call 119; refine hE.mono ?_; rintro r w7 ⟨rfl, rfl⟩)
    go_ret2; refine zh5 HR.out HF.out ?_; have h := HO.out; rw [zml, lC.out]; exact h
   ·obtain ⟨n7, bV⟩ := exE ((x :: r).length)
    have ma : (0 : Int) < (n7 : Int) := by rw [<- bV]; simp
    have gg := HL.out _ rfl; have hM := zbu HD.out; rw [bV] at p0 gg hM; have cS := zcF te pe _ _ _ _ _ HD.out; obtain ⟨aY, bR⟩ := gZ.out _ nU.out; have eU := zmk bV; obtain ⟨S0, gK⟩ : ∃ S0 : St, some (x :: r) = S0 := ⟨_, rfl⟩; rw [gK] at cS aY bR; have gW := zmk gK; have nW := zmk bR; obtain ⟨v0, eX⟩ := exE ((zab S0).1)
    obtain ⟨S1, hS1⟩ := exE ((zab S0).2); rw [eX, hS1] at cS; unfold zdd at aY; rw [hS1] at aY; have ik := zmk aY; have nM := zmk (znc eX hS1); clear cN p1 bV gK bR aY eX hS1; have og := HF.out.size
    go_wp2_with (first
     | (go_at_call 119; refine hE.mono ?_; rintro r w7 ⟨rfl, rfl⟩)
     | (go_at_call 162; refine cS.mono ?_; rintro r w8 ⟨rfl, fC, cA⟩; refine Hid.out ?_))
    obtain ⟨lb8, ob8, ch⟩ := mD.out; obtain ⟨cs8, fo, _, _⟩ := zb8 HD.out; have iJ := zhY ch fo cA; have hs8 := cA.size; obtain ⟨LN, lj⟩ := exE ((gUv S1).1); obtain ⟨S2, hS2⟩ := exE ((gUv S1).2); have iy := ik.out; unfold zev zfo at iy; rw [lj, hS2] at iy
    have hX := zdB te pe b0 d w.heap.size g cur lb8 ob8 S1 w8 iJ fC (by omega) (by omega) (by omega) LN S2 (Prod.ext lj hS2) iy.1 iy.2.1 iy.2.2 (zeQ S2); have pE : zfo S1 = za6 S2 LN := by unfold zfo; rw [lj, hS2]
    rw [<- pE] at hX; obtain ⟨ll, dh⟩ := exE ((zfo S1).1); obtain ⟨S3, hS3⟩ := exE ((zfo S1).2); rw [dh, hS3] at hX; obtain ⟨bO, gv⟩ := exE (zau ll)
    have O8 : w8.ownsRow base 127 2 (.slice a6 (np + acc.length) k6) (np + acc.length) ((pre ++ acc).flatMap ziR) := zaj HO.out cA (fun k hk e => by
     rcases HB.out k hk with h | h
     ·have := ig.out k h.symm; omega
     ·omega)
    have F8 : Fr (fun k => some k = (Value.slice a' np k').ownBlock ∨ zdv w b0 d k) w w8 := HF.out.trans cA (fun k hk e => by omega); have mE := zmk (show ∃ cs, Blk w8 d 119 cs from let ⟨_, _, h, _⟩ := iJ; ⟨_, h⟩); rw [gv] at hX; have HX := zmk hX; have iP := zmk O8; have jV := zmk F8; have jc := zmk (znc dh (znc hS3 gv))
    clear hX O8 F8 dh hS3 gv pE iy lj hS2 iJ fo ch fC cA cS p0; refine zmk ?_
    go_wp2_with (first
     | (go_at_call 117; refine HX.out.mono ?_; rintro r w9 ⟨rfl, fe, dY, iJ⟩; have qz := zmk fe; have nJ := zmk dY; have qD := zmk iJ; clear fe dY iJ)
     | (at_builtin; refine Hid.out ?_))
    obtain ⟨cs9, fm⟩ := mE.out; have hs9 := nJ.out.size
    have O9 : w9.ownsRow base 127 2 (.slice a6 (np + acc.length) k6) (np + acc.length) ((pre ++ acc).flatMap ziR) := own_DS iP.out (by decide) (by decide) fm (fun k hk => by
     rcases HB.out k hk with h | h
     ·have := ig.out k h.symm; omega
     ·omega) nJ.out
    have F9 : Fr (fun k => some k = (Value.slice a' np k').ownBlock ∨ zdv w b0 d k) w w9 := jV.out.trans nJ.out (fun k hk e => back_S (zmw _) jV.out k hk e); have cR := zmk O9; have dP := zmk F9; obtain ⟨q0, q1⟩ := nM.out; obtain ⟨q2, q3, q4⟩ := jc.out; have ba : zbc S0 = (⟨v0, ll⟩, S3) := by unfold zbc; rw [q0, q1, q2, q3]
    have dk : Hid (∀ j', j = j' + 1 -> zad zbc j' S3 (acc ++ [⟨v0, ll⟩]) = zad zbc rest.length (some rest) []) := zmk (by
     rintro j' rfl; have h := HE.out; have h2 : zad zbc (j' + 1) (some (x :: r)) acc = zad zbc j' (zbc (some (x :: r))).2 (acc ++ [(zbc (some (x :: r))).1]) := rfl; rw [h2, gW.out, ba] at h
     exact h)
    have bd : Hid (∀ l, S3 = some l -> l.length < n7) := zmk (fun l hl => by
     have h := zjW (l0 := x :: r) (l := l) (by rw [gW.out, ba]; exact hl)
     rw [eU.out] at h; exact h)
    have nV : Hid (aj S3) := zmk (by have h := nW.out; rw [ba] at h; exact h); have qU := zmk q4; clear O9 F9 q0 q1 q2 q3 q4 ba hE fm; refine zmk ?_
    refine zaf _ rfl _ _ 121 121 rfl base 127 i0 _ 2 24 underlying121 aD aA az aC rfl (by decide) (.slice a6 (np + acc.length) k6) (np + acc.length) ((pre ++ acc).flatMap ziR) rfl ((cR.out.alloc _).alloc _) _ 1 [.int .u64 v0, .string bO] rfl (zaH underlying121 (zaK w9 _ 127 #[.int .u64 v0, .string bO]) rfl (by simp [Value.oneCell'])) (by unfold maxLen; omega) (by omega) (by simp; omega) ?_
    intro v' w2 ac ad ax
    obtain ⟨a9, k9, rfl⟩ := zaa ac
    have aV : ∀ k, (Value.slice a6 (np + acc.length) k6).ownBlock = some k -> base <= k /\ k ≠ w.heap.size := fun k hk => ⟨(cR.out.lt k hk).1, by
     rcases HB.out k hk with h | h
     ·have := ig.out k h.symm; omega
     ·omega⟩
    have ip := ad.size; simp at ip; have fG : Fr (fun k => some k = (Value.slice a6 (np + acc.length) k6).ownBlock) w9 w2 := (((znq (fun k => some k = (Value.slice a6 (np + acc.length) k6).ownBlock) w9).alloc _).alloc _).grown ad (fun k hk => .inl hk.symm); obtain ⟨qo, iD, fQ, _⟩ := zb8 qz.out
    have rD : Dec te pe w2 w.heap.size g cur S3 := qz.out.fr fG (fun e => (aV _ e.symm).2 rfl) (fun e => zak cR.out fQ (by decide) e.symm) (fun e => by have := (aV _ e.symm).1; omega); have oN : Bld w2 b0 d ll bO := by
     have h2 := qD.out; obtain ⟨_, _, lf, _⟩ := h2; exact qD.out.fr fG (fun e => zak cR.out lf (by decide) e.symm) (fun g' _ hc e => by obtain ⟨cs, hc⟩ := hc; exact zak cR.out hc (by decide) e.symm)
    have rO : w2.ownsRow base 127 2 (.slice a9 (np + acc.length + 1) k9) (np + (acc ++ [(⟨v0, ll⟩ : SerD)]).length) ((pre ++ (acc ++ [(⟨v0, ll⟩ : SerD)])).flatMap ziR) := by
     rw [<- zmn, zmT, zml, zmB]; simpa [ziR, qU.out, Nat.add_assoc] using ac
    have rF : Fr (fun k => some k = (Value.slice a' np k').ownBlock ∨ zdv w b0 d k) w w2 := dP.out.trans fG (fun k hk e => by
     rcases HB.out k e.symm with h | h
     ·exact .inl h
     ·omega)
    have rB : ∀ k, (Value.slice a9 (np + acc.length + 1) k9).ownBlock = some k -> (some k = (Value.slice a' np k').ownBlock ∨ w.heap.size < k) := fun k hk => by
     rcases ax with h | h
     ·exact HB.out k (h ▸ hk)
     ·rw [h] at hk; injection hk with hk; simp at hk; exact .inr (by omega)
    have rM : zix w.heap.size w2 < n7 + 1 := by
     rcases S3 with _ | l9
     ·rw [zdc rD]; omega
     ·rw [zbu rD]; have := bd.out l9 rfl; omega
    have RD := zmk rD; have RO := zmk rO; have RF := zmk rF; have RB := zmk rB; have RBL : Hid (∃ lb ob, Bld w2 b0 d lb ob) := zmk ⟨_, _, oN⟩; clear rD rO rF rB oN ac ad ax aV fG iD fQ; go_wp2; go_roundw
    case rel =>
     obtain ⟨j', rfl⟩ : ∃ j', j = j' + 1 := ⟨j - 1, by have := eU.out; simp at this; omega⟩; refine ⟨S3, acc ++ [⟨v0, ll⟩], j', RD, RO, RF, RB, zmk (dk.out j' rfl), zmk (fun l hl => ?_), by simp; omega, nV, RBL⟩; have := bd.out l hl; rw [zml, zmB]; omega
    case measure => rw [hM]; exact rM
theorem zkE (aj : St -> Prop) (hG : ∀ l, aj (some l) -> zdd (some l) /\ aj (zbc (some l)).2) (te : TypeId) (pe : Value) (b0 d g base : Nat) (cur : Array Value) (pre : List SerD) (xs : List UInt8) (v sv : Value) (w : World) (h : Rec te pe w g cur xs v) (ho : w.ownsRow base 127 2 sv pre.length (pre.flatMap ziR)) (hb : 2 < base /\ base <= w.heap.size /\ g < w.heap.size) (bm : pre.length <= 1073741824) (aZ : ∀ r, xs = 1 :: r -> aj (some r))
 (lb : List Lab) (ob : ByteArray) (hB : Bld w b0 d lb ob) (fB : b0 <= w.heap.size /\ 2 < b0 /\ b0 <= d) :
 Calls prog 68 #[.pointer (some ⟨d, 0, none⟩), v, sv] w (zcO b0 d w base sv.ownBlock pre xs) := by
 by_cases hx : (zaD (some xs)).1 = 1
 ·rcases xs with _ | ⟨b, rest⟩
  ·exact absurd hx (by decide)
  ·have hb2 : b = 1 := by
    have : b.toNat = (1 : UInt8).toNat := hx; exact UInt8.toNat_inj.1 this
   subst hb2; exact zjq aj hG te pe b0 d g base cur pre rest v sv w h ho hb bm (aZ _ rfl) lb ob hB fB
 ·exact zjp te pe b0 d g base cur pre xs v sv w h hx
end Go.Proofs.YtbkookiigkckdaaGreatDoor
