/- Texts of this seat, merged and shortened. -/
import Derived.Test.YtbkookiigkckdaaGreatDoorK04
set_option linter.unusedVariables false
set_option linter.unusedSimpArgs false
set_option maxRecDepth 100000
set_option maxHeartbeats 8000000
namespace Go.Proofs.YtbkookiigkckdaaGreatDoor
open Go.RowKit Go.Proofs.Tryz
def zbh (w : World) (base : Nat) (o : Option Nat) (pre : List Mrk) (xs : List UInt8) (r : Ending) (w' : World) : Prop :=
 Fr (fun k => some k = o) w w' /\ match zaG xs with
  | some l => ∃ v', r = .returned (.tuple #[v', .nilIface]) /\ w'.ownsRow base 166 2 v' (pre ++ l).length ((pre ++ l).flatMap Mrk.c)
  | none => ∃ t a, r = .returned (.tuple #[.slice none 0 0, .iface t a])
theorem zd3 {w w' : World} {base : Nat} {o : Option Nat} {pre : List Mrk} {xs : List UInt8} {t : TypeId} {a : Value} (hd : zaG xs = none) (hf : Fr (fun k => some k = o) w w') : zbh w base o pre xs (.returned (.tuple #[.slice none 0 0, .iface t a])) w' := by
 unfold zbh; rw [hd]; exact ⟨hf, _, _, rfl⟩
theorem zd2 {w w' : World} {base : Nat} {o : Option Nat} {pre : List Mrk} {xs : List UInt8} {l : List Mrk} {v : Value} (hd : zaG xs = some l) (hf : Fr (fun k => some k = o) w w') (ho : w'.ownsRow base 166 2 v (pre ++ l).length ((pre ++ l).flatMap Mrk.c)) : zbh w base o pre xs (.returned (.tuple #[v, .nilIface])) w' := by
 unfold zbh; rw [hd]; exact ⟨hf, _, rfl, ho⟩
theorem zjM {l0 l : List UInt8} (h : (zbU (some l0)).2 = some l) : l.length < l0.length := by
 obtain ⟨l1, h1, qw⟩ := zbJ (st := (zac (some l0)).2) h; obtain ⟨l2, h2, qv⟩ := zbJ (st := some l0) h1; injection h2 with h2; subst h2; omega
theorem zgM (te : TypeId) (pe : Value) (dv : Value) (g base : Nat) (cur : Array Value) (pre : List Mrk) (xs : List UInt8) (v sv : Value) (w : World) (h : Rec te pe w g cur xs v) (hx : (zaC (some xs)).1 ≠ 5) :
 Calls prog 79 #[dv, v, sv] w (zbh w base sv.ownBlock pre xs) := by
 have hd : zaG xs = none := by
  rcases xs with _ | ⟨b, r⟩
  ·rfl
  ·have : ¬ b = 5 := by rintro rfl; exact hx rfl
   simp [zaG, zbq, this]
 unfold zbh; rw [hd]; clear hd; have hD := h.dec; obtain ⟨off, c, rfl, _⟩ := h; have hQ := zbt te pe w.heap.size g cur _ _ hD; have dW : ¬ ((zaC (some xs)).1 : Int) = 5 := by omega
 clear hD hx; generalize (zaC (some xs)).1 = x at hQ dW; generalize (zaC (some xs)).2 = st at hQ; go_enter func79, ntmps79; go_wp2_with (first | (go_at_call 160; refine hQ.mono ?_; rintro r w1 ⟨rfl, cz, ag⟩) | (go_at_call 161; refine (zbR _ _).mono ?_; rintro r w2 ⟨t, a, rfl, ar⟩))
 go_ret2; refine ⟨?_, _, _, rfl⟩; have f1 := (((zmR (fun k => some k = sv.ownBlock) w).alloc (.cells #[.slice (some ⟨g, off, none⟩) xs.length c, .nilIface] 229)).trans ag (fun k hk e => by omega)); exact f1.trans ar (fun _ _ e => e.elim)
theorem zfH (te : TypeId) (pe : Value) (dv : Value) (g base : Nat) (cur : Array Value) (pre : List Mrk) (v sv : Value) (w : World) (h : Rec te pe w g cur [5] v) (ho : w.ownsRow base 166 2 sv pre.length (pre.flatMap Mrk.c)) (hb : g < base /\ 2 < base) :
 Calls prog 79 #[dv, v, sv] w (zbh w base sv.ownBlock pre [5]) := by
 have hD := h.dec; obtain ⟨off, c, rfl, _⟩ := h; have hQ := zbt te pe w.heap.size g cur _ _ hD; have e1 : zaC (some [(5 : UInt8)]) = (5, some []) := rfl; rw [e1] at hQ; have HO := zlM ho; obtain ⟨a', n', k', rfl⟩ := zab ho; clear hD e1 ho; go_enter func79, ntmps79
 go_wp2_with (first | (go_at_call 160; refine hQ.mono ?_; rintro r w1 ⟨rfl, cz, ag⟩; have hL := ze7 te pe _ _ _ _ _ cz) | (go_at_call 118; refine hL.mono ?_; rintro r w2 ⟨n, rfl, hn, _, rfl⟩; have fQ := hn _ rfl; subst fQ))
 go_ret2; refine zd2 (l := []) rfl (((zmR _ w).alloc _).trans ag (fun k hk e => by omega)) ?_; rw [zl8]; exact zai (HO.out.alloc _) ag (fun k hk => by have := zar HO.out hk; omega)
theorem zcX {α : Type} {t : UInt8} {step : St -> α × St} {rest s : List UInt8} {l : List α} (h : zaj step rest.length (some rest) [] = (l, some s)) : zbq t step (t :: rest) = some l := by rw [zbq, if_pos rfl, h]
theorem zcY {α : Type} {t : UInt8} {step : St -> α × St} {rest : List UInt8} {l : List α} (h : zaj step rest.length (some rest) [] = (l, none)) : zbq t step (t :: rest) = none := by rw [zbq, if_pos rfl, h]
theorem zgN (te : TypeId) (pe : Value) (dv : Value) (g base : Nat) (cur : Array Value) (pre : List Mrk) (rest : List UInt8) (bD : rest ≠ []) (v sv : Value) (w : World) (h : Rec te pe w g cur (5 :: rest) v) (ho : w.ownsRow base 166 2 sv pre.length (pre.flatMap Mrk.c)) (hb : g < base /\ 2 < base /\ base <= w.heap.size) (bj : pre.length <= 1073741824) :
 Calls prog 79 #[dv, v, sv] w (zbh w base sv.ownBlock pre (5 :: rest)) := by
 obtain ⟨i0, aB, ay, ax, aA⟩ := info_parts info166; have hD := h.dec; obtain ⟨off, c, rfl, _⟩ := h; have hQ := zbt te pe w.heap.size g cur _ _ hD; have e1 : zaC (some (5 :: rest)) = (5, some rest) := rfl; rw [e1] at hQ; have HO := zlM ho; obtain ⟨a', k', rfl⟩ := zaa ho; have ox : rest.length <= 1099511627776 := by
  obtain ⟨n, off', c', _, _, hn, aR, _⟩ := hD.open_; have := hn _ rfl; simp at this; omega
 have hr0 : 0 < rest.length := List.length_pos_iff.2 bD; have hr1 : ((rest.length : Int) == 0) = false := by simp; omega
 obtain ⟨np, fj⟩ := exE pre.length; have lC := zlM fj; rw [fj] at HO bj ⊢; clear hD e1 ho bD fj; go_enter func79, ntmps79
 go_wp2_with (first
  | (go_at_call 160; refine hQ.mono ?_; rintro r w1 ⟨rfl, cz, ag⟩; have hL := ze7 te pe _ _ _ _ _ cz)
  | (go_at_call 118; refine hL.mono ?_; rintro r w2 ⟨n, rfl, hn, _, rfl⟩; have fQ : n = rest.length := hn _ rfl; subst fQ; clear hL; refine Hid.out ?_))
 have F1 : Fr (fun k => some k = (Value.slice a' np k').ownBlock) w w1 := ((zmR (fun k => some k = (Value.slice a' np k').ownBlock) w).alloc _).trans ag (fun k hk e => by omega); have O1 : w1.ownsRow base 166 2 (.slice a' np k') np (pre.flatMap Mrk.c) := zai (HO.out.alloc _) ag (fun k hk => by have := zar HO.out hk; omega); have bw := F1.size
 have eP : ∀ k, (Value.slice a' np k').ownBlock = some k -> k < w.heap.size := fun k hk => zar HO.out hk; have cd := zlM F1; have dk := zlM O1; have aI := zlM cz; have hN := zlM eP; clear cz ag hQ F1 O1 eP; refine zlM ?_; go_wp2_with fail
 go_loopw [2] (fun sv wr => ∃ (st : St) (acc : List Mrk) (j : Nat), Hid (Dec te pe wr w.heap.size g cur st) /\ Hid (wr.ownsRow base 166 2 sv (np + acc.length) ((pre ++ acc).flatMap Mrk.c)) /\ Hid (Fr (fun k => some k = (Value.slice a' np k').ownBlock) w wr) /\ Hid (∀ k, sv.ownBlock = some k -> (some k = (Value.slice a' np k').ownBlock ∨ w.heap.size < k)) /\
  Hid (zaj zbU j st acc = zaj zbU rest.length (some rest) []) /\ Hid (∀ l, st = some l -> l.length <= j /\ acc.length + l.length <= rest.length) /\ acc.length <= rest.length + 1) (fun _ wr => zic w.heap.size wr)
 case atStart => exact ⟨some rest, [], rest.length, aI, zlM (by simpa using dk.out), cd, zlM (fun k hk => .inl hk.symm), zlM rfl, zlM (fun l hl => by cases hl; simp), by simp⟩
 case round =>
  obtain ⟨st, acc, j, HD, HO, HF, HB, HE, HL, mj⟩ := hrel; obtain ⟨n6, iw, c6, p0, p1, cQ, aR, hd, hg, h2⟩ := HD.out.open_; have hE := zgO te pe _ _ _ _ _ HD.out; obtain ⟨a6, k6, rfl⟩ := zaa HO.out; rcases st with _ | l
  ·clear cQ p1
   have aJ : zaj zbU rest.length (some rest) [] = (acc, none) := by rw [<- HE.out]; unfold zaj; rcases j with _ | j <;> rfl
   have HR := zlM (show zaG (5 :: rest) = none from zcY aJ); clear aJ; simp only [zjj] at hE; rcases zl9 n6 with rfl | oz
   ·go_wp2_with (first | (go_at_call 119; refine hE.mono ?_; rintro r w7 ⟨rfl, rfl⟩) | (go_at_call 161; refine (zbR _ _).mono ?_; rintro r w8 ⟨t, ae, rfl, cJ⟩))
    go_ret2; exact zd3 HR.out (HF.out.trans cJ (fun _ _ e => e.elim))
   ·have bW : (0 : Int) < (n6 : Int) := by omega
    go_wp2_with (first | (go_at_call 119; refine hE.mono ?_; rintro r w7 ⟨rfl, rfl⟩) | (go_at_call 161; refine (zbR _ _).mono ?_; rintro r w8 ⟨t, ae, rfl, cJ⟩))
    go_ret2; exact zd3 HR.out (HF.out.trans cJ (fun _ _ e => e.elim))
  ·obtain rfl : n6 = l.length := cQ l rfl
   simp only [zjj] at hE; rcases l with _ | ⟨x, r⟩
   ·have aJ : zaj zbU rest.length (some rest) [] = (acc, some []) := by rw [<- HE.out]; unfold zaj; rcases j with _ | j <;> rfl
    have HR := zlM (show zaG (5 :: rest) = some acc from zcX aJ); clear aJ cQ p1; simp only [zmE] at p0; go_wp2_with (go_at_call 119; refine hE.mono ?_; rintro r w7 ⟨rfl, rfl⟩)
    go_ret2; refine zd2 HR.out HF.out ?_; have h := HO.out; rw [zlN, lC.out]; exact h
   ·obtain ⟨n7, bW⟩ := exE ((x :: r).length)
    have lY : (0 : Int) < (n7 : Int) := by rw [<- bW]; simp
    have gj := HL.out _ rfl; have hM := zbr HD.out; rw [bW] at p0 gj hM; have cV := zcE te pe _ _ _ _ _ HD.out; have eW := zlM bW; clear cQ p1 bW
    go_wp2_with (first
     | (go_at_call 119; refine hE.mono ?_; rintro r w7 ⟨rfl, rfl⟩)
     | (go_at_call 162; refine cV.mono ?_; rintro r w8 ⟨rfl, fE, cJ⟩; refine Hid.out ?_))
    have s8 := cJ.size; have D8 := zlM fE; have il := zcE te pe _ _ _ _ _ fE; have F8 := zlM cJ; clear fE cJ cV p0; refine zlM ?_; go_wp2_with (go_at_call 162; refine il.mono ?_; rintro r w9 ⟨rfl, ff, ef⟩; refine Hid.out ?_)
    have FA : Fr (fun k => k = w.heap.size) wr w9 := F8.out.same ef; have sA := FA.size; have DA := zlM ff; have dS := zlM FA
    have OA : w9.ownsRow base 166 2 (.slice a6 (np + acc.length) k6) (np + acc.length) ((pre ++ acc).flatMap Mrk.c) := zai HO.out FA (fun k hk e => by
     rcases HB.out k hk with h | h
     ·have := hN.out k h.symm; omega
     ·omega)
    have cU := zlM OA; clear ff ef il FA OA D8 F8; refine zlM ?_
    go_wp2_with (first
     | (at_builtin; refine Hid.out ?_))
    have dd : (#[Value.int IntKind.u64 (zac (some (x :: r))).1, Value.int IntKind.u64 (zac (zac (some (x :: r))).2).1] : Array Value) = (Mrk.c (zbU (some (x :: r))).1).toArray := rfl; rw [dd]; have bX : ∀ l, (zbU (some (x :: r))).2 = some l -> l.length < n7 := fun l hl => eW.out ▸ zjM hl; have im : Dec te pe w9 w.heap.size g cur (zbU (some (x :: r))).2 := DA.out
    have dr : Hid (∀ j', j = j' + 1 -> zaj zbU j' (zbU (some (x :: r))).2 (acc ++ [(zbU (some (x :: r))).1]) = zaj zbU rest.length (some rest) []) := zlM (by rintro j' rfl; exact HE.out); clear dd DA hE HE; generalize zbU (some (x :: r)) = S at im bX dr ⊢; obtain ⟨s1, jj⟩ := S; simp only [] at im bX dr ⊢; have gQ := zlM im
    have b8 := zlM bX; clear im bX; refine zlM ?_
    refine zae _ rfl _ _ 160 160 rfl base 166 i0 _ 2 16 underlying160 aB ay ax aA rfl (by decide) (.slice a6 (np + acc.length) k6) (np + acc.length) ((pre ++ acc).flatMap Mrk.c) rfl (cU.out.alloc _) _ 1 (Mrk.c s1) rfl (zaF underlying160 (zmS w9 166 (Mrk.c s1).toArray) rfl (by simp [Mrk.c, Value.oneCell'])) (by unfold maxLen; omega) (by omega) (by simp; omega) ?_
    intro v' w2 ac ad aw
    obtain ⟨a9, k9, rfl⟩ := zaa ac
    have aU : ∀ k, (Value.slice a6 (np + acc.length) k6).ownBlock = some k -> base <= k /\ k ≠ w.heap.size := fun k hk => ⟨(cU.out.lt k hk).1, by
     rcases HB.out k hk with h | h
     ·have := hN.out k h.symm; omega
     ·omega⟩
    have iy := ad.size; simp at iy; have fG : Fr (fun k => some k = (Value.slice a6 (np + acc.length) k6).ownBlock) w9 w2 := ((zmR (fun k => some k = (Value.slice a6 (np + acc.length) k6).ownBlock) w9).alloc _).grown ad (fun k hk => .inl hk.symm)
    have rD : Dec te pe w2 w.heap.size g cur jj := gQ.out.fr fG (fun e => (aU _ e.symm).2 rfl) (fun e => by have := (aU _ e.symm).1; omega) (fun e => by have := (aU _ e.symm).1; omega); have rO : w2.ownsRow base 166 2 (.slice a9 (np + acc.length + 1) k9) (np + (acc ++ [s1]).length) ((pre ++ (acc ++ [s1])).flatMap Mrk.c) := by
     rw [<- zlP, zml, zlN, zl3]; simpa [Nat.add_assoc] using ac
    have rF : Fr (fun k => some k = (Value.slice a' np k').ownBlock) w w2 := (HF.out.trans dS.out (fun k hk e => by omega)).trans fG (fun k hk e => by
     rcases HB.out k e.symm with h | h
     ·exact h
     ·omega)
    have rB : ∀ k, (Value.slice a9 (np + acc.length + 1) k9).ownBlock = some k -> (some k = (Value.slice a' np k').ownBlock ∨ w.heap.size < k) := fun k hk => by
     rcases aw with h | h
     ·exact HB.out k (h ▸ hk)
     ·rw [h] at hk; injection hk with hk; simp at hk; exact .inr (by omega)
    have rM : zic w.heap.size w2 < n7 + 1 := by
     rcases jj with _ | l9
     ·rw [zc8 rD]; omega
     ·rw [zbr rD]; have := b8.out l9 rfl; omega
    have RD := zlM rD; have RO := zlM rO; have RF := zlM rF; have RB := zlM rB; clear rD rO rF rB ac ad aw aU fG; go_wp2; go_roundw
    case rel =>
     obtain ⟨j', rfl⟩ : ∃ j', j = j' + 1 := ⟨j - 1, by have := eW.out; simp at this; omega⟩; refine ⟨jj, acc ++ [s1], j', RD, RO, RF, RB, zlM (dr.out j' rfl), zlM (fun l hl => ?_), by simp; omega⟩; have := b8.out l hl; rw [zlN, zl3]; omega
    case measure => rw [hM]; exact rM
theorem zhc (te : TypeId) (pe : Value) (dv : Value) (g base : Nat) (cur : Array Value) (pre : List Mrk) (xs : List UInt8) (v sv : Value) (w : World) (h : Rec te pe w g cur xs v) (ho : w.ownsRow base 166 2 sv pre.length (pre.flatMap Mrk.c)) (hb : g < base /\ 2 < base /\ base <= w.heap.size) (bj : pre.length <= 1073741824) :
 Calls prog 79 #[dv, v, sv] w (zbh w base sv.ownBlock pre xs) := by
 by_cases hx : (zaC (some xs)).1 = 5
 ·rcases xs with _ | ⟨b, rest⟩
  ·exact absurd hx (by decide)
  ·have hb2 : b = 5 := by
    have : b.toNat = (5 : UInt8).toNat := hx; exact UInt8.toNat_inj.1 this
   subst hb2; by_cases hr : rest = []
   ·subst hr; exact zfH te pe dv g base cur pre v sv w h ho ⟨hb.1, hb.2.1⟩
   ·exact zgN te pe dv g base cur pre rest hr v sv w h ho hb bj
 ·exact zgM te pe dv g base cur pre xs v sv w h hx
end Go.Proofs.YtbkookiigkckdaaGreatDoor
namespace Go.Proofs.YtbkookiigkckdaaGreatDoor
open Go.Proofs.Tryz
def zhU {α} (lt : α -> α -> Bool) (x : α) (out : List α) : Nat -> Nat
 | 0 => 0
 | k + 1 => match out[k]? with
   | some y => if lt x y = true then zhU lt x out k else k + 1
   | none => k + 1
def zjh {α} (lt : α -> α -> Bool) (out : List α) (x : α) : List α := out.take (zhU lt x out out.length) ++ x :: out.drop (zhU lt x out out.length)
def ziF {α} (lt : α -> α -> Bool) (l : List α) : List α := l.foldl (zjh lt) []
theorem lpos_le {α} (lt : α -> α -> Bool) (x : α) (out : List α) : ∀ k, zhU lt x out k <= k
 | 0 => zlY _
 | k + 1 => by
   unfold zhU; split
   ·split
    ·exact Nat.le_succ_of_le (lpos_le lt x out k)
    ·exact zlY _
   ·exact zlY _
theorem zgo {α} (lt : α -> α -> Bool) (x : α) (out : List α) : ∀ k j y, zhU lt x out k <= j -> j < k -> out[j]? = some y -> lt x y = true
 | 0, j, y, _, h, _ => by omega
 | k + 1, j, y, h1, h2, hy => by
   unfold zhU at h1; split at h1
   ·rename_i z hz
    split at h1
    ·rename_i hlt
     by_cases e : j = k
     ·subst e; rw [hy] at hz; injection hz with hz; subst hz; exact hlt
     ·exact zgo lt x out k j y h1 (by omega) hy
    ·omega
   ·omega
theorem zgp {α} (lt : α -> α -> Bool) (x : α) (out : List α) : ∀ k p, k <= out.length -> zhU lt x out k = p + 1 -> ∃ y, out[p]? = some y /\ lt x y = false
 | 0, p, _, h => by simp [zhU] at h
 | k + 1, p, hk, h => by
   unfold zhU at h; split at h
   ·rename_i z hz
    split at h
    ·exact zgp lt x out k p (by omega) h
    ·rename_i hlt
     injection h with h; subst h; exact ⟨z, hz, by simpa using hlt⟩
   ·rename_i hz
    rw [List.getElem?_eq_none_iff] at hz; omega
theorem ziG {α} (lt : α -> α -> Bool) (out : List α) (x : α) : (zjh lt out x).Perm (x :: out) := by
 unfold zjh; refine List.perm_middle.trans ?_; rw [List.take_append_drop]
theorem zjO {α} (lt : α -> α -> Bool) (ht : ∀ a b c, lt a b = true -> lt b c = true -> lt a c = true) (hi : ∀ a, lt a a = false) (hn : ∀ a b c, lt a b = false -> lt b c = false -> lt a c = false)
 (out : List α) (x : α) (h : out.Pairwise (fun a b => lt b a = false)) : (zjh lt out x).Pairwise (fun a b => lt b a = false) := by
 have qf : ∀ a b, lt a b = true -> lt b a = false := fun a b hab => by
  cases e : lt b a with
  | false => rfl
  | true => have := ht a b a hab e; rw [hi] at this; cases this
 unfold zjh; obtain ⟨p, hp⟩ := exE (zhU lt x out out.length); rw [hp]; have bN := lpos_le lt x out out.length; rw [hp] at bN; have ld : ∀ y ∈ out.drop p, lt x y = true := fun y hy => by
  obtain ⟨j, hj⟩ := List.mem_iff_getElem?.mp hy; rw [List.getElem?_drop] at hj; have hlt := (List.getElem?_eq_some_iff.mp hj).1; exact zgo lt x out out.length (p + j) y (by omega) hlt hj
 have le : ∀ y ∈ out.take p, lt x y = false := fun y hy => by
  obtain ⟨j, hj⟩ := List.mem_iff_getElem?.mp hy; rw [List.getElem?_take] at hj; split at hj
  ·rename_i hjp
   obtain ⟨q, rfl⟩ : ∃ q, p = q + 1 := ⟨p - 1, by omega⟩; obtain ⟨z, hz, hxz⟩ := zgp lt x out out.length q (zlY _) hp; by_cases e : j = q
   ·subst e; rw [hj] at hz; injection hz with hz; subst hz; exact hxz
   ·have hq := (List.getElem?_eq_some_iff.mp hz)
    have hjj := (List.getElem?_eq_some_iff.mp hj); obtain ⟨eZ, kK⟩ := hq; obtain ⟨hj1, pM⟩ := hjj; have := List.pairwise_iff_getElem.mp h j q hj1 eZ (by omega); rw [kK, pM] at this; exact hn x z y hxz this
  ·cases hj
 have jn := h; rw [<- List.take_append_drop p out, List.pairwise_append] at jn; obtain ⟨h1, h2, h3⟩ := jn; rw [List.pairwise_append]; refine ⟨h1, List.pairwise_cons.mpr ⟨fun y hy => qf _ _ (ld y hy), h2⟩, ?_⟩; intro a ha b hb; rcases List.mem_cons.mp hb with rfl | hb
 ·exact le a ha
 ·exact h3 a ha b hb
theorem zgy {α} (lt : α -> α -> Bool) (ht : ∀ a b c, lt a b = true -> lt b c = true -> lt a c = true) (hi : ∀ a, lt a a = false) (hn : ∀ a b c, lt a b = false -> lt b c = false -> lt a c = false) :
 ∀ (l out : List α), out.Pairwise (fun a b => lt b a = false) -> (l.foldl (zjh lt) out).Pairwise (fun a b => lt b a = false) /\ (l.foldl (zjh lt) out).Perm (l ++ out)
 | [], out, h => ⟨h, List.Perm.refl _⟩
 | x :: l, out, h => by
   have ⟨h1, h2⟩ := zgy lt ht hi hn l (zjh lt out x) (zjO lt ht hi hn out x h); refine ⟨h1, h2.trans ?_⟩; refine (List.Perm.append_left l (ziG lt out x)).trans ?_; exact List.perm_middle
theorem zb0 {α} (lt : α -> α -> Bool) (ht : ∀ a b c, lt a b = true -> lt b c = true -> lt a c = true) (hi : ∀ a, lt a a = false) (hn : ∀ a b c, lt a b = false -> lt b c = false -> lt a c = false) (l : List α) :
 (ziF lt l).Pairwise (fun a b => lt b a = false) /\ (ziF lt l).Perm l := by
 have h := zgy lt ht hi hn l [] List.Pairwise.nil; rw [zl8] at h; exact h
theorem zhg {α} (lt : α -> α -> Bool) : ∀ (l l' : List α), l'.Perm l -> l.Pairwise (fun a b => lt b a = false) -> l'.Pairwise (fun a b => lt b a = false) ->
 (∀ a ∈ l, ∀ b ∈ l, lt a b = false -> lt b a = false -> a = b) -> l' = l
 | [], l', hp, _, _, _ => List.Perm.eq_nil hp
 | x :: l, [], hp, _, _, _ => by have := hp.length_eq; simp at this
 | x :: l, y :: l', hp, h, h', ha => by
   have ey : y = x := by
    have hy : y ∈ x :: l := hp.mem_iff.mp (zmF); have hx : x ∈ y :: l' := hp.mem_iff.mpr (zmF); rcases List.mem_cons.mp hy with e | hy'
    ·exact e
    rcases List.mem_cons.mp hx with e | hx'
    ·exact e.symm
    exact ha y hy x zmF ((List.pairwise_cons.mp h).1 y hy') ((List.pairwise_cons.mp h').1 x hx')
   subst ey; have hp' := (List.perm_cons y).mp hp; rw [zhg lt l l' hp' (List.pairwise_cons.mp h).2 (List.pairwise_cons.mp h').2 (fun a h1 b h2 => ha a (zmL _ h1) b (zmL _ h2))]
theorem zkW {α} (lt : α -> α -> Bool) (l : List α) (k : Nat) (x : α) (h : l[k]? = some x) : ziF lt (l.take (k + 1)) = zjh lt (ziF lt (l.take k)) x := by
 obtain ⟨hk, rfl⟩ := List.getElem?_eq_some_iff.mp h; unfold ziF; rw [List.take_succ_eq_append_getElem hk, List.foldl_append]; rfl
theorem zjP {α} (lt : α -> α -> Bool) (out : List α) (x : α) : (zjh lt out x).length = out.length + 1 := by
 rw [(ziG lt out x).length_eq]; rfl
theorem zaZ {α} (lt : α -> α -> Bool) (l : List α) : (ziF lt l).length = l.length := by
 unfold ziF; have : ∀ (l out : List α), (l.foldl (zjh lt) out).length = l.length + out.length := by
  intro l; induction l with
  | nil => intro out; simp
  | cons x l ih => intro out; rw [List.foldl_cons, ih, zjP, zl4]; omega
 rw [this]; simp
end Go.Proofs.YtbkookiigkckdaaGreatDoor
namespace Go.Proofs.YtbkookiigkckdaaGreatDoor
open Go.RowKit Go.Sort Go.Proofs.Tryz
def ltL (a b : Lab) : Bool := nlt a.1 b.1
theorem zcC (a : Lab) : ltL a a = false := by simp [ltL, nlt, List.lt_irrefl]
theorem zc5 (a b c : Lab) (h1 : ltL a b = true) (h2 : ltL b c = true) : ltL a c = true := by
 simp only [ltL, nlt, decide_eq_true_eq] at *; exact List.lt_trans h1 h2
theorem zcB (a b c : Lab) (h1 : ltL a b = false) (h2 : ltL b c = false) : ltL a c = false := by
 simp only [ltL, nlt, decide_eq_false_iff_not, List.not_lt] at *
 exact List.le_trans h2 h1
abbrev zaE (l : List Lab) : List Lab := ziF ltL l
theorem ziD : ∀ (l : List Lab), l.Pairwise (fun a b => a.1 ≠ b.1) -> ∀ a ∈ l, ∀ b ∈ l, a.1 = b.1 -> a = b
 | [], _, a, ha, _, _, _ => by cases ha
 | x :: l, h, a, ha, b, hb, e => by
   obtain ⟨h1, h2⟩ := List.pairwise_cons.mp h; rcases List.mem_cons.mp ha with ea | ba
   ·subst ea
    rcases List.mem_cons.mp hb with eb | hb2
    ·exact eb.symm
    ·exact absurd e (h1 b hb2)
   ·rcases List.mem_cons.mp hb with eb | hb2
    ·subst eb
     exact absurd e.symm (h1 a ba)
    ·exact ziD l h2 a ba b hb2 e
theorem zf3 (l l' : List Lab) (hp : l'.Perm l) (hs : l'.Pairwise (fun a b => nlt b.1 a.1 = false)) (hu : l.Pairwise (fun a b => a.1 ≠ b.1)) : l' = zaE l := by
 obtain ⟨h1, h2⟩ := zb0 ltL zc5 zcC zcB l; refine zhg ltL (zaE l) l' (hp.trans h2.symm) h1 hs ?_; intro a ha b hb h3 h4; refine ziD l hu a (h2.mem_iff.mp ha) b (h2.mem_iff.mp hb) ?_; simp only [ltL, nlt, decide_eq_false_iff_not, List.not_lt] at h3 h4; have h5 : a.1.data.toList = b.1.data.toList := List.le_antisymm h4 h3
 exact ByteArray.ext (Array.toList_inj.1 h5)
end Go.Proofs.YtbkookiigkckdaaGreatDoor
namespace Go.Proofs.YtbkookiigkckdaaGreatDoor
open Go.RowKit Go.Proofs.Tryz
theorem zgQ {s : ByteArray} {i : Nat} {r : List UInt8} (h : s.data.toList.drop i = r) (j : Nat) (c : UInt8) (hj : r[j]? = some c) : ∃ h : i + j < s.size, s[i + j] = c := by
 subst h; rw [List.getElem?_drop] at hj; have hlt : i + j < s.data.toList.length := by
  rcases zmf (i + j) s.data.toList.length with h | h
  ·exact h
  ·rw [zmg h] at hj; cases hj
 have hlt2 : i + j < s.size := by rw [<- zmG] at hlt; exact hlt
 refine ⟨hlt2, ?_⟩; rw [zlO hlt] at hj; injection hj
theorem zdv (s : ByteArray) (i v : Nat) (r : List UInt8) (hv : v < 16777216) (hi : i <= 1099511627776) (h : s.data.toList.drop i = zbx v ++ r) (w : World) :
 Calls prog 150 #[.string s, .int .i64 i] w fun e w' => e = .returned (.tuple #[.int .i64 v, .int .i64 (i + zaz v : Nat)]) /\ Fr (fun _ => False) w w' := by
 by_cases hlt : v < 255
 ·have e1 : zaz v = 1 := if_pos hlt
  rw [e1]; have e2 : zbx v = [UInt8.ofNat v] := if_pos hlt; rw [e2] at h; obtain ⟨h0, jr⟩ := zgQ h 0 (UInt8.ofNat v) rfl; rw [zmO] at h0; have hs0' : s[i] = UInt8.ofNat v := jr; have e3 : ((UInt8.ofNat v).toNat : Int) = v := by simp; omega
  have h1 : ¬ (v : Int) = 255 := by omega
  clear h jr; go_enter func150, ntmps150; go_wp2; refine bodyPost_ret (results_tmp2 rfl _ _ _) rfl ?_; refine ⟨?_, zmR _ _⟩; have e4 : (v : Int) % 256 = v := by omega
  simp [e4]
 ·have e1 : zaz v = 4 := zmI hlt
  rw [e1]; have e2 : zbx v = [255, UInt8.ofNat v, UInt8.ofNat (v / 256), UInt8.ofNat (v / 65536)] := zmI hlt; rw [e2] at h; obtain ⟨h0, jr⟩ := zgQ h 0 255 rfl; obtain ⟨h1, bw⟩ := zgQ h 1 (UInt8.ofNat v) rfl; obtain ⟨h2, gi⟩ := zgQ h 2 (UInt8.ofNat (v / 256)) rfl; obtain ⟨h3, hs3⟩ := zgQ h 3 (UInt8.ofNat (v / 65536)) rfl; rw [zmO] at h0
  have hs0' : s[i] = 255 := jr; have ix : ∀ (a : Int) (j : Nat) (c : UInt8) (hj : j < s.size) (hc : s[j] = c) (ha : a = j) (W : World), (Instr.index 9 (.string s) (.int .i64 a)).run prog W = .ok (.int .u8 c.toNat) W := by
   intro a j c hj hc ha W; subst ha; rw [run_index_string W 9 s .i64 j underlying9]; simp [hj, hc]
  have x1 := ix (i + 1) (i + 1) _ h1 bw (by omega); have x2 := ix (i + 1 + 1) (i + 2) _ h2 gi (by omega); have x3 := ix (i + 1 + 2) (i + 3) _ h3 hs3 (by omega); clear h jr ix; go_enter func150, ntmps150; go_wp2; go_big_region
  all_goals go_wp2
  refine bodyPost_ret (results_tmp2 rfl _ _ _) rfl ?_; refine ⟨?_, (zmR _ _).drew⟩; have e5 : (v : Int) % 256 + (v : Int) / 256 % 256 * 256 + (v : Int) / 65536 % 256 * 65536 = v := by omega
  have e6 : (i : Int) + 1 + 3 = ((i + 4 : Nat) : Int) := by omega
  simp [e5, e6]
theorem zlo {s : ByteArray} {i : Nat} {a : ByteArray} {r : List UInt8} (h : s.data.toList.drop i = a.data.toList ++ r) : s.extract i (i + a.size) = a := by
 apply ByteArray.ext; apply Array.toList_inj.1; rw [Lib.extract_data, h, Nat.add_sub_cancel_left, zmG, List.take_left']; rfl
theorem zcw {s : ByteArray} {i : Nat} {a r : List UInt8} (h : s.data.toList.drop i = a ++ r) : s.data.toList.drop (i + a.length) = r := by
 rw [<- List.drop_drop, h, List.drop_left]
theorem zdu {s : ByteArray} {i : Nat} {a r : List UInt8} (h : s.data.toList.drop i = a ++ r) (hi : i <= s.size) : i + a.length <= s.size := by
 have h2 : (s.data.toList.drop i).length = (a ++ r).length := by rw [h]
 rw [List.length_drop, zlN, <- zmG] at h2; omega
theorem zd8 (s a : ByteArray) (i : Nat) (r : List UInt8) (hv : a.size < 16777216) (hi : i <= s.size) (hs : s.size <= 1099511627776) (h : s.data.toList.drop i = zbx a.size ++ (a.data.toList ++ r)) (w : World) :
 Calls prog 158 #[.string s, .int .i64 i] w fun e w' => e = .returned (.tuple #[.string a, .int .i64 (i + zaz a.size + a.size : Nat)]) /\ Fr (fun _ => False) w w' := by
 have hD := zdv s i a.size _ hv (by omega) h w; have h2 := zcw h; have hl := zdu h hi; rw [zb1] at h2 hl; have hE := zlo h2; have jz := zdu h2 hl; have e1 : a.data.toList.length = a.size := by rw [<- zmG]
 rw [e1] at jz; clear h h2 e1; generalize i + zaz a.size = j at hD hE hl jz ⊢; have au : ∀ W : World, (Instr.slice 9 (.string s) (some (.int .i64 (j : Int))) (some (.int .i64 ((j : Int) + a.size))) none).run prog W = .ok (.string a) W := fun W => by
  rw [run_slice_string W 9 s .i64 .i64 j (j + a.size) underlying9 (by omega) (by omega) (by omega)]; have e2 : ((j : Int) + a.size).toNat = j + a.size := by omega
  rw [e2, Int.toNat_natCast, hE]
 go_enter func158, ntmps158; go_wp2_with (go_at_call 150; refine hD.mono ?_; rintro e w1 ⟨rfl, hf⟩)
 refine bodyPost_ret (results_tmp2 rfl _ _ _) rfl ?_; exact ⟨by simp, hf⟩
theorem zeI (l : List Lab) : (zat l).size = zaB l := by
 rw [<- zhX]; rfl
theorem ziz (l : List Lab) (g : FuncId) (cb : Array Value) (eg : ∀ args w, (callFunc g args).run prog w = .ok (.enter g args) w) (J : Nat -> World -> Prop) (w : World)
 (hs : ∀ p ∈ l, p.1.size < 16777216 /\ p.2.size < 16777216) (bF : zaB l <= 1099511627776)
 (hJ : ∀ k W W', J k W -> Fr (fun _ => False) W W' -> J k W') (h0 : J 0 w)
 (step : ∀ k x W, l[k]? = some x -> J k W -> Blk W w.heap.size 99 #[.string (zat l)] -> Calls prog g (#[.agg #[.string x.1, .string x.2]] ++ cb) W fun r w' => r = .returned (.tuple #[]) /\ J (k + 1) w' /\ Blk w' w.heap.size 99 #[.string (zat l)]) :
 Calls prog 152 #[.agg #[.string (zat l)], .func (.func g) #[] cb] w fun r w' => r = .returned (.tuple #[]) /\ J l.length w' := by
 have mT : (zat l).size <= 1099511627776 := by rw [zeI]; exact bF
 have nq : (zat l).data.toList.drop 0 = zaw (l.drop 0) := by simp [zat]
 have J1 : J 0 (w.alloc (.cells #[.string (zat l)] 99)) := hJ 0 w _ h0 ((zmR _ w).alloc _); have B1 : Blk (w.alloc (.cells #[.string (zat l)] 99)) w.heap.size 99 #[.string (zat l)] := zmS w 99 _; generalize hS : zat l = s at *
 have STEP := zlM step; have HJ := zlM hJ; have HS := zlM hs; have HJ1 := zlM J1; have cI := zlM B1; have ir := zlM nq; clear step hJ hs J1 B1 nq h0 hS; go_enter func152, ntmps152; go_wp2
 go_loopw [4] (fun vi wr => ∃ (i k : Nat), vi = .int .i64 i /\ k <= l.length /\ i <= s.size /\ Hid (s.data.toList.drop i = zaw (l.drop k)) /\ Hid (J k wr) /\ Hid (Blk wr w.heap.size 99 #[.string s])) (fun vi _ => s.size - (intOf vi).toNat)
 case atStart => exact ⟨0, 0, rfl, zlX _, zlX _, ir, HJ1, cI⟩
 case round =>
  obtain ⟨i, k, rfl, hk, hi, HD, HJk, HB⟩ := hrel; have c0 : wr.cell? ⟨w.heap.size, 0, none⟩ = some (.string s) := HB.out.cell 0; by_cases hlt : k < l.length
  ·obtain ⟨x, hx⟩ : ∃ x, l[k]? = some x := ⟨_, zlO hlt⟩
   have el := HS.out x (zlU hx); have hD : s.data.toList.drop i = zbx x.1.size ++ (x.1.data.toList ++ (zbx x.2.size ++ (x.2.data.toList ++ zaw (l.drop (k + 1))))) := by
    rw [HD.out, zdr l k x hx]; simp [zcV]
   have q1 := fun W => zd8 s x.1 i _ el.1 hi mT hD W; have d1 := zdu hD hi; have h2 := zcw hD; have d2 := zdu h2 d1; have h3 := zcw h2; have e1 : x.1.data.toList.length = x.1.size := by rw [<- zmG]
   rw [zb1, e1] at h3 d2; obtain ⟨i2, iC⟩ := exE (i + zaz x.1.size + x.1.size); rw [iC] at h3 d2; have q2 := fun W => zd8 s x.2 i2 _ el.2 d2 mT h3 W; have d3 := zdu h3 d2; have h4 := zcw h3; have d4 := zdu h4 d3; have h5 := zcw h4; have e2 : x.2.data.toList.length = x.2.size := by rw [<- zmG]
   rw [zb1, e2] at h5 d4; obtain ⟨i3, ni⟩ := exE (i2 + zaz x.2.size + x.2.size); rw [ni] at h5 d4; simp only [iC] at q1; simp only [ni] at q2; have fN : 0 < zaz x.1.size := by unfold zaz; split <;> omega
   have iA : i < s.size := by omega
   have hgo : i < i3 := by omega
   have H5 := zlM h5; have HX := zlM hx; clear hD d1 h2 h3 d2 d3 h4 h5 e1 e2 hx iC ni el fN
   go_wp2_with (first
    | (go_at_call_of 158 (Value.int .i64 (i : Int)); refine (q1 _).mono ?_; rintro r w1 ⟨rfl, ag⟩; have dm := zlM (HB.out.fr ag (fun e => e)); have HJ2 := zlM (HJ.out _ _ _ HJk.out ag); have c1 := dm.out.cell 0)
    | (go_at_call_of 158 (Value.int .i64 (i2 : Int)); refine (q2 _).mono ?_; rintro r w2 ⟨rfl, ar⟩; have bI := zlM (dm.out.fr ar (fun e => e)); have HJ3 := zlM (HJ.out _ _ _ HJ2.out ar))
    | (go_at_fn g; refine (STEP.out k x _ HX.out HJ3.out bI.out).mono ?_; rintro r w3 ⟨rfl, hj4, qd⟩))
   exact ⟨⟨i3, k + 1, rfl, hlt, d4, H5, zlM hj4, zlM qd⟩, by show s.size - ((i3 : Int)).toNat < s.size - ((i : Int)).toNat; omega⟩
  ·obtain rfl : k = l.length := by omega
   have hD := HD.out; rw [List.drop_length] at hD; have iC : i = s.size := by
    have h := zmC List.length hD; rw [List.length_drop, <- zmG] at h; simp [zaw] at h; omega
   subst iC; have iA : ¬ ((s.size : Int) < s.size) := by omega
   go_wp2; go_end0; exact ⟨rfl, HJk.out⟩
theorem cv_fr {S : Nat -> Prop} {w w' : World} (h : Fr S w w') (s : ByteArray) : Fr S w (Lib.bytesWorld w' 5 s) := by
 refine h.trans (S' := fun _ => False) ⟨?_, ?_, ?_, by rw [Lib.bytesWorld_size]; omega, fun k hk _ => Lib.bytesWorld_at_old w' 5 s k hk⟩ (fun _ _ e => e.elim); all_goals rfl
theorem cv_go (w : World) (s : ByteArray) : (convert 9 44 (.string s)).run prog w = .ok (.slice (some ⟨w.heap.size, 0, none⟩) s.size (grownCap w s.size 0 5)) (Lib.bytesWorld w 5 s) :=
 Lib.run_convert_string_bytes w 9 44 5 s underlying9 underlying44 underlying5
theorem cv_back (w : World) (s : ByteArray) (c : Nat) : (convert 44 9 (.slice (some ⟨w.heap.size, 0, none⟩) s.size c)).run prog (Lib.bytesWorld w 5 s) = .ok (.string s) (Lib.bytesWorld w 5 s) := by
 have h := run_convert_bytes_back (P := prog) (Lib.bytesWorld w 5 s) 44 9 5 ⟨w.heap.size, 0, none⟩ c s.data.toList underlying44 underlying5 underlying9 (fun j hj => by
  have e1 : (⟨w.heap.size, 0, none⟩ : Addr).add j = ⟨w.heap.size, 0 + j, none⟩ := by unfold Addr.add; split <;> simp_all
  have pM : j < s.size := by rw [zmG]; exact hj
  rw [e1, zmh, Lib.bytesWorld_cell w 5 s j pM]
  simp [List.getD, zlO hj])
 rw [<- zmG] at h; rw [h]
def UJ (w0 : World) (c : Nat) (l : List Lab) (k : Nat) (W : World) : Prop :=
 ∃ v, Blk W c 31 #[v] /\ W.ownsRow w0.heap.size 40 2 v k ((l.take k).flatMap zaI) /\ Fr (fun _ => False) w0 W
theorem zjr (w0 : World) (c b : Nat) (hc : w0.heap.size <= c) (cs : Array Value) (l : List Lab) (k : Nat) (x : Lab) (hx : l[k]? = some x) (hl : l.length <= 1099511627776) (W : World) (h : UJ w0 c l k W) (hb : Blk W b 99 cs) :
 Calls prog 163 #[.agg #[.string x.1, .string x.2], .pointer (some ⟨c, 0, none⟩)] W fun r w' => r = .returned (.tuple #[]) /\ UJ w0 c l (k + 1) w' /\ Blk w' b 99 cs := by
 obtain ⟨v, gJ, ab, hf⟩ := h; obtain ⟨i0, aB, ay, ax, aA⟩ := info_parts info40; have hk : k < l.length := (List.getElem?_eq_some_iff.mp hx).1; obtain ⟨n, y⟩ := x; obtain ⟨W1, ik⟩ := exE (W.alloc (.cells #[.string n, .string y] 108)); have av : Blk W1 W.heap.size 108 #[.string n, .string y] := by rw [<- ik]; exact zmS W 108 _
 have F1 : Fr (fun _ => False) W W1 := by rw [<- ik]; exact (zmR _ W).alloc _
 obtain ⟨W2, jH⟩ := exE (Lib.bytesWorld W1 5 n); have F2 : Fr (fun _ => False) W1 W2 := by rw [<- jH]; exact cv_fr (zmR _ W1) n
 obtain ⟨W3, eS⟩ := exE (Lib.bytesWorld W2 5 y); have F3 : Fr (fun _ => False) W2 W3 := by rw [<- eS]; exact cv_fr (zmR _ W2) y
 have a1 := cv_go W1 n; have a2 := cv_back W1 n (grownCap W1 n.size 0 5); have a3 := cv_go W2 y; have a4 := cv_back W2 y (grownCap W2 y.size 0 5); rw [jH] at a1 a2; rw [eS] at a3 a4; have c1 : W1.cell? ⟨c, 0, none⟩ = some v := (gJ.fr F1 (fun e => e)).cell 0; have c2 : W1.cell? ⟨W.heap.size, 0, none⟩ = some (.string n) := av.cell 0
 have c3 : W2.cell? ⟨W.heap.size, 1, none⟩ = some (.string y) := (av.fr F2 (fun e => e)).cell 1; obtain ⟨a', n', k', rfl⟩ := zab ab; have FF : Fr (fun _ => False) W W3 := (F1.same F2).same F3; have HO := zlM (zai ab FF (fun _ _ e => e)); have HC := zlM (gJ.fr FF (fun e => e)); have HBb := zlM (hb.fr FF (fun e => e)); have HF := zlM (hf.same FF); have HX := zlM hx
 have hsz0 : w0.heap.size <= W3.heap.size := (hf.same FF).size; clear ab gJ hb hf FF F1 F2 F3 av; go_enter func163, ntmps163; go_wp2_with (at_builtin; refine Hid.out ?_)
 refine zlM ?_; refine zae _ rfl _ _ 31 31 rfl w0.heap.size 40 i0 _ 2 32 underlying31 aB ay ax aA rfl (by decide) _ k ((l.take k).flatMap zaI) rfl (HO.out.alloc _) _ 1 (zaI (n, y)) rfl (zaF underlying31 (zmS W3 40 (zaI (n, y)).toArray) rfl (by simp [zaI, Value.oneCell'])) (by unfold maxLen; omega) (by omega) (by simp; omega) ?_; intro v' w2 ac ad aw
 have hg : (W3.alloc (.cells (zaI (n, y)).toArray 40)).grownBy w2 (Value.slice a' n' k').ownBlock := ad; have n1 := zak HO.out HC.out (by decide); have n2 := zak HO.out HBb.out (by decide); have iN : Blk w2 c 31 #[.slice a' n' k'] := (HC.out.alloc _).grown hg (fun e => n1 e.symm); have bh : Blk w2 b 99 cs := (HBb.out.alloc _).grown hg (fun e => n2 e.symm)
 have fY : Fr (fun _ => False) w0 w2 := (HF.out.alloc _).grown hg (fun k hk => .inr ((HO.out.lt k hk).1)); have af : w2.ownsRow w0.heap.size 40 2 v' (k + 1) ((l.take (k + 1)).flatMap zaI) := by rw [zam zaI l k _ HX.out]; exact ac
 obtain ⟨a5, n5, k5, rfl⟩ := zab af; have c4 := iN.cell 0; have f4 := iN.frozen 0; have bD : b ≠ c := zmT bh iN (by decide); have HH := zlM (zmD iN (zmD bh (zmD fY (zmD af bD)))); clear ad aw hg ac n1 n2 iN bh fY af bD a1 a2 a3 a4 c1 c2 c3 ik jH eS; go_wp2; go_end0; obtain ⟨iN, bh, fY, af, bD⟩ := HH.out
 refine ⟨rfl, ⟨_, iN.set_ 0 _, ?_, fY.setCell (p := ⟨c, 0, none⟩) (.inr hc) _⟩, bh.far bD _⟩; exact zai (S := fun k => k = c) af (Fr.at_ w2 c 0 _) (fun g hg e => zak af iN (by decide) (by rw [hg]; exact zmC some e))
theorem UJ.fr {w0 : World} {c : Nat} {l : List Lab} {k : Nat} {W W' : World} (h : UJ w0 c l k W) (hf : Fr (fun _ => False) W W') : UJ w0 c l k W' := by
 obtain ⟨v, h1, h2, h3⟩ := h; exact ⟨v, h1.fr hf (fun e => e), zai h2 hf (fun _ _ e => e), h3.same hf⟩
theorem zkM (l : List Lab) (w : World) (hl : l.length <= 1099511627776) (hs : ∀ p ∈ l, p.1.size < 16777216 /\ p.2.size < 16777216) (bF : zaB l <= 1099511627776) :
 Calls prog 70 #[.agg #[.string (zat l)]] w (zeo 40 w l) := by
 have eg : ∀ args w, (callFunc 163 args).run prog w = .ok (.enter 163 args) w := enters_of func163 (by kernel_rfl) rfl; obtain ⟨W, hW⟩ := exE ((w.alloc (.cells #[.string (zat l)] 99)).alloc (.cells #[.slice none 0 0] 31)); have hb1 : Blk W (w.heap.size + 1) 31 #[.slice none 0 0] := by rw [<- hW]; exact zaL w _ 31 _
 have hF : Fr (fun _ => False) w W := by rw [<- hW]; exact ((zmR _ w).alloc _).alloc _
 have hJ0 : UJ w (w.heap.size + 1) l 0 W := ⟨_, hb1, zl0 _ _ _ _, hF⟩; have hR := ziz l 163 #[.pointer (some ⟨w.heap.size + 1, 0, none⟩)] eg (UJ w (w.heap.size + 1) l) W hs bF (fun _ _ _ h hf => h.fr hf) hJ0
  (fun k x W' hx hj hb => zjr w (w.heap.size + 1) W.heap.size (by omega) _ l k x hx hl W' hj hb)
 have c0 : W.cell? ⟨w.heap.size, 0, none⟩ = some (.string (zat l)) := by rw [<- hW]; exact ((zmS w 99 #[.string (zat l)]).alloc _).cell 0
 generalize zat l = s at hR hW c0 ⊢; clear hJ0 hF hb1 hs bF; have hmf : ∀ (fn : Fn) (first aP : Array Value) (w : World), (Instr.makeFunc fn first aP).run prog w = .ok (.func fn first aP) w := fun _ _ _ _ => rfl; go_enter func70, ntmps70; go_wp2_with (go_at_call 152; refine hR.mono ?_; rintro r w1 ⟨rfl, v, h1, h2, h3⟩; have c1 := h1.cell 0)
 go_ret; rw [zmd] at h2; exact ⟨v, rfl, h2, h3⟩
def zao (w : World) (r : Ending) (w' : World) : Prop := r = .returned (.bool true) /\ Fr (fun _ => False) w w'
theorem zjG (A B : Option Addr) (c d : Nat) (w : World) : Calls prog 103 #[.slice A 0 c, .slice B 0 d] w (zao w) := by
 go_enter func103, ntmps103; go_wp2; go_loopw [5] (fun i wr => i = .int .i64 0 /\ wr = w) (fun i _ => 0)
 case atStart => exact ⟨rfl, rfl⟩
 case round =>
  obtain ⟨rfl, rfl⟩ := hrel; go_wp2; go_ret; exact ⟨rfl, zmR _ _⟩
theorem zjE (A B : Option Addr) (c d : Nat) (w : World) : Calls prog 104 #[.slice A 0 c, .slice B 0 d] w (zao w) := by
 go_enter func104, ntmps104; go_wp2; go_loopw [5] (fun i wr => i = .int .i64 0 /\ wr = w) (fun i _ => 0)
 case atStart => exact ⟨rfl, rfl⟩
 case round =>
  obtain ⟨rfl, rfl⟩ := hrel; go_wp2; go_ret; exact ⟨rfl, zmR _ _⟩
theorem zjI (A B : Option Addr) (c d : Nat) (w : World) : Calls prog 102 #[.slice A 0 c, .slice B 0 d] w (zao w) := by
 go_enter func102, ntmps102; go_wp2; go_loopw [5] (fun i wr => i = .int .i64 0 /\ wr = w) (fun i _ => 0)
 case atStart => exact ⟨rfl, rfl⟩
 case round =>
  obtain ⟨rfl, rfl⟩ := hrel; go_wp2; go_ret; exact ⟨rfl, zmR _ _⟩
theorem zb7 (A B : Option Addr) (c d : Nat) (w : World) : Calls prog 37 #[.slice A 0 c, .slice B 0 d] w (zao w) := by
 go_enter func37, ntmps37; go_wp2; go_loopw [5] (fun i wr => i = .int .i64 0 /\ wr = w) (fun i _ => 0)
 case atStart => exact ⟨rfl, rfl⟩
 case round =>
  obtain ⟨rfl, rfl⟩ := hrel; go_wp2; go_ret; exact ⟨rfl, zmR _ _⟩
theorem zgb (P Q : Nat -> Prop) (u v : Value) (l : List Smp) (w : World) (hu : Sl P w u 3 l.length (l.flatMap Smp.a)) (hv : Sl Q w v 3 l.length (l.flatMap Smp.a)) (hl : l.length <= 1099511627776) : Calls prog 101 #[u, v] w (zao w) := by
 obtain ⟨A, c, rfl, _, hc, hr⟩ := hu; obtain ⟨B, d, rfl, _, hd, hs⟩ := hv; obtain ⟨n, hn⟩ := exE l.length; rw [hn] at hr hs hc hd hl ⊢; have HN := zlM hn; have HR := zlM hr; have HS := zlM hs; clear hn hr hs; go_enter func101, ntmps101; go_wp2; go_loopw [5] (fun i wr => ∃ k : Nat, k <= n /\ i = .int .i64 k /\ Fr (fun _ => False) w wr) (fun i _ => n - (intOf i).toNat)
 case atStart => exact ⟨0, zlX _, rfl, zmR _ _⟩
 case round =>
  obtain ⟨k, hk, rfl, hf⟩ := hrel; by_cases hlt : k < n
  ·obtain ⟨g, off, rfl, _, aa⟩ := HR.out (by omega)
   obtain ⟨g2, ap, rfl, _, ak⟩ := HS.out (by omega); obtain ⟨x, hx⟩ : ∃ x, l[k]? = some x := ⟨_, zlO (by rw [HN.out]; exact hlt)⟩; have aC : ∀ {g off : Nat}, (∀ j u, (l.flatMap Smp.a)[j]? = some u -> w.cell? ⟨g, off + j, none⟩ = some u) -> ∀ j, j < 3 -> ∀ u, (Smp.a x)[j]? = some u -> wr.drew.cell? ⟨g, off + (k * 3 + j), none⟩ = some u := fun {g off} aa j hj u hu => by
    have := aa (k * 3 + j) u (by rw [ze4 Smp.a (fun _ => rfl) l k x hx j hj]; exact hu); rw [hf.drew.cell (p := ⟨g, off + (k * 3 + j), none⟩) (zlT w _ this) (fun e => e)]; exact this
   have c0 : wr.drew.cell? ⟨g, off + k * 3, none⟩ = some (.int .u64 x.ref) := aC aa 0 (by omega) _ rfl; have c1 : wr.drew.cell? ⟨g, off + k * 3 + 1, none⟩ = some (.int .i64 x.t) := aC aa 1 (by omega) _ rfl; have c2 : wr.drew.cell? ⟨g, off + k * 3 + 2, none⟩ = some (.int .u64 x.v) := aC aa 2 (by omega) _ rfl
   have d0 : wr.drew.cell? ⟨g2, ap + k * 3, none⟩ = some (.int .u64 x.ref) := aC ak 0 (by omega) _ rfl; have d1 : wr.drew.cell? ⟨g2, ap + k * 3 + 1, none⟩ = some (.int .i64 x.t) := aC ak 1 (by omega) _ rfl; have d2 : wr.drew.cell? ⟨g2, ap + k * 3 + 2, none⟩ = some (.int .u64 x.v) := aC ak 2 (by omega) _ rfl; have ar := zlM hf.drew; clear aa ak aC hf hx; go_wp2
   go_region; go_wp2; go_roundw
   case rel => exact ⟨k + 1, by omega, by go_num, ar.out⟩
   case measure => simp [intOf]; omega
  ·obtain rfl : k = n := by omega
   go_wp2; go_ret; exact ⟨rfl, hf⟩
theorem ziu (A0 B0 A3 B3 : Option Addr) (c0 d0 c3 d3 : Nat) (p1 p2 p4 p5 p6 q1 q2 q4 q5 q6 : Value) (w : World)
 (au : ∀ s ∈ [p1, p2, p4, p5, p6, q1, q2, q4, q5, q6], ∃ A m c, s = .slice A m c)
 (h1 : ∀ W, Fr (fun _ => False) w W -> Calls prog 101 #[p1, q1] W (zao W)) (h2 : ∀ W, Fr (fun _ => False) w W -> Calls prog 102 #[p2, q2] W (zao W)) (h4 : ∀ W, Fr (fun _ => False) w W -> Calls prog 103 #[p4, q4] W (zao W))
 (h5 : ∀ W, Fr (fun _ => False) w W -> Calls prog 104 #[p5, q5] W (zao W)) (h6 : ∀ W, Fr (fun _ => False) w W -> Calls prog 37 #[p6, q6] W (zao W)) :
 Calls prog 32 #[.agg #[.slice A0 0 c0, p1, p2, .slice A3 0 c3, p4, p5, p6], .agg #[.slice B0 0 d0, q1, q2, .slice B3 0 d3, q4, q5, q6]] w (zao w) := by
 obtain ⟨a1, m1, k1, rfl⟩ := au p1 (by simp); obtain ⟨a2, m2, k2, rfl⟩ := au p2 (by simp); obtain ⟨a4, m4, k4, rfl⟩ := au p4 (by simp); obtain ⟨a5, m5, k5, rfl⟩ := au p5 (by simp); obtain ⟨a6, m6, k6, rfl⟩ := au p6 (by simp); obtain ⟨b1, n1, j1, rfl⟩ := au q1 (by simp); obtain ⟨b2, n2, j2, rfl⟩ := au q2 (by simp); obtain ⟨b4, n4, j4, rfl⟩ := au q4 (by simp)
 obtain ⟨b5, n5, j5, rfl⟩ := au q5 (by simp); obtain ⟨b6, n6, j6, rfl⟩ := au q6 (by simp); have H1 := zlM h1; have H2 := zlM h2; have H4 := zlM h4; have H5 := zlM h5; have H6 := zlM h6; clear au h1 h2 h4 h5 h6; go_enter func32, ntmps32; go_wp2_with fail
 have hP := (zmS w 54 #[.slice A0 0 c0, .slice a1 m1 k1, .slice a2 m2 k2, .slice A3 0 c3, .slice a4 m4 k4, .slice a5 m5 k5, .slice a6 m6 k6]).alloc (.cells #[.slice B0 0 d0, .slice b1 n1 j1, .slice b2 n2 j2, .slice B3 0 d3, .slice b4 n4 j4, .slice b5 n5 j5, .slice b6 n6 j6] 54)
 have hQ := zmS (w.alloc (.cells #[.slice A0 0 c0, .slice a1 m1 k1, .slice a2 m2 k2, .slice A3 0 c3, .slice a4 m4 k4, .slice a5 m5 k5, .slice a6 m6 k6] 54)) 54 #[.slice B0 0 d0, .slice b1 n1 j1, .slice b2 n2 j2, .slice B3 0 d3, .slice b4 n4 j4, .slice b5 n5 j5, .slice b6 n6 j6]
 obtain ⟨W, hW⟩ := exE ((w.alloc (.cells #[.slice A0 0 c0, .slice a1 m1 k1, .slice a2 m2 k2, .slice A3 0 c3, .slice a4 m4 k4, .slice a5 m5 k5, .slice a6 m6 k6] 54)).alloc (.cells #[.slice B0 0 d0, .slice b1 n1 j1, .slice b2 n2 j2, .slice B3 0 d3, .slice b4 n4 j4, .slice b5 n5 j5, .slice b6 n6 j6] 54)); have hF : Fr (fun _ => False) w W := hW ▸ ((zmR _ w).alloc _).alloc _; rw [hW] at hP hQ ⊢
 have e1 : ∀ (w : World) (o : Obj), (w.alloc o).heap.size = w.heap.size + 1 := fun w o => by simp
 rw [e1] at hQ; have x0 := hP.cell 0; have x1 := hP.cell 1; have x2 := hP.cell 2; have x3 := hP.cell 3; have x4 := hP.cell 4; have x5 := hP.cell 5; have x6 := hP.cell 6; have y0 := hQ.cell 0; have y1 := hQ.cell 1; have y2 := hQ.cell 2; have y3 := hQ.cell 3; have y4 := hQ.cell 4; have y5 := hQ.cell 5; have y6 := hQ.cell 6
 simp only [zl7, zl5, zl6] at x0 x1 x2 x3 x4 x5 x6 y0 y1 y2 y3 y4 y5 y6; have HP := zlM hP; have HQ := zlM hQ; have HF := zlM hF; clear hW hP hQ hF e1; go_loopw [5] (fun i wr => i = .int .i64 0 /\ wr = W) (fun i _ => 0)
 case atStart => exact ⟨rfl, rfl⟩
 case round =>
  obtain ⟨rfl, rfl⟩ := hrel; go_wp2_with fail
  go_loopw [6] (fun i w' => i = .int .i64 0 /\ w' = wr) (fun i _ => 0)
  case atStart => exact ⟨rfl, rfl⟩
  case round =>
   obtain ⟨rfl, rfl⟩ := hrel; go_wp2_with (go_at_call 101; refine (H1.out _ HF.out).mono ?_; rintro r W1 ⟨rfl, ag⟩; refine Hid.out ?_)
   have F1 := zlM (HF.out.same ag); have oF := HP.out.fr ag (fun e => e); have ei := HQ.out.fr ag (fun e => e); have P1 := zlM oF; have Q1 := zlM ei; have u1 := oF.cell 2; have v1 := ei.cell 2; simp only [zl7, zl5, zl6] at u1 v1; clear ag oF ei; refine zlM ?_
   go_wp2_with (go_at_call 102; refine (H2.out _ F1.out).mono ?_; rintro r W2 ⟨rfl, ar⟩; refine Hid.out ?_)
   have F2 := zlM (F1.out.same ar); have qg := P1.out.fr ar (fun e => e); have dh := Q1.out.fr ar (fun e => e); have P2 := zlM qg; have Q2 := zlM dh; have u2 := qg.cell 4; have v2 := dh.cell 4; simp only [zl7, zl5, zl6] at u2 v2; clear ar qg dh; refine zlM ?_
   go_wp2_with (go_at_call 103; refine (H4.out _ F2.out).mono ?_; rintro r W3 ⟨rfl, bJ⟩; refine Hid.out ?_)
   have F3 := zlM (F2.out.same bJ); have hP3 := P2.out.fr bJ (fun e => e); have ja := Q2.out.fr bJ (fun e => e); have P3 := zlM hP3; have Q3 := zlM ja; have u3 := hP3.cell 5; have v3 := ja.cell 5; simp only [zl7, zl5, zl6] at u3 v3; clear bJ hP3 ja; refine zlM ?_
   go_wp2_with (go_at_call 104; refine (H5.out _ F3.out).mono ?_; rintro r W4 ⟨rfl, dA⟩; refine Hid.out ?_)
   have F4 := zlM (F3.out.same dA); have hP4 := P3.out.fr dA (fun e => e); have hQ4 := Q3.out.fr dA (fun e => e); have P4 := zlM hP4; have Q4 := zlM hQ4; have u4 := hP4.cell 6; have v4 := hQ4.cell 6; simp only [zl7, zl5, zl6] at u4 v4; clear dA hP4 hQ4; refine zlM ?_
   go_wp2_with (go_at_call 37; refine (H6.out _ F4.out).mono ?_; rintro r W5 ⟨rfl, aq⟩; refine Hid.out ?_)
   have F5 := zlM (F4.out.same aq); have hP5 := P4.out.fr aq (fun e => e); have hQ5 := Q4.out.fr aq (fun e => e); have P5 := zlM hP5; have Q5 := zlM hQ5; clear aq hP5 hQ5; refine zlM ?_; go_wp2; go_ret; exact ⟨rfl, F5.out⟩
theorem zev (P Q : Nat -> Prop) (u v : Value) (l : List Lab) (w : World) (hu : Sl P w u 2 l.length (l.flatMap zaI)) (hv : Sl Q w v 2 l.length (l.flatMap zaI)) (hl : l.length <= 1099511627776) : Calls prog 25 #[u, v] w (zao w) := by
 obtain ⟨A, c, rfl, _, hc, hr⟩ := hu; obtain ⟨B, d, rfl, _, hd, hs⟩ := hv; obtain ⟨n, hn⟩ := exE l.length; rw [hn] at hr hs hc hd hl ⊢; have HN := zlM hn; have HR := zlM hr; have HS := zlM hs; clear hn hr hs; go_enter func25, ntmps25; go_wp2; go_loopw [5] (fun i wr => ∃ k : Nat, k <= n /\ i = .int .i64 k /\ Fr (fun _ => False) w wr) (fun i _ => n - (intOf i).toNat)
 case atStart => exact ⟨0, zlX _, rfl, zmR _ _⟩
 case round =>
  obtain ⟨k, hk, rfl, hf⟩ := hrel; by_cases hlt : k < n
  ·obtain ⟨g, off, rfl, _, aa⟩ := HR.out (by omega)
   obtain ⟨g2, ap, rfl, _, ak⟩ := HS.out (by omega); obtain ⟨x, hx⟩ : ∃ x, l[k]? = some x := ⟨_, zlO (by rw [HN.out]; exact hlt)⟩; have aC : ∀ {g off : Nat}, (∀ j u, (l.flatMap zaI)[j]? = some u -> w.cell? ⟨g, off + j, none⟩ = some u) -> ∀ j, j < 2 -> ∀ u, (zaI x)[j]? = some u -> wr.drew.cell? ⟨g, off + (k * 2 + j), none⟩ = some u := fun {g off} aa j hj u hu => by
    have := aa (k * 2 + j) u (by rw [zbB zaI (fun _ => rfl) l k x hx j hj]; exact hu); rw [hf.drew.cell (p := ⟨g, off + (k * 2 + j), none⟩) (zlT w _ this) (fun e => e)]; exact this
   have c0 : wr.drew.cell? ⟨g, off + k * 2, none⟩ = some (.string x.1) := aC aa 0 (by omega) _ rfl; have c1 : wr.drew.cell? ⟨g, off + k * 2 + 1, none⟩ = some (.string x.2) := aC aa 1 (by omega) _ rfl; have d0 : wr.drew.cell? ⟨g2, ap + k * 2, none⟩ = some (.string x.1) := aC ak 0 (by omega) _ rfl
   have d1 : wr.drew.cell? ⟨g2, ap + k * 2 + 1, none⟩ = some (.string x.2) := aC ak 1 (by omega) _ rfl; have ar := zlM hf.drew; clear aa ak aC hf hx; go_wp2; go_region; go_wp2; go_roundw
   case rel => exact ⟨k + 1, by omega, by go_num, ar.out⟩
   case measure => simp [intOf]; omega
  ·obtain rfl : k = n := by omega
   go_wp2; go_ret; exact ⟨rfl, hf⟩
def LabOk (l : List Lab) (cN bytes : Nat) : Prop := l.length <= cN /\ (∀ p ∈ l, p.1.size ≠ 0 /\ p.1.size <= bytes /\ p.2.size <= bytes) /\ l.Pairwise (fun a b => a.1 ≠ b.1)
def RightEnds (l : List Lab) (cN bytes : Nat) (w : World) (r : Ending) (w' : World) : Prop := ∃ b : Bool, r = .returned (.bool b) /\ (b = true ↔ LabOk l cN bytes) /\ Fr (fun _ => False) w w'
def LabPre (l : List Lab) (bytes k : Nat) : Prop :=
 (∀ (i : Nat) (x : Lab), i < k -> l[i]? = some x -> x.1.size ≠ 0 /\ x.1.size <= bytes /\ x.2.size <= bytes) /\ ∀ (i j : Nat) (x y : Lab), j < i -> i < k -> l[i]? = some x -> l[j]? = some y -> y.1 ≠ x.1
theorem LabPre.ok {l : List Lab} {cN bytes : Nat} (h : LabPre l bytes l.length) (hl : l.length <= cN) : LabOk l cN bytes := by
 refine ⟨hl, fun p hp => ?_, ?_⟩
 ·obtain ⟨i, hi⟩ := List.mem_iff_getElem?.mp hp
  exact h.1 i p (List.getElem?_eq_some_iff.mp hi).1 hi
 ·rw [List.pairwise_iff_getElem]
  intro i j hi hj hij; exact h.2 j i _ _ hij hj (zlO hj) (zlO hi)
theorem LabOk.at {l : List Lab} {cN bytes : Nat} (h : LabOk l cN bytes) (k : Nat) (x : Lab) (hx : l[k]? = some x) : x.1.size ≠ 0 /\ x.1.size <= bytes /\ x.2.size <= bytes := h.2.1 x (zlU hx)
theorem LabOk.ne {l : List Lab} {cN bytes : Nat} (h : LabOk l cN bytes) (k j : Nat) (x y : Lab) (hx : l[k]? = some x) (hy : l[j]? = some y) (hj : j < k) : y.1 ≠ x.1 := by
 obtain ⟨hk, rfl⟩ := List.getElem?_eq_some_iff.mp hx; obtain ⟨hj', rfl⟩ := List.getElem?_eq_some_iff.mp hy; exact List.pairwise_iff_getElem.mp h.2.2 j k hj' hk hj
theorem ziY (s : ByteArray) : s.toList.isEmpty = decide (s.size = 0) := by
 rw [Lib.toList_data, zmG]; cases s.data.toList <;> simp
theorem zgq (P : Nat -> Prop) (v : Value) (l : List Lab) (cN bytes : Nat) (w : World) (h : Sl P w v 2 l.length (l.flatMap zaI)) (hl : l.length <= 1099511627776) (hm : cN <= 1099511627776) (hb : bytes <= 1099511627776) :
 Calls prog 53 #[v, .int .i64 cN, .int .i64 bytes] w (RightEnds l cN bytes w) := by
 obtain ⟨A, c, rfl, _, hc, hr⟩ := h; obtain ⟨n, hn⟩ := exE l.length; rw [hn] at hr hc hl ⊢; have HN := zlM hn; have HR := zlM hr; clear hn hr; by_cases hmn : cN < n
 ·have hmn' : (cN : Int) < n := by omega
  go_enter func53, ntmps53; go_wp2; go_ret; exact ⟨false, rfl, ⟨fun h => (by cases h), fun h => absurd h.1 (by rw [HN.out]; omega)⟩, zmR _ _⟩
 ·have hmn' : ¬ (cN : Int) < n := by omega
  go_enter func53, ntmps53; go_wp2; go_loopw [7] (fun i wr => ∃ k : Nat, k <= n /\ i = .int .i64 k /\ Hid (LabPre l bytes k) /\ Hid (Fr (fun _ => False) w wr)) (fun i _ => n - (intOf i).toNat)
  case atStart => exact ⟨0, zlX _, rfl, zlM ⟨fun i x h => absurd h (zmx _), fun i j x y _ h => absurd h (zmx _)⟩, zlM (zmR _ _)⟩
  case round =>
   obtain ⟨k, hk, rfl, HP, HF⟩ := hrel; by_cases hlt : k < n
   ·obtain ⟨g, off, rfl, _, aa⟩ := HR.out (by omega)
    obtain ⟨x, hx⟩ : ∃ x, l[k]? = some x := ⟨_, zlO (by rw [HN.out]; exact hlt)⟩; have aC : ∀ (i : Nat) (z : Lab), l[i]? = some z -> ∀ W, Fr (fun _ => False) w W -> W.cell? ⟨g, off + i * 2, none⟩ = some (.string z.1) /\ W.cell? ⟨g, off + i * 2 + 1, none⟩ = some (.string z.2) := fun i z hz W hF => by
     have cc : ∀ j, j < 2 -> ∀ u, (zaI z)[j]? = some u -> W.cell? ⟨g, off + (i * 2 + j), none⟩ = some u := fun j hj u hu => by
      have := aa (i * 2 + j) u (by rw [zbB zaI (fun _ => rfl) l i z hz j hj]; exact hu); rw [hF.cell (p := ⟨g, off + (i * 2 + j), none⟩) (zlT w _ this) (fun e => e)]; exact this
     exact ⟨cc 0 (by omega) _ rfl, cc 1 (by omega) _ rfl⟩
    obtain ⟨c0, c1⟩ := aC k x hx wr HF.out; have HK := zlM aC; have HX := zlM hx; clear aC aa hx; by_cases e0 : x.1.size = 0
    ·have e0' : x.1.toList.isEmpty = true := by rw [ziY]; exact decide_eq_true e0
     go_wp2; go_ret; exact ⟨false, rfl, ⟨fun h => (by cases h), fun h => absurd e0 (h.at k x HX.out).1⟩, HF.out⟩
    ·have e0' : x.1.toList.isEmpty = false := by rw [ziY]; exact decide_eq_false e0
     by_cases h1 : bytes < x.1.size
     ·have qw : (bytes : Int) < x.1.size := by omega
      go_wp2; go_ret; exact ⟨false, rfl, ⟨fun h => (by cases h), fun h => absurd h1 (by have := (h.at k x HX.out).2.1; omega)⟩, HF.out⟩
     ·have qw : ¬ (bytes : Int) < x.1.size := by omega
      by_cases h2 : bytes < x.2.size
      ·have qv : (bytes : Int) < x.2.size := by omega
       go_wp2; go_ret; exact ⟨false, rfl, ⟨fun h => (by cases h), fun h => absurd h2 (by have := (h.at k x HX.out).2.2; omega)⟩, HF.out⟩
      ·have qv : ¬ (bytes : Int) < x.2.size := by omega
       go_wp2; clear c0 c1; go_loopw [8] (fun i w' => ∃ j : Nat, j <= k /\ i = .int .i64 j /\ Hid (∀ (i : Nat) (y : Lab), i < j -> l[i]? = some y -> y.1 ≠ x.1) /\ Hid (Fr (fun _ => False) w w')) (fun i _ => k - (intOf i).toNat)
       case atStart => exact ⟨0, zlX _, rfl, zlM (fun i y h => absurd h (zmx _)), HF⟩
       case round =>
        obtain ⟨j, hj, rfl, HJ, bx⟩ := hrel; by_cases hlt2 : j < k
        ·obtain ⟨y, hy⟩ : ∃ y, l[j]? = some y := ⟨_, zlO (by rw [HN.out]; omega)⟩
         obtain ⟨c0, _⟩ := HK.out k x HX.out wr bx.out; obtain ⟨b0, _⟩ := HK.out j y hy wr bx.out; obtain ⟨d0, _⟩ := HK.out k x HX.out wr.drew bx.out.drew; obtain ⟨d1, _⟩ := HK.out j y hy wr.drew bx.out.drew; have HY := zlM hy; have bH := zlM bx.out.drew; clear hy; by_cases he : y.1 = x.1
         ·have HE := zlM he
          go_wp2; go_region; all_goals go_wp2
          go_ret; exact ⟨false, rfl, ⟨fun h => (by cases h), fun h => absurd HE.out (h.ne k j x y HX.out HY.out hlt2)⟩, bH.out⟩
         ·have he1 : (y.1.toList == x.1.toList) = false := by rw [beq_eq_false_iff_ne, Lib.toList_data, Lib.toList_data]; exact fun e => he (ByteArray.ext (Array.toList_inj.1 e))
          have HE := zlM he; go_wp2; go_region; all_goals go_wp2
          refine ⟨⟨j + 1, hlt2, rfl, zlM ?_, bH⟩, ?_⟩
          ·intro i z hi hz
           by_cases e : i = j
           ·subst e
            have := HY.out; rw [hz] at this; injection this with this; rw [this]; exact HE.out
           ·exact HJ.out i z (by omega) hz
          ·show k - ((j : Int) + 1).toNat < k - (j : Int).toNat; omega
        ·obtain rfl : j = k := by omega
         go_wp2; go_roundw
         case rel =>
          refine ⟨j + 1, by omega, by go_num, zlM ?_, bx⟩; have hp := HP.out; refine ⟨fun i z hi hz => ?_, fun i j' z y hji hi hz hy => ?_⟩
          ·by_cases e : i = j
           ·subst e
            have := HX.out; rw [hz] at this; injection this with this; rw [this]; exact ⟨e0, by omega, by omega⟩
           ·exact hp.1 i z (by omega) hz
          ·by_cases e : i = j
           ·subst e
            have := HX.out; rw [hz] at this; injection this with this; rw [this]; exact HJ.out j' y hji hy
           ·exact hp.2 i j' z y hji (by omega) hz hy
         case measure => simp [intOf]; omega
   ·obtain rfl : k = n := by omega
    go_wp2; go_ret; refine ⟨true, rfl, ⟨fun _ => ?_, fun _ => rfl⟩, HF.out⟩; have hp := HP.out; rw [<- HN.out] at hp; exact hp.ok (by rw [HN.out]; omega)
structure Ser where
 ref : Nat
 labs : List Lab
def zim (p : Ser × Value) : List Value := [.int .u64 p.1.ref, p.2]
def SlR (P : Nat -> Prop) (w : World) (v : Value) (lv : List (Ser × Value)) : Prop :=
 Sl P w v 2 lv.length (lv.flatMap zim) /\ ∀ p ∈ lv, Sl P w p.2 2 p.1.labs.length (p.1.labs.flatMap zaI)
theorem SlR.fr {P S : Nat -> Prop} {w w' : World} {v : Value} {lv : List (Ser × Value)} (h : SlR P w v lv) (hf : Fr S w w') (hs : ∀ g, P g -> ¬ S g) : SlR P w' v lv :=
 ⟨h.1.fr hf hs, fun p hp => (h.2 p hp).fr hf hs⟩
def sero (x : Ser) : List Value := [.int .u64 x.ref, .string (zat (zaE x.labs))]
theorem info127 : (prog.info? 127).map (fun i => (i.zero, i.size, i.bytes)) = some (some (.agg #[.int .u64 0, .string ⟨#[]⟩]), 2, 24) := by kernel_rfl
theorem made_ok (P : Nat -> Prop) (v : Value) (l : List Lab) (w : World) (h : Sl P w v 2 l.length (l.flatMap zaI)) (hl : LabOk l 12 600) :
 Calls prog 54 #[v] w fun r w' => r = .returned (.agg #[.string (zat (zaE l))]) /\ Fr (fun _ => False) w w' := by
 refine (made_any P v l w h hl.1 (fun p hp => by have := hl.2.1 p hp; omega)).mono ?_; rintro r w' ⟨l', h1, h2, rfl, hf⟩; exact ⟨by rw [zf3 l l' h1 h2 hl.2.2], hf⟩
def zil (w : World) (l : List Ser) (r : Ending) (w' : World) : Prop :=
 ∃ v, r = .returned v /\ w'.ownsRow w.heap.size 127 2 v l.length (l.flatMap sero) /\ Fr (fun _ => False) w w'
theorem zeU (P : Nat -> Prop) (v : Value) (lv : List (Ser × Value)) (w : World) (h : SlR P w v lv) (hl : lv.length <= 1099511627776) (aQ : ∀ p ∈ lv, LabOk p.1.labs 12 600) :
 Calls prog 69 #[v] w (zil w (lv.map Prod.fst)) := by
 have mixed : prog.follows .mixedOrders = true := by kernel_rfl
 obtain ⟨⟨A, c, rfl, ai, aR, hr⟩, co⟩ := h; obtain ⟨n, hn⟩ := exE lv.length; rw [hn] at hr aR hl ⊢; have HN := zlM hn; have HR := zlM hr; have HI := zlM co
 have gr := zlM aQ; obtain ⟨i0, aB, ay, ax, aA⟩ := info_parts info127; clear hn hr ai co aQ; go_enter func69, ntmps69; go_wp2; go_loopw [2, 7] (fun v i wr => ∃ k : Nat, k <= n /\ i = .int .i64 k /\ Hid (wr.ownsRow w.heap.size 127 2 v k (((lv.map Prod.fst).take k).flatMap sero)) /\ Hid (Fr (fun _ => False) w wr)) (fun _ i _ => n - (intOf i).toNat)
 case atStart => exact ⟨0, zlX _, rfl, zlM (zl0 _ _ _ _), zlM (zmR _ _)⟩
 case round =>
  obtain ⟨k, hk, rfl, HO, HF⟩ := hrel; by_cases hlt : k < n
  ·obtain ⟨g, off, rfl, _, aa⟩ := HR.out (by omega)
   obtain ⟨x, hx⟩ : ∃ x, lv[k]? = some x := ⟨_, zlO (by rw [HN.out]; exact hlt)⟩; have cc : ∀ j, j < 2 -> ∀ u, (zim x)[j]? = some u -> wr.cell? ⟨g, off + (k * 2 + j), none⟩ = some u := fun j hj u hu => by
    have := aa (k * 2 + j) u (by rw [zbB zim (fun _ => rfl) lv k x hx j hj]; exact hu); rw [HF.out.cell (p := ⟨g, off + (k * 2 + j), none⟩) (zlT w _ this) (fun e => e)]; exact this
   have c0 : wr.cell? ⟨g, off + k * 2, none⟩ = some (.int .u64 x.1.ref) := cc 0 (by omega) _ rfl; have c1 : wr.cell? ⟨g, off + k * 2 + 1, none⟩ = some x.2 := cc 1 (by omega) _ rfl; have aH := zlU hx; have aX := HI.out x aH; have bA := gr.out x aH; have dM : (lv.map Prod.fst)[k]? = some x.1 := by rw [zmm, hx]; rfl
   obtain ⟨⟨ref, labs⟩, iv⟩ := x; simp only [] at c0 c1 aX bA dM; have jC : ∃ A m c, iv = .slice A m c := let ⟨A, c, h, _⟩ := aX; ⟨A, _, c, h⟩
   obtain ⟨Ai, mi, ci, rfl⟩ := jC; have HX := zlM dM; obtain ⟨a', n', k', rfl⟩ := zab HO.out; clear aa cc hx aH dM; go_wp2_with fail
   have cj := zmS wr 130 #[.int .u64 ref, .slice Ai mi ci]; have s0 := cj.cell 0; have s1 := cj.cell 1; simp only [zl7, zl5, zl6] at s0 s1; have bF := HF.out.size; have dt := zlM cj
   have hC := made_ok P (.slice Ai mi ci) labs (wr.alloc (.cells #[.int .u64 ref, .slice Ai mi ci] 130)).drew (aX.fr (HF.out.alloc _).drew (fun _ _ e => e)) bA; obtain ⟨st, aZ⟩ := exE (zat (zaE labs)); rw [aZ] at hC; have jd := zlM aZ; clear cj aX aZ bA; have pb : (wr.alloc (.cells #[.int .u64 ref, .slice Ai mi ci] 130)).drew.heap.size = wr.heap.size + 1 := by simp
   go_region_held3 (fun w' => w'.cell? ⟨wr.heap.size, 0, none⟩ = some (.int .u64 ref) /\ w'.cell? ⟨wr.heap.size, 1, none⟩ = some (.slice Ai mi ci))
    ((first | (go_split_ands; refine ⟨?_, ?_⟩ <;> first | exact ej.out.cell 0 | exact ej.out.cell 1) | (go_split_ands; refine ⟨?_, ?_⟩ <;> first | exact (cK.out.alloc _).cell 0 | exact (cK.out.alloc _).cell 1) | (go_split_ands; refine ⟨?_, ?_⟩ <;> first | exact cK.out.cell 0 | exact cK.out.cell 1) | go_keep))
    ((first
      | (go_at_call 54; refine hC.mono ?_; rintro r5 w5 ⟨rfl, aq⟩; have cK := zlM (dt.out.drew.fr aq (fun e => e)); have F5 := zlM (((zmR (fun _ => False) wr).alloc (.cells #[.int .u64 ref, .slice Ai mi ci] 130)).drew.same aq); have O5 := zlM (zai HO.out F5.out (fun _ _ e => e)); have lM := F5.out.size)
      | (refine zas _ (by rfl) _ _ 121 121 (by rfl) w.heap.size 127 i0 _ 2 24 underlying121 aB ay ax aA rfl (by decide) (.slice a' n' k') k (((lv.map Prod.fst).take k).flatMap sero) (by rfl) (O5.out.alloc _) _ 1 [.int .u64 ref, .string st] (by rfl) (zaF underlying121 (zmS w5 127 #[.int .u64 ref, .string st]) rfl (by simp [Value.oneCell'])) (by unfold maxLen; omega) (by omega) (by simp; omega) ?_; intro v' w2 ac ad aw; have ej := zlM ((cK.out.alloc (.cells #[.int .u64 ref, .string st] 127)).grown ad (fun e => zmw _ (zar HO.out e.symm))))))
   have NO : Hid (w2.ownsRow w.heap.size 127 2 v' (k + 1) (((lv.map Prod.fst).take (k + 1)).flatMap sero)) := zlM (by
    rw [zam sero _ k _ HX.out]; unfold sero; rw [jd.out]
    exact ac)
   have NF : Hid (Fr (fun _ => False) w w2) := zlM (((HF.out.same F5.out).alloc _).grown ad (fun g hg => .inr ((HO.out.lt g hg).1))); clear ac ad aw c0 c1 s0 s1 hC aq ej O5; go_wp2; go_roundw
   case rel => exact ⟨k + 1, by omega, by go_num, NO, NF⟩
   case measure => simp [intOf]; omega
  ·go_wp2
   go_ret; obtain rfl : k = n := by omega
   have h := HO.out; have e : (lv.map Prod.fst).take k = lv.map Prod.fst := zlV (by rw [zma, HN.out]; exact zlY _); rw [e] at h; refine ⟨_, rfl, ?_, HF.out⟩; rw [zma, HN.out]; exact h
structure SerD where
 ref : Nat
 labs : List Lab
def zit (x : SerD) : List Value := [.int .u64 x.ref, .string (zat x.labs)]
def zfR (st : St) : List Lab × St := zba (gUv st).2 (gUv st).1
def zbe (st : St) : SerD × St := (⟨(zac st).1, (zfR (zac st).2).1⟩, (zfR (zac st).2).2)
def zfl (st : St) : Prop := (gUv st).1 <= 4096 /\ (∀ k, k < (gUv st).1 -> (gUv (zba (gUv st).2 k).2).1 < 9223372036854775808 /\ (gUv (zcn (zba (gUv st).2 k).2).2).1 < 9223372036854775808) /\ ∀ p ∈ (zfR st).1, p.1.size <= 1048576 /\ p.2.size <= 1048576
def zdV (st : St) : Prop := zfl (zac st).2
def zbk (xs : List UInt8) : Option (List SerD) := zbq 1 zbe xs
theorem zeJ (st : St) : ∀ k, (zba st k).1.length = k
 | 0 => rfl
 | k + 1 => by
   show ((zba st k).1 ++ [_]).length = k + 1; rw [zlN, zeJ st k]; rfl
theorem ziM {st : St} {l : List UInt8} (h : (zcn st).2 = some l) : ∃ l0, st = some l0 /\ l.length <= l0.length := by
 rcases st with _ | l0
 ·have : zcn none = (⟨#[]⟩, none) := rfl
  rw [this] at h; cases h
 ·exact ⟨l0, rfl, (ziL l0 (zcn (some l0)).1 (zcn (some l0)).2 rfl).2 l h⟩
theorem zhn (st : St) : ∀ (k : Nat) (l : List UInt8), (zba st k).2 = some l -> ∃ l0, st = some l0 /\ l.length <= l0.length
 | 0, l, h => ⟨l, h, zlY _⟩
 | k + 1, l, h => by
   obtain ⟨l1, h1, e1⟩ := ziM (st := (zcn (zba st k).2).2) h; obtain ⟨l2, h2, e2⟩ := ziM h1; obtain ⟨l3, h3, e3⟩ := zhn st k l2 h2; exact ⟨l3, h3, by omega⟩
theorem zkw {st : St} {l : List UInt8} (h : (zfR st).2 = some l) : ∃ l0, st = some l0 /\ l.length < l0.length := by
 obtain ⟨l1, h1, e1⟩ := zhn _ _ _ h; obtain ⟨l2, h2, e2⟩ := zcc (st := st) h1; exact ⟨l2, h2, by omega⟩
theorem zjz {l0 l : List UInt8} (h : (zbe (some l0)).2 = some l) : l.length < l0.length := by
 obtain ⟨l1, h1, e1⟩ := zkw h; obtain ⟨l2, h2, e2⟩ := zbJ (st := some l0) h1; injection h2 with h2; subst h2; omega
theorem own_DS {w w' : World} {b0 d d2 base e size n : Nat} {v : Value} {xs : List Value} {cs : Array Value} (h : w.ownsRow base e size v n xs) (h1 : e ≠ 108) (h2 : e ≠ 119) (hb : Blk w d 119 cs) (hd : ∀ g, v.ownBlock = some g -> g ≠ d2) (hf : Fr (DS w b0 d d2) w w') : w'.ownsRow base e size v n xs :=
 zai h hf (fun g hg k => by
  rcases k with k | k | ⟨_, jM, k⟩
  ·exact hd g hg k
  ·exact zak h hb h2 (by rw [hg, k])
  ·exact zak h k h1 hg)
theorem back_S {w w' : World} {o : Option Nat} {b0 d d2 : Nat} (hd2 : w.heap.size <= d2) (h : Fr (fun k => some k = o ∨ zdx w b0 d k) w w') (k : Nat) (hk : k < w.heap.size) (hs : DS w' b0 d d2 k) : some k = o ∨ zdx w b0 d k := by
 rcases Classical.em (some k = o ∨ zdx w b0 d k) with hy | hn
 ·exact hy
 ·rcases hs with rfl | rfl | ⟨hb, cs, hc⟩
  ·omega
  ·exact .inr (.inl rfl)
  ·exact .inr (.inr ⟨hb, cs, (h.block k hk hn).symm.trans hc⟩)
def zcM (b0 d : Nat) (w : World) (base : Nat) (o : Option Nat) (pre : List SerD) (xs : List UInt8) (r : Ending) (w' : World) : Prop :=
 Fr (fun k => some k = o ∨ zdx w b0 d k) w w' /\ match zbk xs with
  | some l => ∃ v', r = .returned (.tuple #[v', .nilIface]) /\ w'.ownsRow base 127 2 v' (pre ++ l).length ((pre ++ l).flatMap zit)
  | none => ∃ t a, r = .returned (.tuple #[.slice none 0 0, .iface t a])
theorem zeS {b0 d : Nat} {w w' : World} {base : Nat} {o : Option Nat} {pre : List SerD} {xs : List UInt8} {t : TypeId} {a : Value} (hd : zbk xs = none) (hf : Fr (fun k => some k = o ∨ zdx w b0 d k) w w') : zcM b0 d w base o pre xs (.returned (.tuple #[.slice none 0 0, .iface t a])) w' := by
 unfold zcM; rw [hd]; exact ⟨hf, _, _, rfl⟩
theorem zhN {b0 d : Nat} {w w' : World} {base : Nat} {o : Option Nat} {pre : List SerD} {xs : List UInt8} {l : List SerD} {v : Value} (hd : zbk xs = some l) (hf : Fr (fun k => some k = o ∨ zdx w b0 d k) w w') (ho : w'.ownsRow base 127 2 v (pre ++ l).length ((pre ++ l).flatMap zit)) : zcM b0 d w base o pre xs (.returned (.tuple #[v, .nilIface])) w' := by
 unfold zcM; rw [hd]; exact ⟨hf, _, rfl, ho⟩
theorem zi0 (te : TypeId) (pe : Value) (b0 d g base : Nat) (cur : Array Value) (pre : List SerD) (xs : List UInt8) (v sv : Value) (w : World) (h : Rec te pe w g cur xs v) (hx : (zaC (some xs)).1 ≠ 1) :
 Calls prog 68 #[.pointer (some ⟨d, 0, none⟩), v, sv] w (zcM b0 d w base sv.ownBlock pre xs) := by
 have hd : zbk xs = none := by
  rcases xs with _ | ⟨b, r⟩
  ·rfl
  ·have : ¬ b = 1 := by rintro rfl; exact hx rfl
   simp [zbk, zbq, this]
 unfold zcM; rw [hd]; clear hd; have hD := h.dec; obtain ⟨off, c, rfl, _⟩ := h; have hQ := zbt te pe w.heap.size g cur _ _ hD; have dW : ¬ ((zaC (some xs)).1 : Int) = 1 := by omega
 clear hD hx; generalize (zaC (some xs)).1 = x at hQ dW; generalize (zaC (some xs)).2 = st at hQ; go_enter func68, ntmps68; go_wp2_with (first | (go_at_call 160; refine hQ.mono ?_; rintro r w1 ⟨rfl, cz, ag⟩) | (go_at_call 161; refine (zbR _ _).mono ?_; rintro r w2 ⟨t, a, rfl, ar⟩))
 go_ret2; refine ⟨?_, _, _, rfl⟩; have f1 := (((zmR (fun k => some k = sv.ownBlock ∨ zdx w b0 d k) w).alloc (.cells #[.slice (some ⟨g, off, none⟩) xs.length c, .nilIface] 229)).trans ag (fun k hk e => by omega)); exact f1.trans ar (fun _ _ e => e.elim)
theorem zi1 (al : St -> Prop) (hG : ∀ l, al (some l) -> zdV (some l) /\ al (zbe (some l)).2) (te : TypeId) (pe : Value) (b0 d g base : Nat) (cur : Array Value) (pre : List SerD) (rest : List UInt8) (v sv : Value) (w : World) (h : Rec te pe w g cur (1 :: rest) v) (ho : w.ownsRow base 127 2 sv pre.length (pre.flatMap zit)) (hb : 2 < base /\ base <= w.heap.size /\ g < w.heap.size) (bj : pre.length <= 1073741824) (aY : al (some rest))
 (lb : List Lab) (ob : ByteArray) (hB : Bld w b0 d lb ob) (fD : b0 <= w.heap.size /\ 2 < b0 /\ b0 <= d) :
 Calls prog 68 #[.pointer (some ⟨d, 0, none⟩), v, sv] w (zcM b0 d w base sv.ownBlock pre (1 :: rest)) := by
 obtain ⟨i0, aB, ay, ax, aA⟩ := info_parts info127; have ib := zlM hG; clear hG; have kt := zlM aY; clear aY; have hD := h.dec; obtain ⟨off, c, rfl, _⟩ := h; have hQ := zbt te pe w.heap.size g cur _ _ hD; have e1 : zaC (some (1 :: rest)) = (1, some rest) := rfl; rw [e1] at hQ; have HO := zlM ho; obtain ⟨a', k', rfl⟩ := zaa ho
 have ox : rest.length <= 1099511627776 := by
  obtain ⟨n, off', c', _, _, hn, aR, _⟩ := hD.open_; have := hn _ rfl; simp at this; omega
 obtain ⟨np, fj⟩ := exE pre.length; have lC := zlM fj; rw [fj] at HO bj ⊢; have HB0 := zlM hB; have hdw : d < w.heap.size := let ⟨_, _, h, _⟩ := hB; h.lt
 clear hD e1 ho fj hB; go_enter func68, ntmps68; go_wp2_with (go_at_call 160; refine hQ.mono ?_; rintro r w1 ⟨rfl, cz, ag⟩; refine Hid.out ?_)
 have F1 : Fr (fun k => some k = (Value.slice a' np k').ownBlock ∨ zdx w b0 d k) w w1 := ((zmR (fun k => some k = (Value.slice a' np k').ownBlock ∨ zdx w b0 d k) w).alloc _).trans ag (fun k hk e => by omega); have O1 : w1.ownsRow base 127 2 (.slice a' np k') np (pre.flatMap zit) := zai (HO.out.alloc _) ag (fun k hk => by have := zar HO.out hk; omega)
 have B1 : Bld w1 b0 d lb ob := (HB0.out.fr ((zmR (fun _ => False) w).alloc _) (fun e => e) (fun _ _ _ e => e)).fr ag (by omega) (fun k hk hc e => by
  obtain ⟨cs, hc⟩ := hc; subst e; have := zmS w 229 #[.slice (some ⟨g, off, none⟩) (1 :: rest).length c, .nilIface]
  exact zmT hc this (by decide) rfl)
 have bw := F1.size; have eP : ∀ k, (Value.slice a' np k').ownBlock = some k -> k < w.heap.size := fun k hk => zar HO.out hk; have cd := zlM F1; have dk := zlM O1; have cI := zlM B1; have aI := zlM cz; have hN := zlM eP; clear cz ag hQ F1 O1 eP B1; refine zlM ?_; go_wp2_with fail
 go_loopw [2] (fun sv wr => ∃ (st : St) (acc : List SerD) (j : Nat), Hid (Dec te pe wr w.heap.size g cur st) /\ Hid (wr.ownsRow base 127 2 sv (np + acc.length) ((pre ++ acc).flatMap zit)) /\ Hid (Fr (fun k => some k = (Value.slice a' np k').ownBlock ∨ zdx w b0 d k) w wr) /\ Hid (∀ k, sv.ownBlock = some k -> (some k = (Value.slice a' np k').ownBlock ∨ w.heap.size < k)) /\
  Hid (zaj zbe j st acc = zaj zbe rest.length (some rest) []) /\ Hid (∀ l, st = some l -> l.length <= j /\ acc.length + l.length <= rest.length) /\ acc.length <= rest.length + 1 /\ Hid (al st) /\ Hid (∃ lb ob, Bld wr b0 d lb ob)) (fun _ wr => zic w.heap.size wr)
 case atStart => exact ⟨some rest, [], rest.length, aI, zlM (by simpa using dk.out), cd, zlM (fun k hk => .inl hk.symm), zlM rfl, zlM (fun l hl => by cases hl; simp), by simp, kt, zlM ⟨_, _, cI.out⟩⟩
 case round =>
  obtain ⟨st, acc, j, HD, HO, HF, HB, HE, HL, mj, nZ, mE⟩ := hrel; obtain ⟨n6, iw, c6, p0, p1, cQ, aR, hd, hg, h2⟩ := HD.out.open_; have hE := zgO te pe _ _ _ _ _ HD.out; obtain ⟨a6, k6, rfl⟩ := zaa HO.out; rcases st with _ | l
  ·clear cQ p1
   have aJ : zaj zbe rest.length (some rest) [] = (acc, none) := by rw [<- HE.out]; unfold zaj; rcases j with _ | j <;> rfl
   have HR := zlM (show zbk (1 :: rest) = none from zcY aJ); clear aJ; simp only [zjj] at hE; rcases zl9 n6 with rfl | oz
   ·go_wp2_with (go_at_call 119; refine hE.mono ?_; rintro r w7 ⟨rfl, rfl⟩)
    go_ret2; exact zeS HR.out HF.out
   ·have bW : (0 : Int) < (n6 : Int) := by omega
    go_wp2_with (go_at_call 119; refine hE.mono ?_; rintro r w7 ⟨rfl, rfl⟩)
    go_ret2; exact zeS HR.out HF.out
  ·obtain rfl : n6 = l.length := cQ l rfl
   simp only [zjj] at hE; rcases l with _ | ⟨x, r⟩
   ·have aJ : zaj zbe rest.length (some rest) [] = (acc, some []) := by rw [<- HE.out]; unfold zaj; rcases j with _ | j <;> rfl
    have HR := zlM (show zbk (1 :: rest) = some acc from zcX aJ); clear aJ cQ p1; simp only [zmE] at p0; go_wp2_with (go_at_call 119; refine hE.mono ?_; rintro r w7 ⟨rfl, rfl⟩)
    go_ret2; refine zhN HR.out HF.out ?_; have h := HO.out; rw [zlN, lC.out]; exact h
   ·obtain ⟨n7, bW⟩ := exE ((x :: r).length)
    have lY : (0 : Int) < (n7 : Int) := by rw [<- bW]; simp
    have gj := HL.out _ rfl; have hM := zbr HD.out; rw [bW] at p0 gj hM; have cV := zcE te pe _ _ _ _ _ HD.out; obtain ⟨aW, bR⟩ := ib.out _ nZ.out; have eW := zlM bW; obtain ⟨S0, gM⟩ : ∃ S0 : St, some (x :: r) = S0 := ⟨_, rfl⟩; rw [gM] at cV aW bR; have gZ := zlM gM; have o8 := zlM bR; obtain ⟨v0, eY⟩ := exE ((zac S0).1)
    obtain ⟨S1, hS1⟩ := exE ((zac S0).2); rw [eY, hS1] at cV; unfold zdV at aW; rw [hS1] at aW; have gg := zlM aW; have nQ := zlM (zmD eY hS1); clear cQ p1 bW gM bR aW eY hS1; have ow := HF.out.size
    go_wp2_with (first
     | (go_at_call 119; refine hE.mono ?_; rintro r w7 ⟨rfl, rfl⟩)
     | (go_at_call 162; refine cV.mono ?_; rintro r w8 ⟨rfl, fE, cJ⟩; refine Hid.out ?_))
    obtain ⟨lb8, ob8, cj⟩ := mE.out; obtain ⟨cs8, fq, _, _⟩ := zcd HD.out; have iO := zhG cj fq cJ; have hs8 := cJ.size; obtain ⟨LN, lj⟩ := exE ((gUv S1).1); obtain ⟨S2, hS2⟩ := exE ((gUv S1).2); have iD := gg.out; unfold zfl zfR at iD; rw [lj, hS2] at iD
    have hX := zdC te pe b0 d w.heap.size g cur lb8 ob8 S1 w8 iO fE (by omega) (by omega) (by omega) LN S2 (Prod.ext lj hS2) iD.1 iD.2.1 iD.2.2 (zeJ S2); have pK : zfR S1 = zba S2 LN := by unfold zfR; rw [lj, hS2]
    rw [<- pK] at hX; obtain ⟨ll, dp⟩ := exE ((zfR S1).1); obtain ⟨S3, hS3⟩ := exE ((zfR S1).2); rw [dp, hS3] at hX; obtain ⟨bO, gy⟩ := exE (zat ll)
    have O8 : w8.ownsRow base 127 2 (.slice a6 (np + acc.length) k6) (np + acc.length) ((pre ++ acc).flatMap zit) := zai HO.out cJ (fun k hk e => by
     rcases HB.out k hk with h | h
     ·have := hN.out k h.symm; omega
     ·omega)
    have F8 : Fr (fun k => some k = (Value.slice a' np k').ownBlock ∨ zdx w b0 d k) w w8 := HF.out.trans cJ (fun k hk e => by omega); have mF := zlM (show ∃ cs, Blk w8 d 119 cs from let ⟨_, _, h, _⟩ := iO; ⟨_, h⟩); rw [gy] at hX; have HX := zlM hX; have iV := zlM O8; have jV := zlM F8; have jd := zlM (zmD dp (zmD hS3 gy))
    clear hX O8 F8 dp hS3 gy pK iD lj hS2 iO fq cj fE cJ cV p0; refine zlM ?_
    go_wp2_with (first
     | (go_at_call 117; refine HX.out.mono ?_; rintro r w9 ⟨rfl, ff, ef, iO⟩; have qI := zlM ff; have nN := zlM ef; have qM := zlM iO; clear ff ef iO)
     | (at_builtin; refine Hid.out ?_))
    obtain ⟨cs9, fp⟩ := mF.out; have hs9 := nN.out.size
    have O9 : w9.ownsRow base 127 2 (.slice a6 (np + acc.length) k6) (np + acc.length) ((pre ++ acc).flatMap zit) := own_DS iV.out (by decide) (by decide) fp (fun k hk => by
     rcases HB.out k hk with h | h
     ·have := hN.out k h.symm; omega
     ·omega) nN.out
    have F9 : Fr (fun k => some k = (Value.slice a' np k').ownBlock ∨ zdx w b0 d k) w w9 := jV.out.trans nN.out (fun k hk e => back_S (zlY _) jV.out k hk e); have cU := zlM O9; have dS := zlM F9; obtain ⟨q0, q1⟩ := nQ.out; obtain ⟨q2, q3, q4⟩ := jd.out; have aZ : zbe S0 = (⟨v0, ll⟩, S3) := by unfold zbe; rw [q0, q1, q2, q3]
    have dr : Hid (∀ j', j = j' + 1 -> zaj zbe j' S3 (acc ++ [⟨v0, ll⟩]) = zaj zbe rest.length (some rest) []) := zlM (by
     rintro j' rfl; have h := HE.out; have h2 : zaj zbe (j' + 1) (some (x :: r)) acc = zaj zbe j' (zbe (some (x :: r))).2 (acc ++ [(zbe (some (x :: r))).1]) := rfl; rw [h2, gZ.out, aZ] at h
     exact h)
    have b8 : Hid (∀ l, S3 = some l -> l.length < n7) := zlM (fun l hl => by
     have h := zjz (l0 := x :: r) (l := l) (by rw [gZ.out, aZ]; exact hl)
     rw [eW.out] at h; exact h)
    have o6 : Hid (al S3) := zlM (by have h := o8.out; rw [aZ] at h; exact h); have re := zlM q4; clear O9 F9 q0 q1 q2 q3 q4 aZ hE fp; refine zlM ?_
    refine zae _ rfl _ _ 121 121 rfl base 127 i0 _ 2 24 underlying121 aB ay ax aA rfl (by decide) (.slice a6 (np + acc.length) k6) (np + acc.length) ((pre ++ acc).flatMap zit) rfl ((cU.out.alloc _).alloc _) _ 1 [.int .u64 v0, .string bO] rfl (zaF underlying121 (zaL w9 _ 127 #[.int .u64 v0, .string bO]) rfl (by simp [Value.oneCell'])) (by unfold maxLen; omega) (by omega) (by simp; omega) ?_
    intro v' w2 ac ad aw
    obtain ⟨a9, k9, rfl⟩ := zaa ac
    have aU : ∀ k, (Value.slice a6 (np + acc.length) k6).ownBlock = some k -> base <= k /\ k ≠ w.heap.size := fun k hk => ⟨(cU.out.lt k hk).1, by
     rcases HB.out k hk with h | h
     ·have := hN.out k h.symm; omega
     ·omega⟩
    have iy := ad.size; simp at iy; have fG : Fr (fun k => some k = (Value.slice a6 (np + acc.length) k6).ownBlock) w9 w2 := (((zmR (fun k => some k = (Value.slice a6 (np + acc.length) k6).ownBlock) w9).alloc _).alloc _).grown ad (fun k hk => .inl hk.symm); obtain ⟨qx, iI, fS, _⟩ := zcd qI.out
    have rD : Dec te pe w2 w.heap.size g cur S3 := qI.out.fr fG (fun e => (aU _ e.symm).2 rfl) (fun e => zak cU.out fS (by decide) e.symm) (fun e => by have := (aU _ e.symm).1; omega); have oU : Bld w2 b0 d ll bO := by
     have h2 := qM.out; obtain ⟨_, _, lf, _⟩ := h2; exact qM.out.fr fG (fun e => zak cU.out lf (by decide) e.symm) (fun g' _ hc e => by obtain ⟨cs, hc⟩ := hc; exact zak cU.out hc (by decide) e.symm)
    have rO : w2.ownsRow base 127 2 (.slice a9 (np + acc.length + 1) k9) (np + (acc ++ [(⟨v0, ll⟩ : SerD)]).length) ((pre ++ (acc ++ [(⟨v0, ll⟩ : SerD)])).flatMap zit) := by
     rw [<- zlP, zml, zlN, zl3]; simpa [zit, re.out, Nat.add_assoc] using ac
    have rF : Fr (fun k => some k = (Value.slice a' np k').ownBlock ∨ zdx w b0 d k) w w2 := dS.out.trans fG (fun k hk e => by
     rcases HB.out k e.symm with h | h
     ·exact .inl h
     ·omega)
    have rB : ∀ k, (Value.slice a9 (np + acc.length + 1) k9).ownBlock = some k -> (some k = (Value.slice a' np k').ownBlock ∨ w.heap.size < k) := fun k hk => by
     rcases aw with h | h
     ·exact HB.out k (h ▸ hk)
     ·rw [h] at hk; injection hk with hk; simp at hk; exact .inr (by omega)
    have rM : zic w.heap.size w2 < n7 + 1 := by
     rcases S3 with _ | l9
     ·rw [zc8 rD]; omega
     ·rw [zbr rD]; have := b8.out l9 rfl; omega
    have RD := zlM rD; have RO := zlM rO; have RF := zlM rF; have RB := zlM rB; have RBL : Hid (∃ lb ob, Bld w2 b0 d lb ob) := zlM ⟨_, _, oU⟩; clear rD rO rF rB oU ac ad aw aU fG iI fS; go_wp2; go_roundw
    case rel =>
     obtain ⟨j', rfl⟩ : ∃ j', j = j' + 1 := ⟨j - 1, by have := eW.out; simp at this; omega⟩; refine ⟨S3, acc ++ [⟨v0, ll⟩], j', RD, RO, RF, RB, zlM (dr.out j' rfl), zlM (fun l hl => ?_), by simp; omega, o6, RBL⟩; have := b8.out l hl; rw [zlN, zl3]; omega
    case measure => rw [hM]; exact rM
theorem zkc (al : St -> Prop) (hG : ∀ l, al (some l) -> zdV (some l) /\ al (zbe (some l)).2) (te : TypeId) (pe : Value) (b0 d g base : Nat) (cur : Array Value) (pre : List SerD) (xs : List UInt8) (v sv : Value) (w : World) (h : Rec te pe w g cur xs v) (ho : w.ownsRow base 127 2 sv pre.length (pre.flatMap zit)) (hb : 2 < base /\ base <= w.heap.size /\ g < w.heap.size) (bj : pre.length <= 1073741824) (aY : ∀ r, xs = 1 :: r -> al (some r))
 (lb : List Lab) (ob : ByteArray) (hB : Bld w b0 d lb ob) (fD : b0 <= w.heap.size /\ 2 < b0 /\ b0 <= d) :
 Calls prog 68 #[.pointer (some ⟨d, 0, none⟩), v, sv] w (zcM b0 d w base sv.ownBlock pre xs) := by
 by_cases hx : (zaC (some xs)).1 = 1
 ·rcases xs with _ | ⟨b, rest⟩
  ·exact absurd hx (by decide)
  ·have hb2 : b = 1 := by
    have : b.toNat = (1 : UInt8).toNat := hx; exact UInt8.toNat_inj.1 this
   subst hb2; exact zi1 al hG te pe b0 d g base cur pre rest v sv w h ho hb bj (aY _ rfl) lb ob hB fD
 ·exact zi0 te pe b0 d g base cur pre xs v sv w h hx
end Go.Proofs.YtbkookiigkckdaaGreatDoor
