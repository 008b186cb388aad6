/- Merged. -/
import Derived.Test.YtbkookiigkckdaaGreatDoorKD07
set_option linter.unusedVariables false
set_option linter.unusedSimpArgs false
set_option maxRecDepth 100000
set_option maxHeartbeats 8000000
namespace Go.Proofs.YtbkookiigkckdaaGreatDoor
open Go.RowKit Go.Proofs.Tryz
def one (s : Stn) : Ston := ⟨s.ref, [(s.lo, s.hi)]⟩
def zbO (w : World) (base : Nat) (o : Option Nat) (pre : List Ston) (xs : List UInt8) (r : Ending) (w' : World) : Prop :=
 Fr (fun k => some k = o) w w' /\ match zaL xs with
  | some l => ∃ v' lv, r = .returned (.tuple #[v', .nilIface]) /\ lv.map Prod.fst = pre ++ l.map one /\ OwnS base 147 279 w' v' lv
  | none => ∃ t a, r = .returned (.tuple #[.slice none 0 0, .iface t a])
theorem zd8 {w w' : World} {base : Nat} {o : Option Nat} {pre : List Ston} {xs : List UInt8} {t : TypeId} {a : Value} (hd : zaL xs = none) (hf : Fr (fun k => some k = o) w w') : zbO w base o pre xs (.returned (.tuple #[.slice none 0 0, .iface t a])) w' := by
 unfold zbO; rw [hd]; exact ⟨hf, _, _, rfl⟩
theorem zf6 {w w' : World} {base : Nat} {o : Option Nat} {pre : List Ston} {xs : List UInt8} {l : List Stn} {v : Value} {lv : List (Ston × Value)} (hd : zaL xs = some l) (hf : Fr (fun k => some k = o) w w') (hm : lv.map Prod.fst = pre ++ l.map one) (ho : OwnS base 147 279 w' v lv) : zbO w base o pre xs (.returned (.tuple #[v, .nilIface])) w' := by
 unfold zbO; rw [hd]; exact ⟨hf, _, _, rfl, hm, ho⟩
theorem own_one {w : World} {base e : Nat} {a b : Value} (hb : base <= w.heap.size) : (w.alloc (.cells #[a, b] e)).ownsRow base e 2 (.slice (some ⟨w.heap.size, 0, none⟩) 1 1) 1 [a, b] :=
 ⟨rfl, .inr ⟨_, _, _, rfl, hb, znm w e #[a, b], zmt _, by unfold maxLen; omega, rfl, rfl⟩⟩
theorem zjH {l0 l : List UInt8} (h : (zbw (some l0)).2 = some l) : l.length < l0.length := by
 obtain ⟨l1, h1, qV⟩ := zb5 (st := (zaJ (zac (some l0)).2).2) h; obtain ⟨l2, h2, qU⟩ := zb5 (st := (zac (some l0)).2) h1; obtain ⟨l3, h3, h3'⟩ := zbH (st := some l0) h2; injection h3 with h3; subst h3; omega
theorem zhb (te : TypeId) (pe : Value) (dv : Value) (g base : Nat) (cur : Array Value) (pre : List Ston) (xs : List UInt8) (v sv : Value) (w : World) (h : Rec te pe w g cur xs v) (hx : (zaD (some xs)).1 ≠ 3) :
 Calls prog 74 #[dv, v, sv] w (zbO w base sv.ownBlock pre xs) := by
 have hd : zaL xs = none := by
  rcases xs with _ | ⟨b, r⟩
  ·rfl
  ·have : ¬ b = 3 := by rintro rfl; exact hx rfl
   simp [zaL, zbn, this]
 unfold zbO; rw [hd]; clear hd; have hD := h.dec; obtain ⟨off, c, rfl, _⟩ := h; have hQ := zbC te pe w.heap.size g cur _ _ hD; have dS : ¬ ((zaD (some xs)).1 : Int) = 3 := by omega
 clear hD hx; generalize (zaD (some xs)).1 = x at hQ dS; generalize (zaD (some xs)).2 = st at hQ; go_enter func74, ntmps74; go_wp2_with (first | (go_at_call 160; refine hQ.mono ?_; rintro r w1 ⟨rfl, cr, ah⟩) | (go_at_call 161; refine (zbN _ _).mono ?_; rintro r w2 ⟨t, a, rfl, aq⟩))
 go_ret2; refine ⟨?_, _, _, rfl⟩; have f1 := (((znl (fun k => some k = sv.ownBlock) w).alloc (.cells #[.slice (some ⟨g, off, none⟩) xs.length c, .nilIface] 229)).trans ah (fun k hk e => by omega)); exact f1.trans aq (fun _ _ e => e.elim)
theorem OwnS.off {base te ti b t : Nat} {w w' : World} {v : Value} {lv : List (Ston × Value)} {cs : Array Value} (h : OwnS base te ti w v lv) (hb : Blk w b t cs) (h1 : te ≠ t) (h2 : ti ≠ t) (hf : Fr (fun k => k = b) w w') : OwnS base te ti w' v lv :=
 ⟨zai h.1 hf (fun g hg e => zak h.1 hb h1 (by rw [hg, e])), fun p hp => zai (h.2 p hp) hf (fun g hg e => zak (h.2 p hp) hb h2 (by rw [hg, e]))⟩
theorem OwnS.alloc {base te ti : Nat} {w : World} {v : Value} {lv : List (Ston × Value)} (h : OwnS base te ti w v lv) (o : Obj) : OwnS base te ti (w.alloc o) v lv := h.fr ((znl (fun _ => False) w).alloc o) (fun _ _ _ e => e)
theorem Dec.blk {te : TypeId} {pe : Value} {w : World} {d g : Nat} {cur : Array Value} {st : St} (h : Dec te pe w d g cur st) : ∃ cs, Blk w d 229 cs := by
 rcases st with _ | l
 ·obtain ⟨_, off, c, hb, _⟩ := h; exact ⟨_, hb⟩
 ·obtain ⟨off, c, hb, _⟩ := h; exact ⟨_, hb⟩
theorem zhc (te : TypeId) (pe : Value) (dv : Value) (g base : Nat) (cur : Array Value) (lp : List (Ston × Value)) (rest : List UInt8) (v sv : Value) (w : World) (h : Rec te pe w g cur (3 :: rest) v) (ho : OwnS base 147 279 w sv lp) (hb : g < base /\ 2 < base /\ base <= w.heap.size) (bx : lp.length <= 1073741824) :
 Calls prog 74 #[dv, v, sv] w (zbO w base sv.ownBlock (lp.map Prod.fst) (3 :: rest)) := by
 obtain ⟨i0, aC, az, ay, aB⟩ := info_parts info147; have hD := h.dec; obtain ⟨off, c, rfl, _⟩ := h; have hQ := zbC te pe w.heap.size g cur _ _ hD; have e1 : zaD (some (3 :: rest)) = (3, some rest) := rfl; rw [e1] at hQ; have HO := zmh ho; obtain ⟨a', k', rfl⟩ := zaa ho.1; have oH : rest.length <= 1099511627776 := by
  obtain ⟨n, off', c', _, _, hn, aQ, _⟩ := hD.open_; have := hn _ rfl; simp at this; omega
 obtain ⟨np, fk⟩ := exE lp.length; have lM := zmh fk; rw [fk] at HO bx ⊢; have nP := hD.blk; clear hD e1 ho fk; go_enter func74, ntmps74
 go_wp2_with (first
  | (go_at_call 160; refine hQ.mono ?_; rintro r w1 ⟨rfl, cr, ah⟩; refine Hid.out ?_))
 obtain ⟨csD, nP⟩ := nP; have F1 : Fr (fun k => some k = (Value.slice a' np k').ownBlock) w w1 := ((znl (fun k => some k = (Value.slice a' np k').ownBlock) w).alloc _).trans ah (fun k hk e => by omega); have O1 : OwnS base 147 279 w1 (.slice a' np k') lp := (HO.out.alloc _).off nP (by decide) (by decide) ah; have bh := F1.size
 have eM : ∀ k, (Value.slice a' np k').ownBlock = some k -> k < w.heap.size := fun k hk => zaq HO.out.1 hk; have bX := zmh F1; have de := zmh O1; have aT := zmh cr; have ir := zmh eM; clear cr ah hQ F1 O1 eM nP; refine zmh ?_; go_wp2_with fail
 go_loopw [2] (fun sv wr => ∃ (st : St) (acc : List Stn) (lo : List (Ston × Value)) (j : Nat), Hid (Dec te pe wr w.heap.size g cur st) /\ Hid (OwnS base 147 279 wr sv lo) /\ Hid (lo.map Prod.fst = lp.map Prod.fst ++ acc.map one) /\ Hid (lo.length = np + acc.length) /\ Hid (Fr (fun k => some k = (Value.slice a' np k').ownBlock) w wr) /\ Hid (∀ k, sv.ownBlock = some k -> (some k = (Value.slice a' np k').ownBlock ∨ w.heap.size < k)) /\
  Hid (zaj zbw j st acc = zaj zbw rest.length (some rest) []) /\ Hid (∀ l, st = some l -> l.length <= j /\ acc.length + l.length <= rest.length) /\ acc.length <= rest.length + 1) (fun _ wr => zij w.heap.size wr)
 case atStart => exact ⟨some rest, [], lp, rest.length, aT, de, zmh (by simp), zmh (by simpa using lM.out), bX, zmh (fun k hk => .inl hk.symm), zmh rfl, zmh (fun l hl => by cases hl; simp), by simp⟩
 case round =>
  obtain ⟨st, acc, lo, j, HD, HO, HM, it, HF, HB, HE, HL, mC⟩ := hrel; obtain ⟨n6, iA, c6, p0, p1, cK, aQ, hd, hg, h2⟩ := HD.out.open_; have hE := zgS te pe _ _ _ _ _ HD.out; have hLn := decLen2 te pe _ _ _ _ _ HD.out; obtain ⟨a6, k6, rfl⟩ := zaa HO.out.1; rcases st with _ | l
  ·clear cK p1 p0
   have aG : zaj zbw rest.length (some rest) [] = (acc, none) := by rw [<- HE.out]; unfold zaj; rcases j with _ | j <;> rfl
   have HR := zmh (show zaL (3 :: rest) = none from zcW aG); clear aG; simp only [zju] at hE; go_wp2_with (go_at_call 118; refine hLn.mono ?_; rintro r w7 ⟨n7, rfl, _, hb7, rfl⟩; refine Hid.out ?_)
   rcases zmE n7 with rfl | oJ
   ·refine zmh ?_
    go_wp2_with (go_at_call 119; refine hE.mono ?_; rintro r w7 ⟨rfl, rfl⟩)
    go_ret2; exact zd8 HR.out HF.out
   ·have bY : (0 : Int) < (n7 : Int) := by omega
    refine zmh ?_; go_wp2_with (go_at_call 119; refine hE.mono ?_; rintro r w7 ⟨rfl, rfl⟩)
    go_ret2; exact zd8 HR.out HF.out
  ·obtain rfl : n6 = l.length := cK l rfl
   simp only [zju] at hE; rcases l with _ | ⟨x, r⟩
   ·have aG : zaj zbw rest.length (some rest) [] = (acc, some []) := by rw [<- HE.out]; unfold zaj; rcases j with _ | j <;> rfl
    have HR := zmh (show zaL (3 :: rest) = some acc from zcV aG); clear aG cK p1; simp only [zm9] at p0; go_wp2_with (go_at_call 118; refine hLn.mono ?_; rintro r w7 ⟨n7, rfl, bY, hb7, rfl⟩; refine Hid.out ?_)
    have mr : n7 = 0 := bY [] rfl; have hn9 : ¬ (0 : Int) < (n7 : Int) := by omega
    clear bY mr; refine zmh ?_; go_wp2_with (go_at_call 119; refine hE.mono ?_; rintro r w7 ⟨rfl, rfl⟩)
    go_ret2; exact zf6 HR.out HF.out HM.out HO.out
   ·obtain ⟨n7, bY⟩ := exE ((x :: r).length)
    have mr : (0 : Int) < (n7 : Int) := by rw [<- bY]; simp
    have gm := HL.out _ rfl; have hM := zbo HD.out; rw [bY] at p0 gm hM; have cP := zcA te pe _ _ _ _ _ HD.out; have eV := zmh bY; clear cK p1 bY
    go_wp2_with (first
     | (go_at_call 118; refine hLn.mono ?_; rintro r w7 ⟨n9, rfl, hn9, hb7, rfl⟩; have hn9' : n7 = n9 := ((hn9 _ rfl).trans eV.out).symm; subst hn9')
     | (go_at_call 119; refine hE.mono ?_; rintro r w7 ⟨rfl, rfl⟩)
     | (go_at_call 162; refine cP.mono ?_; rintro r w8 ⟨rfl, fF, cB⟩; refine Hid.out ?_))
    have s8 := cB.size; have D8 := zmh fF; have ip := zdA te pe _ _ _ _ _ fF; have F8 := zmh cB; clear fF cB cP p0; refine zmh ?_; go_wp2_with (go_at_call 165; refine ip.mono ?_; rintro r w9 ⟨rfl, fh, dY⟩; refine Hid.out ?_)
    have s9 := dY.size; have D9 := zmh fh; have jP := zdA te pe _ _ _ _ _ fh; have F9 := zmh dY; clear fh dY ip; refine zmh ?_; go_wp2_with (go_at_call 165; refine jP.mono ?_; rintro r wA ⟨rfl, qJ, iK⟩; refine Hid.out ?_)
    have FA : Fr (fun k => k = w.heap.size) wr wA := (F8.out.same F9.out).same iK; have sA := FA.size; have DA := zmh qJ; have dP := zmh FA; obtain ⟨csD, nP⟩ := HD.out.blk; have OA : OwnS base 147 279 wA (.slice a6 lo.length k6) lo := HO.out.off nP (by decide) (by decide) FA; have cN := zmh OA; clear qJ iK jP FA OA D8 F8 D9 F9 nP; refine zmh ?_
    go_wp2_with (first
     | (at_builtin; refine Hid.out ?_))
    have bZ : ∀ l, (zbw (some (x :: r))).2 = some l -> l.length < n7 := fun l hl => eV.out ▸ zjH hl; have iq : Dec te pe wA w.heap.size g cur (zbw (some (x :: r))).2 := DA.out
    have dk : Hid (∀ j', j = j' + 1 -> zaj zbw j' (zbw (some (x :: r))).2 (acc ++ [(zbw (some (x :: r))).1]) = zaj zbw rest.length (some rest) []) := zmh (by rintro j' rfl; exact HE.out); have q1 : (zac (some (x :: r))).1 = (zbw (some (x :: r))).1.ref := rfl; have q2 : (zaJ (zac (some (x :: r))).2).1 = (zbw (some (x :: r))).1.lo := rfl
    have q3 : (zaJ (zaJ (zac (some (x :: r))).2).2).1 = (zbw (some (x :: r))).1.hi := rfl; rw [q3, q2, q1]; clear DA hE HE q1 q2 q3; generalize zbw (some (x :: r)) = S at iq bZ dk ⊢; obtain ⟨s1, jo⟩ := S; simp only [] at iq bZ dk ⊢; have gV := zmh iq; have bi := zmh bZ; clear iq bZ; refine zmh ?_; have hbA : base <= wA.heap.size := by omega
    have am := own_one (w := wA) (base := base) (e := 279) (a := .int .i64 s1.lo) (b := .int .i64 s1.hi) hbA; have jE : lo.length <= 1073741824 + 1099511627776 + 1 := by have := it.out; omega
    refine zaf _ rfl _ _ 139 139 rfl base 147 i0 _ 2 32 underlying139 aC az ay aB rfl (by decide) (.slice a6 lo.length k6) lo.length (lo.flatMap stc) rfl ((cN.out.alloc _).alloc _).1 _ 1 (stc (one s1, .slice (some ⟨wA.heap.size, 0, none⟩) 1 1)) rfl (zaF underlying139 (zaH wA _ 147 (stc (one s1, .slice (some ⟨wA.heap.size, 0, none⟩) 1 1)).toArray) rfl (by simp [stc, Value.oneCell'])) (by unfold maxLen; omega) (by omega) (by simp; omega) ?_
    intro v' w2 ac ad av
    obtain ⟨a9, k9, rfl⟩ := zaa ac
    have aO : ∀ k, (Value.slice a6 lo.length k6).ownBlock = some k -> base <= k /\ k ≠ w.heap.size := fun k hk => ⟨(cN.out.1.lt k hk).1, by
     rcases HB.out k hk with h | h
     ·have := ir.out k h.symm; omega
     ·omega⟩
    have iB := ad.size; simp at iB; have fG : Fr (fun k => some k = (Value.slice a6 lo.length k6).ownBlock) wA w2 := (((znl (fun k => some k = (Value.slice a6 lo.length k6).ownBlock) wA).alloc _).alloc _).grown ad (fun k hk => .inl hk.symm)
    have rD : Dec te pe w2 w.heap.size g cur jo := gV.out.fr fG (fun e => (aO _ e.symm).2 rfl) (fun e => by have := (aO _ e.symm).1; omega) (fun e => by have := (aO _ e.symm).1; omega); have rO : OwnS base 147 279 w2 (.slice a9 (lo.length + 1) k9) (lo ++ [(one s1, .slice (some ⟨wA.heap.size, 0, none⟩) 1 1)]) :=
     OwnS.push (p := (one s1, .slice (some ⟨wA.heap.size, 0, none⟩) 1 1)) ((cN.out.alloc _).alloc _) (am.alloc _) ad ac (by decide)
    have rMM : (lo ++ [(one s1, Value.slice (some ⟨wA.heap.size, 0, none⟩) 1 1)]).map Prod.fst = lp.map Prod.fst ++ (acc ++ [s1]).map one := by
     rw [zmH, zmH, HM.out, zmk]; rfl
    have rL : (lo ++ [(one s1, Value.slice (some ⟨wA.heap.size, 0, none⟩) 1 1)]).length = np + (acc ++ [s1]).length := by
     rw [zmi, zmi, it.out]; simp [Nat.add_assoc]
    have rF : Fr (fun k => some k = (Value.slice a' np k').ownBlock) w w2 := (HF.out.trans dP.out (fun k hk e => by omega)).trans fG (fun k hk e => by
     rcases HB.out k e.symm with h | h
     ·exact h
     ·omega)
    have rB : ∀ k, (Value.slice a9 (lo.length + 1) k9).ownBlock = some k -> (some k = (Value.slice a' np k').ownBlock ∨ w.heap.size < k) := fun k hk => by
     rcases av with h | h
     ·exact HB.out k (h ▸ hk)
     ·rw [h] at hk; injection hk with hk; simp at hk; exact .inr (by omega)
    have rM : zij w.heap.size w2 < n7 + 1 := by
     rcases jo with _ | l9
     ·rw [zc7 rD]; omega
     ·rw [zbo rD]; have := bi.out l9 rfl; omega
    have RD := zmh rD; have RO := zmh rO; have RF := zmh rF; have RB := zmh rB; have RMM := zmh rMM; have RL := zmh rL; clear rD rO rF rB rMM rL ac ad av aO fG am cN; go_wp2; go_roundw
    case rel =>
     obtain ⟨j', rfl⟩ : ∃ j', j = j' + 1 := ⟨j - 1, by have := eV.out; simp at this; omega⟩; have au : ∃ a m c, (Value.slice a9 (lo.length + 1) k9) = .slice a m c := ⟨_, _, _, rfl⟩; refine ⟨jo, acc ++ [s1], _, j', RD, RO, RMM, RL, RF, RB, zmh (dk.out j' rfl), zmh (fun l hl => ?_), by simp; omega⟩; have := bi.out l hl; rw [zmi, zmy]; omega
    case measure => rw [hM]; exact rM
theorem zig (te : TypeId) (pe : Value) (dv : Value) (g base : Nat) (cur : Array Value) (lp : List (Ston × Value)) (xs : List UInt8) (v sv : Value) (w : World) (h : Rec te pe w g cur xs v) (ho : OwnS base 147 279 w sv lp) (hb : g < base /\ 2 < base /\ base <= w.heap.size) (bx : lp.length <= 1073741824) :
 Calls prog 74 #[dv, v, sv] w (zbO w base sv.ownBlock (lp.map Prod.fst) xs) := by
 by_cases hx : (zaD (some xs)).1 = 3
 ·rcases xs with _ | ⟨b, rest⟩
  ·exact absurd hx (by decide)
  ·have hb2 : b = 3 := by
    have : b.toNat = (3 : UInt8).toNat := hx; exact UInt8.toNat_inj.1 this
   subst hb2; exact zhc te pe dv g base cur lp rest v sv w h ho hb bx
 ·exact zhb te pe dv g base cur (lp.map Prod.fst) xs v sv w h hx
theorem flat_take (l : List Ston) (k : Nat) (x : Ston) (h : l[k]? = some x) : zb7 (l.take (k + 1)) = zb7 (l.take k) ++ zeH x := by
 unfold zb7; rw [zmS, h, zmQ]; simp
def FlatEnds (w : World) (l : List Ston) (r : Ending) (w' : World) : Prop :=
 ∃ v lo, r = .returned v /\ lo.map Prod.fst = (zb7 l).map one /\ OwnS w.heap.size 151 281 w' v lo /\ z_F w w'
theorem flat_any (P : Nat -> Prop) (v : Value) (lv : List (Ston × Value)) (w : World) (h : SlS P w v lv) (hl : lv.length <= 4096) (aP : ∀ p ∈ lv, p.1.ivs.length <= 4096) :
 Calls prog 105 #[v] w (FlatEnds w (lv.map Prod.fst)) := by
 obtain ⟨⟨A, c, rfl, ai, aQ, hr⟩, hin⟩ := h; obtain ⟨n, hn⟩ := exE lv.length; rw [hn] at hr aQ hl ⊢; have HN := zmh hn; have HR := zmh hr; have HI := zmh hin
 have gz := zmh aP; obtain ⟨i0, aC, az, ay, aB⟩ := info_parts zj8; clear hn hr ai hin aP; go_enter func105, ntmps105; go_wp2
 go_loopw [3, 4] (fun v i wr => ∃ (k : Nat) (lo : List (Ston × Value)), k <= n /\ i = .int .i64 k /\ Hid (lo.map Prod.fst = (zb7 ((lv.take k).map Prod.fst)).map one) /\ Hid (lo.length <= k * 4096) /\ Hid (OwnS w.heap.size 151 281 wr v lo) /\ Hid (z_F w wr)) (fun _ i _ => n - (intOf i).toNat)
 case atStart => exact ⟨0, [], zms _, rfl, zmh rfl, zmh (by simp), zmh (OwnS.nil _ _ _ _), zmh (znl _ _)⟩
 case round =>
  obtain ⟨k, lo, hk, rfl, HM, it, HO, HF⟩ := hrel; by_cases hlt : k < n
  ·obtain ⟨g, off, rfl, _, aa⟩ := HR.out (by omega)
   obtain ⟨x, hx⟩ : ∃ x, lv[k]? = some x := ⟨_, zmj (by rw [HN.out]; exact hlt)⟩; have cw : ∀ j, j < 2 -> ∀ u, (stc x)[j]? = some u -> w.cell? ⟨g, off + (k * 2 + j), none⟩ = some u := fun j hj u hu =>
    aa (k * 2 + j) u (by rw [zby stc (fun _ => rfl) lv k x hx j hj]; exact hu)
   have aF := zmp hx; have aY := HI.out x aF; have bF := gz.out x aF; have fL : (lv.map Prod.fst)[k]? = some x.1 := by rw [zmR, hx]; rfl
   obtain ⟨⟨ref, ivs⟩, iv⟩ := x; simp only [] at aY bF fL; obtain ⟨Ai, ci, rfl, _, ql, fN⟩ := aY; have C0 : Hid (w.cell? ⟨g, off + k * 2, none⟩ = some (.int .u64 ref)) := zmh (cw 0 (by omega) _ rfl); have C1 : Hid (w.cell? ⟨g, off + k * 2 + 1, none⟩ = some (.slice Ai ivs.length ci)) := zmh (cw 1 (by omega) _ rfl); obtain ⟨m, hm⟩ := exE ivs.length; rw [hm] at C1 ql fN bF
   have HX1 := zmh fL; have oa := zmh fN; have HMM := zmh hm; clear hx cw aF fL fN hm aa; have bD := HF.out.size; go_wp2_with fail
   obtain ⟨f0, fo⟩ := exE (zb7 ((lv.take k).map Prod.fst)); rw [fo] at HM; have mR := zmh fo; clear fo
   go_loopw [3, 5] (fun v i w' => ∃ (j : Nat) (jf : List (Ston × Value)), j <= m /\ i = .int .i64 j /\ Hid (jf.map Prod.fst = (f0 ++ (ivs.take j).map (fun p => (⟨ref, p.1, p.2⟩ : Stn))).map one) /\ Hid (jf.length <= k * 4096 + j) /\ Hid (OwnS w.heap.size 151 281 w' v jf) /\ Hid (z_F w w')) (fun _ i _ => m - (intOf i).toNat)
   case atStart => exact ⟨0, lo, zms _, rfl, zmh (by rw [HM.out]; simp), zmh (by have := it.out; omega), HO, HF⟩
   case round =>
    obtain ⟨j, jf, hj, rfl, HM2, HL2, cD, bu⟩ := hrel; have c1 : wr.cell? ⟨g, off + k * 2 + 1, none⟩ = some (.slice Ai m ci) := by
     rw [bu.out.cell (p := ⟨g, off + k * 2 + 1, none⟩) (zmo w _ C1.out) id]; exact C1.out
    by_cases hlt2 : j < m
    ·obtain ⟨g2, an, rfl, _, aj⟩ := oa.out (by omega)
     obtain ⟨y, hy⟩ : ∃ y, ivs[j]? = some y := ⟨_, zmj (by rw [HMM.out]; exact hlt2)⟩; have cw : ∀ i, i < 2 -> ∀ u, (ivc y)[i]? = some u -> w.cell? ⟨g2, an + (j * 2 + i), none⟩ = some u := fun i hi u hu =>
      aj (j * 2 + i) u (by rw [zby ivc (fun _ => rfl) ivs j y hy i hi]; exact hu)
     have D0 : w.cell? ⟨g2, an + j * 2, none⟩ = some (.int .i64 y.1) := cw 0 (by omega) _ rfl; have D1 : w.cell? ⟨g2, an + j * 2 + 1, none⟩ = some (.int .i64 y.2) := cw 1 (by omega) _ rfl
     have HC : Hid (∀ W', z_F w W' -> W'.cell? ⟨g, off + k * 2, none⟩ = some (.int .u64 ref) /\ W'.cell? ⟨g, off + k * 2 + 1, none⟩ = some (.slice (some ⟨g2, an, none⟩) m ci) /\ W'.cell? ⟨g2, an + j * 2, none⟩ = some (.int .i64 y.1) /\ W'.cell? ⟨g2, an + j * 2 + 1, none⟩ = some (.int .i64 y.2)) := zmh (fun W' hF => by
      refine ⟨?_, ?_, ?_, ?_⟩
      ·rw [hF.cell (p := ⟨g, off + k * 2, none⟩) (zmo w _ C0.out) id]; exact C0.out
      ·rw [hF.cell (p := ⟨g, off + k * 2 + 1, none⟩) (zmo w _ C1.out) id]; exact C1.out
      ·rw [hF.cell (p := ⟨g2, an + j * 2, none⟩) (zmo w _ D0) id]; exact D0
      ·rw [hF.cell (p := ⟨g2, an + j * 2 + 1, none⟩) (zmo w _ D1) id]; exact D1)
     have HY := zmh hy; obtain ⟨a6, k6, rfl⟩ := zaa cD.out.1; have kU := bu.out.size; have iF : jf.length <= 4096 * 4096 + 4096 := by
      have h1 := HL2.out; have h2 : k * 4096 <= 4096 * 4096 := zmu _ (by omega); omega
     clear hy cw D0 D1 aj; go_wp2_with fail
     go_region_held3 (fun w' => w'.cell? ⟨g, off + k * 2, none⟩ = some (.int .u64 ref) /\ w'.cell? ⟨g, off + k * 2 + 1, none⟩ = some (.slice (some ⟨g2, an, none⟩) m ci) /\ w'.cell? ⟨g2, an + j * 2, none⟩ = some (.int .i64 y.1) /\ w'.cell? ⟨g2, an + j * 2 + 1, none⟩ = some (.int .i64 y.2))
      ((first | exact HC.out _ F9.out | exact HC.out _ bu.out.drew | exact HC.out _ (bu.out.drew.alloc _) | exact HC.out _ (bu.out.alloc _).drew | exact HC.out _ ((bu.out.drew.alloc _).alloc _) | exact HC.out _ ((bu.out.alloc _).alloc _).drew | go_keep))
      ((first
        | (refine zat _ (by rfl) _ _ 48 48 (by rfl) w.heap.size 151 i0 _ 2 32 underlying48 aC az ay aB rfl (by decide) (.slice a6 jf.length k6) jf.length (jf.flatMap stc) (by rfl) ((cD.out.alloc (.cells (ivc y).toArray 281)).alloc (.cells (stc (⟨ref, [(y.1, y.2)]⟩, .slice (some ⟨wr.heap.size, 0, none⟩) 1 1)).toArray 151)).1 _ 1 (stc (⟨ref, [(y.1, y.2)]⟩, .slice (some ⟨wr.heap.size, 0, none⟩) 1 1)) (by rfl) (zaF underlying48 (zaH wr (.cells (ivc y).toArray 281) 151 (stc (⟨ref, [(y.1, y.2)]⟩, .slice (some ⟨wr.heap.size, 0, none⟩) 1 1)).toArray).drew rfl (by simp [stc, Value.oneCell'])) (by unfold maxLen; omega) (by omega) (by simp; omega) ?_; intro v' w2 ac ad av; have F9 := zmh (((bu.out.alloc (.cells (ivc y).toArray 281)).alloc (.cells (stc (⟨ref, [(y.1, y.2)]⟩, .slice (some ⟨wr.heap.size, 0, none⟩) 1 1)).toArray 151)).drew.grown ad (fun g hg => .inr ((cD.out.1.lt g hg).1))))))
     all_goals
      have am := own_one (w := wr) (base := w.heap.size) (e := 281) (a := .int .i64 y.1) (b := .int .i64 y.2) kU; have aU : OwnS w.heap.size 151 281 w2 v' (jf ++ [(⟨ref, [(y.1, y.2)]⟩, .slice (some ⟨wr.heap.size, 0, none⟩) 1 1)]) :=
       OwnS.push (p := (⟨ref, [(y.1, y.2)]⟩, .slice (some ⟨wr.heap.size, 0, none⟩) 1 1)) (cD.out.fr ((((znl (fun _ => False) wr).alloc (.cells (ivc y).toArray 281)).alloc (.cells (stc (⟨ref, [(y.1, y.2)]⟩, .slice (some ⟨wr.heap.size, 0, none⟩) 1 1)).toArray 151)).drew) (fun _ _ _ e => e)) ((World.ownsRow.alloc am _).drew) ad ac (by decide)
      have c9 : (jf ++ [((⟨ref, [(y.1, y.2)]⟩ : Ston), Value.slice (some ⟨wr.heap.size, 0, none⟩) 1 1)]).map Prod.fst = (f0 ++ (ivs.take (j + 1)).map (fun p => (⟨ref, p.1, p.2⟩ : Stn))).map one := by
       rw [zmH, HM2.out, zmS, HY.out]; simp [one]
      have cz : (jf ++ [((⟨ref, [(y.1, y.2)]⟩ : Ston), Value.slice (some ⟨wr.heap.size, 0, none⟩) 1 1)]).length <= k * 4096 + (j + 1) := by
       have := HL2.out; rw [zmi, zmy]; omega
      have NO := zmh aU; have NM := zmh c9; have NL := zmh cz; clear aU c9 cz ac ad av am HC; go_wp2; go_roundw
      case rel => exact ⟨j + 1, _, by omega, by go_num, NM, NL, NO, F9⟩
      case measure => simp [intOf]; omega
    ·obtain rfl : j = m := by omega
     go_wp2; go_roundw
     case rel =>
      refine ⟨k + 1, jf, by omega, by go_num, zmh ?_, zmh ?_, cD, bu⟩
      ·have e1 : ivs.take j = ivs := zmq (by rw [HMM.out]; exact zmt _)
       have e2 : (lv.take (k + 1)).map Prod.fst = (lv.map Prod.fst).take (k + 1) := by simp [List.map_take]
       have e3 : (lv.take k).map Prod.fst = (lv.map Prod.fst).take k := by simp [List.map_take]
       have e4 := mR.out; rw [e3] at e4; rw [HM2.out, e1, e2, flat_take _ _ _ HX1.out, e4]; rfl
      ·have := HL2.out; omega
     case measure => simp [intOf]; omega
  ·go_wp2
   go_ret; obtain rfl : k = n := by omega
   refine ⟨_, lo, rfl, ?_, HO.out, HF.out⟩; rw [HM.out, <- HN.out, zmI]
theorem zjV (P Q : Nat -> Prop) (u v : Value) (la lb : List (Ston × Value)) (w : World) (hu : SlS P w u la) (hv : SlS Q w v lb) (hm : la.map Prod.fst = lb.map Prod.fst) (hl : la.length <= 1099511627776) (aP : ∀ p ∈ la, p.1.ivs.length <= 1099511627776) : Calls prog 102 #[u, v] w (zap w) := by
 have le : lb.length = la.length := by have := zm7 List.length hm; simpa using this.symm
 obtain ⟨⟨A, c, rfl, _, hc, hr⟩, fN⟩ := hu; obtain ⟨⟨B, d, rfl, _, hd, hs⟩, kk⟩ := hv; obtain ⟨n, hn⟩ := exE la.length; rw [le] at hs hd ⊢; rw [hn] at hr hs hc hd hl ⊢; rw [hn] at le; have HN := zmh hn; have pa := zmh le; have HR := zmh hr; have HS := zmh hs; have oa := zmh fN; have HSI := zmh kk; have HM := zmh hm; have gz := zmh aP
 clear hn hr hs fN kk hm aP le; go_enter func102, ntmps102; go_wp2; go_loopw [5] (fun i wr => ∃ k : Nat, k <= n /\ i = .int .i64 k /\ Hid (z_F w wr)) (fun i _ => n - (intOf i).toNat)
 case atStart => exact ⟨0, zms _, rfl, zmh (znl _ _)⟩
 case round =>
  obtain ⟨k, hk, rfl, HF⟩ := hrel; by_cases hlt : k < n
  ·obtain ⟨g, off, rfl, _, aa⟩ := HR.out (by omega)
   obtain ⟨g2, an, rfl, _, aj⟩ := HS.out (by omega); obtain ⟨x, hx⟩ : ∃ x, la[k]? = some x := ⟨_, zmj (by rw [HN.out]; exact hlt)⟩; obtain ⟨y, hy⟩ : ∃ y, lb[k]? = some y := ⟨_, zmj (by rw [pa.out]; exact hlt)⟩; have hxy : x.1 = y.1 := by
    have h1 : (la.map Prod.fst)[k]? = some x.1 := by rw [zmR, hx]; rfl
    have h2 : (lb.map Prod.fst)[k]? = some y.1 := by rw [zmR, hy]; rfl
    rw [HM.out, h2] at h1; exact (zm6 h1).symm
   have gK := oa.out x (zmp hx); have gn := HSI.out y (zmp hy); have aP := gz.out x (zmp hx); obtain ⟨⟨ref, ivs⟩, iv⟩ := x; obtain ⟨sy, iv2⟩ := y; simp only [] at hxy gK gn aP; subst hxy; obtain ⟨Ai, ci, rfl, _, ql, fN⟩ := gK; obtain ⟨Bi, di, rfl, _, hdi, kk⟩ := gn; simp only [] at hdi kk; obtain ⟨m, hm⟩ := exE ivs.length
   rw [hm] at ql fN hdi kk aP; have aw : ∀ {l : List (Ston × Value)} {g off : Nat} {z : Ston × Value}, l[k]? = some z -> (∀ j u, (l.flatMap stc)[j]? = some u -> w.cell? ⟨g, off + j, none⟩ = some u) -> ∀ W', z_F w W' -> ∀ j, j < 2 -> ∀ u, (stc z)[j]? = some u -> W'.cell? ⟨g, off + (k * 2 + j), none⟩ = some u := fun {l g off z} hz aa W' hF j hj u hu => by
    have := aa (k * 2 + j) u (by rw [zby stc (fun _ => rfl) l k z hz j hj]; exact hu); rw [hF.cell (p := ⟨g, off + (k * 2 + j), none⟩) (zmo w _ this) id]; exact this
   have HC : Hid (∀ W', z_F w W' -> (W'.cell? ⟨g, off + k * 2, none⟩ = some (.int .u64 ref) /\ W'.cell? ⟨g, off + k * 2 + 1, none⟩ = some (.slice Ai m ci)) /\ (W'.cell? ⟨g2, an + k * 2, none⟩ = some (.int .u64 ref) /\ W'.cell? ⟨g2, an + k * 2 + 1, none⟩ = some (.slice Bi m di))) := zmh (fun W' hF =>
    ⟨⟨aw hx aa W' hF 0 (by omega) _ rfl, aw hx aa W' hF 1 (by omega) _ (by rw [<- hm]; rfl)⟩, ⟨aw hy aj W' hF 0 (by omega) _ rfl, aw hy aj W' hF 1 (by omega) _ (by rw [<- hm]; rfl)⟩⟩)
   obtain ⟨⟨c0, c1⟩, ⟨d0, d1⟩⟩ := HC.out wr.drew HF.out.drew; have HMM := zmh hm; have HRI2 := zmh fN; have HSI2 := zmh kk; clear aw hx hy aa aj hm fN kk; go_wp2; go_region; go_wp2; clear c0 c1 d0 d1; have ja := zmh HF.out.drew; generalize wr.drew = W6 at ja ⊢; clear HF
   go_loopw [6] (fun i w' => ∃ j : Nat, j <= m /\ i = .int .i64 j /\ Hid (z_F w w')) (fun i _ => m - (intOf i).toNat)
   case atStart => exact ⟨0, zms _, rfl, ja⟩
   case round =>
    obtain ⟨j, hj, rfl, bu⟩ := hrel; obtain ⟨⟨c0, c1⟩, ⟨d0, d1⟩⟩ := HC.out _ bu.out; by_cases hlt2 : j < m
    ·obtain ⟨g3, off3, rfl, _, gP⟩ := HRI2.out (by omega)
     obtain ⟨g4, po, rfl, _, gO⟩ := HSI2.out (by omega); obtain ⟨y, hy⟩ : ∃ y, ivs[j]? = some y := ⟨_, zmj (by rw [HMM.out]; exact hlt2)⟩
     have aw : ∀ {g off : Nat}, (∀ j u, (ivs.flatMap ivc)[j]? = some u -> w.cell? ⟨g, off + j, none⟩ = some u) -> ∀ W', z_F w W' -> ∀ i, i < 2 -> ∀ u, (ivc y)[i]? = some u -> W'.cell? ⟨g, off + (j * 2 + i), none⟩ = some u := fun {g off} aa W' hF i hi u hu => by
      have := aa (j * 2 + i) u (by rw [zby ivc (fun _ => rfl) ivs j y hy i hi]; exact hu); rw [hF.cell (p := ⟨g, off + (j * 2 + i), none⟩) (zmo w _ this) id]; exact this
     obtain ⟨⟨c0', c1'⟩, ⟨d0', d1'⟩⟩ := HC.out _ bu.out.drew; have e0 := aw gP _ bu.out.drew 0 (by omega) _ rfl; have e1 : wr.drew.cell? ⟨g3, off3 + j * 2 + 1, none⟩ = some (.int .i64 y.2) := aw gP _ bu.out.drew 1 (by omega) _ rfl; have f0 := aw gO _ bu.out.drew 0 (by omega) _ rfl
     have f1 : wr.drew.cell? ⟨g4, po + j * 2 + 1, none⟩ = some (.int .i64 y.2) := aw gO _ bu.out.drew 1 (by omega) _ rfl; simp only [Nat.add_zero] at e0 f0; have bB := zmh bu.out.drew; clear aw gP gO hy; go_wp2; go_region; go_wp2; go_roundw
     case rel => exact ⟨j + 1, by omega, by go_num, bB⟩
     case measure => simp [intOf]; omega
    ·obtain rfl : j = m := by omega
     go_wp2; go_roundw
     case rel => exact ⟨k + 1, by omega, by go_num, bu⟩
     case measure => simp [intOf]; omega
  ·obtain rfl : k = n := by omega
   go_wp2; go_ret; exact ⟨rfl, HF.out⟩
def outS (pre : List Ston) (xs : List UInt8) : List Ston := match zaL xs with | some l => pre ++ l.map one | none => []
def ReadEndsS (w : World) (bb bp bo : Nat) (pre : List Ston) (xs : List UInt8) (r : Ending) (w' : World) : Prop :=
 r = .returned (.tuple #[]) /\ Fr (fun k => k = bb ∨ k = bp ∨ k = bo) w w' /\ Blk w' bo 4 #[.bool (zaL xs).isSome] /\
  ∃ v lo, Blk w' bp 54 #[.slice none 0 0, .slice none 0 0, v, .slice none 0 0, .slice none 0 0, .slice none 0 0, .slice none 0 0] /\ lo.map Prod.fst = outS pre xs /\ OwnS w.heap.size 151 281 w' v lo
theorem outS_len (pre : List Ston) (xs : List UInt8) : (outS pre xs).length <= pre.length + xs.length := by
 unfold outS; split
 ·rename_i h
  have := zei h; rw [zmi, zmF]; omega
 ·simp
theorem outS_ivs {pre : List Ston} {xs : List UInt8} (h : ∀ s ∈ pre, s.ivs.length <= 1073741824) : ∀ s ∈ outS pre xs, s.ivs.length <= 1073741824 := by
 unfold outS; split
 ·intro s hs
  rcases zmX.1 hs with hs | hs
  ·exact h s hs
  ·obtain ⟨t, _, rfl⟩ := zmN.1 hs
   simp [one]
 ·intro s hs; cases hs
theorem zg0 {w w' : World} {base : Nat} {o : Option Nat} {pre : List Ston} {xs : List UInt8} {r : Ending} (h : zbO w base o pre xs r w') :
 ∃ v' e lo, r = .returned (.tuple #[v', e]) /\ lo.map Prod.fst = outS pre xs /\ OwnS base 147 279 w' v' lo /\ Fr (fun k => some k = o) w w' /\ ((e = .nilIface /\ (zaL xs).isSome = true) ∨ (∃ t a, e = .iface t a /\ (zaL xs).isSome = false)) := by
 unfold zbO at h; unfold outS; rcases hd : zaL xs with _ | l
 ·rw [hd] at h
  obtain ⟨hf, t, a, rfl⟩ := h; exact ⟨_, _, [], rfl, rfl, OwnS.nil _ _ _ _, hf, .inr ⟨_, _, rfl, rfl⟩⟩
 ·rw [hd] at h
  obtain ⟨hf, v', lo, rfl, hm, ho⟩ := h; exact ⟨_, _, lo, rfl, hm, ho, hf, .inl ⟨rfl, rfl⟩⟩
theorem zfS {W w5 w6 : World} {b t : Nat} {cs : Array Value} {v5 : Value} {lo : List (Ston × Value)} (h : Blk W b t cs) (ap : z_F W.drew w5) (ho : OwnS W.drew.heap.size 147 279 w5 v5 lo) (aR : Fr (fun k => some k = v5.ownBlock) w5 w6) : Blk w6 b t cs :=
 (h.drew.fr ap id).fr aR (fun e => by have h1 := (ho.1.lt b e.symm).1; have h2 : b < W.heap.size := h.lt; exact zm1 _ (zmG h2 h1))
theorem ziH (te : TypeId) (pe : Value) (bb bk bq bp bo : Nat) (P : Nat -> Prop) (q0 q1 q2 q3 q4 q5 q6 v : Value) (xs : List UInt8) (w : World) (hb : Blk w bb 44 #[v]) (hv : Sl P w v 1 xs.length (bc xs)) (hk : Blk w bk 3 #[.int .i64 3]) (hq : Blk w bq 54 #[q0, q1, q2, q3, q4, q5, q6]) (lp : List (Ston × Value)) (hs : SlS P w q2 lp) (bx : lp.length <= 1073741824) (pK : ∀ s ∈ lp.map Prod.fst, s.ivs.length <= 1073741824)
 (hp : Blk w bp 54 #[.slice none 0 0, .slice none 0 0, .slice none 0 0, .slice none 0 0, .slice none 0 0, .slice none 0 0, .slice none 0 0]) (ho : Blk w bo 4 #[.bool false]) (hE : w.cell? ⟨2, 0, none⟩ = some (.iface te pe)) (bm : xs.length <= 1073741824)
 (dV : ∀ g, P g -> g ≠ bb) (dr : bp ≠ bq) (h2 : bb ≠ 2 /\ bp ≠ 2 /\ bo ≠ 2) :
 Calls prog 66 #[.pointer (some ⟨bb, 0, none⟩), .pointer (some ⟨bk, 0, none⟩), .pointer (some ⟨bq, 0, none⟩), .pointer (some ⟨bp, 0, none⟩), .pointer (some ⟨bo, 0, none⟩)] w (ReadEndsS w bb bp bo (lp.map Prod.fst) xs) := by
 obtain ⟨i0, aC, az, ay, aB⟩ := info_parts zff; have HB := zmh hb; have HV := zmh hv; have HK := zmh hk; have HQ := zmh hq; have HS := zmh hs; have HP := zmh hp; have HO := zmh ho; have HE := zmh hE; have kA := zmh dV; have cA : ∃ A m c, v = .slice A m c := let ⟨A, c, h, _⟩ := hv; ⟨A, _, c, h⟩
 obtain ⟨A, m, c, rfl⟩ := cA; clear hb hv hk hq hs hp ho hE dV; go_enter func66, ntmps66; go_wp2_with (first | (go_at_call 67; refine (zdw _ _).mono ?_; rintro r w1 ⟨v1, rfl, ⟨a, rfl⟩, ah⟩; refine Hid.out ?_))
 have ax := ((HB.out.fr ah id).alloc (.cells #[.slice (some a) 0 0, .string ⟨#[]⟩, .slice none 0 0] 119)).alloc (.cells #[] 5); have b1 := ax.cell 0; simp at b1; clear ax; refine zmh ?_; go_wp2_with (at_builtin; refine Hid.out ?_)
 have eo := znk (base := w.heap.size) (e := 5) (size := 1) (w1.alloc (.cells #[.slice (some a) 0 0, .string ⟨#[]⟩, .slice none 0 0] 119)) #[] 0 (by have := ah.size; simp; omega) (zms _) rfl; have dw : z_F w ((w1.alloc (.cells #[.slice (some a) 0 0, .string ⟨#[]⟩, .slice none 0 0] 119)).alloc (.cells #[] 5)) := (ah.alloc _).alloc _; have bh := ah.size
 refine zmh ?_; have li : (w1.alloc (.cells #[.slice (some a) 0 0, .string ⟨#[]⟩, .slice none 0 0] 119)).heap.size = w1.heap.size + 1 := by simp
 rw [li] at eo; clear b1; generalize World.alloc _ (Obj.cells #[] 5) = WA at eo dw ⊢; have hsA := dw.size; have cd := zbp underlying44 (HV.out.fr dw z_i) (zfC xs)
 refine zaf _ rfl _ _ 44 44 rfl w.heap.size 5 i0 (.int .u8 0) 1 1 underlying44 aC az ay aB rfl (by decide) (.slice (some ⟨w1.heap.size + 1, 0, none⟩) 0 0) 0 [] rfl eo (.slice A m c) xs.length (bc xs) rfl cd (by unfold maxLen; omega) (by omega) (by omega) ?_; intro v' w2 ac ad av
 rw [zmM, zmT] at ac; obtain ⟨a2, k2, rfl⟩ := zaa ac; have eJ : ∀ k, (Value.slice (some ⟨w1.heap.size + 1, 0, none⟩) 0 0).ownBlock = some k -> w.heap.size <= k := fun k hk => by
  have hk : w1.heap.size + 1 = k := zm6 hk; omega
 have F2 : z_F w w2 := dw.grown ad (fun k hk => .inr (eJ k hk)); have dq : ∃ g2 aI, a2 = some ⟨g2, 0, none⟩ /\ w.heap.size <= g2 /\ Blk w2 g2 5 aI /\ xs.length <= k2 /\ k2 <= maxLen /\ aI.toList.take xs.length = bc xs := by
  rcases ac.2 with ⟨h, _⟩ | ⟨g2, aK, aI, h, h1, h3, h4, h5, _, h6⟩
  ·rw [h] at av
   rcases av with av | av <;> exact absurd av (by simp [Value.ownBlock])
  ·injection h with e1 e2 e3
   subst e3; exact ⟨g2, aI, e1, h1, h3, h4, h5, by simpa using h6⟩
 have cn : ∀ k, (Value.slice a2 xs.length k2).ownBlock = some k -> w.heap.size <= k := fun k hk => (ac.lt k hk).1; have lB := HB.out.lt; have gB := HB.out.fr F2 id; have y0 := gB.cell 0; have y1 := gB.frozen 0; simp at y0
 have F3 : Fr (fun k => k = bb) w (w2.setCell ⟨bb, 0, none⟩ (.slice a2 xs.length k2)) := (F2.mono (S' := fun k => k = bb) (fun _ _ e => e.elim)).setCell (p := ⟨bb, 0, none⟩) (.inl rfl) _; have O3 : (w2.setCell ⟨bb, 0, none⟩ (.slice a2 xs.length k2)).ownsRow w.heap.size 5 1 (.slice a2 xs.length k2) xs.length (bc xs) := zai ac (Fr.put_ w2 bb 0 _) (fun k hk e => by have := cn k hk; omega)
 have B3 : Blk (w2.setCell ⟨bb, 0, none⟩ (.slice a2 xs.length k2)) bb 44 #[.slice a2 xs.length k2] := by simpa using gB.set_ 0 (.slice a2 xs.length k2)
 have K3 := (HK.out.fr F3 (fun e => znn HK.out HB.out (by decide) e)).cell 0; have Q3 := HQ.out.fr F3 (fun e => znn HQ.out HB.out (by decide) e); have P3 := HP.out.fr F3 (fun e => znn HP.out HB.out (by decide) e); have O4 := HO.out.fr F3 (fun e => znn HO.out HB.out (by decide) e)
 have E3 : (w2.setCell ⟨bb, 0, none⟩ (.slice a2 xs.length k2)).cell? ⟨2, 0, none⟩ = some (.iface te pe) := by
  rw [F3.cell (p := ⟨2, 0, none⟩) (zmo w _ HE.out) (fun e => h2.1 e.symm)]; exact HE.out
 simp at K3; have bB := zmh F3; have eq := zmh O3; have bH := zmh B3; have c8 := zmh Q3; have eK := zmh P3; have dj := zmh O4; have dF := zmh E3; have ou := zmh cn; obtain ⟨g2, aI, rfl, dU, co, cI, dt, dp⟩ := dq
 have R3 : Rec te pe (w2.setCell ⟨bb, 0, none⟩ (.slice (some ⟨g2, 0, none⟩) xs.length k2)) g2 aI xs (.slice (some ⟨g2, 0, none⟩) xs.length k2) := by
  refine ⟨0, k2, rfl, co.far (p := ⟨bb, 0, none⟩) (by show g2 ≠ bb; omega) _, cI, ⟨by simp [maxLen] at dt; omega, by omega⟩, fun j u hu => ?_, E3⟩; rw [zmM, <- Array.getElem?_toList]; have hj : j < xs.length := by
   rcases zmK j xs.length with h | h
   ·exact h
   ·rw [zmL (by rw [zda]; exact h)] at hu; cases hu
  rw [<- dp, List.getElem?_take_of_lt hj] at hu; exact hu
 have bG := zmh R3; have lh := co.lt; clear R3 dt dp co; clear F2 F3 O3 B3 Q3 P3 O4 E3 gB eJ cn ac ad av cd eo dw ah; go_wp2_with fail
 generalize w2.setCell ⟨bb, 0, none⟩ (.slice (some ⟨g2, 0, none⟩) xs.length k2) = W3 at bB eq bH c8 eK dj dF bG ⊢; have fb := bG.out; have gq : g2 < W3.heap.size := let ⟨_, _, _, h, _⟩ := fb; h.lt
 have jj : 2 < W3.heap.size := zmo W3 _ dF.out; clear fb; have hS3 : SlS P W3.drew q2 lp := HS.out.fr bB.out.drew (fun g hg e => kA.out g hg e); have eD := zeQ P q2 lp W3.drew hS3 (by omega) (fun p hp => by have := pK p.1 (zmN.2 ⟨p, hp, rfl⟩); omega); have eZ : ∃ A m c, q2 = .slice A m c := let ⟨A, c, h, _⟩ := HS.out.1; ⟨A, _, c, h⟩
 obtain ⟨Aq, mq, cq, rfl⟩ := eZ; have x0 := bH.out.cell 0; have x1 := c8.out.cell 2; have kI : W3.drew.cell? ⟨bb, 0, none⟩ = some (.slice (some ⟨g2, 0, none⟩) xs.length k2) := x0; have jn : W3.drew.cell? ⟨bq, 2, none⟩ = some (.slice Aq mq cq) := x1; simp at x0 x1; clear y0 y1 K3
 go_region_held3 (fun w' => w'.cell? ⟨bb, 0, none⟩ = some (.slice (some ⟨g2, 0, none⟩) xs.length k2) /\ w'.cell? ⟨bq, 2, none⟩ = some (.slice Aq mq cq))
  ((first | (go_split_ands; refine ⟨?_, ?_⟩ <;> first | exact (bH.out.drew.fr ap id).cell 0 | exact (c8.out.drew.fr ap id).cell 2) | (go_split_ands; refine ⟨?_, ?_⟩ <;> first | exact KB.out.cell 0 | exact KQ.out.cell 2) | go_keep))
  ((first
    | (go_at_call 75; refine eD.mono ?_; rintro r5 w5 ⟨v5, l5, rfl, hm5, al, ap⟩; have pZ : l5.length <= 1073741824 := by have h := zm7 List.length hm5; simp at h; omega)
    | (go_at_call 74; refine (zig te pe _ g2 W3.drew.heap.size aI l5 xs _ v5 w5 (bG.out.fr (w := W3) (((znl (fun _ => False) W3).drew).same ap) id id) al ⟨gq, jj, ap.size⟩ pZ).mono ?_; rintro r6 w6 eE; obtain ⟨v6, e6, l6, rfl, hm6, aJ, aR, cl⟩ := zg0 eE; clear eE; rw [hm5] at hm6; have KB := zmh (zfS bH.out ap al aR); have KQ := zmh (zfS c8.out ap al aR))))
 have T6 : Fr (fun k => k = bb) w w6 := ((bB.out.trans (((znl (fun _ => False) W3).drew).same ap) (fun _ _ e => e.elim)).trans aR (fun k hk e => by
  have h1 := (al.1.lt k e.symm).1; have h2 := bB.out.size
  simp at h1; omega))
 have P6 := zfS eK.out ap al aR; have O6 := zfS dj.out ap al aR; have kM : w.heap.size <= W3.drew.heap.size := bB.out.size; have V6 := OwnS.mono aJ kM; have kw := zmh T6; have jl := zmh P6; have fz := zmh O6; have fy := zmh V6; have kB := zmh cl; have kT := ap.size; have kS := aR.size
 have gR : ∀ k, v6.ownBlock = some k -> k < w6.heap.size := fun k hk => zaq aJ.1 hk; clear x0 x1 kI jn eD T6 P6 O6 V6 cl al ap aJ aR KB KQ eq bH c8 eK dj dF bG bB; have rN := zmh hm6; clear hm6 hm5 pZ; have mF : l6.length <= 1073741824 + 1073741824 := by
  have h1 := outS_len (lp.map Prod.fst) xs; have h2 := zm7 List.length rN.out; rw [zmF] at h2; rw [zmF] at h1; omega
 have qN : ∀ p ∈ l6, p.1.ivs.length <= 1073741824 := fun p hp => outS_ivs pK p.1 (by rw [<- rN.out]; exact zmN.2 ⟨p, hp, rfl⟩); have H6L := zmh mF; have H6I := zmh qN; clear mF qN pK; obtain ⟨a6, k6, rfl⟩ := zaa fy.out.1; go_wp2_with fail
 obtain ⟨n, hn⟩ := exE l6.length; have HN := zmh hn; rw [hn] at fy gR ⊢; clear hn; obtain ⟨i1, gp, ei, dC, fi⟩ := info_parts zj8
 go_loopw [113] (fun i wr => ∃ (k : Nat) (lv : Value) (lo : List (Ston × Value)), k <= n /\ i = .int .i64 k /\ Hid (Fr (fun j => j = bb ∨ j = bp) w wr) /\ Hid (OwnS w.heap.size 147 279 wr (.slice a6 n k6) l6) /\ Hid (Blk wr bo 4 #[.bool false]) /\
  Hid (Blk wr bp 54 #[.slice none 0 0, .slice none 0 0, lv, .slice none 0 0, .slice none 0 0, .slice none 0 0, .slice none 0 0]) /\ Hid (OwnS w.heap.size 151 281 wr lv lo) /\ Hid (lo.map Prod.fst = (l6.take k).map Prod.fst) /\ Hid (lo.length = k)) (fun i _ => n - (intOf i).toNat)
 case atStart => exact ⟨0, _, [], zms _, rfl, zmh (Fr.mono kw.out (fun _ _ e => Or.inl e)), fy, fz, jl, zmh (OwnS.nil _ _ _ _), zmh rfl, zmh rfl⟩
 case round =>
  obtain ⟨k, lv, lo, hk, rfl, RF, RV, RO, RP, RL, RM, RN⟩ := hrel; by_cases hlt : k < n
  ·obtain ⟨A7, c7, e7, _, _, jA⟩ := zno RV.out.1
   injection e7 with e7 e7n nR; clear e7n; subst e7 nR; obtain ⟨g7, bw, rfl, _, bK⟩ := jA (by have := HN.out; omega); obtain ⟨x, hx⟩ : ∃ x, l6[k]? = some x := ⟨_, zmj (by rw [HN.out]; exact hlt)⟩; have cc : ∀ j, j < 2 -> ∀ u, (stc x)[j]? = some u -> wr.cell? ⟨g7, bw + (k * 2 + j), none⟩ = some u := fun j hj u hu =>
    bK (k * 2 + j) u (by rw [zby stc (fun _ => rfl) l6 k x hx j hj]; exact hu)
   have c0 : wr.cell? ⟨g7, bw + k * 2, none⟩ = some (.int .u64 x.1.ref) := cc 0 (by omega) _ rfl; have c1 : wr.cell? ⟨g7, bw + k * 2 + 1, none⟩ = some x.2 := cc 1 (by omega) _ rfl; have aF := zmp hx; have aY := RV.out.2 x aF; have bF := H6I.out x aF; obtain ⟨⟨ref, ivs⟩, iv⟩ := x; simp only [] at c0 c1 aY bF; obtain ⟨Ai, ci, rfl⟩ := zaa aY; have HX := zmh hx
   have HIV := zmh aY; obtain ⟨aL, kL, rfl⟩ := zaa RL.out.1; clear bK jA cc hx aF aY; go_wp2_with fail
   have ch := znm wr 147 #[.int .u64 ref, .slice Ai ivs.length ci]; have s0 := ch.cell 0; have s1 := ch.cell 1; have ff := RP.out.alloc (.cells #[.int .u64 ref, .slice Ai ivs.length ci] 147); have s3 := ff.cell 2; simp only [zmC, zmA, zmB] at s0 s1 s3; have lP := RP.out.lt; have bD := RF.out.size
   have jE : lo.length <= 1073741824 + 1073741824 := by have h1 := RN.out; have h2 := H6L.out; have h3 := HN.out; omega
   have lf : k < 4294967296 := by have h1 := RN.out; omega
   have cO := zmh ch; have mO := zmh ff; have hC := zf2 _ (.slice Ai ivs.length ci) ivs (wr.alloc (.cells #[.int .u64 ref, .slice Ai ivs.length ci] 147)).drew (zno (HIV.out.alloc (.cells #[.int .u64 ref, .slice Ai ivs.length ci] 147)).drew) (by omega); clear ch ff
   refine zaQ (fun w' => w'.cell? ⟨bp, 2, none⟩ = some (.slice aL lo.length kL) /\ w'.cell? ⟨wr.heap.size, 0, none⟩ = some (.int .u64 ref) /\ w'.cell? ⟨wr.heap.size, 1, none⟩ = some (.slice Ai ivs.length ci)) 9 (by kernel_rfl) ⟨s3, s0, s1⟩ ?_; intro hS; refine wpT 0 (.pointer (some ⟨bp, 2, none⟩)) rfl (by intro w; go_simp) hS ?_
   try simp only [Act.put, zml, zmm, zmn]
   refine wpL 1 [9, 11] (.slice aL lo.length kL) rfl (by rintro w ⟨h1, h2, h3⟩; go_simp) hS ?_; try simp only [Act.put, zml, zmm, zmn]
   refine wpT 2 (.pointer (some ⟨wr.heap.size, 0, none⟩)) rfl (by intro w; go_simp) hS ?_; try simp only [Act.put, zml, zmm, zmn]
   refine wpL 3 [7, 8, 9, 11] (.int .u64 ref) rfl (by rintro w ⟨h1, h2, h3⟩; go_simp) hS ?_; try simp only [Act.put, zml, zmm, zmn]
   refine wpT 4 (.pointer (some ⟨wr.heap.size, 1, none⟩)) rfl (by intro w; go_simp) hS ?_; try simp only [Act.put, zml, zmm, zmn]
   refine wpL 5 [6, 7, 8, 9, 11] (.slice Ai ivs.length ci) rfl (by rintro w ⟨h1, h2, h3⟩; go_simp) hS ?_; try simp only [Act.put, zml, zmm, zmn]
   refine zao 6 (by kernel_rfl) rfl (by rfl) (fun K hK => ?_); go_simp; go_at_call 76
   refine hC.mono ?_; rintro r w5 ⟨v5, rfl, al, ap⟩; obtain ⟨a5, k5, rfl⟩ := zaa al; have F5 := zmh (((znl (fun _ => False) wr).alloc (.cells #[.int .u64 ref, .slice Ai ivs.length ci] 147)).drew.same ap); have P5 := zmh (mO.out.drew.fr ap id); have B5 := zmh (cO.out.drew.fr ap id)
   have iR : w5.cell? ⟨bp, 2, none⟩ = some (.slice aL lo.length kL) /\ w5.cell? ⟨wr.heap.size, 0, none⟩ = some (.int .u64 ref) /\ w5.cell? ⟨wr.heap.size, 1, none⟩ = some (.slice Ai ivs.length ci) := ⟨P5.out.cell 2, B5.out.cell 0, B5.out.cell 1⟩; have lZ := F5.out.size; have N5 := zmh (zah al (base' := w.heap.size) (by simp; omega)); have L5 := zmh (RL.out.fr F5.out (fun _ _ _ e => e))
   refine hK.out _ _ iR ?_; clear hK K hS hC al ap; try simp only [Act.put, zml, zmm, zmn]
   refine wpT 7 (.agg #[.int .u64 ref, .slice a5 ivs.length k5]) rfl (by intro w; go_simp) iR ?_; try simp only [Act.put, zml, zmm, zmn]
   refine zao 8 (by kernel_rfl) rfl (by rfl) (fun K hK => ?_); go_simp; refine hK.out _ _ ⟨(P5.out.alloc _).cell 2, (B5.out.alloc _).cell 0, (B5.out.alloc _).cell 1⟩ ?_; clear hK K iR; try simp only [Act.put, zml, zmm, zmn]
   refine zaA 9 (by kernel_rfl) rfl (by kernel_rfl) (by rfl) (fun K hK => ?_)
   refine zaw _ _ _ 48 48 (by rfl) w.heap.size 151 i1 _ 2 32 underlying48 gp ei dC fi rfl (by decide) (.slice aL lo.length kL) lo.length (lo.flatMap stc) (by rfl) (L5.out.alloc _).1 _ 1 (stc (⟨ref, ivs⟩, .slice a5 ivs.length k5)) (by rfl) (zaF underlying48 (znm w5 151 (stc (⟨ref, ivs⟩, .slice a5 ivs.length k5)).toArray) rfl (by simp [stc, Value.oneCell'])) (by unfold maxLen; omega) (by omega) (by simp; omega) ?_
   intro v' w2 ac ad av
   obtain ⟨a9, k9, rfl⟩ := zaa ac; have dN := zmh ((P5.out.alloc _).grown ad (Ne.symm (zak RL.out.1 RP.out (by decide)))); have p9 := dN.out.cell 2; have z9 := dN.out.frozen 2; simp at p9; refine hK.out _ _ ?_; clear hK K; try simp only [Act.put, zml, zmm, zmn]
   refine zaA 10 (by kernel_rfl) rfl (by kernel_rfl) (by rfl) (fun K hK => ?_); go_simp; refine hK.out _ _ ?_; clear hK K; refine zaA 11 (by kernel_rfl) rfl (by kernel_rfl) (by rfl) (fun K hK => ?_); go_simp; refine hK.out _ _ ?_; clear hK K; refine zbv (by kernel_rfl) ?_ _
   have cV : Blk (w2.setCell ⟨bp, 2, none⟩ (.slice a9 (lo.length + 1) k9)) bp 54 #[.slice none 0 0, .slice none 0 0, .slice a9 (lo.length + 1) k9, .slice none 0 0, .slice none 0 0, .slice none 0 0, .slice none 0 0] := by simpa using dN.out.set_ 2 (.slice a9 (lo.length + 1) k9)
   have O5 := (RO.out.fr F5.out id).alloc (.cells (stc (⟨ref, ivs⟩, .slice a5 ivs.length k5)).toArray 151); have aU : Blk (w2.setCell ⟨bp, 2, none⟩ (.slice a9 (lo.length + 1) k9)) bo 4 #[.bool false] := (O5.grown ad (Ne.symm (zak RL.out.1 RO.out (by decide)))).far (p := ⟨bp, 2, none⟩) (znn RO.out RP.out (by decide)) _
   have dR : OwnS w.heap.size 151 281 w2 (.slice a9 (lo.length + 1) k9) (lo ++ [(⟨ref, ivs⟩, .slice a5 ivs.length k5)]) :=
    OwnS.push (p := (⟨ref, ivs⟩, .slice a5 ivs.length k5)) (L5.out.alloc _) (N5.out.alloc _) ad ac (by decide)
   have cz : OwnS w.heap.size 151 281 (w2.setCell ⟨bp, 2, none⟩ (.slice a9 (lo.length + 1) k9)) (.slice a9 (lo.length + 1) k9) (lo ++ [(⟨ref, ivs⟩, .slice a5 ivs.length k5)]) := dR.off dN.out (by decide) (by decide) (Fr.put_ w2 bp 2 _); have fG : Fr (fun j => some j = (Value.slice aL lo.length kL).ownBlock ∨ j = bp) wr (w2.setCell ⟨bp, 2, none⟩ (.slice a9 (lo.length + 1) k9)) :=
    (((F5.out.mono (S' := fun j => some j = (Value.slice aL lo.length kL).ownBlock ∨ j = bp) (fun _ _ e => e.elim)).alloc _).grown ad (fun g hg => .inl (.inl hg.symm))).setCell (p := ⟨bp, 2, none⟩) (.inl (.inr rfl)) _
   have dn : OwnS w.heap.size 147 279 (w2.setCell ⟨bp, 2, none⟩ (.slice a9 (lo.length + 1) k9)) (.slice (some ⟨g7, bw, none⟩) n k6) l6 := by
    refine ⟨zai RV.out.1 fG (fun g hg e => ?_), fun p hp => zai (RV.out.2 p hp) fG (fun g hg e => ?_)⟩
    ·rcases e with e | e
     ·exact zb4 RV.out.1 RL.out.1 (by decide) g hg e.symm
     ·exact zak RV.out.1 RP.out (by decide) (by rw [hg, e])
    ·rcases e with e | e
     ·exact zb4 (RV.out.2 p hp) RL.out.1 (by decide) g hg e.symm
     ·exact zak (RV.out.2 p hp) RP.out (by decide) (by rw [hg, e])
   have bN : Fr (fun j => j = bb ∨ j = bp) w (w2.setCell ⟨bp, 2, none⟩ (.slice a9 (lo.length + 1) k9)) := RF.out.trans fG (fun j hj e => by
    rcases e with e | e
    ·have := (RL.out.1.lt j e.symm).1; omega
    ·exact .inr e)
   have c9 : (lo ++ [((⟨ref, ivs⟩ : Ston), Value.slice a5 ivs.length k5)]).map Prod.fst = (l6.take (k + 1)).map Prod.fst := by
    rw [zmS, HX.out, zmH, zmH, RM.out]; rfl
   have cG : (lo ++ [((⟨ref, ivs⟩ : Ston), Value.slice a5 ivs.length k5)]).length = k + 1 := by rw [zmi, RN.out]; rfl
   have NP := zmh cV; have NO := zmh aU; have NL := zmh cz; have NV := zmh dn; have NF := zmh bN; have NM := zmh c9; have NN := zmh cG; clear cV aU dR cz dn bN c9 cG fG ac ad av p9 z9 c0 c1 s0 s1 s3 O5 L5 N5 F5 P5 B5; go_wp2; go_roundw
   case rel => exact ⟨k + 1, _, _, by omega, by go_num, NF, NV, NO, NP, NL, NM, NN⟩
   case measure => simp [intOf]; omega
  ·obtain rfl : k = n := by omega
   have o0 := RO.out.cell 0; have o1 := RO.out.frozen 0; simp at o0; have W1 : Blk (wr.setCell ⟨bo, 0, none⟩ (.bool (zaL xs).isSome)) bo 4 #[.bool (zaL xs).isSome] := by simpa using RO.out.set_ 0 (.bool (zaL xs).isSome)
   have W2 := RP.out.far (p := ⟨bo, 0, none⟩) (znn RP.out RO.out (by decide)) (.bool (zaL xs).isSome); have gg := OwnS.off RL.out RO.out (by decide) (by decide) (Fr.put_ wr bo 0 (.bool (zaL xs).isSome))
   have W4 : Fr (fun k => k = bb ∨ k = bp ∨ k = bo) w (wr.setCell ⟨bo, 0, none⟩ (.bool (zaL xs).isSome)) := (Fr.mono (S' := fun k => k = bb ∨ k = bp ∨ k = bo) RF.out (fun _ _ e => e.elim (fun h => Or.inl h) (fun h => Or.inr (Or.inl h)))).setCell (p := ⟨bo, 0, none⟩) (.inl (.inr (.inr rfl))) _; rcases kB.out with ⟨rfl, aA⟩ | ⟨t, ae, rfl, aA⟩; all_goals
    rw [aA] at W1 W2 gg W4; have io := zmh W1; have jO := zmh W2; have eQ := zmh gg; have hW4 := zmh W4; clear W1 W2 gg W4; go_wp2_with fail
    go_end0; refine ⟨rfl, hW4.out, by rw [aA]; exact io.out, lv, lo, jO.out, ?_, eQ.out⟩; have e1 : l6.take k = l6 := zmq (by rw [HN.out]; exact zmt _); rw [RM.out, e1, rN.out]
def StnParts (base : Nat) (l : List Ston) (ps : Array Value) (w : World) : Prop :=
 ∃ v lo, ps = #[.slice none 0 0, .slice none 0 0, v, .slice none 0 0, .slice none 0 0, .slice none 0 0, .slice none 0 0] /\ lo.map Prod.fst = l /\ OwnS base 151 281 w v lo
theorem seven_of2 {lv : Value} (h : ∃ A m c, lv = .slice A m c) : zl9 #[.slice none 0 0, .slice none 0 0, lv, .slice none 0 0, .slice none 0 0, .slice none 0 0, .slice none 0 0] := by
 obtain ⟨A, m, c, rfl⟩ := h; exact ⟨_, _, _, _, _, _, _, _, _, _, _, _, _, _, _, _, _, _, _, _, _, rfl⟩
theorem zfb (te : TypeId) (pe : Value) (q0 q1 q2 q3 q4 q5 q6 bv : Value) (lp : List (Ston × Value)) (xs : List UInt8) (P : Nat -> Prop) (w : World) (hb : Sl P w bv 1 xs.length (bc xs)) (bm : xs.length <= 1073741824) (hP : ∀ g, P g -> g < w.heap.size)
 (au : ∀ s ∈ [q0, q1, q2, q3, q4, q5, q6], ∃ A m c, s = .slice A m c) (hs : SlS P w q2 lp) (bx : lp.length <= 1073741824) (pK : ∀ s ∈ lp.map Prod.fst, s.ivs.length <= 1073741824) (hE : w.cell? ⟨2, 0, none⟩ = some (.iface te pe)) :
 Calls prog 29 #[.int .i64 3, bv, .agg #[q0, q1, q2, q3, q4, q5, q6]] w (ReadDone (StnParts w.heap.size (outS (lp.map Prod.fst) xs)) (zaL xs).isSome w) := by
 have h2 := zmo w _ hE; refine zbl 3 q0 q1 q2 q3 q4 q5 q6 bv xs P _ _ w hb au ?_ ?_
 ·rintro ps W W' ⟨v, lo, rfl, hm, ho⟩ hv
  refine ⟨v, lo, rfl, hm, zai ho.1 hv ?_, fun p hp => zai (ho.2 p hp) hv ?_⟩
  ·rintro g hg ⟨cs, h | h⟩
   ·exact zak ho.1 h (by decide) hg
   ·exact zak ho.1 h (by decide) hg
  ·rintro g hg ⟨cs, h | h⟩
   ·exact zak (ho.2 p hp) h (by decide) hg
   ·exact zak (ho.2 p hp) h (by decide) hg
 ·intro bb bk bq bp bo W hk bJ hq hp ho g8 nG nH dr hF
  have gU : W.cell? ⟨2, 0, none⟩ = some (.iface te pe) := by rw [hF.cell (p := ⟨2, 0, none⟩) h2 id]; exact hE
  refine (ziH te pe bb bk bq bp bo P q0 q1 q2 q3 q4 q5 q6 bv xs W bJ (hb.fr hF z_i) hk hq lp (hs.fr hF z_i) bx pK hp ho gU bm (fun g hg e => by have := hP g hg; omega) dr (by simp only [] at h2; omega)).mono ?_; rintro r w' ⟨rfl, hf, db, v, lo, da, hm, ab⟩; have hz := hF.size; obtain ⟨a, c, gJ⟩ := zaa ab.1
  exact ⟨rfl, hf, db, _, seven_of2 ⟨_, _, _, gJ⟩, da, v, lo, rfl, hm, OwnS.mono ab hz⟩
theorem zgY (bk bp bb br : Nat) (ep lp : Value) (P : Nat -> Prop) (s0 s1 s2 s3 s4 s5 s6 v z : Value) (xs : List UInt8) (l : List Mrk) (w : World) (hk : Blk w bk 3 #[.int .i64 5]) (hp : Blk w bp 54 #[s0, s1, s2, s3, s4, s5, s6]) (hb : Blk w bb 44 #[v]) (hr : Blk w br 44 #[z])
 (ab : w.ownsRow 0 5 1 v xs.length (bc xs)) (hs : Sl P w s5 2 l.length (l.flatMap Mrk.c)) (hl : xs.length <= 1073741824) (au : l.length <= 1073741824) (aD : ∀ s ∈ l, s.wf) (bM : bb ≠ br) :
 Calls prog 90 #[.pointer (some ⟨bk, 0, none⟩), ep, .pointer (some ⟨bp, 0, none⟩), .pointer (some ⟨bb, 0, none⟩), .pointer (some ⟨br, 0, none⟩), lp] w (zcs w br v.ownBlock (xs ++ zba l)) := by
 have iC : bp ≠ br := znn hp hr (by decide); have k0 := hk.cell 0; have p1 := hp.cell 5; have b0 := hb.cell 0; simp at k0 p1 b0; obtain ⟨a', n', k', rfl⟩ := zab ab; have bh : ∃ A m c, s5 = .slice A m c := let ⟨A, c, h, _⟩ := hs; ⟨A, _, c, h⟩
 obtain ⟨A, m, c, rfl⟩ := bh; have hQ := zew P (.slice A m c) l w.drew hs (by omega); have HB := zmh hb; have HP := zmh hp; have HR := zmh hr; have HO := zmh ab; have gA : w.drew.cell? ⟨bp, 5, none⟩ = some (.slice A m c) := p1; have ib : w.drew.cell? ⟨bb, 0, none⟩ = some (.slice a' n' k') := b0; clear hk hp hb hr ab hs; go_enter func90, ntmps90
 go_wp2_with fail
 have HW := zmh aD; clear aD; go_region_held3 (fun w' => w'.cell? ⟨bp, 5, none⟩ = some (.slice A m c) /\ w'.cell? ⟨bb, 0, none⟩ = some (.slice a' n' k'))
  ((first | (go_split_ands; refine ⟨?_, ?_⟩ <;> first | exact ((HP.out.drew).fr ah id).cell 5 | exact ((HB.out.drew).fr ah id).cell 0) | (go_split_ands; refine ⟨?_, ?_⟩ <;> first | exact KP.out.cell 5 | exact KB.out.cell 0) | (go_split_ands; refine ⟨?_, ?_⟩ <;> first | exact (KP.out.far (p := ⟨br, 0, none⟩) iC _).cell 5 | exact (KB.out.far (p := ⟨br, 0, none⟩) bM _).cell 0) | go_keep))
  ((first
    | (go_at_call 80; refine hQ.mono ?_; rintro r1 w1 ⟨v1, rfl, am, ah⟩)
    | (go_at_call 95; refine (zha ep v1 (fun g => v1.ownBlock = some g) (.slice a' n' k') xs l w1 (zno am) (zai (World.ownsRow.drew HO.out) ah z_i) hl au HW.out (zcY am HO.out (zmt _))).mono ?_; rintro r2 w2 ⟨v2, rfl, af, aq, bA⟩; obtain ⟨KP, KB, KR⟩ := za7 HP.out HB.out HR.out HO.out ah aq; have q0 := KR.out.cell 0; simp at q0; have q1 := KR.out.frozen 0; obtain ⟨a2, n2, k2, rfl⟩ := zab af)))
 have HE : Fr (fun k => some k = (Value.slice a' n' k').ownBlock ∨ k = br) w (w2.setCell ⟨br, 0, none⟩ (.slice a2 n2 k2)) :=
  ((((znl (fun k => some k = (Value.slice a' n' k').ownBlock ∨ k = br) w).drew).trans ah (fun _ _ e => e.elim)).trans aq (fun _ _ e => .inl e)).setCell (p := ⟨br, 0, none⟩) (.inl (.inr rfl)) _
 have HV : Blk (w2.setCell ⟨br, 0, none⟩ (.slice a2 n2 k2)) br 44 #[.slice a2 n2 k2] := by simpa using KR.out.set_ 0 (.slice a2 n2 k2)
 have HF := zmh HE; have iX := zmh HV; have eU : (w2.setCell ⟨br, 0, none⟩ (.slice a2 n2 k2)).ownsRow 0 5 1 (.slice a2 n2 k2) (xs ++ zba l).length (bc (xs ++ zba l)) := zai af (Fr.put_ w2 br 0 _) (fun g hg e => zak af KR.out (by decide) (by rw [hg, e])); have dO := zmh eU; have bD := ah.size; have gl := zmh bA
 clear HE HV eU am ah af aq bA q0 q1 hQ p1 gA b0 ib; go_wp2; go_end0; refine ⟨rfl, _, iX.out, dO.out, HF.out, ?_⟩; rcases gl.out with h | ⟨k, h, hk⟩
 ·exact .inl h
 ·exact .inr ⟨k, h, by simp at bD; omega⟩
theorem zeD (s0 s1 s2 s3 s4 s5 s6 bv : Value) (xs : List UInt8) (l : List Mrk) (P : Nat -> Prop) (w : World) (hb : Sl P w bv 1 xs.length (bc xs)) (bm : xs.length <= 1073741824)
 (au : ∀ s ∈ [s0, s1, s2, s3, s4, s5, s6], ∃ A m c, s = .slice A m c) (hs : Sl P w s5 2 l.length (l.flatMap Mrk.c)) (dh : l.length <= 1073741824) (aD : ∀ s ∈ l, s.wf) :
 Calls prog 31 #[.int .i64 5, .agg #[s0, s1, s2, s3, s4, s5, s6], bv] w (za5 (fun lv _ => lv = .slice none 0 0) w (xs ++ zba l)) := by
 refine zaP 5 s0 s1 s2 s3 s4 s5 s6 bv xs _ P _ w hb bm au (by rintro lv W rfl; exact ⟨_, _, _, rfl⟩) (fun _ _ _ h _ => h) ?_; intro bk be bp bb br bl v W hk hp bJ hr hl ab bM hF
 exact (zgY bk bp bb br _ _ P s0 s1 s2 s3 s4 s5 s6 v _ xs l W hk hp bJ hr (zah ab (zms _)) (hs.fr hF z_i) bm dh aD bM).mono fun r w' h => zdd (zah ab (zms _)) hr hl h
def MrkParts (base : Nat) (l : List Mrk) (ps : Array Value) (w : World) : Prop :=
 ∃ lv, ps = #[.slice none 0 0, .slice none 0 0, .slice none 0 0, .slice none 0 0, .slice none 0 0, lv, .slice none 0 0] /\ w.ownsRow base 168 2 lv l.length (l.flatMap Mrk.c)
theorem seven_of5 {lv : Value} (h : ∃ A m c, lv = .slice A m c) : zl9 #[.slice none 0 0, .slice none 0 0, .slice none 0 0, .slice none 0 0, .slice none 0 0, lv, .slice none 0 0] := by
 obtain ⟨A, m, c, rfl⟩ := h; exact ⟨_, _, _, _, _, _, _, _, _, _, _, _, _, _, _, _, _, _, _, _, _, rfl⟩
theorem zjR (P Q : Nat -> Prop) (u v : Value) (l : List Mrk) (w : World) (hu : Sl P w u 2 l.length (l.flatMap Mrk.c)) (hv : Sl Q w v 2 l.length (l.flatMap Mrk.c)) (hl : l.length <= 1099511627776) : Calls prog 104 #[u, v] w (zap w) := by
 obtain ⟨A, c, rfl, _, hc, hr⟩ := hu; obtain ⟨B, d, rfl, _, hd, hs⟩ := hv; obtain ⟨n, hn⟩ := exE l.length; rw [hn] at hr hs hc hd hl ⊢; have HN := zmh hn; have HR := zmh hr; have HS := zmh hs; clear hn hr hs; go_enter func104, ntmps104; go_wp2; go_loopw [5] (fun i wr => ∃ k : Nat, k <= n /\ i = .int .i64 k /\ z_F w wr) (fun i _ => n - (intOf i).toNat)
 case atStart => exact ⟨0, zms _, rfl, znl _ _⟩
 case round =>
  obtain ⟨k, hk, rfl, hf⟩ := hrel; by_cases hlt : k < n
  ·obtain ⟨g, off, rfl, _, aa⟩ := HR.out (by omega)
   obtain ⟨g2, an, rfl, _, aj⟩ := HS.out (by omega); obtain ⟨x, hx⟩ : ∃ x, l[k]? = some x := ⟨_, zmj (by rw [HN.out]; exact hlt)⟩; have aw : ∀ {g off : Nat}, (∀ j u, (l.flatMap Mrk.c)[j]? = some u -> w.cell? ⟨g, off + j, none⟩ = some u) -> ∀ j, j < 2 -> ∀ u, (Mrk.c x)[j]? = some u -> wr.drew.cell? ⟨g, off + (k * 2 + j), none⟩ = some u := fun {g off} aa j hj u hu => by
    have := aa (k * 2 + j) u (by rw [zby Mrk.c (fun _ => rfl) l k x hx j hj]; exact hu); rw [hf.drew.cell (p := ⟨g, off + (k * 2 + j), none⟩) (zmo w _ this) id]; exact this
   have c0 : wr.drew.cell? ⟨g, off + k * 2, none⟩ = some (.int .u64 x.ref) := aw aa 0 (by omega) _ rfl; have c1 : wr.drew.cell? ⟨g, off + k * 2 + 1, none⟩ = some (.int .u64 x.mm) := aw aa 1 (by omega) _ rfl; have d0 : wr.drew.cell? ⟨g2, an + k * 2, none⟩ = some (.int .u64 x.ref) := aw aj 0 (by omega) _ rfl
   have d1 : wr.drew.cell? ⟨g2, an + k * 2 + 1, none⟩ = some (.int .u64 x.mm) := aw aj 1 (by omega) _ rfl; have aq := zmh hf.drew; clear aa aj aw hf hx; go_wp2; go_region; go_wp2; go_roundw
   case rel => exact ⟨k + 1, by omega, by go_num, aq.out⟩
   case measure => simp [intOf]; omega
  ·obtain rfl : k = n := by omega
   go_wp2; go_ret; exact ⟨rfl, hf⟩
theorem lo_bounds {lo lv : List (Ston × Value)} (hm : lo.map Prod.fst = lv.map Prod.fst) (au : lv.length <= 4096) (aP : ∀ s ∈ lv.map Prod.fst, s.ivs.length <= 4096) (aD : ∀ s ∈ lv.map Prod.fst, s.wf) :
 lo.length <= 4096 /\ (∀ p ∈ lo, p.1.ivs.length <= 4096) /\ (∀ s ∈ lo.map Prod.fst, s.wf) := by
 have h1 : lo.length = lv.length := by have := zm7 List.length hm; simpa using this
 refine ⟨by omega, fun p hp => aP _ ?_, fun s hs => aD _ ?_⟩
 ·rw [<- hm]; exact zmN.2 ⟨p, hp, rfl⟩
 ·rw [<- hm]; exact hs
theorem zjG {w w1 : World} {v : Value} {m : Nat} {ys : List Value} (h : w.ownsRow 0 5 1 v m ys) : ∀ g, (w.drew.heap.size <= g /\ g < w1.heap.size) -> g < w1.heap.size /\ some g ≠ v.ownBlock := fun g hg =>
 ⟨hg.2, fun e => by have h1 := zaq h e.symm; have h2 : w.heap.size <= g := hg.1; omega⟩
theorem zhL (bk bp bb br : Nat) (ep lp : Value) (P : Nat -> Prop) (s0 s1 s2 s3 s4 s5 s6 v z : Value) (xs : List UInt8) (lv : List (Ston × Value)) (w : World) (hk : Blk w bk 3 #[.int .i64 3]) (hp : Blk w bp 54 #[s0, s1, s2, s3, s4, s5, s6]) (hb : Blk w bb 44 #[v]) (hr : Blk w br 44 #[z])
 (ab : w.ownsRow 0 5 1 v xs.length (bc xs)) (hs : SlS P w s2 lv) (hl : xs.length <= 1073741824) (au : lv.length <= 4096) (aP : ∀ s ∈ lv.map Prod.fst, s.ivs.length <= 4096) (aD : ∀ s ∈ lv.map Prod.fst, s.wf) (bM : bb ≠ br) :
 Calls prog 90 #[.pointer (some ⟨bk, 0, none⟩), ep, .pointer (some ⟨bp, 0, none⟩), .pointer (some ⟨bb, 0, none⟩), .pointer (some ⟨br, 0, none⟩), lp] w (zcs w br v.ownBlock (xs ++ zbz (lv.map Prod.fst))) := by
 have iC : bp ≠ br := znn hp hr (by decide); have k0 := hk.cell 0; have p1 := hp.cell 2; have b0 := hb.cell 0; simp at k0 p1 b0; obtain ⟨a', n', k', rfl⟩ := zab ab; have bh : ∃ A m c, s2 = .slice A m c := let ⟨A, c, h, _⟩ := hs.1; ⟨A, _, c, h⟩
 obtain ⟨A, m, c, rfl⟩ := bh; have hQ := zeQ P (.slice A m c) lv w.drew hs (by omega) (fun p hp => by have := aP p.1 (zmN.2 ⟨p, hp, rfl⟩); omega); have HB := zmh hb; have HP := zmh hp; have HR := zmh hr; have HO := zmh ab; have gA : w.drew.cell? ⟨bp, 2, none⟩ = some (.slice A m c) := p1; have ib : w.drew.cell? ⟨bb, 0, none⟩ = some (.slice a' n' k') := b0
 clear hk hp hb hr ab hs; go_enter func90, ntmps90; go_wp2_with fail
 have HW := zmh aD; clear aD; go_region_held3 (fun w' => w'.cell? ⟨bp, 2, none⟩ = some (.slice A m c) /\ w'.cell? ⟨bb, 0, none⟩ = some (.slice a' n' k'))
  ((first | (go_split_ands; refine ⟨?_, ?_⟩ <;> first | exact ((HP.out.drew).fr ah id).cell 2 | exact ((HB.out.drew).fr ah id).cell 0) | (go_split_ands; refine ⟨?_, ?_⟩ <;> first | exact KP.out.cell 2 | exact KB.out.cell 0) | (go_split_ands; refine ⟨?_, ?_⟩ <;> first | exact (KP.out.far (p := ⟨br, 0, none⟩) iC _).cell 2 | exact (KB.out.far (p := ⟨br, 0, none⟩) bM _).cell 0) | go_keep))
  ((first
    | (go_at_call 75; refine hQ.mono ?_; rintro r1 w1 ⟨v1, lo, rfl, kY, am, ah⟩; have LB := lo_bounds kY au aP HW.out)
    | (go_at_call 93; refine (zic ep v1 _ (.slice a' n' k') xs lo w1 am.sl (zai (World.ownsRow.drew HO.out) ah z_i) hl LB.1 LB.2.1 LB.2.2 (zjG HO.out)).mono ?_; rintro r2 w2 ⟨v2, rfl, af, aq, bA⟩; rw [kY] at af; obtain ⟨KP, KB, KR⟩ := za7 HP.out HB.out HR.out HO.out ah aq; have q0 := KR.out.cell 0; simp at q0; have q1 := KR.out.frozen 0; obtain ⟨a2, n2, k2, rfl⟩ := zab af)))
 have HE : Fr (fun k => some k = (Value.slice a' n' k').ownBlock ∨ k = br) w (w2.setCell ⟨br, 0, none⟩ (.slice a2 n2 k2)) :=
  ((((znl (fun k => some k = (Value.slice a' n' k').ownBlock ∨ k = br) w).drew).trans ah (fun _ _ e => e.elim)).trans aq (fun _ _ e => .inl e)).setCell (p := ⟨br, 0, none⟩) (.inl (.inr rfl)) _
 have HV : Blk (w2.setCell ⟨br, 0, none⟩ (.slice a2 n2 k2)) br 44 #[.slice a2 n2 k2] := by simpa using KR.out.set_ 0 (.slice a2 n2 k2)
 have HF := zmh HE; have iX := zmh HV; have eU : (w2.setCell ⟨br, 0, none⟩ (.slice a2 n2 k2)).ownsRow 0 5 1 (.slice a2 n2 k2) (xs ++ zbz (lv.map Prod.fst)).length (bc (xs ++ zbz (lv.map Prod.fst))) := zai af (Fr.put_ w2 br 0 _) (fun g hg e => zak af KR.out (by decide) (by rw [hg, e])); have dO := zmh eU; have bD := ah.size; have gl := zmh bA
 clear HE HV eU am ah af aq bA q0 q1 hQ p1 gA b0 ib; go_wp2; go_end0; refine ⟨rfl, _, iX.out, dO.out, HF.out, ?_⟩; rcases gl.out with h | ⟨k, h, hk⟩
 ·exact .inl h
 ·exact .inr ⟨k, h, by simp at bD; omega⟩
theorem zeS (s0 s1 s2 s3 s4 s5 s6 bv : Value) (xs : List UInt8) (lv : List (Ston × Value)) (P : Nat -> Prop) (w : World) (hb : Sl P w bv 1 xs.length (bc xs)) (bm : xs.length <= 1073741824)
 (au : ∀ s ∈ [s0, s1, s2, s3, s4, s5, s6], ∃ A m c, s = .slice A m c) (hs : SlS P w s2 lv) (dh : lv.length <= 4096) (aP : ∀ s ∈ lv.map Prod.fst, s.ivs.length <= 4096) (aD : ∀ s ∈ lv.map Prod.fst, s.wf) :
 Calls prog 31 #[.int .i64 3, .agg #[s0, s1, s2, s3, s4, s5, s6], bv] w (za5 (fun lv _ => lv = .slice none 0 0) w (xs ++ zbz (lv.map Prod.fst))) := by
 refine zaP 3 s0 s1 s2 s3 s4 s5 s6 bv xs _ P _ w hb bm au (by rintro lv W rfl; exact ⟨_, _, _, rfl⟩) (fun _ _ _ h _ => h) ?_; intro bk be bp bb br bl v W hk hp bJ hr hl ab bM hF
 exact (zhL bk bp bb br _ _ P s0 s1 s2 s3 s4 s5 s6 v _ xs lv W hk hp bJ hr (zah ab (zms _)) (hs.fr hF z_i) bm dh aP aD bM).mono fun r w' h => zdd (zah ab (zms _)) hr hl h
end Go.Proofs.YtbkookiigkckdaaGreatDoor
