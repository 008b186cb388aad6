/- Texts of this seat, merged and shortened. -/
import Derived.Test.YtbkookiigkckdaaGreatDoorK13
set_option linter.unusedVariables false
set_option linter.unusedSimpArgs false
set_option maxRecDepth 100000
set_option maxHeartbeats 8000000
namespace Go.Proofs.YtbkookiigkckdaaGreatDoor
open Go.RowKit Go.Proofs.Tryz
def ze2 {α : Type} (f : St -> α × St) (st : St) : List α × St := gN f (gUv st).1 (gUv st).2
def hS1 (st : St) : St := (zaC st).2
def hS2 (st : St) : St := (zaH (hS1 st)).2
def hS3 (st : St) : St := (zac (hS2 st)).2
def zji (st : St) : Int := wrap32 (zaH (hS1 st)).1
theorem gByte_lt7 (st : St) : (zaC st).1 < 256 := by
 match st with
 | none => decide
 | some [] => decide
 | some (b :: r) => exact b.toNat_lt
theorem zhr (st : St) : (UInt8.ofNat (zaC st).1).toNat = (zaC st).1 := by
 rw [UInt8.toNat_ofNat']; exact Nat.mod_eq_of_lt (gByte_lt7 st)
def hW4 (st : St) : St := (gUv (hS3 st)).2
def hW5 (st : St) : St := (gUv (hW4 st)).2
def hW6 (st : St) : St := (zac (hW5 st)).2
def hW7 (st : St) : St := (ze2 gSp (hW6 st)).2
def hW8 (st : St) : St := (ze2 gSp (hW7 st)).2
def hW9 (st : St) : St := (ze2 zaH (hW8 st)).2
def hW10 (st : St) : St := (ze2 zaH (hW9 st)).2
def hWc (st : St) : List Nat × St := if zji st = -53 then ze2 zac (hW10 st) else ([], hW10 st)
def zcO (st : St) : Hst × St :=
 (⟨UInt8.ofNat (zaC st).1, zji st, (zac (hS2 st)).1, (zac (hW5 st)).1, (gUv (hS3 st)).1, (gUv (hW4 st)).1, (ze2 gSp (hW6 st)).1, (ze2 gSp (hW7 st)).1, (ze2 zaH (hW8 st)).1, (ze2 zaH (hW9 st)).1, [], [], (hWc st).1⟩, (hWc st).2)
def FineW (st : St) : Prop := (gUv (hW6 st)).1 <= 1000 /\ (gUv (hW7 st)).1 <= 1000 /\ (gUv (hW8 st)).1 <= 1000 /\ (gUv (hW9 st)).1 <= 1000 /\ (zji st = -53 -> (gUv (hW10 st)).1 <= 1000)
theorem zi7 (te : TypeId) (pe : Value) (d g0 : Nat) (cur : Array Value) (g base : Nat) (w : World) (st : St) (bS : base <= g)
 (hD : DH te pe d g0 cur g 288 w w st #[.int .u8 0, .int .i32 0, .float .f64 0, .int .u64 0, .int .u64 0, .float .f64 0, .slice none 0 0, .slice none 0 0, .slice none 0 0, .slice none 0 0, .slice none 0 0] []) (hf : FineW st) :
 Calls prog 174 #[.pointer (some ⟨d, 0, none⟩), .pointer (some ⟨g, 0, none⟩)] w (fun r w' => r = .returned (.tuple #[]) /\ Dec te pe w' d g0 cur (zcO st).2 /\ OwnW base w' (zcO st).1 (.pointer (some ⟨g, 0, none⟩)) /\ Fr (fun k => k = d ∨ k = g) w w') := by
 obtain ⟨f1, f2, f3, f4, f5⟩ := hf; have hgw : g < w.heap.size := hD.2.2.2.2.2.1
 refine (zi6 te pe d g0 cur g w _ _ _ _ _ _ _ _ _ _ (gUv (hW10 st)).1 _ _ _ _ (hWc st).1 st (hS1 st) (hS2 st) (hS3 st) (hW4 st) (hW5 st) (hW6 st) _ (hW7 st) _ (hW8 st) _ (hW9 st) _ (hW10 st) (gUv (hW10 st)).2 (hWc st).2 hD rfl rfl rfl rfl rfl rfl
  rfl f1 rfl rfl f2 rfl rfl f3 rfl rfl f4 rfl (fun h => ⟨rfl, f5 h, by unfold hWc; rw [show zji st = -53 from h, if_pos rfl]; rfl⟩) (fun h => by unfold hWc; rw [zmI (show ¬ zji st = -53 from h)]; exact ⟨rfl, rfl⟩)).mono ?_
 rintro r w' ⟨rfl, v1, v2, v3, v4, v5, hDE⟩; obtain ⟨q1, q2, ⟨o5, _, o4, _, o3, _, o2, _, o1, _, _⟩, q4, _⟩ := hDE; have hb : base <= w.heap.size := by omega
 refine ⟨rfl, q1, ⟨g, ⟨v1, v2, v3, v4, v5⟩, rfl, bS, ?_, zah o1 hb, zah o2 hb, zah o3 hb, zah o4 hb, zah o5 hb⟩, q4⟩; have e : ((UInt8.ofNat (zaC st).1).toNat : Int) = ((zaC st).1 : Int) := by rw [zhr]
 unfold hcW zcO; simp only []; rw [e]; exact q2
def hF4 (st : St) : St := (zac (hS3 st)).2
def hF5 (st : St) : St := (zac (hF4 st)).2
def hF6 (st : St) : St := (zac (hF5 st)).2
def hF7 (st : St) : St := (ze2 gSp (hF6 st)).2
def hF8 (st : St) : St := (ze2 gSp (hF7 st)).2
def hF9 (st : St) : St := (ze2 zac (hF8 st)).2
def ziK (st : St) : St := (ze2 zac (hF9 st)).2
def hFc (st : St) : List Nat × St := if zji st = -53 then ze2 zac (ziK st) else ([], ziK st)
def zcP (st : St) : Hst × St :=
 (⟨UInt8.ofNat (zaC st).1, zji st, (zac (hS2 st)).1, (zac (hF5 st)).1, (zac (hS3 st)).1, (zac (hF4 st)).1, (ze2 gSp (hF6 st)).1, (ze2 gSp (hF7 st)).1, [], [], (ze2 zac (hF8 st)).1, (ze2 zac (hF9 st)).1, (hFc st).1⟩, (hFc st).2)
def FineF (st : St) : Prop := (gUv (hF6 st)).1 <= 1000 /\ (gUv (hF7 st)).1 <= 1000 /\ (gUv (hF8 st)).1 <= 1000 /\ (gUv (hF9 st)).1 <= 1000 /\ (zji st = -53 -> (gUv (ziK st)).1 <= 1000)
theorem zi9 (te : TypeId) (pe : Value) (d g0 : Nat) (cur : Array Value) (g base : Nat) (w : World) (st : St) (bS : base <= g)
 (hD : DH te pe d g0 cur g 296 w w st #[.int .u8 0, .int .i32 0, .float .f64 0, .float .f64 0, .float .f64 0, .float .f64 0, .slice none 0 0, .slice none 0 0, .slice none 0 0, .slice none 0 0, .slice none 0 0] []) (hf : FineF st) :
 Calls prog 177 #[.pointer (some ⟨d, 0, none⟩), .pointer (some ⟨g, 0, none⟩)] w (fun r w' => r = .returned (.tuple #[]) /\ Dec te pe w' d g0 cur (zcP st).2 /\ OwnF base w' (zcP st).1 (.pointer (some ⟨g, 0, none⟩)) /\ Fr (fun k => k = d ∨ k = g) w w') := by
 obtain ⟨f1, f2, f3, f4, f5⟩ := hf; have hgw : g < w.heap.size := hD.2.2.2.2.2.1
 refine (zi8 te pe d g0 cur g w _ _ _ _ _ _ _ _ _ _ (gUv (ziK st)).1 _ _ _ _ (hFc st).1 st (hS1 st) (hS2 st) (hS3 st) (hF4 st) (hF5 st) (hF6 st) _ (hF7 st) _ (hF8 st) _ (hF9 st) _ (ziK st) (gUv (ziK st)).2 (hFc st).2 hD rfl rfl rfl rfl rfl rfl
  rfl f1 rfl rfl f2 rfl rfl f3 rfl rfl f4 rfl (fun h => ⟨rfl, f5 h, by unfold hFc; rw [show zji st = -53 from h, if_pos rfl]; rfl⟩) (fun h => by unfold hFc; rw [zmI (show ¬ zji st = -53 from h)]; exact ⟨rfl, rfl⟩)).mono ?_
 rintro r w' ⟨rfl, v1, v2, v3, v4, v5, hDE⟩; obtain ⟨q1, q2, ⟨o5, _, o4, _, o3, _, o2, _, o1, _, _⟩, q4, _⟩ := hDE; have hb : base <= w.heap.size := by omega
 refine ⟨rfl, q1, ⟨g, ⟨v1, v2, v3, v4, v5⟩, rfl, bS, ?_, zah o1 hb, zah o2 hb, zah o3 hb, zah o4 hb, zah o5 hb⟩, q4⟩; have e : ((UInt8.ofNat (zaC st).1).toNat : Int) = ((zaC st).1 : Int) := by rw [zhr]
 unfold hcF zcP; simp only []; rw [e]; exact q2
def zaQ (br : Nat) (bt : Int) (st : St) : Rhs × St :=
 (⟨u64 ((br : Int) + u64 (zaH st).1), wrap64 (bt + (zaH (zaH st).2).1), (zcO (zaH (zaH st).2).2).1⟩, (zcO (zaH (zaH st).2).2).2)
def zda (st : St) : Prop := FineW (zaH (zaH st).2).2
def zbc (rest : List UInt8) : Option (List Rhs) :=
 if rest = [] then some [] else match zaj (zaQ (zac (some rest)).1 (zav (zac (some rest)).2).1) rest.length (zav (zac (some rest)).2).2 [] with
  | (l, some _) => some l
  | (_, none) => none
def zcQ (xs : List UInt8) : Option (List Rhs) :=
 match xs with
 | [] => none
 | b :: rest => if b = 7 ∨ b = 9 then zbc rest else none
def zdW (S : Nat -> Prop) (w : World) (base : Nat) (pre : List (Rhs × Value)) (et : Option (List Rhs)) (r : Ending) (w' : World) : Prop :=
 Fr S w w' /\ match et with
  | some l => ∃ v' lo, r = .returned (.tuple #[v', .nilIface]) /\ lo.map Prod.fst = l /\ OwnHW base w' v' (pre ++ lo)
  | none => ∃ t a, r = .returned (.tuple #[.slice none 0 0, .iface t a])
theorem zeg {S : Nat -> Prop} {w w' : World} {base : Nat} {pre : List (Rhs × Value)} {et : Option (List Rhs)} {t : TypeId} {a : Value} (hd : et = none) (hf : Fr S w w') : zdW S w base pre et (.returned (.tuple #[.slice none 0 0, .iface t a])) w' := by
 unfold zdW; rw [hd]; exact ⟨hf, _, _, rfl⟩
theorem zfs {S : Nat -> Prop} {w w' : World} {base : Nat} {pre lo : List (Rhs × Value)} {et : Option (List Rhs)} {v : Value} (hd : et = some (lo.map Prod.fst)) (hf : Fr S w w') (ho : OwnHW base w' v (pre ++ lo)) : zdW S w base pre et (.returned (.tuple #[v, .nilIface])) w' := by
 unfold zdW; rw [hd]; exact ⟨hf, _, _, rfl, rfl, ho⟩
theorem zkd {br : Nat} {bt : Int} {rest s : List UInt8} {dU : St} {l : List Rhs} (h0 : rest ≠ []) (h1 : (zac (some rest)).1 = br) (h2 : (zav (zac (some rest)).2) = (bt, dU)) (h : zaj (zaQ br bt) rest.length dU [] = (l, some s)) : zbc rest = some l := by
 unfold zbc; rw [zmI h0, h1, h2]; simp only []; rw [h]
theorem zke {br : Nat} {bt : Int} {rest : List UInt8} {dU : St} {l : List Rhs} (h0 : rest ≠ []) (h1 : (zac (some rest)).1 = br) (h2 : (zav (zac (some rest)).2) = (bt, dU)) (h : zaj (zaQ br bt) rest.length dU [] = (l, none)) : zbc rest = none := by
 unfold zbc; rw [zmI h0, h1, h2]; simp only []; rw [h]
theorem OwnHW.of {base : Nat} {w w' : World} {v : Value} {lo : List (Rhs × Value)} {d : Nat} {cs : Array Value} (h : OwnHW base w v lo) (hb : Blk w d 229 cs) (hf : Fr (fun k => k = d) w w') : OwnHW base w' v lo := by
 have go : ∀ {e : TypeId} {z n : Nat} {u : Value} {xs : List Value}, e ≠ 229 -> w.ownsRow base e z u n xs -> w'.ownsRow base e z u n xs := fun he o => zai o hf (fun g hg e => zak o hb he (by rw [hg, e])); refine ⟨go (by decide) h.1, fun p hp => ?_⟩; obtain ⟨g, s, hv, kh, qa, a1, a2, a3, a4, a5⟩ := h.2 p hp
 exact ⟨g, s, hv, kh, qa.fr hf (fun e => zmT qa hb (by decide) e), go (by decide) a1, go (by decide) a2, go (by decide) a3, go (by decide) a4, go (by decide) a5⟩
def zaR (br : Nat) (bt : Int) (st : St) : Rhs × St :=
 (⟨u64 ((br : Int) + u64 (zaH st).1), wrap64 (bt + (zaH (zaH st).2).1), (zcP (zaH (zaH st).2).2).1⟩, (zcP (zaH (zaH st).2).2).2)
def zdb (st : St) : Prop := FineF (zaH (zaH st).2).2
def zbd (rest : List UInt8) : Option (List Rhs) :=
 if rest = [] then some [] else match zaj (zaR (zac (some rest)).1 (zav (zac (some rest)).2).1) rest.length (zav (zac (some rest)).2).2 [] with
  | (l, some _) => some l
  | (_, none) => none
def zcR (xs : List UInt8) : Option (List Rhs) :=
 match xs with
 | [] => none
 | b :: rest => if b = 8 ∨ b = 10 then zbd rest else none
def zdX (S : Nat -> Prop) (w : World) (base : Nat) (pre : List (Rhs × Value)) (et : Option (List Rhs)) (r : Ending) (w' : World) : Prop :=
 Fr S w w' /\ match et with
  | some l => ∃ v' lo, r = .returned (.tuple #[v', .nilIface]) /\ lo.map Prod.fst = l /\ OwnHF base w' v' (pre ++ lo)
  | none => ∃ t a, r = .returned (.tuple #[.slice none 0 0, .iface t a])
theorem zeh {S : Nat -> Prop} {w w' : World} {base : Nat} {pre : List (Rhs × Value)} {et : Option (List Rhs)} {t : TypeId} {a : Value} (hd : et = none) (hf : Fr S w w') : zdX S w base pre et (.returned (.tuple #[.slice none 0 0, .iface t a])) w' := by
 unfold zdX; rw [hd]; exact ⟨hf, _, _, rfl⟩
theorem zft {S : Nat -> Prop} {w w' : World} {base : Nat} {pre lo : List (Rhs × Value)} {et : Option (List Rhs)} {v : Value} (hd : et = some (lo.map Prod.fst)) (hf : Fr S w w') (ho : OwnHF base w' v (pre ++ lo)) : zdX S w base pre et (.returned (.tuple #[v, .nilIface])) w' := by
 unfold zdX; rw [hd]; exact ⟨hf, _, _, rfl, rfl, ho⟩
theorem zkf {br : Nat} {bt : Int} {rest s : List UInt8} {dU : St} {l : List Rhs} (h0 : rest ≠ []) (h1 : (zac (some rest)).1 = br) (h2 : (zav (zac (some rest)).2) = (bt, dU)) (h : zaj (zaR br bt) rest.length dU [] = (l, some s)) : zbd rest = some l := by
 unfold zbd; rw [zmI h0, h1, h2]; simp only []; rw [h]
theorem zkg {br : Nat} {bt : Int} {rest : List UInt8} {dU : St} {l : List Rhs} (h0 : rest ≠ []) (h1 : (zac (some rest)).1 = br) (h2 : (zav (zac (some rest)).2) = (bt, dU)) (h : zaj (zaR br bt) rest.length dU [] = (l, none)) : zbd rest = none := by
 unfold zbd; rw [zmI h0, h1, h2]; simp only []; rw [h]
theorem OwnHF.of {base : Nat} {w w' : World} {v : Value} {lo : List (Rhs × Value)} {d : Nat} {cs : Array Value} (h : OwnHF base w v lo) (hb : Blk w d 229 cs) (hf : Fr (fun k => k = d) w w') : OwnHF base w' v lo := by
 have go : ∀ {e : TypeId} {z n : Nat} {u : Value} {xs : List Value}, e ≠ 229 -> w.ownsRow base e z u n xs -> w'.ownsRow base e z u n xs := fun he o => zai o hf (fun g hg e => zak o hb he (by rw [hg, e])); refine ⟨go (by decide) h.1, fun p hp => ?_⟩; obtain ⟨g, s, hv, kh, qa, a1, a2, a3, a4, a5⟩ := h.2 p hp
 exact ⟨g, s, hv, kh, qa.fr hf (fun e => zmT qa hb (by decide) e), go (by decide) a1, go (by decide) a2, go (by decide) a3, go (by decide) a4, go (by decide) a5⟩
theorem zdo : (∀ (_ : True) (te : TypeId) (pe : Value) (dv : Value) (g base : Nat) (cur : Array Value) (pre : List (Rhs × Value)) (kd : UInt8) (en : kd = 7 ∨ kd = 9) (rest : List UInt8) (bD : rest ≠ []) (v sv : Value) (w : World) (h : Rec te pe w g cur (kd :: rest) v) (ho : OwnHW base w sv pre) (hb : 2 < base /\ base <= w.heap.size) (bj : pre.length <= 1073741824)
 (al : St -> Prop) (hG : ∀ l, al (some l) -> zda (some l) /\ al (zaQ (zac (some rest)).1 (zav (zac (some rest)).2).1 (some l)).2) (aY : al (zav (zac (some rest)).2).2)
 (ai : ∀ br bt l0 l, (zaQ br bt (some l0)).2 = some l -> l.length < l0.length),
 Calls prog 83 #[dv, v, sv] w (zdW (fun k => some k = sv.ownBlock) w base pre (zbc rest))) /\ (∀ (_ : True) (te : TypeId) (pe : Value) (dv : Value) (g base : Nat) (cur : Array Value) (pre : List (Rhs × Value)) (kd : UInt8) (en : kd = 8 ∨ kd = 10) (rest : List UInt8) (bD : rest ≠ []) (v sv : Value) (w : World) (h : Rec te pe w g cur (kd :: rest) v) (ho : OwnHF base w sv pre) (hb : 2 < base /\ base <= w.heap.size) (bj : pre.length <= 1073741824)
 (al : St -> Prop) (hG : ∀ l, al (some l) -> zdb (some l) /\ al (zaR (zac (some rest)).1 (zav (zac (some rest)).2).1 (some l)).2) (aY : al (zav (zac (some rest)).2).2)
 (ai : ∀ br bt l0 l, (zaR br bt (some l0)).2 = some l -> l.length < l0.length),
 Calls prog 86 #[dv, v, sv] w (zdX (fun k => some k = sv.ownBlock) w base pre (zbd rest))) := by
 refine ⟨fun aj te pe dv g base cur pre kd en rest bD v sv w h ho hb bj al hG aY ai => ?_, fun cf te pe dv g base cur pre kd en rest bD v sv w h ho hb bj al hG aY ai => ?_⟩; all_goals
  have mixed : prog.follows .mixedOrders = true := by kernel_rfl
  first | (guard_hyp aj; obtain ⟨i0, aB, ay, ax, aA⟩ := info_parts zjU) | (obtain ⟨i0, aB, ay, ax, aA⟩ := info_parts zjT)
  have hD := h.dec; obtain ⟨off, c, rfl, _⟩ := h; have hQ := zbt te pe w.heap.size g cur _ _ hD; rw [show zaC (some (kd :: rest)) = (kd.toNat, some rest) from rfl] at hQ; simp only [] at hQ; obtain ⟨n, hn⟩ := exE ((kd :: rest).length); have dL := zlM (zmS w 229 #[.slice (some ⟨g, off, none⟩) (kd :: rest).length c, .nilIface]); rw [hn] at hQ dL ⊢; have hg9 : g < w.heap.size := by
   obtain ⟨cs0, iH, kZ, hlt2⟩ := zcd hD; have h1 := kZ.lt; simp at h1; have := zmT kZ iH (by decide); omega
  have HLN := zlM ai; have ox : rest.length <= 1099511627776 := by
   obtain ⟨n', off', c', _, _, hn', aR, _⟩ := hD.open_; have := hn' _ rfl; simp at this; omega
  obtain ⟨br, bL⟩ := exE ((zac (some rest)).1); obtain ⟨T1, gm⟩ := exE ((zac (some rest)).2); obtain ⟨bt, kY⟩ := exE ((zav T1).1); obtain ⟨T2, iK⟩ := exE ((zav T1).2); rw [bL, gm, kY] at hG; rw [gm, iK] at aY; have fO : zav (zac (some rest)).2 = (bt, T2) := by rw [gm]; exact Prod.ext kY iK
  have HU : Hid (∀ v : Int, ∃ y : Nat, u64 ((br : Int) + u64 v) = y /\ IntKind.u64.wrap ((br : Int) + IntKind.u64.wrap v) = (y : Int)) := zlM (fun v => ⟨_, rfl, by rw [IntKind.wrap_u64, IntKind.wrap_u64]; unfold u64; omega⟩); have iW := zlM bD; have oq := zlM bL; have fz := zlM fO; have ib := zlM hG; have kt := zlM aY; have HO := zlM ho
  have HOL : Hid (∀ k, sv.ownBlock = some k -> k < w.heap.size) := zlM (fun k hk => zar ho.1 hk); obtain ⟨a', np, k', rfl⟩ := zab ho.1; have hr1 : ((rest.length : Int) == 0) = false := by have := List.length_pos_iff.2 bD; simp; omega
  have HL : Hid (∀ W, Dec te pe W w.heap.size g cur (some rest) -> Calls prog 118 #[.pointer (some ⟨w.heap.size, 0, none⟩)] W (fun r w' => r = .returned (.int .i64 rest.length) /\ W = w')) := zlM (fun W hW => by
   refine (ze7 te pe _ _ _ _ _ hW).mono ?_; rintro r w0 ⟨m, rfl, hm, _, rfl⟩; have hm0 := hm _ rfl; subst hm0
   exact ⟨rfl, rfl⟩)
  have HV1 : Hid (∀ W, Dec te pe W w.heap.size g cur (some rest) -> Calls prog 162 #[.pointer (some ⟨w.heap.size, 0, none⟩)] W (zb6 te pe W w.heap.size g cur (.int .u64 br) T1)) := zlM (fun W hW => by have := zcE te pe _ _ _ _ _ hW; rwa [bL, gm] at this)
  have HV2 : Hid (∀ W, Dec te pe W w.heap.size g cur T1 -> Calls prog 164 #[.pointer (some ⟨w.heap.size, 0, none⟩)] W (zb6 te pe W w.heap.size g cur (.int .i64 bt) T2)) := zlM (fun W hW => by have := zie te pe _ _ _ _ _ hW; rwa [kY, iK] at this)
  first | (guard_hyp aj; have hn : ((kd.toNat : Int) = 7 ∨ (kd.toNat : Int) = 9) := by rcases en with rfl | rfl <;> decide) | (have hn : ((kd.toNat : Int) = 8 ∨ (kd.toNat : Int) = 10) := by rcases en with rfl | rfl <;> decide)
  obtain ⟨kx, me⟩ := exE kd.toNat
  rw [me] at hn hQ; have rm := zlM hn; clear hD ho bD bL fO hG aY kY iK gm en me hn ai
  first | (guard_hyp aj; go_enter func83, ntmps83) | (go_enter func86, ntmps86)
  go_upto_region 3 with (first
   | (go_at_call 160; refine hQ.mono ?_; rintro r w1 ⟨rfl, cX, cD⟩; have og := zlM cX; have dS := zlM cD; clear cX cD))
  go_cut [23] (fun oR wx => oR = .bool false /\ wx = w1)
  case first =>
   as_aux_lemma =>
    rcases rm.out with e | e; all_goals
     obtain rfl : kx = _ := Int.ofNat.inj e; go_wp2_with fail
     go_meet
     exact ⟨rfl, rfl⟩
  case rest =>
   as_aux_lemma =>
    obtain ⟨rfl, rfl⟩ := hcut
    first | (guard_hyp aj; have O1 : OwnHW base wc (.slice a' np k') pre := (HO.out.fr ((zmR (fun _ => False) w).alloc (.cells #[.slice (some ⟨g, off, none⟩) n c, .nilIface] 229)) (fun _ _ _ e => e)).of dL.out dS.out) | (have O1 : OwnHF base wc (.slice a' np k') pre := (HO.out.fr ((zmR (fun _ => False) w).alloc (.cells #[.slice (some ⟨g, off, none⟩) n c, .nilIface] 229)) (fun _ _ _ e => e)).of dL.out dS.out)
    have F1 : Fr (fun k => some k = (Value.slice a' np k').ownBlock) w wc := ((zmR (fun k => some k = (Value.slice a' np k').ownBlock) w).alloc (.cells #[.slice (some ⟨g, off, none⟩) n c, .nilIface] 229)).trans dS.out (fun k hk e => by omega); have dk := zlM O1; have cd := zlM F1; obtain ⟨csd, lf, _, _⟩ := zcd og.out; have mF := zlM lf; clear O1 F1 dS dL HO hQ lf
    go_wp2_with (first
     | (go_at_call 118; refine (HL.out _ og.out).mono ?_; rintro r w0 ⟨rfl, rfl⟩)
     | (go_at_call 162; refine (HV1.out _ og.out).mono ?_; rintro r w2 ⟨rfl, fe, fa⟩; have HDB := zlM fe; have kv := zlM fa; clear fe fa)
     | (go_at_call 164; refine (HV2.out _ HDB.out).mono ?_; rintro r w3 ⟨rfl, qo, pR⟩; have HDC := zlM qo; have HFC := zlM (kv.out.same pR); clear qo pR))
    first | (guard_hyp aj; have es : Hid (OwnHW base w3 (.slice a' np k') (pre ++ [])) := zlM (by rw [zl8]; exact dk.out.of mF.out HFC.out)) | (have es : Hid (OwnHF base w3 (.slice a' np k') (pre ++ [])) := zlM (by rw [zl8]; exact dk.out.of mF.out HFC.out))
    have bH : Hid (Fr (fun k => some k = (Value.slice a' np k').ownBlock) w w3) := zlM (cd.out.trans HFC.out (fun k hk e => by omega))
    have hN : Hid (∀ k, (Value.slice a' np k').ownBlock = some k -> k < w.heap.size) := zlM (fun k hk => by
     rcases (dk.out.1).2 with ⟨e, _⟩ | ⟨g', aP, cur', e, _⟩
     ·rw [e] at hk; cases hk
     ·exact HOL.out k hk)
    clear kv HFC HDB dk cd
    first
     | guard_hyp aj
       go_loopw [2] (fun sv wr => ∃ (st : St) (lo : List (Rhs × Value)) (j : Nat), Hid (Dec te pe wr w.heap.size g cur st) /\ Hid (OwnHW base wr sv (pre ++ lo)) /\ Hid (Fr (fun k => some k = (Value.slice a' np k').ownBlock) w wr) /\ Hid (∀ k, sv.ownBlock = some k -> (some k = (Value.slice a' np k').ownBlock ∨ w.heap.size <= k)) /\
        Hid (zaj (zaQ br bt) j st (lo.map Prod.fst) = zaj (zaQ br bt) rest.length T2 []) /\ Hid (∀ l, st = some l -> l.length <= j /\ lo.length + l.length <= rest.length) /\ lo.length <= rest.length + 1 /\ Hid (al st)) (fun _ wr => zic w.heap.size wr)
     | go_loopw [2] (fun sv wr => ∃ (st : St) (lo : List (Rhs × Value)) (j : Nat), Hid (Dec te pe wr w.heap.size g cur st) /\ Hid (OwnHF base wr sv (pre ++ lo)) /\ Hid (Fr (fun k => some k = (Value.slice a' np k').ownBlock) w wr) /\ Hid (∀ k, sv.ownBlock = some k -> (some k = (Value.slice a' np k').ownBlock ∨ w.heap.size <= k)) /\
        Hid (zaj (zaR br bt) j st (lo.map Prod.fst) = zaj (zaR br bt) rest.length T2 []) /\ Hid (∀ l, st = some l -> l.length <= j /\ lo.length + l.length <= rest.length) /\ lo.length <= rest.length + 1 /\ Hid (al st)) (fun _ wr => zic w.heap.size wr)
    case atStart => exact ⟨T2, [], rest.length, HDC, es, bH, zlM (fun k hk => .inl hk.symm), zlM rfl, zlM (fun l hl => by
     have h : (zac (zac (some rest)).2).2 = T2 := zmC Prod.snd fz.out; obtain ⟨l1, h1, e1⟩ := zbJ (st := (zac (some rest)).2) (h.trans hl); obtain ⟨l2, h2, e2⟩ := zbJ (st := some rest) h1; injection h2 with h2; subst h2
     simp; omega), by simp, kt⟩
    case round =>
     obtain ⟨st, lo, j, HD, HO, HF, HB, HE, HL9, mj, nZ⟩ := hrel; obtain ⟨n6, iw, c6, p0, p1, cQ, aR, hd, hg, h2⟩ := HD.out.open_; have hE := zgO te pe _ _ _ _ _ HD.out; obtain ⟨a6, n9, k6, rfl⟩ := zab HO.out.1; rcases st with _ | l
     ·clear cQ p1
      first | (guard_hyp aj; have aJ : zaj (zaQ br bt) rest.length T2 [] = (lo.map Prod.fst, none) := by rw [<- HE.out]; unfold zaj; rcases j with _ | j <;> rfl) | (have aJ : zaj (zaR br bt) rest.length T2 [] = (lo.map Prod.fst, none) := by rw [<- HE.out]; unfold zaj; rcases j with _ | j <;> rfl)
      first | (guard_hyp aj; have HR := zlM (zke iW.out oq.out fz.out aJ)) | (have HR := zlM (zkg iW.out oq.out fz.out aJ))
      clear aJ; simp only [zjj] at hE; rcases zl9 n6 with rfl | oz
      ·go_wp2_with (go_at_call 119; refine hE.mono ?_; rintro r w7 ⟨rfl, rfl⟩)
       go_ret2
       first | (guard_hyp aj; exact zeg HR.out HF.out) | (exact zeh HR.out HF.out)
      ·have bW : (0 : Int) < (n6 : Int) := by omega
       go_wp2_with (go_at_call 119; refine hE.mono ?_; rintro r w7 ⟨rfl, rfl⟩)
       go_ret2
       first | (guard_hyp aj; exact zeg HR.out HF.out) | (exact zeh HR.out HF.out)
     ·obtain rfl : n6 = l.length := cQ l rfl
      simp only [zjj] at hE; rcases l with _ | ⟨x, r⟩
      ·first | (guard_hyp aj; have aJ : zaj (zaQ br bt) rest.length T2 [] = (lo.map Prod.fst, some []) := by rw [<- HE.out]; unfold zaj; rcases j with _ | j <;> rfl) | (have aJ : zaj (zaR br bt) rest.length T2 [] = (lo.map Prod.fst, some []) := by rw [<- HE.out]; unfold zaj; rcases j with _ | j <;> rfl)
       first | (guard_hyp aj; have HR := zlM (zkd iW.out oq.out fz.out aJ)) | (have HR := zlM (zkf iW.out oq.out fz.out aJ))
       clear aJ cQ p1; simp only [zmE] at p0; go_wp2_with (go_at_call 119; refine hE.mono ?_; rintro r w7 ⟨rfl, rfl⟩)
       go_ret2
       first | (guard_hyp aj; exact zfs HR.out HF.out HO.out) | (exact zft HR.out HF.out HO.out)
      ·obtain ⟨n7, bW⟩ := exE ((x :: r).length)
       have lY : (0 : Int) < (n7 : Int) := by rw [<- bW]; simp
       have gj := HL9.out _ rfl; have hM := zbr HD.out; rw [bW] at p0 gj hM; obtain ⟨aW, bR⟩ := ib.out _ nZ.out; have eW := zlM bW; obtain ⟨S0, gM⟩ : ∃ S0 : St, some (x :: r) = S0 := ⟨_, rfl⟩; have nC := HD.out; rw [gM] at aW bR nC; have gZ := zlM gM; have o8 := zlM bR; have cV := zcS te pe _ _ _ _ _ nC; obtain ⟨v0, eY⟩ := exE ((zaH S0).1)
       obtain ⟨S1, hS1⟩ := exE ((zaH S0).2); obtain ⟨v1, bT⟩ := exE ((zaH S1).1); obtain ⟨S2, hS2⟩ := exE ((zaH S1).2); rw [eY, hS1] at cV; have HV5 : Hid (∀ W, Dec te pe W w.heap.size g cur S1 -> Calls prog 165 #[.pointer (some ⟨w.heap.size, 0, none⟩)] W (zb6 te pe W w.heap.size g cur (.int .i64 v1) S2)) := zlM (fun W hW => by have := zcS te pe _ _ _ _ _ hW; rwa [bT, hS2] at this)
       first | (guard_hyp aj; unfold zda at aW) | (unfold zdb at aW)
       rw [hS1, hS2] at aW; have gg := zlM aW; have nQ := zlM (zmD eY (zmD hS1 (zmD bT hS2))); obtain ⟨cs8, fq, hbg8, _⟩ := zcd HD.out; have kc := zlM fq; have hlt8 := fq.lt; clear cQ p1 bW gM bR aW eY hS1 bT hS2 fq hbg8 nC; have ow := HF.out.size; obtain ⟨y0, ek, hw0⟩ := HU.out v0; obtain ⟨y1, dZ⟩ := exE (wrap64 (bt + v1))
       have kF : IntKind.i64.wrap (bt + v1) = y1 := by rw [<- dZ, IntKind.wrap_i64]; unfold wrap64; omega
       have HYY : Hid (_ /\ _) := zlM (zmD ek dZ); clear ek dZ
       go_upto_region 13 with (first
        | (go_at_call 119; refine hE.mono ?_; rintro r w7 ⟨rfl, rfl⟩)
        | (go_at_call 165; refine (HV5.out _ rP.out).mono ?_; rintro r w8 ⟨rfl, fe, fa⟩; have oO := zlM fe; have ku := zlM (rH.out.same fa); clear fe fa)
        | (go_at_call 165; refine cV.mono ?_; rintro r w8 ⟨rfl, cX, cD⟩; have rP := zlM cX; have rH := zlM cD; clear cX cD))
       first | (guard_hyp aj; obtain ⟨Z, hZ⟩ : ∃ Z : Array Value, #[.int .u8 0, .int .i32 0, .float .f64 0, .int .u64 0, .int .u64 0, .float .f64 0, .slice none 0 0, .slice none 0 0, .slice none 0 0, .slice none 0 0, .slice none 0 0] = Z := ⟨_, rfl⟩) | (obtain ⟨Z, hZ⟩ : ∃ Z : Array Value, #[.int .u8 0, .int .i32 0, .float .f64 0, .float .f64 0, .float .f64 0, .float .f64 0, .slice none 0 0, .slice none 0 0, .slice none 0 0, .slice none 0 0, .slice none 0 0] = Z := ⟨_, rfl⟩)
       obtain ⟨Y, hY⟩ : ∃ Y : Array Value, #[.int .u64 y0, .int .i64 y1, .pointer (some ⟨w8.heap.size, 0, none⟩)] = Y := ⟨_, rfl⟩; rw [hZ, hY]
       first | (guard_hyp aj; have FA : Fr (fun _ => False) w8 ((w8.alloc (.cells Z 288)).alloc (.cells Y 290)) := ((zmR (fun _ => False) w8).alloc (.cells Z 288)).alloc (.cells Y 290)) | (have FA : Fr (fun _ => False) w8 ((w8.alloc (.cells Z 296)).alloc (.cells Y 298)) := ((zmR (fun _ => False) w8).alloc (.cells Z 296)).alloc (.cells Y 298))
       first | (guard_hyp aj; have BZ : Blk ((w8.alloc (.cells Z 288)).alloc (.cells Y 290)) w8.heap.size 288 Z := (zmS w8 288 Z).alloc (.cells Y 290)) | (have BZ : Blk ((w8.alloc (.cells Z 296)).alloc (.cells Y 298)) w8.heap.size 296 Z := (zmS w8 296 Z).alloc (.cells Y 298))
       first | (guard_hyp aj; have BY : Blk ((w8.alloc (.cells Z 288)).alloc (.cells Y 290)) (w8.heap.size + 1) 290 Y := by have h := zmS (w8.alloc (.cells Z 288)) 290 Y; simpa using h) | (have BY : Blk ((w8.alloc (.cells Z 296)).alloc (.cells Y 298)) (w8.heap.size + 1) 298 Y := by have h := zmS (w8.alloc (.cells Z 296)) 298 Y; simpa using h)
       have hs8 := ku.out.size; have h2w : 2 < w8.heap.size := by omega
       first | (guard_hyp aj; have mT : ((w8.alloc (.cells Z 288)).alloc (.cells Y 290)).heap.size = w8.heap.size + 2 := by simp) | (have mT : ((w8.alloc (.cells Z 296)).alloc (.cells Y 298)).heap.size = w8.heap.size + 2 := by simp)
       first | (guard_hyp aj; obtain ⟨W9, hW9⟩ := exE ((w8.alloc (.cells Z 288)).alloc (.cells Y 290))) | (obtain ⟨W9, hW9⟩ := exE ((w8.alloc (.cells Z 296)).alloc (.cells Y 298)))
       rw [hW9] at FA BZ BY mT ⊢; have D9 : Dec te pe W9 w.heap.size g cur S2 := oO.out.fr FA (fun e => e) (fun e => e) (fun e => e)
       first
        | guard_hyp aj
          have hDH : DH te pe w.heap.size g cur w8.heap.size 288 W9 W9 S2 #[.int .u8 0, .int .i32 0, .float .f64 0, .int .u64 0, .int .u64 0, .float .f64 0, .slice none 0 0, .slice none 0 0, .slice none 0 0, .slice none 0 0, .slice none 0 0] [] :=
           ⟨D9, by rw [hZ]; exact BZ, trivial, zmR _ _, by omega, by omega, by omega, by omega, by omega, by omega, by omega⟩
        | have hDH : DH te pe w.heap.size g cur w8.heap.size 296 W9 W9 S2 #[.int .u8 0, .int .i32 0, .float .f64 0, .float .f64 0, .float .f64 0, .float .f64 0, .slice none 0 0, .slice none 0 0, .slice none 0 0, .slice none 0 0, .slice none 0 0] [] :=
           ⟨D9, by rw [hZ]; exact BZ, trivial, zmR _ _, by omega, by omega, by omega, by omega, by omega, by omega, by omega⟩
       first | (guard_hyp aj; have hX := zi7 te pe w.heap.size g cur w8.heap.size w8.heap.size W9 S2 (zlY _) hDH gg.out) | (have hX := zi9 te pe w.heap.size g cur w8.heap.size w8.heap.size W9 S2 (zlY _) hDH gg.out)
       first | (guard_hyp aj; obtain ⟨hh, ms⟩ := exE ((zcO S2).1)) | (obtain ⟨hh, ms⟩ := exE ((zcP S2).1))
       first | (guard_hyp aj; obtain ⟨S3, hS3⟩ := exE ((zcO S2).2)) | (obtain ⟨S3, hS3⟩ := exE ((zcP S2).2))
       rw [ms, hS3] at hX
       first | (guard_hyp aj; have O8 : OwnHW base w8 (.slice a6 n9 k6) (pre ++ lo) := HO.out.of kc.out ku.out) | (have O8 : OwnHF base w8 (.slice a6 n9 k6) (pre ++ lo) := HO.out.of kc.out ku.out)
       have F9 : Fr (fun k => some k = (Value.slice a' np k').ownBlock) w W9 := (HF.out.trans ku.out (fun k hk e => by omega)).trans FA (fun _ _ e => e.elim); have c2 : W9.cell? ⟨w8.heap.size + 1, 2, none⟩ = some (.pointer (some ⟨w8.heap.size, 0, none⟩)) := by rw [BY.cell, <- hY]; rfl
       have HX := zlM hX; have iV := zlM O8; have HFA9 := zlM FA; have rI := zlM F9; have HEH := zlM (zmD ms hS3); have oP := zlM BY; have oH := zlM hY; have HWZ := zlM mT; clear hX O8 F9 ms hS3 FA BZ BY hZ hY hW9 D9 hDH hE p0 cV; have c29 : W9.cell? ⟨w8.heap.size + 1, 2, none⟩ = some (.pointer (some ⟨w8.heap.size, 0, none⟩)) := c2
       first
        | guard_hyp aj
          go_wp2_with (first
           | (go_at_call 174; refine HX.out.mono ?_; rintro r da ⟨rfl, fZ, jK, ziK⟩; have JD := zlM fZ; have JO := zlM jK; have JF := zlM ziK
              have KY := zlM (oP.out.fr ziK (by omega)); have g0 : da.cell? ⟨w8.heap.size + 1, 0, none⟩ = some (.int .u64 y0) := by rw [KY.out.cell, <- oH.out]; rfl
              have g1 : da.cell? ⟨w8.heap.size + 1, 1, none⟩ = some (.int .i64 y1) := by rw [KY.out.cell, <- oH.out]; rfl
              have g2 : da.cell? ⟨w8.heap.size + 1, 2, none⟩ = some (.pointer (some ⟨w8.heap.size, 0, none⟩)) := by rw [KY.out.cell, <- oH.out]; rfl
              clear fZ jK ziK c2 c29)
           | (at_builtin; refine Hid.out ?_))
        | go_wp2_with (first
           | (go_at_call 177; refine HX.out.mono ?_; rintro r da ⟨rfl, fZ, jK, ziK⟩; have JD := zlM fZ; have JO := zlM jK; have JF := zlM ziK
              have KY := zlM (oP.out.fr ziK (by omega)); have g0 : da.cell? ⟨w8.heap.size + 1, 0, none⟩ = some (.int .u64 y0) := by rw [KY.out.cell, <- oH.out]; rfl
              have g1 : da.cell? ⟨w8.heap.size + 1, 1, none⟩ = some (.int .i64 y1) := by rw [KY.out.cell, <- oH.out]; rfl
              have g2 : da.cell? ⟨w8.heap.size + 1, 2, none⟩ = some (.pointer (some ⟨w8.heap.size, 0, none⟩)) := by rw [KY.out.cell, <- oH.out]; rfl
              clear fZ jK ziK c2 c29)
           | (at_builtin; refine Hid.out ?_))
       have hs10 := JF.out.size; obtain ⟨cs9, fp, _, _⟩ := zcd oO.out; have F8 : Fr (fun k => k = w.heap.size) w8 da := (HFA9.out.mono (fun _ _ e => e.elim)).trans JF.out (fun k hk e => by omega)
       first | (guard_hyp aj; have O10 : OwnHW base da (.slice a6 n9 k6) (pre ++ lo) := iV.out.of fp F8) | (have O10 : OwnHF base da (.slice a6 n9 k6) (pre ++ lo) := iV.out.of fp F8)
       have F10 : Fr (fun k => some k = (Value.slice a' np k').ownBlock) w da := rI.out.trans JF.out (fun k hk e => by omega)
       first | (guard_hyp aj; have J10 : OwnW base da hh (.pointer (some ⟨w8.heap.size, 0, none⟩)) := JO.out.mono (by omega)) | (have J10 : OwnF base da hh (.pointer (some ⟨w8.heap.size, 0, none⟩)) := JO.out.mono (by omega))
       have cU := zlM O10; have kv := zlM F10; have HJA := zlM J10; have dp : (pre ++ lo).length = pre.length + lo.length := zlN; clear F8 O10 F10 J10 fp; refine zlM ?_
       first | (guard_hyp aj; refine zae _ rfl _ _ 177 177 rfl base 290 i0 _ 3 24 underlying177 aB ay ax aA rfl (by decide) _ (pre ++ lo).length ((pre ++ lo).flatMap rhc) rfl (cU.out.1.alloc _) _ 1 [.int .u64 y0, .int .i64 y1, .pointer (some ⟨w8.heap.size, 0, none⟩)] rfl (zaF underlying177 (zmS da 290 #[.int .u64 y0, .int .i64 y1, .pointer (some ⟨w8.heap.size, 0, none⟩)]) rfl (by simp [Value.oneCell'])) (by unfold maxLen; omega) (by omega) (by simp; omega) ?_) | (refine zae _ rfl _ _ 182 182 rfl base 298 i0 _ 3 24 underlying182 aB ay ax aA rfl (by decide) _ (pre ++ lo).length ((pre ++ lo).flatMap rhc) rfl (cU.out.1.alloc _) _ 1 [.int .u64 y0, .int .i64 y1, .pointer (some ⟨w8.heap.size, 0, none⟩)] rfl (zaF underlying182 (zmS da 298 #[.int .u64 y0, .int .i64 y1, .pointer (some ⟨w8.heap.size, 0, none⟩)]) rfl (by simp [Value.oneCell'])) (by unfold maxLen; omega) (by omega) (by simp; omega) ?_)
       intro v' w2 ac ad aw
       have rf := zlM ac; have HGR := zlM ad; have gh := zlM aw
       clear ac ad aw dp
       first | (guard_hyp aj; have AL : Fr (fun _ => False) da (da.alloc (.cells #[.int .u64 y0, .int .i64 y1, .pointer (some ⟨w8.heap.size, 0, none⟩)] 290)) := (zmR (fun _ => False) da).alloc _) | (have AL : Fr (fun _ => False) da (da.alloc (.cells #[.int .u64 y0, .int .i64 y1, .pointer (some ⟨w8.heap.size, 0, none⟩)] 298)) := (zmR (fun _ => False) da).alloc _)
       first
        | guard_hyp aj
          have aT : OwnHW base w2 v' (pre ++ (lo ++ [((⟨y0, y1, hh⟩ : Rhs), Value.pointer (some ⟨w8.heap.size, 0, none⟩))])) := by
           rw [<- zlP]; exact OwnHW.push (p := ((⟨y0, y1, hh⟩ : Rhs), Value.pointer (some ⟨w8.heap.size, 0, none⟩))) (cU.out.fr AL (fun _ _ _ e => e)) (HJA.out.fr AL (fun _ _ _ e => e)) HGR.out rf.out
        | have aT : OwnHF base w2 v' (pre ++ (lo ++ [((⟨y0, y1, hh⟩ : Rhs), Value.pointer (some ⟨w8.heap.size, 0, none⟩))])) := by
           rw [<- zlP]; exact OwnHF.push (p := ((⟨y0, y1, hh⟩ : Rhs), Value.pointer (some ⟨w8.heap.size, 0, none⟩))) (cU.out.fr AL (fun _ _ _ e => e)) (HJA.out.fr AL (fun _ _ _ e => e)) HGR.out rf.out
       have fG : Fr (fun k => some k = (Value.slice a6 n9 k6).ownBlock) da w2 := (AL.mono (fun _ _ e => e.elim)).grown HGR.out (fun k hk => .inl hk.symm); have aU : ∀ k, (Value.slice a6 n9 k6).ownBlock = some k -> base <= k := fun k hk => (cU.out.1.lt k hk).1; obtain ⟨qx, iI, fS, _⟩ := zcd JD.out
       have rD : Dec te pe w2 w.heap.size g cur S3 := JD.out.fr fG (fun e => zak cU.out.1 iI (by decide) e.symm) (fun e => zak cU.out.1 fS (by decide) e.symm) (fun e => by have := aU _ e.symm; omega)
       have rF : Fr (fun k => some k = (Value.slice a' np k').ownBlock) w w2 := kv.out.trans fG (fun k hk e => by
        rcases HB.out k e.symm with h | h
        ·exact h
        ·omega)
       have iy := HGR.out.size; simp at iy; have rB : ∀ k, v'.ownBlock = some k -> (some k = (Value.slice a' np k').ownBlock ∨ w.heap.size <= k) := fun k hk => by
        rcases gh.out with h | h
        ·exact HB.out k (h ▸ hk)
        ·rw [h] at hk; injection hk with hk; simp at hk; exact .inr (by omega)
       obtain ⟨q0, q1, q2, q3⟩ := nQ.out; obtain ⟨q4, q5⟩ := HYY.out; obtain ⟨q6, q7⟩ := HEH.out
       first | (guard_hyp aj; have aZ : zaQ br bt S0 = (⟨y0, y1, hh⟩, S3) := by unfold zaQ; rw [q1, q0, q3, q2, q6, q7, q4, q5]) | (have aZ : zaR br bt S0 = (⟨y0, y1, hh⟩, S3) := by unfold zaR; rw [q1, q0, q3, q2, q6, q7, q4, q5])
       first
        | guard_hyp aj
          have dr : Hid (∀ j', j = j' + 1 -> zaj (zaQ br bt) j' S3 ((lo ++ [((⟨y0, y1, hh⟩ : Rhs), Value.pointer (some ⟨w8.heap.size, 0, none⟩))]).map Prod.fst) = zaj (zaQ br bt) rest.length T2 []) := zlM (by
           rintro j' rfl; have h := HE.out; have h2 : zaj (zaQ br bt) (j' + 1) (some (x :: r)) (lo.map Prod.fst) = zaj (zaQ br bt) j' (zaQ br bt (some (x :: r))).2 (lo.map Prod.fst ++ [(zaQ br bt (some (x :: r))).1]) := rfl; rw [h2, gZ.out, aZ] at h; rw [zmc]
           exact h)
        | have dr : Hid (∀ j', j = j' + 1 -> zaj (zaR br bt) j' S3 ((lo ++ [((⟨y0, y1, hh⟩ : Rhs), Value.pointer (some ⟨w8.heap.size, 0, none⟩))]).map Prod.fst) = zaj (zaR br bt) rest.length T2 []) := zlM (by
           rintro j' rfl; have h := HE.out; have h2 : zaj (zaR br bt) (j' + 1) (some (x :: r)) (lo.map Prod.fst) = zaj (zaR br bt) j' (zaR br bt (some (x :: r))).2 (lo.map Prod.fst ++ [(zaR br bt (some (x :: r))).1]) := rfl; rw [h2, gZ.out, aZ] at h; rw [zmc]
           exact h)
       have b8 : Hid (∀ l, S3 = some l -> l.length < n7) := zlM (fun l hl => by
        have h := HLN.out br bt (x :: r) l (by rw [gZ.out, aZ]; exact hl)
        rw [eW.out] at h; exact h)
       have o6 : Hid (al S3) := zlM (by have h := o8.out; rw [aZ] at h; exact h); have rM : zic w.heap.size w2 < n7 + 1 := by
        rcases S3 with _ | l9
        ·rw [zc8 rD]; omega
        ·rw [zbr rD]; have := b8.out l9 rfl; omega
       have RD := zlM rD; have RO := zlM aT; have RF := zlM rF; have RB := zlM rB; clear rD aT rF rB fG aU iI fS q0 q1 q2 q3 q4 q5 q6 q7 aZ AL g0 g1 g2; go_wp2; go_roundw
       case rel =>
        obtain ⟨j', rfl⟩ : ∃ j', j = j' + 1 := ⟨j - 1, by have := eW.out; simp at this; omega⟩; refine ⟨S3, lo ++ [((⟨y0, y1, hh⟩ : Rhs), Value.pointer (some ⟨w8.heap.size, 0, none⟩))], j', RD, RO, RF, RB, zlM (dr.out j' rfl), zlM (fun l hl => ?_), by simp; omega, o6⟩; have := b8.out l hl; rw [zlN, zl3]; omega
       case measure => rw [hM]; exact rM
theorem decHsW_go : type_of% (zdo.1 trivial) := zdo.1 trivial
theorem decHsF_go : type_of% (zdo.2 trivial) := zdo.2 trivial
theorem gN_len {α : Type} {f : St -> α × St} (hf : ∀ st l, (f st).2 = some l -> ∃ l0, st = some l0 /\ l.length < l0.length) : ∀ (n : Nat) (st : St) (l : List UInt8), (gN f n st).2 = some l -> ∃ l0, st = some l0 /\ l.length <= l0.length
 | 0, st, l, h => ⟨l, h, zlY _⟩
 | n + 1, st, l, h => by
   obtain ⟨l1, h1, e1⟩ := gN_len hf n (f st).2 l h; obtain ⟨l0, h0, e0⟩ := hf st l1 h1; exact ⟨l0, h0, by omega⟩
theorem zcJ {α : Type} {f : St -> α × St} (hf : ∀ st l, (f st).2 = some l -> ∃ l0, st = some l0 /\ l.length < l0.length) (st : St) (l : List UInt8) (h : (ze2 f st).2 = some l) : ∃ l0, st = some l0 /\ l.length < l0.length := by
 obtain ⟨l1, h1, e1⟩ := gN_len hf _ _ l h; obtain ⟨l0, h0, e0⟩ := zcc h1; exact ⟨l0, h0, by omega⟩
theorem zdO (st : St) (l : List UInt8) (h : (zaH st).2 = some l) : ∃ l0, st = some l0 /\ l.length < l0.length := zcc h
theorem zh2 (st : St) (l : List UInt8) (h : (gSp st).2 = some l) : ∃ l0, st = some l0 /\ l.length < l0.length := by
 obtain ⟨l1, h1, e1⟩ := zcc (st := (zaH st).2) h; obtain ⟨l0, h0, e0⟩ := zdO st l1 h1; exact ⟨l0, h0, by omega⟩
theorem zhq {st : St} {l : List UInt8} (h : (zaC st).2 = some l) : ∃ l0, st = some l0 /\ l.length < l0.length := by
 rcases st with _ | _ | ⟨b, r⟩
 ·cases h
 ·cases h
 ·have e : some r = some l := h
  injection e with e; subst e; exact ⟨_, rfl, by simp⟩
theorem zfS (st : St) (l : List UInt8) (h : (zac st).2 = some l) : ∃ l0, st = some l0 /\ l.length < l0.length := zbJ h
theorem zho (st : St) (l : List UInt8) (h : (zcO st).2 = some l) : ∃ l0, st = some l0 /\ l.length < l0.length := by
 have h10 : ∃ l1, hW10 st = some l1 /\ l.length <= l1.length := by
  have h2 : (hWc st).2 = some l := h; unfold hWc at h2; by_cases hc : zji st = -53
  ·rw [if_pos hc] at h2
   obtain ⟨l1, e1, e2⟩ := zcJ zfS _ _ h2; exact ⟨l1, e1, by omega⟩
  ·rw [zmI hc] at h2
   exact ⟨l, h2, zlY _⟩
 obtain ⟨oY, h10, ko⟩ := h10; obtain ⟨l9, h9, e9⟩ := zcJ zdO _ _ (show (ze2 _ (hW9 st)).2 = some oY from h10); obtain ⟨l8, h8, e8⟩ := zcJ zdO _ _ (show (ze2 _ (hW8 st)).2 = some l9 from h9); obtain ⟨l7, h7, e7⟩ := zcJ zh2 _ _ (show (ze2 _ (hW7 st)).2 = some l8 from h8); obtain ⟨l6, h6, e6⟩ := zcJ zh2 _ _ (show (ze2 _ (hW6 st)).2 = some l7 from h7)
 obtain ⟨l5, h5, e5⟩ := zbJ (show (zac (hW5 st)).2 = some l6 from h6); obtain ⟨l4, h4, e4⟩ := zcc (show _ = some l5 from h5); obtain ⟨l3, h3, e3⟩ := zcc (show _ = some l4 from h4); obtain ⟨l2, h2, e2⟩ := zbJ (show (zac (hS2 st)).2 = some l3 from h3); obtain ⟨l1, h1, e1⟩ := zcc (show _ = some l2 from h2); obtain ⟨l0, h0, e0⟩ := zhq (show (zaC st).2 = some l1 from h1)
 exact ⟨l0, h0, by omega⟩
theorem zjZ (br : Nat) (bt : Int) (l0 l : List UInt8) (h : (zaQ br bt (some l0)).2 = some l) : l.length < l0.length := by
 obtain ⟨l1, h1, e1⟩ := zho _ _ h; obtain ⟨l2, h2, e2⟩ := zdO _ _ h1; obtain ⟨l3, h3, e3⟩ := zdO _ _ h2; injection h3 with h3; subst h3; omega
theorem zi4 (te : TypeId) (pe : Value) (dv : Value) (g base : Nat) (cur : Array Value) (pre : List (Rhs × Value)) (kd : UInt8) (en : kd = 7 ∨ kd = 9) (v sv : Value) (w : World) (h : Rec te pe w g cur [kd] v) (ho : OwnHW base w sv pre) :
 Calls prog 83 #[dv, v, sv] w (zdW (fun k => some k = sv.ownBlock) w base pre (zbc [])) := by
 have hD := h.dec; obtain ⟨off, c, rfl, _⟩ := h; have hQ := zbt te pe w.heap.size g cur _ _ hD; rw [show zaC (some [kd]) = (kd.toNat, some []) from rfl] at hQ; simp only [] at hQ; obtain ⟨n, hn⟩ := exE (([kd] : List UInt8).length); have dL := zlM (zmS w 229 #[.slice (some ⟨g, off, none⟩) ([kd] : List UInt8).length c, .nilIface]); rw [hn] at hQ dL ⊢; have HO := zlM ho
 obtain ⟨a', np, k', rfl⟩ := zab ho.1
 have HL : Hid (∀ W, Dec te pe W w.heap.size g cur (some []) -> Calls prog 118 #[.pointer (some ⟨w.heap.size, 0, none⟩)] W (fun r w' => r = .returned (.int .i64 0) /\ W = w')) := zlM (fun W hW => by
  refine (ze7 te pe _ _ _ _ _ hW).mono ?_; rintro r w0 ⟨m, rfl, hm, _, rfl⟩; have hm0 := hm _ rfl; subst hm0
  exact ⟨rfl, rfl⟩)
 have hn : ((kd.toNat : Int) = 7 ∨ (kd.toNat : Int) = 9) := by rcases en with rfl | rfl <;> decide
 obtain ⟨kx, me⟩ := exE kd.toNat
 rw [me] at hn hQ; have rm := zlM hn; clear hD ho en me hn; go_enter func83, ntmps83
 go_upto_region 3 with (first
  | (go_at_call 160; refine hQ.mono ?_; rintro r w1 ⟨rfl, cX, cD⟩; have og := zlM cX; have dS := zlM cD; clear cX cD))
 go_cut [23] (fun oR wx => oR = .bool false /\ wx = w1)
 case first =>
  as_aux_lemma =>
   rcases rm.out with e | e; all_goals
    obtain rfl : kx = _ := Int.ofNat.inj e; go_wp2_with fail
    go_meet
    exact ⟨rfl, rfl⟩
 case rest =>
  as_aux_lemma =>
   obtain ⟨rfl, rfl⟩ := hcut; have O1 : OwnHW base wc (.slice a' np k') pre := (HO.out.fr ((zmR (fun _ => False) w).alloc (.cells #[.slice (some ⟨g, off, none⟩) n c, .nilIface] 229)) (fun _ _ _ e => e)).of dL.out dS.out
   have F1 : Fr (fun k => some k = (Value.slice a' np k').ownBlock) w wc := ((zmR (fun k => some k = (Value.slice a' np k').ownBlock) w).alloc (.cells #[.slice (some ⟨g, off, none⟩) n c, .nilIface] 229)).trans dS.out (fun k hk e => by omega); have dk := zlM O1; have cd := zlM F1; clear O1 F1 hQ; go_wp2_with (go_at_call 118; refine (HL.out _ og.out).mono ?_; rintro r w0 ⟨rfl, rfl⟩)
   go_ret2; exact zfs (lo := []) rfl cd.out (by rw [zl8]; exact dk.out)
theorem zly (te : TypeId) (pe : Value) (dv : Value) (g base : Nat) (cur : Array Value) (pre : List (Rhs × Value)) (xs : List UInt8) (v sv : Value) (w : World) (h : Rec te pe w g cur xs v) (ho : OwnHW base w sv pre) (hb : 2 < base /\ base <= w.heap.size) (bj : pre.length <= 1073741824)
 (al : St -> Prop) (hG : ∀ kd rest, xs = kd :: rest -> (kd = 7 ∨ kd = 9) -> ∀ l, al (some l) -> zda (some l) /\ al (zaQ (zac (some rest)).1 (zav (zac (some rest)).2).1 (some l)).2) (aY : ∀ kd rest, xs = kd :: rest -> (kd = 7 ∨ kd = 9) -> rest ≠ [] -> al (zav (zac (some rest)).2).2) :
 Calls prog 83 #[dv, v, sv] w (zdW (fun k => some k = sv.ownBlock) w base pre (zcQ xs)) := by
 by_cases hx : (zaC (some xs)).1 = 7 ∨ (zaC (some xs)).1 = 9
 ·rcases xs with _ | ⟨kd, rest⟩
  ·exact absurd hx (by decide)
  ·have en : kd = 7 ∨ kd = 9 := by
    rcases hx with h1 | h1
    ·exact .inl (UInt8.toNat_inj.1 (show kd.toNat = (7 : UInt8).toNat from h1))
    ·exact .inr (UInt8.toNat_inj.1 (show kd.toNat = (9 : UInt8).toNat from h1))
   have hd : zcQ (kd :: rest) = zbc rest := by show (if kd = 7 ∨ kd = 9 then zbc rest else none) = _; rw [if_pos en]
   rw [hd]; by_cases hr : rest = []
   ·subst hr
    exact zi4 te pe dv g base cur pre kd en v sv w h ho
   ·exact decHsW_go te pe dv g base cur pre kd en rest hr v sv w h ho hb bj al (hG kd rest rfl en) (aY kd rest rfl en hr) zjZ
 ·have hd : zcQ xs = none := by
   rcases xs with _ | ⟨kd, r⟩
   ·rfl
   ·have : ¬ (kd = 7 ∨ kd = 9) := by rintro (rfl | rfl) <;> exact hx (by first | exact .inl rfl | exact .inr rfl)
    show (if kd = 7 ∨ kd = 9 then zbc r else none) = _; rw [zmI this]
  rw [hd]; have hD := h.dec; obtain ⟨off, c, rfl, _⟩ := h; have hQ := zbt te pe w.heap.size g cur _ _ hD; have dW : (((zaC (some xs)).1 : Int) != 7) = true := by simp; omega
  have hx3 : (((zaC (some xs)).1 : Int) != 9) = true := by simp; omega
  obtain ⟨a', n', k', rfl⟩ := zab ho.1; clear hx hd hG aY hD ho; generalize (zaC (some xs)).1 = x at hQ dW hx3; generalize (zaC (some xs)).2 = st at hQ; go_enter func83, ntmps83; go_wp2_with (first | (go_at_call 160; refine hQ.mono ?_; rintro r w1 ⟨rfl, cz, ag⟩) | (go_at_call 161; refine (zbR _ _).mono ?_; rintro r w2 ⟨t, a, rfl, ar⟩))
  go_ret2; have f1 := (((zmR (fun k => some k = (Value.slice a' n' k').ownBlock) w).alloc (.cells #[.slice (some ⟨g, off, none⟩) xs.length c, .nilIface] 229)).trans ag (fun k hk e => by omega)); exact zeg rfl (f1.trans ar (fun _ _ e => e.elim))
theorem zhp (st : St) (l : List UInt8) (h : (zcP st).2 = some l) : ∃ l0, st = some l0 /\ l.length < l0.length := by
 have h10 : ∃ l1, ziK st = some l1 /\ l.length <= l1.length := by
  have h2 : (hFc st).2 = some l := h; unfold hFc at h2; by_cases hc : zji st = -53
  ·rw [if_pos hc] at h2
   obtain ⟨l1, e1, e2⟩ := zcJ zfS _ _ h2; exact ⟨l1, e1, by omega⟩
  ·rw [zmI hc] at h2
   exact ⟨l, h2, zlY _⟩
 obtain ⟨oY, h10, ko⟩ := h10; obtain ⟨l9, h9, e9⟩ := zcJ zfS _ _ (show (ze2 _ (hF9 st)).2 = some oY from h10); obtain ⟨l8, h8, e8⟩ := zcJ zfS _ _ (show (ze2 _ (hF8 st)).2 = some l9 from h9); obtain ⟨l7, h7, e7⟩ := zcJ zh2 _ _ (show (ze2 _ (hF7 st)).2 = some l8 from h8); obtain ⟨l6, h6, e6⟩ := zcJ zh2 _ _ (show (ze2 _ (hF6 st)).2 = some l7 from h7)
 obtain ⟨l5, h5, e5⟩ := zbJ (show (zac (hF5 st)).2 = some l6 from h6); obtain ⟨l4, h4, e4⟩ := zbJ (show _ = some l5 from h5); obtain ⟨l3, h3, e3⟩ := zbJ (show _ = some l4 from h4); obtain ⟨l2, h2, e2⟩ := zbJ (show (zac (hS2 st)).2 = some l3 from h3); obtain ⟨l1, h1, e1⟩ := zcc (show _ = some l2 from h2); obtain ⟨l0, h0, e0⟩ := zhq (show (zaC st).2 = some l1 from h1)
 exact ⟨l0, h0, by omega⟩
theorem zj0 (br : Nat) (bt : Int) (l0 l : List UInt8) (h : (zaR br bt (some l0)).2 = some l) : l.length < l0.length := by
 obtain ⟨l1, h1, e1⟩ := zhp _ _ h; obtain ⟨l2, h2, e2⟩ := zdO _ _ h1; obtain ⟨l3, h3, e3⟩ := zdO _ _ h2; injection h3 with h3; subst h3; omega
theorem zi5 (te : TypeId) (pe : Value) (dv : Value) (g base : Nat) (cur : Array Value) (pre : List (Rhs × Value)) (kd : UInt8) (en : kd = 8 ∨ kd = 10) (v sv : Value) (w : World) (h : Rec te pe w g cur [kd] v) (ho : OwnHF base w sv pre) :
 Calls prog 86 #[dv, v, sv] w (zdX (fun k => some k = sv.ownBlock) w base pre (zbd [])) := by
 have hD := h.dec; obtain ⟨off, c, rfl, _⟩ := h; have hQ := zbt te pe w.heap.size g cur _ _ hD; rw [show zaC (some [kd]) = (kd.toNat, some []) from rfl] at hQ; simp only [] at hQ; obtain ⟨n, hn⟩ := exE (([kd] : List UInt8).length); have dL := zlM (zmS w 229 #[.slice (some ⟨g, off, none⟩) ([kd] : List UInt8).length c, .nilIface]); rw [hn] at hQ dL ⊢; have HO := zlM ho
 obtain ⟨a', np, k', rfl⟩ := zab ho.1
 have HL : Hid (∀ W, Dec te pe W w.heap.size g cur (some []) -> Calls prog 118 #[.pointer (some ⟨w.heap.size, 0, none⟩)] W (fun r w' => r = .returned (.int .i64 0) /\ W = w')) := zlM (fun W hW => by
  refine (ze7 te pe _ _ _ _ _ hW).mono ?_; rintro r w0 ⟨m, rfl, hm, _, rfl⟩; have hm0 := hm _ rfl; subst hm0
  exact ⟨rfl, rfl⟩)
 have hn : ((kd.toNat : Int) = 8 ∨ (kd.toNat : Int) = 10) := by rcases en with rfl | rfl <;> decide
 obtain ⟨kx, me⟩ := exE kd.toNat
 rw [me] at hn hQ; have rm := zlM hn; clear hD ho en me hn; go_enter func86, ntmps86
 go_upto_region 3 with (first
  | (go_at_call 160; refine hQ.mono ?_; rintro r w1 ⟨rfl, cX, cD⟩; have og := zlM cX; have dS := zlM cD; clear cX cD))
 go_cut [23] (fun oR wx => oR = .bool false /\ wx = w1)
 case first =>
  as_aux_lemma =>
   rcases rm.out with e | e; all_goals
    obtain rfl : kx = _ := Int.ofNat.inj e; go_wp2_with fail
    go_meet
    exact ⟨rfl, rfl⟩
 case rest =>
  as_aux_lemma =>
   obtain ⟨rfl, rfl⟩ := hcut; have O1 : OwnHF base wc (.slice a' np k') pre := (HO.out.fr ((zmR (fun _ => False) w).alloc (.cells #[.slice (some ⟨g, off, none⟩) n c, .nilIface] 229)) (fun _ _ _ e => e)).of dL.out dS.out
   have F1 : Fr (fun k => some k = (Value.slice a' np k').ownBlock) w wc := ((zmR (fun k => some k = (Value.slice a' np k').ownBlock) w).alloc (.cells #[.slice (some ⟨g, off, none⟩) n c, .nilIface] 229)).trans dS.out (fun k hk e => by omega); have dk := zlM O1; have cd := zlM F1; clear O1 F1 hQ; go_wp2_with (go_at_call 118; refine (HL.out _ og.out).mono ?_; rintro r w0 ⟨rfl, rfl⟩)
   go_ret2; exact zft (lo := []) rfl cd.out (by rw [zl8]; exact dk.out)
theorem zlA (te : TypeId) (pe : Value) (dv : Value) (g base : Nat) (cur : Array Value) (pre : List (Rhs × Value)) (xs : List UInt8) (v sv : Value) (w : World) (h : Rec te pe w g cur xs v) (ho : OwnHF base w sv pre) (hb : 2 < base /\ base <= w.heap.size) (bj : pre.length <= 1073741824)
 (al : St -> Prop) (hG : ∀ kd rest, xs = kd :: rest -> (kd = 8 ∨ kd = 10) -> ∀ l, al (some l) -> zdb (some l) /\ al (zaR (zac (some rest)).1 (zav (zac (some rest)).2).1 (some l)).2) (aY : ∀ kd rest, xs = kd :: rest -> (kd = 8 ∨ kd = 10) -> rest ≠ [] -> al (zav (zac (some rest)).2).2) :
 Calls prog 86 #[dv, v, sv] w (zdX (fun k => some k = sv.ownBlock) w base pre (zcR xs)) := by
 by_cases hx : (zaC (some xs)).1 = 8 ∨ (zaC (some xs)).1 = 10
 ·rcases xs with _ | ⟨kd, rest⟩
  ·exact absurd hx (by decide)
  ·have en : kd = 8 ∨ kd = 10 := by
    rcases hx with h1 | h1
    ·exact .inl (UInt8.toNat_inj.1 (show kd.toNat = (8 : UInt8).toNat from h1))
    ·exact .inr (UInt8.toNat_inj.1 (show kd.toNat = (10 : UInt8).toNat from h1))
   have hd : zcR (kd :: rest) = zbd rest := by show (if kd = 8 ∨ kd = 10 then zbd rest else none) = _; rw [if_pos en]
   rw [hd]; by_cases hr : rest = []
   ·subst hr
    exact zi5 te pe dv g base cur pre kd en v sv w h ho
   ·exact decHsF_go te pe dv g base cur pre kd en rest hr v sv w h ho hb bj al (hG kd rest rfl en) (aY kd rest rfl en hr) zj0
 ·have hd : zcR xs = none := by
   rcases xs with _ | ⟨kd, r⟩
   ·rfl
   ·have : ¬ (kd = 8 ∨ kd = 10) := by rintro (rfl | rfl) <;> exact hx (by first | exact .inl rfl | exact .inr rfl)
    show (if kd = 8 ∨ kd = 10 then zbd r else none) = _; rw [zmI this]
  rw [hd]; have hD := h.dec; obtain ⟨off, c, rfl, _⟩ := h; have hQ := zbt te pe w.heap.size g cur _ _ hD; have dW : (((zaC (some xs)).1 : Int) != 8) = true := by simp; omega
  have hx3 : (((zaC (some xs)).1 : Int) != 10) = true := by simp; omega
  obtain ⟨a', n', k', rfl⟩ := zab ho.1; clear hx hd hG aY hD ho; generalize (zaC (some xs)).1 = x at hQ dW hx3; generalize (zaC (some xs)).2 = st at hQ; go_enter func86, ntmps86; go_wp2_with (first | (go_at_call 160; refine hQ.mono ?_; rintro r w1 ⟨rfl, cz, ag⟩) | (go_at_call 161; refine (zbR _ _).mono ?_; rintro r w2 ⟨t, a, rfl, ar⟩))
  go_ret2; have f1 := (((zmR (fun k => some k = (Value.slice a' n' k').ownBlock) w).alloc (.cells #[.slice (some ⟨g, off, none⟩) xs.length c, .nilIface] 229)).trans ag (fun k hk e => by omega)); exact zeh rfl (f1.trans ar (fun _ _ e => e.elim))
def zeO (f s : Rhs) : Int := wrap64 (wrap64 s.ref - wrap64 f.ref)
def hT (f s : Rhs) : Int := wrap64 (s.t - f.t)
def Rhs.ok (s : Rhs) : Prop := s.ref < 18446744073709551616 /\ -9223372036854775808 <= s.t /\ s.t <= 9223372036854775807 /\ s.h.ok
def zaq (f : Rhs) : List UInt8 := Lib.beBytes 8 f.ref ++ Lib.beBytes 8 (u64 f.t)
theorem ze0 {e : Nat} {o : Option Nat} {w w1 : World} {xs ys zs : List UInt8} (h : Put w e o xs ys w1) {f : FuncId} {args : Array Value}
 (hc : ∀ o1, Enc w1 e o1 (xs ++ ys) -> (o1 = o ∨ ∃ k, o1 = some k /\ w.heap.size <= k) -> Calls prog f args w1 (zb5 w1 e o1 (xs ++ ys) zs)) : Calls prog f args w1 fun r w2 => r = .returned (.tuple #[]) /\ Put w e o xs (ys ++ zs) w2 /\ Hid (Keeps w1 w2) := by
 obtain ⟨o1, he, hf, ho⟩ := h; exact (hc o1 he ho).mono fun r w2 ⟨hr, h2⟩ => ⟨hr, Put.step he hf ho h2, h2.keeps he⟩
theorem zeQ (l : List (Int × Nat)) (n : Nat) (hn : l.length <= n) (hn2 : n <= 60) (h : ∀ p ∈ l, -2147483648 <= p.1 /\ p.1 <= 2147483647 /\ p.2 < 4294967296) : (zbW l).length <= 1210 := by
 have h1 := zbF zaN 20 l (fun p hp => zc6 p (h p hp)); have h2 := zl2 (x := l.length) (by omega); have h3 : l.length * 20 <= 60 * 20 := zlZ _ (by omega); rw [zbW, zlN]; omega
theorem zky (l : List Int) (hn : l.length <= 60) (h : ∀ x ∈ l, -9223372036854775808 <= x /\ x <= 9223372036854775807) : (zdt l).length <= 610 := by
 have h1 := zbF zzu 10 l (fun x hx => zby x (h x hx).1 (h x hx).2); have h2 := zl2 (x := l.length) (by omega); have h3 : l.length * 10 <= 60 * 10 := zlZ _ (by omega); rw [zdt, zlN]; omega
theorem zih (l : List Nat) (hn : l.length <= 60) : (zc7 l).length <= 610 := by
 have h1 := zbF (Lib.beBytes 8) 8 l (fun x hx => by simp [zlW]); have h2 := zl2 (x := l.length) (by omega); have h3 : l.length * 8 <= 60 * 8 := zlZ _ (by omega); rw [zc7, zlN]; omega
theorem cus_len (h : Hst) (k : h.ok) : (zcz h).length <= 610 := by
 have := zih h.cus k.few.2.2.2.2.2.2; unfold zcz; split
 ·exact this
 ·exact zlX _
theorem ziV (h : Hst) (k : h.ok) : (zaX h).length <= 5000 := by
 have a1 := zby h.schema (by have := k.s0; omega) (by have := k.s1; omega); have a2 := zl2 k.zc; have a3 := zl2 k.cnt; have a4 := zeQ h.pos 60 k.few.1 (by omega) k.pos; have a5 := zeQ h.neg 60 k.few.2.1 (by omega) k.neg; have a6 := zky h.ups k.few.2.2.1 k.ups; have a7 := zky h.downs k.few.2.2.2.1 k.downs; have a8 := cus_len h k
 have a9 : (Lib.beBytes 8 h.thr).length = 8 := by simp [zlW]
 have a10 : (Lib.beBytes 8 h.sum).length = 8 := by simp [zlW]
 simp only [zaX, zlN, zl3]; omega
def za2 (f s : Rhs) : List UInt8 := zzu (zeO f s) ++ (zzu (hT f s) ++ zaX s.h)
theorem zfi (f s : Rhs) (h : s.ok) : (za2 f s).length <= 5020 := by
 have h1 := zby (zeO f s) (zad _).1 (zad _).2; have h2 := zby (hT f s) (zad _).1 (zad _).2; have h3 := ziV s.h h.2.2.2; simp only [za2, zlN]; omega
def za5 (kind : UInt8) (q : Rhs -> Bool) : List Rhs -> List UInt8
 | [] => [kind]
 | f :: r => [kind] ++ (zaq f ++ ((f :: r).filter q).flatMap (za2 f))
theorem ziW (h : Hst) (k : h.ok) : (zaY h).length <= 5000 := by
 have a1 := zby h.schema (by have := k.s0; omega) (by have := k.s1; omega); have a2 := (show (Lib.beBytes 8 h.zc).length <= 10 by simp [zlW]); have a3 := (show (Lib.beBytes 8 h.cnt).length <= 10 by simp [zlW]); have a4 := zeQ h.pos 60 k.few.1 (by omega) k.pos; have a5 := zeQ h.neg 60 k.few.2.1 (by omega) k.neg; have a6 := zih h.fups k.few.2.2.2.2.1
 have a7 := zih h.fdowns k.few.2.2.2.2.2.1; have a8 := cus_len h k; have a9 : (Lib.beBytes 8 h.thr).length = 8 := by simp [zlW]
 have a10 : (Lib.beBytes 8 h.sum).length = 8 := by simp [zlW]
 simp only [zaY, zlN, zl3]; omega
def za3 (f s : Rhs) : List UInt8 := zzu (zeO f s) ++ (zzu (hT f s) ++ zaY s.h)
theorem zfj (f s : Rhs) (h : s.ok) : (za3 f s).length <= 5020 := by
 have h1 := zby (zeO f s) (zad _).1 (zad _).2; have h2 := zby (hT f s) (zad _).1 (zad _).2; have h3 := ziW s.h h.2.2.2; simp only [za3, zlN]; omega
def za6 (kind : UInt8) (q : Rhs -> Bool) : List Rhs -> List UInt8
 | [] => [kind]
 | f :: r => [kind] ++ (zaq f ++ ((f :: r).filter q).flatMap (za3 f))
theorem zcL : (∀ (_ : True) (ep : Value) (sv : Value) (P : Nat -> Prop) (v : Value) (xs : List UInt8) (lo : List (Rhs × Value)) (w : World) (h : RdHW P w sv lo) (ab : w.ownsRow 0 5 1 v xs.length (bc xs)) (hl : xs.length <= 536870912)
 (au : lo.length <= 12) (aF : ∀ p ∈ lo, p.1.ok) (hP : ∀ g, P g -> g < w.heap.size /\ some g ≠ v.ownBlock),
 Calls prog 99 #[ep, sv, v] w (zbT w v.ownBlock (xs ++ za5 9 (fun _ => true) (lo.map Prod.fst)))) /\ (∀ (_ : True) (ep : Value) (sv : Value) (P : Nat -> Prop) (v : Value) (xs : List UInt8) (lo : List (Rhs × Value)) (w : World) (h : RdHF P w sv lo) (ab : w.ownsRow 0 5 1 v xs.length (bc xs)) (hl : xs.length <= 536870912)
 (au : lo.length <= 12) (aF : ∀ p ∈ lo, p.1.ok) (hP : ∀ g, P g -> g < w.heap.size /\ some g ≠ v.ownBlock),
 Calls prog 100 #[ep, sv, v] w (zbT w v.ownBlock (xs ++ za6 10 (fun _ => true) (lo.map Prod.fst)))) := by
 refine ⟨fun aj ep sv P v xs lo w h ab hl au aF hP => ?_, fun cf ep sv P v xs lo w h ab hl au aF hP => ?_⟩; all_goals
  obtain ⟨h, co⟩ := h; obtain ⟨A, c, rfl⟩ := h.shape; obtain ⟨a', n', k', rfl⟩ := zab ab; have hE := Enc.made (z := .int .u8 0) ab _ rfl
  first | (guard_hyp aj; have hQ := zcs w.heap.size _ xs 9 _ hE (by omega)) | (have hQ := zcs w.heap.size _ xs 10 _ hE (by omega))
  first | (guard_hyp aj; have e2 : ((9 : UInt8).toNat : Int) = 9 := rfl) | (have e2 : ((10 : UInt8).toNat : Int) = 10 := rfl)
  rw [e2] at hQ; have cS : Fr (fun k => some k = (Value.slice a' n' k').ownBlock) w (w.alloc (.cells #[.slice a' n' k', .int .u8 0, .int .u8 0, .int .u8 0, .int .u8 0, .int .u8 0, .int .u8 0, .int .u8 0, .int .u8 0, .int .u8 0, .int .u8 0] 224)) := (zmR _ w).alloc _; rcases lo with _ | ⟨f, r⟩
  ·clear hE cS e2 h co aF
   first | (guard_hyp aj; go_enter func99, ntmps99) | (go_enter func100, ntmps100)
   go_wp2_with (first | (go_at_call 180; refine hQ.mono ?_; rintro r1 w1 ⟨rfl, R⟩; obtain ⟨o1, eJ, ag, dN⟩ := R; have hG := zd7 _ _ _ _ eJ) | (go_at_call 116; refine hG.mono ?_; rintro r w2 ⟨v2, rfl, rfl, af, bz⟩))
   go_ret
   first | (guard_hyp aj; refine ⟨v2, rfl, by simpa [za5] using af, zdl (o1 := o1) ag, ?_⟩) | (refine ⟨v2, rfl, by simpa [za6] using af, zdl (o1 := o1) ag, ?_⟩)
   rw [bz]; rcases dN with h | ⟨k, h, hk⟩
   ·exact .inl h
   ·exact .inr ⟨k, h, by simp at hk; omega⟩
  ·obtain ⟨n, hn⟩ := exE ((f :: r).length)
   rw [hn] at h au ⊢; obtain ⟨LO, eT⟩ := exE (f :: r); have eP : (0 : Int) < (n : Int) := by rw [<- hn]; simp
   have fQ : ((n : Int) == 0) = false := by simp; omega
   have nj : f ∈ LO := by rw [<- eT]; exact zmF ..
   have fm : LO[0]? = some f := by rw [<- eT]; rfl
   have dO : (f :: r).map Prod.fst = f.1 :: r.map Prod.fst := rfl; have gw : ∀ p ∈ LO, p.1.ok := by rw [<- eT]; exact aF
   first | (guard_hyp aj; have fk : ∀ p ∈ LO, RdW P w p.1.h p.2 := by rw [<- eT]; exact co) | (have fk : ∀ p ∈ LO, RdF P w p.1.h p.2 := by rw [<- eT]; exact co)
   rw [eT] at h hn
   first
    | guard_hyp aj
      have gG : za5 9 (fun _ => true) ((f :: r).map Prod.fst) = [9] ++ (zaq f.1 ++ LO.flatMap (fun p => za2 f.1 p.1)) := by
       rw [<- eT]; have e1 : ∀ l : List Rhs, l.filter (fun _ => true) = l := fun l => List.filter_eq_self.2 (fun _ _ => rfl); rw [dO, za5, e1, zl1, zl1, List.flatMap_map]
    | have gG : za6 10 (fun _ => true) ((f :: r).map Prod.fst) = [10] ++ (zaq f.1 ++ LO.flatMap (fun p => za3 f.1 p.1)) := by
       rw [<- eT]; have e1 : ∀ l : List Rhs, l.filter (fun _ => true) = l := fun l => List.filter_eq_self.2 (fun _ _ => rfl); rw [dO, za6, e1, zl1, zl1, List.flatMap_map]
   rw [gG]; obtain ⟨px, mQ, mP, _⟩ := gw f nj; obtain ⟨g, off, rfl, fX, aa⟩ := h.at (by omega); have hg := hP g fX; obtain ⟨f1, fv⟩ := f; simp only [] at px mQ mP; have c0 : w.cell? ⟨g, off, none⟩ = some (.int .u64 f1.ref) := aa 0 _ (by exact ze4 rhc (fun _ => rfl) LO 0 (f1, fv) fm 0 (by omega))
   have c1 : w.cell? ⟨g, off + 1, none⟩ = some (.int .i64 f1.t) := aa 1 _ (by exact ze4 rhc (fun _ => rfl) LO 0 (f1, fv) fm 1 (by omega)); have c2 : w.cell? ⟨g, off + 2, none⟩ = some fv := aa 2 _ (by exact ze4 rhc (fun _ => rfl) LO 0 (f1, fv) fm 2 (by omega)); obtain ⟨gf, _, pQ, _⟩ := fk _ nj; simp only [] at pQ; subst pQ; have HN := zlM hn; have HP := zlM hP
   have HE := zlM hE; have dJ := zlM cS; have dY := zlM aa; have ry := zlM fk; have kp := zlM gw; clear hE cS e2 h co aF gw fk hn dO gG aa eT nj fm hP; generalize eh : w.alloc (.cells #[.slice a' n' k', .int .u8 0, .int .u8 0, .int .u8 0, .int .u8 0, .int .u8 0, .int .u8 0, .int .u8 0, .int .u8 0, .int .u8 0, .int .u8 0] 224) = WB at hQ HE dJ
   have hB : w.heap.size < WB.heap.size := by rw [<- eh]; simp
   rw [<- eh] at hQ; have qV := zlM eh; clear eh
   first | (guard_hyp aj; go_enter func99, ntmps99) | (go_enter func100, ntmps100)
   go_wp2_with (go_at_call 180; refine hQ.mono ?_; rintro r1 w1 ⟨rfl, R⟩; refine Hid.out ?_)
   rw [qV.out] at R; clear hQ qV
   have ge := zlM (fun (W : World) (hf : Fr (fun k => k = w.heap.size ∨ some k = (Value.slice a' n' k').ownBlock) WB W) => dJ.out.trans hf (fun k hk e => by
    rcases e with e | e
    ·omega
    ·exact e))
   have dI := ge.out w1 R.fr; have d0 : w1.cell? ⟨g, off, none⟩ = some (.int .u64 f1.ref) := by rw [dI.cell (p := ⟨g, off, none⟩) hg.1 hg.2]; exact c0
   have d1 : w1.cell? ⟨g, off + 1, none⟩ = some (.int .i64 f1.t) := by rw [dI.cell (p := ⟨g, off + 1, none⟩) hg.1 hg.2]; exact c1
   have d2 : w1.cell? ⟨g, off + 2, none⟩ = some (.pointer (some ⟨gf, 0, none⟩)) := by rw [dI.cell (p := ⟨g, off + 2, none⟩) hg.1 hg.2]; exact c2
   first | (guard_hyp aj; have cY := zlM (R.alloc (.cells #[.int .u64 f1.ref, .int .i64 f1.t, .pointer (some ⟨gf, 0, none⟩)] 290))) | (have cY := zlM (R.alloc (.cells #[.int .u64 f1.ref, .int .i64 f1.t, .pointer (some ⟨gf, 0, none⟩)] 298)))
   first | (guard_hyp aj; have kb := zlM (zmS w1 290 #[.int .u64 f1.ref, .int .i64 f1.t, .pointer (some ⟨gf, 0, none⟩)])) | (have kb := zlM (zmS w1 298 #[.int .u64 f1.ref, .int .i64 f1.t, .pointer (some ⟨gf, 0, none⟩)]))
   have jk := R.fr.size; clear R dI c0 c1 c2; refine zlM ?_
   go_wp2_with (first
    | (go_at_call 181; refine (zaf cY.out (f := 181) (args := #[.pointer (some ⟨w.heap.size, 0, none⟩), .int .u64 f1.ref]) (zs := Lib.beBytes 8 f1.ref) (fun o2 he => zct _ o2 _ f1.ref px _ he (by rw [zlN, zl3]; omega))).mono ?_; rintro r2 w2 ⟨rfl, R2, K2⟩
       have bh := K2.out _ _ _ (by decide) (by decide) kb.out; have b1 : w2.cell? ⟨w1.heap.size, 1, none⟩ = some (.int .i64 f1.t) := bh.cell 1; have dm := zlM bh; have bd := zlM R2
       clear bh R2 K2 cY d0 d1 d2)
    | (go_at_call 182; refine (zaf bd.out (f := 182) (args := #[.pointer (some ⟨w.heap.size, 0, none⟩), .int .i64 f1.t]) (zs := Lib.beBytes 8 (u64 f1.t)) (fun o2 he => zdk _ o2 _ f1.t _ he (by simp [zlW]; omega))).mono ?_; rintro r3 w3 ⟨rfl, R3, K3⟩
       have bI := zlM (K3.out _ _ _ (by decide) (by decide) dm.out); have bC := zlM R3
       clear R3 K3 bd b1 dm))
   clear kb; generalize hbf : w1.heap.size = bf at bI jk; clear hbf
   first | (guard_hyp aj; go_loopw [29] (fun i wr => ∃ k : Nat, k <= n /\ i = .int .i64 k /\ Hid (Put WB w.heap.size (Value.slice a' n' k').ownBlock xs ([9] ++ zaq f1 ++ (LO.take k).flatMap (fun p => za2 f1 p.1)) wr) /\ Hid (Blk wr bf 290 #[.int .u64 f1.ref, .int .i64 f1.t, .pointer (some ⟨gf, 0, none⟩)])) (fun i _ => n - (intOf i).toNat)) | (go_loopw [29] (fun i wr => ∃ k : Nat, k <= n /\ i = .int .i64 k /\ Hid (Put WB w.heap.size (Value.slice a' n' k').ownBlock xs ([10] ++ zaq f1 ++ (LO.take k).flatMap (fun p => za3 f1 p.1)) wr) /\ Hid (Blk wr bf 298 #[.int .u64 f1.ref, .int .i64 f1.t, .pointer (some ⟨gf, 0, none⟩)])) (fun i _ => n - (intOf i).toNat))
   case atStart => exact ⟨0, zlX _, rfl, zlM (by simpa [zaq] using bC.out), bI⟩
   case round =>
    obtain ⟨k, hk, rfl, HR, it⟩ := hrel; by_cases hlt : k < n
    ·obtain ⟨x, hx⟩ : ∃ x, LO[k]? = some x := ⟨_, zlO (by rw [HN.out]; exact hlt)⟩
     have aH := zlU hx; have dP := ge.out wr HR.out.fr; have cc : ∀ j, j < 3 -> ∀ u, (rhc x)[j]? = some u -> wr.cell? ⟨g, off + (k * 3 + j), none⟩ = some u := fun j hj u hu => by
      rw [dP.cell (p := ⟨g, off + (k * 3 + j), none⟩) hg.1 hg.2]; exact dY.out (k * 3 + j) u (by rw [ze4 rhc (fun _ => rfl) LO k x hx j hj]; exact hu)
     have d0 : wr.cell? ⟨g, off + k * 3, none⟩ = some (.int .u64 x.1.ref) := cc 0 (by omega) _ rfl; have d1 : wr.cell? ⟨g, off + k * 3 + 1, none⟩ = some (.int .i64 x.1.t) := cc 1 (by omega) _ rfl; have d2 : wr.cell? ⟨g, off + k * 3 + 2, none⟩ = some x.2 := cc 2 (by omega) _ rfl; have fM := ry.out x aH; have lN := kp.out x aH; obtain ⟨x1, xv⟩ := x; simp only [] at d0 d1 d2 fM lN; have mY := fM
     obtain ⟨gx, _, rfl, _⟩ := mY; have b0 : wr.cell? ⟨bf, 0, none⟩ = some (.int .u64 f1.ref) := it.out.cell 0; have b1 : wr.cell? ⟨bf, 1, none⟩ = some (.int .i64 f1.t) := it.out.cell 1; have mg := it.out.lt
     first
      | guard_hyp aj
        have bE : ([(9 : UInt8)] ++ zaq f1 ++ (LO.take k).flatMap (fun p => za2 f1 p.1)).length <= 17 + k * 5020 := by
         have h1 := zaK (fun p : Rhs × Value => za2 f1 p.1) 5020 LO k (fun p hp => zfi f1 p.1 (kp.out p hp)); have h4 : (zaq f1).length = 16 := by simp [zaq, zlW]
         rw [zlN, zlN, h4, zl3]; omega
      | have bE : ([(10 : UInt8)] ++ zaq f1 ++ (LO.take k).flatMap (fun p => za3 f1 p.1)).length <= 17 + k * 5020 := by
         have h1 := zaK (fun p : Rhs × Value => za3 f1 p.1) 5020 LO k (fun p hp => zfj f1 p.1 (kp.out p hp)); have h4 : (zaq f1).length = 16 := by simp [zaq, zlW]
         rw [zlN, zlN, h4, zl3]; omega
     have cC : k * 5020 <= 12 * 5020 := zlZ _ (by omega)
     first | (guard_hyp aj; obtain ⟨Y, hY⟩ := exE ([(9 : UInt8)] ++ zaq f1 ++ (LO.take k).flatMap (fun p => za2 f1 p.1))) | (obtain ⟨Y, hY⟩ := exE ([(10 : UInt8)] ++ zaq f1 ++ (LO.take k).flatMap (fun p => za3 f1 p.1)))
     rw [hY] at bE HR; have HY := zlM hY; have HX := zlM hx
     first | (guard_hyp aj; have cZ := zlM (zmS wr 290 #[.int .u64 x1.ref, .int .i64 x1.t, .pointer (some ⟨gx, 0, none⟩)])) | (have cZ := zlM (zmS wr 298 #[.int .u64 x1.ref, .int .i64 x1.t, .pointer (some ⟨gx, 0, none⟩)]))
     first | (guard_hyp aj; have bU := zlM (HR.out.alloc (.cells #[.int .u64 x1.ref, .int .i64 x1.t, .pointer (some ⟨gx, 0, none⟩)] 290))) | (have bU := zlM (HR.out.alloc (.cells #[.int .u64 x1.ref, .int .i64 x1.t, .pointer (some ⟨gx, 0, none⟩)] 298)))
     first | (guard_hyp aj; have dL := zlM (it.out.alloc (.cells #[.int .u64 x1.ref, .int .i64 x1.t, .pointer (some ⟨gx, 0, none⟩)] 290))) | (have dL := zlM (it.out.alloc (.cells #[.int .u64 x1.ref, .int .i64 x1.t, .pointer (some ⟨gx, 0, none⟩)] 298)))
     have kD : Y.length <= 60300 := by omega
     obtain ⟨Q1, ei⟩ := exE (zzu (zeO f1 x1)); obtain ⟨Q2, dh⟩ := exE (zzu (hT f1 x1)); have jA := zby (zeO f1 x1) (zad _).1 (zad _).2; have jz := zby (hT f1 x1) (zad _).1 (zad _).2; rw [ei] at jA; rw [dh] at jz; have gp := zlM ei; have eU := zlM dh; have qZ := zlM fM; have qU := zlM lN
     clear hx dP cc hY bE cC ei dh aH fM lN HR it
     first
      | guard_hyp aj
        go_wp2_with (first
         | (go_at_call 183; refine (zaf bU.out (f := 183) (args := #[.pointer (some ⟨w.heap.size, 0, none⟩), .int .i64 (zeO f1 x1)]) (zs := Q1) (fun o2 he => by have := zax _ o2 _ (zeO f1 x1) (zad _).1 (zad _).2 _ he (by rw [zlN]; omega); rw [show Lib.uvarint (Lib.zigzag (zeO f1 x1)) = Q1 from gp.out] at this; exact this)).mono ?_; rintro rA wA ⟨rfl, R1, K1⟩
            have av := K1.out _ _ _ (by decide) (by decide) cZ.out; have bh := K1.out _ _ _ (by decide) (by decide) dL.out; have p1 : wA.cell? ⟨wr.heap.size, 1, none⟩ = some (.int .i64 x1.t) := av.cell 1; have q1 : wA.cell? ⟨bf, 1, none⟩ = some (.int .i64 f1.t) := bh.cell 1; have dG := zlM av; have eM := zlM bh; have bd := zlM R1
            have bz : (Y ++ Q1).length <= 60310 := by rw [zlN]; omega
            clear R1 K1 av bh bU b0 b1 cZ dL)
         | (go_at_call 183; refine (zaf bd.out (f := 183) (args := #[.pointer (some ⟨w.heap.size, 0, none⟩), .int .i64 (hT f1 x1)]) (zs := Q2) (fun o2 he => by have := zax _ o2 _ (hT f1 x1) (zad _).1 (zad _).2 _ he (by rw [zlN]; omega); rw [show Lib.uvarint (Lib.zigzag (hT f1 x1)) = Q2 from eU.out] at this; exact this)).mono ?_; rintro rB wB ⟨rfl, R1, K1⟩
            have av := K1.out _ _ _ (by decide) (by decide) dG.out; have eL := zlM (K1.out _ _ _ (by decide) (by decide) eM.out); have p2 : wB.cell? ⟨wr.heap.size, 2, none⟩ = some (.pointer (some ⟨gx, 0, none⟩)) := av.cell 2; have bC := zlM R1; have dn : (Y ++ Q1 ++ Q2).length <= 60320 := by rw [zlN]; omega
            have HH := zlM (qZ.out.fr (ge.out wB R1.fr) (fun g hg => (HP.out g hg).2))
            clear R1 K1 av p1 q1 bd bz dG eM)
         | (go_at_call 189; refine (ze0 bC.out (f := 189) (args := #[.pointer (some ⟨w.heap.size, 0, none⟩), .pointer (some ⟨gx, 0, none⟩)]) (zs := zaX x1.h) (fun o2 he fi => zfv P _ o2 _ x1.h _ _ HH.out he (by rw [zlN]; omega) qU.out.2.2.2 (fun g hg => by
             have h1 := HP.out g hg; rintro (rfl | h2)
             ·omega
             ·rcases fi with h3 | ⟨k, h3, hk⟩
              ·exact h1.2 (h2.trans h3)
              ·rw [h3] at h2; injection h2 with h2; omega))).mono ?_; rintro rD wD ⟨rfl, R1, K1⟩
            have bY := zlM R1; have ka := zlM (K1.out _ _ _ (by decide) (by decide) eL.out)
            clear R1 K1 bC eL))
      | go_wp2_with (first
         | (go_at_call 183; refine (zaf bU.out (f := 183) (args := #[.pointer (some ⟨w.heap.size, 0, none⟩), .int .i64 (zeO f1 x1)]) (zs := Q1) (fun o2 he => by have := zax _ o2 _ (zeO f1 x1) (zad _).1 (zad _).2 _ he (by rw [zlN]; omega); rw [show Lib.uvarint (Lib.zigzag (zeO f1 x1)) = Q1 from gp.out] at this; exact this)).mono ?_; rintro rA wA ⟨rfl, R1, K1⟩
            have av := K1.out _ _ _ (by decide) (by decide) cZ.out; have bh := K1.out _ _ _ (by decide) (by decide) dL.out; have p1 : wA.cell? ⟨wr.heap.size, 1, none⟩ = some (.int .i64 x1.t) := av.cell 1; have q1 : wA.cell? ⟨bf, 1, none⟩ = some (.int .i64 f1.t) := bh.cell 1; have dG := zlM av; have eM := zlM bh; have bd := zlM R1
            have bz : (Y ++ Q1).length <= 60310 := by rw [zlN]; omega
            clear R1 K1 av bh bU b0 b1 cZ dL)
         | (go_at_call 183; refine (zaf bd.out (f := 183) (args := #[.pointer (some ⟨w.heap.size, 0, none⟩), .int .i64 (hT f1 x1)]) (zs := Q2) (fun o2 he => by have := zax _ o2 _ (hT f1 x1) (zad _).1 (zad _).2 _ he (by rw [zlN]; omega); rw [show Lib.uvarint (Lib.zigzag (hT f1 x1)) = Q2 from eU.out] at this; exact this)).mono ?_; rintro rB wB ⟨rfl, R1, K1⟩
            have av := K1.out _ _ _ (by decide) (by decide) dG.out; have eL := zlM (K1.out _ _ _ (by decide) (by decide) eM.out); have p2 : wB.cell? ⟨wr.heap.size, 2, none⟩ = some (.pointer (some ⟨gx, 0, none⟩)) := av.cell 2; have bC := zlM R1; have dn : (Y ++ Q1 ++ Q2).length <= 60320 := by rw [zlN]; omega
            have HH := zlM (qZ.out.fr (ge.out wB R1.fr) (fun g hg => (HP.out g hg).2))
            clear R1 K1 av p1 q1 bd bz dG eM)
         | (go_at_call 192; refine (ze0 bC.out (f := 192) (args := #[.pointer (some ⟨w.heap.size, 0, none⟩), .pointer (some ⟨gx, 0, none⟩)]) (zs := zaY x1.h) (fun o2 he fi => zfw P _ o2 _ x1.h _ _ HH.out he (by rw [zlN]; omega) qU.out.2.2.2 (fun g hg => by
             have h1 := HP.out g hg; rintro (rfl | h2)
             ·omega
             ·rcases fi with h3 | ⟨k, h3, hk⟩
              ·exact h1.2 (h2.trans h3)
              ·rw [h3] at h2; injection h2 with h2; omega))).mono ?_; rintro rD wD ⟨rfl, R1, K1⟩
            have bY := zlM R1; have ka := zlM (K1.out _ _ _ (by decide) (by decide) eL.out)
            clear R1 K1 bC eL))
     first
      | guard_hyp aj
        have cT : Hid (Put WB w.heap.size (Value.slice a' n' k').ownBlock xs ([9] ++ zaq f1 ++ (LO.take (k + 1)).flatMap (fun p => za2 f1 p.1)) wD) := zlM (by
         rw [zal (fun p : Rhs × Value => za2 f1 p.1) LO k _ HX.out, <- zlP, HY.out]; unfold za2; rw [gp.out, eU.out]
         simpa [zlP] using bY.out)
      | have cT : Hid (Put WB w.heap.size (Value.slice a' n' k').ownBlock xs ([10] ++ zaq f1 ++ (LO.take (k + 1)).flatMap (fun p => za3 f1 p.1)) wD) := zlM (by
         rw [zal (fun p : Rhs × Value => za3 f1 p.1) LO k _ HX.out, <- zlP, HY.out]; unfold za3; rw [gp.out, eU.out]
         simpa [zlP] using bY.out)
     clear bY; go_wp2; go_roundw
     case rel => exact ⟨k + 1, by omega, by go_num, cT, ka⟩
     case measure => simp [intOf]; omega
    ·obtain rfl : k = n := by omega
     obtain ⟨oZ, dD, ee, fP⟩ := HR.out; have hG := zd7 _ _ _ _ dD; have HZ := zlM ee; clear dD ee; go_wp2_with (go_at_call 116; refine hG.mono ?_; rintro rr w9 ⟨v2, rfl, rfl, af, bz⟩)
     go_ret; refine ⟨v2, rfl, ?_, ge.out _ HZ.out, ?_⟩
     ·have e1 : LO.take k = LO := zlV (by rw [HN.out]; exact zlY _)
      rw [e1] at af; simpa [zlP] using af
     ·rw [bz]
      rcases fP with h | ⟨k2, h, cR⟩
      ·exact .inl h
      ·exact .inr ⟨k2, h, by omega⟩
theorem zj8 : type_of% (zcL.1 trivial) := zcL.1 trivial
theorem zj9 : type_of% (zcL.2 trivial) := zcL.2 trivial
end Go.Proofs.YtbkookiigkckdaaGreatDoor
