/- Texts of this seat, merged and shortened. -/
import Derived.Test.YtbkookiigkckdaaGreatDoorKC12
set_option linter.unusedVariables false
set_option linter.unusedSimpArgs false
set_option maxRecDepth 100000
set_option maxHeartbeats 8000000
namespace Go.Proofs.YtbkookiigkckdaaGreatDoor
open Go.RowKit Go.Proofs.Tryz
def zeW {α : Type} (f : St -> α × St) (st : St) : List α × St := gN f (gUv st).1 (gUv st).2
def hS1 (st : St) : St := (zaD st).2
def hS2 (st : St) : St := (zaI (hS1 st)).2
def hS3 (st : St) : St := (zab (hS2 st)).2
def zhb (st : St) : Int := wrap32 (zaI (hS1 st)).1
theorem gByte_lt7 (st : St) : (zaD st).1 < 256 := by
 match st with
 | none => decide
 | some [] => decide
 | some (b :: r) => exact b.toNat_lt
theorem zhI (st : St) : (UInt8.ofNat (zaD st).1).toNat = (zaD st).1 := by
 rw [UInt8.toNat_ofNat']; exact Nat.mod_eq_of_lt (gByte_lt7 st)
def hW4 (st : St) : St := (gUv (hS3 st)).2
def hW5 (st : St) : St := (gUv (hW4 st)).2
def hW6 (st : St) : St := (zab (hW5 st)).2
def hW7 (st : St) : St := (zeW gSp (hW6 st)).2
def hW8 (st : St) : St := (zeW gSp (hW7 st)).2
def hW9 (st : St) : St := (zeW zaI (hW8 st)).2
def hW10 (st : St) : St := (zeW zaI (hW9 st)).2
def hWc (st : St) : List Nat × St := if zhb st = -53 then zeW zab (hW10 st) else ([], hW10 st)
def zcv (st : St) : Hst × St :=
 (⟨UInt8.ofNat (zaD st).1, zhb st, (zab (hS2 st)).1, (zab (hW5 st)).1, (gUv (hS3 st)).1, (gUv (hW4 st)).1, (zeW gSp (hW6 st)).1, (zeW gSp (hW7 st)).1, (zeW zaI (hW8 st)).1, (zeW zaI (hW9 st)).1, [], [], (hWc st).1⟩, (hWc st).2)
def zkP (st : St) : Prop := (gUv (hW6 st)).1 <= 1000 /\ (gUv (hW7 st)).1 <= 1000 /\ (gUv (hW8 st)).1 <= 1000 /\ (gUv (hW9 st)).1 <= 1000 /\ (zhb st = -53 -> (gUv (hW10 st)).1 <= 1000)
theorem zjw (te : TypeId) (pe : Value) (d g0 : Nat) (cur : Array Value) (g base : Nat) (w : World) (st : St) (bS : base <= g)
 (hD : DH te pe d g0 cur g 288 w w st #[.int .u8 0, .int .i32 0, .float .f64 0, .int .u64 0, .int .u64 0, .float .f64 0, .slice none 0 0, .slice none 0 0, .slice none 0 0, .slice none 0 0, .slice none 0 0] []) (hf : zkP st) :
 Calls prog 174 #[.pointer (some ⟨d, 0, none⟩), .pointer (some ⟨g, 0, none⟩)] w (fun r w' => r = .returned (.tuple #[]) /\ Dec te pe w' d g0 cur (zcv st).2 /\ OwnW base w' (zcv st).1 (.pointer (some ⟨g, 0, none⟩)) /\ Fr (fun k => k = d ∨ k = g) w w') := by
 obtain ⟨f1, f2, f3, f4, f5⟩ := hf; have hgw : g < w.heap.size := hD.2.2.2.2.2.1
 refine (zjv te pe d g0 cur g w _ _ _ _ _ _ _ _ _ _ (gUv (hW10 st)).1 _ _ _ _ (hWc st).1 st (hS1 st) (hS2 st) (hS3 st) (hW4 st) (hW5 st) (hW6 st) _ (hW7 st) _ (hW8 st) _ (hW9 st) _ (hW10 st) (gUv (hW10 st)).2 (hWc st).2 hD rfl rfl rfl rfl rfl rfl
  rfl f1 rfl rfl f2 rfl rfl f3 rfl rfl f4 rfl (fun h => ⟨rfl, f5 h, by unfold hWc; rw [show zhb st = -53 from h, if_pos rfl]; rfl⟩) (fun h => by unfold hWc; rw [znh (show ¬ zhb st = -53 from h)]; exact ⟨rfl, rfl⟩)).mono ?_
 rintro r w' ⟨rfl, v1, v2, v3, v4, v5, hDE⟩; obtain ⟨q1, q2, ⟨o5, _, o4, _, o3, _, o2, _, o1, _, _⟩, q4, _⟩ := hDE; have hb : base <= w.heap.size := by omega
 refine ⟨rfl, q1, ⟨g, ⟨v1, v2, v3, v4, v5⟩, rfl, bS, ?_, zai o1 hb, zai o2 hb, zai o3 hb, zai o4 hb, zai o5 hb⟩, q4⟩; have e : ((UInt8.ofNat (zaD st).1).toNat : Int) = ((zaD st).1 : Int) := by rw [zhI]
 unfold hcW zcv; simp only []; rw [e]; exact q2
def hF4 (st : St) : St := (zab (hS3 st)).2
def hF5 (st : St) : St := (zab (hF4 st)).2
def hF6 (st : St) : St := (zab (hF5 st)).2
def hF7 (st : St) : St := (zeW gSp (hF6 st)).2
def hF8 (st : St) : St := (zeW gSp (hF7 st)).2
def hF9 (st : St) : St := (zeW zab (hF8 st)).2
def zim (st : St) : St := (zeW zab (hF9 st)).2
def hFc (st : St) : List Nat × St := if zhb st = -53 then zeW zab (zim st) else ([], zim st)
def zcw (st : St) : Hst × St :=
 (⟨UInt8.ofNat (zaD st).1, zhb st, (zab (hS2 st)).1, (zab (hF5 st)).1, (zab (hS3 st)).1, (zab (hF4 st)).1, (zeW gSp (hF6 st)).1, (zeW gSp (hF7 st)).1, [], [], (zeW zab (hF8 st)).1, (zeW zab (hF9 st)).1, (hFc st).1⟩, (hFc st).2)
def zkQ (st : St) : Prop := (gUv (hF6 st)).1 <= 1000 /\ (gUv (hF7 st)).1 <= 1000 /\ (gUv (hF8 st)).1 <= 1000 /\ (gUv (hF9 st)).1 <= 1000 /\ (zhb st = -53 -> (gUv (zim st)).1 <= 1000)
theorem zjy (te : TypeId) (pe : Value) (d g0 : Nat) (cur : Array Value) (g base : Nat) (w : World) (st : St) (bS : base <= g)
 (hD : DH te pe d g0 cur g 296 w w st #[.int .u8 0, .int .i32 0, .float .f64 0, .float .f64 0, .float .f64 0, .float .f64 0, .slice none 0 0, .slice none 0 0, .slice none 0 0, .slice none 0 0, .slice none 0 0] []) (hf : zkQ st) :
 Calls prog 177 #[.pointer (some ⟨d, 0, none⟩), .pointer (some ⟨g, 0, none⟩)] w (fun r w' => r = .returned (.tuple #[]) /\ Dec te pe w' d g0 cur (zcw st).2 /\ OwnF base w' (zcw st).1 (.pointer (some ⟨g, 0, none⟩)) /\ Fr (fun k => k = d ∨ k = g) w w') := by
 obtain ⟨f1, f2, f3, f4, f5⟩ := hf; have hgw : g < w.heap.size := hD.2.2.2.2.2.1
 refine (zjx te pe d g0 cur g w _ _ _ _ _ _ _ _ _ _ (gUv (zim st)).1 _ _ _ _ (hFc st).1 st (hS1 st) (hS2 st) (hS3 st) (hF4 st) (hF5 st) (hF6 st) _ (hF7 st) _ (hF8 st) _ (hF9 st) _ (zim st) (gUv (zim st)).2 (hFc st).2 hD rfl rfl rfl rfl rfl rfl
  rfl f1 rfl rfl f2 rfl rfl f3 rfl rfl f4 rfl (fun h => ⟨rfl, f5 h, by unfold hFc; rw [show zhb st = -53 from h, if_pos rfl]; rfl⟩) (fun h => by unfold hFc; rw [znh (show ¬ zhb st = -53 from h)]; exact ⟨rfl, rfl⟩)).mono ?_
 rintro r w' ⟨rfl, v1, v2, v3, v4, v5, hDE⟩; obtain ⟨q1, q2, ⟨o5, _, o4, _, o3, _, o2, _, o1, _, _⟩, q4, _⟩ := hDE; have hb : base <= w.heap.size := by omega
 refine ⟨rfl, q1, ⟨g, ⟨v1, v2, v3, v4, v5⟩, rfl, bS, ?_, zai o1 hb, zai o2 hb, zai o3 hb, zai o4 hb, zai o5 hb⟩, q4⟩; have e : ((UInt8.ofNat (zaD st).1).toNat : Int) = ((zaD st).1 : Int) := by rw [zhI]
 unfold hcF zcw; simp only []; rw [e]; exact q2
def zaN (br : Nat) (bt : Int) (st : St) : Rhs × St :=
 (⟨u64 ((br : Int) + u64 (zaI st).1), wrap64 (bt + (zaI (zaI st).2).1), (zcv (zaI (zaI st).2).2).1⟩, (zcv (zaI (zaI st).2).2).2)
def zcG (st : St) : Prop := zkP (zaI (zaI st).2).2
def zaV (rest : List UInt8) : Option (List Rhs) :=
 if rest = [] then some [] else match zad (zaN (zab (some rest)).1 (zao (zab (some rest)).2).1) rest.length (zao (zab (some rest)).2).2 [] with
  | (l, some _) => some l
  | (_, none) => none
def zci (xs : List UInt8) : Option (List Rhs) :=
 match xs with
 | [] => none
 | b :: rest => if b = 7 ∨ b = 9 then zaV rest else none
def zdX (S : Nat -> Prop) (w : World) (base : Nat) (pre : List (Rhs × Value)) (er : Option (List Rhs)) (r : Ending) (w' : World) : Prop :=
 Fr S w w' /\ match er with
  | some l => ∃ v' lo, r = .returned (.tuple #[v', .nilIface]) /\ lo.map Prod.fst = l /\ OwnHW base w' v' (pre ++ lo)
  | none => ∃ t a, r = .returned (.tuple #[.slice none 0 0, .iface t a])
theorem zeo {S : Nat -> Prop} {w w' : World} {base : Nat} {pre : List (Rhs × Value)} {er : Option (List Rhs)} {t : TypeId} {a : Value} (hd : er = none) (hf : Fr S w w') : zdX S w base pre er (.returned (.tuple #[.slice none 0 0, .iface t a])) w' := by
 unfold zdX; rw [hd]; exact ⟨hf, _, _, rfl⟩
theorem zfH {S : Nat -> Prop} {w w' : World} {base : Nat} {pre lo : List (Rhs × Value)} {er : Option (List Rhs)} {v : Value} (hd : er = some (lo.map Prod.fst)) (hf : Fr S w w') (ho : OwnHW base w' v (pre ++ lo)) : zdX S w base pre er (.returned (.tuple #[v, .nilIface])) w' := by
 unfold zdX; rw [hd]; exact ⟨hf, _, _, rfl, rfl, ho⟩
theorem zkF {br : Nat} {bt : Int} {rest s : List UInt8} {dQ : St} {l : List Rhs} (h0 : rest ≠ []) (h1 : (zab (some rest)).1 = br) (h2 : (zao (zab (some rest)).2) = (bt, dQ)) (h : zad (zaN br bt) rest.length dQ [] = (l, some s)) : zaV rest = some l := by
 unfold zaV; rw [znh h0, h1, h2]; simp only []; rw [h]
theorem zkG {br : Nat} {bt : Int} {rest : List UInt8} {dQ : St} {l : List Rhs} (h0 : rest ≠ []) (h1 : (zab (some rest)).1 = br) (h2 : (zao (zab (some rest)).2) = (bt, dQ)) (h : zad (zaN br bt) rest.length dQ [] = (l, none)) : zaV rest = none := by
 unfold zaV; rw [znh h0, h1, h2]; simp only []; rw [h]
theorem OwnHW.of {base : Nat} {w w' : World} {v : Value} {lo : List (Rhs × Value)} {d : Nat} {cs : Array Value} (h : OwnHW base w v lo) (hb : Blk w d 229 cs) (hf : Fr (fun k => k = d) w w') : OwnHW base w' v lo := by
 have go : ∀ {e : TypeId} {z n : Nat} {u : Value} {xs : List Value}, e ≠ 229 -> w.ownsRow base e z u n xs -> w'.ownsRow base e z u n xs := fun he o => zaj o hf (fun g hg e => zak o hb he (by rw [hg, e])); refine ⟨go (by decide) h.1, fun p hp => ?_⟩; obtain ⟨g, s, hv, ki, pT, a1, a2, a3, a4, a5⟩ := h.2 p hp
 exact ⟨g, s, hv, ki, pT.fr hf (fun e => zns pT hb (by decide) e), go (by decide) a1, go (by decide) a2, go (by decide) a3, go (by decide) a4, go (by decide) a5⟩
def zaO (br : Nat) (bt : Int) (st : St) : Rhs × St :=
 (⟨u64 ((br : Int) + u64 (zaI st).1), wrap64 (bt + (zaI (zaI st).2).1), (zcw (zaI (zaI st).2).2).1⟩, (zcw (zaI (zaI st).2).2).2)
def zcH (st : St) : Prop := zkQ (zaI (zaI st).2).2
def zaW (rest : List UInt8) : Option (List Rhs) :=
 if rest = [] then some [] else match zad (zaO (zab (some rest)).1 (zao (zab (some rest)).2).1) rest.length (zao (zab (some rest)).2).2 [] with
  | (l, some _) => some l
  | (_, none) => none
def zcj (xs : List UInt8) : Option (List Rhs) :=
 match xs with
 | [] => none
 | b :: rest => if b = 8 ∨ b = 10 then zaW rest else none
def zdY (S : Nat -> Prop) (w : World) (base : Nat) (pre : List (Rhs × Value)) (er : Option (List Rhs)) (r : Ending) (w' : World) : Prop :=
 Fr S w w' /\ match er with
  | some l => ∃ v' lo, r = .returned (.tuple #[v', .nilIface]) /\ lo.map Prod.fst = l /\ OwnHF base w' v' (pre ++ lo)
  | none => ∃ t a, r = .returned (.tuple #[.slice none 0 0, .iface t a])
theorem zep {S : Nat -> Prop} {w w' : World} {base : Nat} {pre : List (Rhs × Value)} {er : Option (List Rhs)} {t : TypeId} {a : Value} (hd : er = none) (hf : Fr S w w') : zdY S w base pre er (.returned (.tuple #[.slice none 0 0, .iface t a])) w' := by
 unfold zdY; rw [hd]; exact ⟨hf, _, _, rfl⟩
theorem zfI {S : Nat -> Prop} {w w' : World} {base : Nat} {pre lo : List (Rhs × Value)} {er : Option (List Rhs)} {v : Value} (hd : er = some (lo.map Prod.fst)) (hf : Fr S w w') (ho : OwnHF base w' v (pre ++ lo)) : zdY S w base pre er (.returned (.tuple #[v, .nilIface])) w' := by
 unfold zdY; rw [hd]; exact ⟨hf, _, _, rfl, rfl, ho⟩
theorem zkH {br : Nat} {bt : Int} {rest s : List UInt8} {dQ : St} {l : List Rhs} (h0 : rest ≠ []) (h1 : (zab (some rest)).1 = br) (h2 : (zao (zab (some rest)).2) = (bt, dQ)) (h : zad (zaO br bt) rest.length dQ [] = (l, some s)) : zaW rest = some l := by
 unfold zaW; rw [znh h0, h1, h2]; simp only []; rw [h]
theorem zkI {br : Nat} {bt : Int} {rest : List UInt8} {dQ : St} {l : List Rhs} (h0 : rest ≠ []) (h1 : (zab (some rest)).1 = br) (h2 : (zao (zab (some rest)).2) = (bt, dQ)) (h : zad (zaO br bt) rest.length dQ [] = (l, none)) : zaW rest = none := by
 unfold zaW; rw [znh h0, h1, h2]; simp only []; rw [h]
theorem OwnHF.of {base : Nat} {w w' : World} {v : Value} {lo : List (Rhs × Value)} {d : Nat} {cs : Array Value} (h : OwnHF base w v lo) (hb : Blk w d 229 cs) (hf : Fr (fun k => k = d) w w') : OwnHF base w' v lo := by
 have go : ∀ {e : TypeId} {z n : Nat} {u : Value} {xs : List Value}, e ≠ 229 -> w.ownsRow base e z u n xs -> w'.ownsRow base e z u n xs := fun he o => zaj o hf (fun g hg e => zak o hb he (by rw [hg, e])); refine ⟨go (by decide) h.1, fun p hp => ?_⟩; obtain ⟨g, s, hv, ki, pT, a1, a2, a3, a4, a5⟩ := h.2 p hp
 exact ⟨g, s, hv, ki, pT.fr hf (fun e => zns pT hb (by decide) e), go (by decide) a1, go (by decide) a2, go (by decide) a3, go (by decide) a4, go (by decide) a5⟩
theorem zdp : (∀ (_ : True) (te : TypeId) (pe : Value) (dv : Value) (g base : Nat) (cur : Array Value) (pre : List (Rhs × Value)) (kd : UInt8) (ek : kd = 7 ∨ kd = 9) (rest : List UInt8) (bB : rest ≠ []) (v sv : Value) (w : World) (h : Rec te pe w g cur (kd :: rest) v) (ho : OwnHW base w sv pre) (hb : 2 < base /\ base <= w.heap.size) (bm : pre.length <= 1073741824)
 (aj : St -> Prop) (hG : ∀ l, aj (some l) -> zcG (some l) /\ aj (zaN (zab (some rest)).1 (zao (zab (some rest)).2).1 (some l)).2) (aZ : aj (zao (zab (some rest)).2).2)
 (ak : ∀ br bt l0 l, (zaN br bt (some l0)).2 = some l -> l.length < l0.length),
 Calls prog 83 #[dv, v, sv] w (zdX (fun k => some k = sv.ownBlock) w base pre (zaV rest))) /\ (∀ (_ : True) (te : TypeId) (pe : Value) (dv : Value) (g base : Nat) (cur : Array Value) (pre : List (Rhs × Value)) (kd : UInt8) (ek : kd = 8 ∨ kd = 10) (rest : List UInt8) (bB : rest ≠ []) (v sv : Value) (w : World) (h : Rec te pe w g cur (kd :: rest) v) (ho : OwnHF base w sv pre) (hb : 2 < base /\ base <= w.heap.size) (bm : pre.length <= 1073741824)
 (aj : St -> Prop) (hG : ∀ l, aj (some l) -> zcH (some l) /\ aj (zaO (zab (some rest)).1 (zao (zab (some rest)).2).1 (some l)).2) (aZ : aj (zao (zab (some rest)).2).2)
 (ak : ∀ br bt l0 l, (zaO br bt (some l0)).2 = some l -> l.length < l0.length),
 Calls prog 86 #[dv, v, sv] w (zdY (fun k => some k = sv.ownBlock) w base pre (zaW rest))) := by
 refine ⟨fun ag te pe dv g base cur pre kd ek rest bB v sv w h ho hb bm aj hG aZ ak => ?_, fun bY te pe dv g base cur pre kd ek rest bB v sv w h ho hb bm aj hG aZ ak => ?_⟩; all_goals
  have mixed : prog.follows .mixedOrders = true := by kernel_rfl
  first | (guard_hyp ag; obtain ⟨i0, aD, aA, az, aC⟩ := info_parts zkk) | (obtain ⟨i0, aD, aA, az, aC⟩ := info_parts zkj)
  have hD := h.dec; obtain ⟨off, c, rfl, _⟩ := h; have hQ := zbG te pe w.heap.size g cur _ _ hD; rw [show zaD (some (kd :: rest)) = (kd.toNat, some rest) from rfl] at hQ; simp only [] at hQ; obtain ⟨n, hn⟩ := exE ((kd :: rest).length); have dH := zmk (znr w 229 #[.slice (some ⟨g, off, none⟩) (kd :: rest).length c, .nilIface]); rw [hn] at hQ dH ⊢; have hg9 : g < w.heap.size := by
   obtain ⟨cs0, iC, kZ, hlt2⟩ := zb8 hD; have h1 := kZ.lt; simp at h1; have := zns kZ iC (by decide); omega
  have HLN := zmk ak; have oh : rest.length <= 1099511627776 := by
   obtain ⟨n', off', c', _, _, hn', aQ, _⟩ := hD.open_; have := hn' _ rfl; simp at this; omega
  obtain ⟨br, bL⟩ := exE ((zab (some rest)).1); obtain ⟨T1, gk⟩ := exE ((zab (some rest)).2); obtain ⟨bt, kY⟩ := exE ((zao T1).1); obtain ⟨T2, iF⟩ := exE ((zao T1).2); rw [bL, gk, kY] at hG; rw [gk, iF] at aZ; have fM : zao (zab (some rest)).2 = (bt, T2) := by rw [gk]; exact Prod.ext kY iF
  have HU : Hid (∀ v : Int, ∃ y : Nat, u64 ((br : Int) + u64 v) = y /\ IntKind.u64.wrap ((br : Int) + IntKind.u64.wrap v) = (y : Int)) := zmk (fun v => ⟨_, rfl, by rw [IntKind.wrap_u64, IntKind.wrap_u64]; unfold u64; omega⟩); have iQ := zmk bB; have oa := zmk bL; have gn := zmk fM; have gZ := zmk hG; have kv := zmk aZ; have HO := zmk ho
  have HOL : Hid (∀ k, sv.ownBlock = some k -> k < w.heap.size) := zmk (fun k hk => zas ho.1 hk); obtain ⟨a', np, k', rfl⟩ := zac ho.1; have hr1 : ((rest.length : Int) == 0) = false := by have := List.length_pos_iff.2 bB; simp; omega
  have HL : Hid (∀ W, Dec te pe W w.heap.size g cur (some rest) -> Calls prog 118 #[.pointer (some ⟨w.heap.size, 0, none⟩)] W (fun r w' => r = .returned (.int .i64 rest.length) /\ W = w')) := zmk (fun W hW => by
   refine (zff te pe _ _ _ _ _ hW).mono ?_; rintro r w0 ⟨m, rfl, hm, _, rfl⟩; have hm0 := hm _ rfl; subst hm0
   exact ⟨rfl, rfl⟩)
  have HV1 : Hid (∀ W, Dec te pe W w.heap.size g cur (some rest) -> Calls prog 162 #[.pointer (some ⟨w.heap.size, 0, none⟩)] W (zb0 te pe W w.heap.size g cur (.int .u64 br) T1)) := zmk (fun W hW => by have := zcF te pe _ _ _ _ _ hW; rwa [bL, gk] at this)
  have HV2 : Hid (∀ W, Dec te pe W w.heap.size g cur T1 -> Calls prog 164 #[.pointer (some ⟨w.heap.size, 0, none⟩)] W (zb0 te pe W w.heap.size g cur (.int .i64 bt) T2)) := zmk (fun W hW => by have := ziz te pe _ _ _ _ _ hW; rwa [kY, iF] at this)
  first | (guard_hyp ag; have hn : ((kd.toNat : Int) = 7 ∨ (kd.toNat : Int) = 9) := by rcases ek with rfl | rfl <;> decide) | (have hn : ((kd.toNat : Int) = 8 ∨ (kd.toNat : Int) = 10) := by rcases ek with rfl | rfl <;> decide)
  obtain ⟨kx, mf⟩ := exE kd.toNat
  rw [mf] at hn hQ; have re := zmk hn; clear hD ho bB bL fM hG aZ kY iF gk ek mf hn ak
  first | (guard_hyp ag; go_enter func83, ntmps83) | (go_enter func86, ntmps86)
  go_upto_region 3 with (first
   | (go_at_call 160; refine hQ.mono ?_; rintro r w1 ⟨rfl, cT, cz⟩; have o8 := zmk cT; have dP := zmk cz; clear cT cz))
  go_cut [23] (fun oK wx => oK = .bool false /\ wx = w1)
  case first =>
   as_aux_lemma =>
    rcases re.out with e | e; all_goals
     obtain rfl : kx = _ := Int.ofNat.inj e; go_wp2_with fail
     go_meet
     exact ⟨rfl, rfl⟩
  case rest =>
   as_aux_lemma =>
    obtain ⟨rfl, rfl⟩ := hcut
    first | (guard_hyp ag; have O1 : OwnHW base wc (.slice a' np k') pre := (HO.out.fr ((znq (fun _ => False) w).alloc (.cells #[.slice (some ⟨g, off, none⟩) n c, .nilIface] 229)) (fun _ _ _ e => e)).of dH.out dP.out) | (have O1 : OwnHF base wc (.slice a' np k') pre := (HO.out.fr ((znq (fun _ => False) w).alloc (.cells #[.slice (some ⟨g, off, none⟩) n c, .nilIface] 229)) (fun _ _ _ e => e)).of dH.out dP.out)
    have F1 : Fr (fun k => some k = (Value.slice a' np k').ownBlock) w wc := ((znq (fun k => some k = (Value.slice a' np k').ownBlock) w).alloc (.cells #[.slice (some ⟨g, off, none⟩) n c, .nilIface] 229)).trans dP.out (fun k hk e => by omega); have dg := zmk O1; have cd := zmk F1; obtain ⟨csd, lf, _, _⟩ := zb8 o8.out; have mE := zmk lf; clear O1 F1 dP dH HO hQ lf
    go_wp2_with (first
     | (go_at_call 118; refine (HL.out _ o8.out).mono ?_; rintro r w0 ⟨rfl, rfl⟩)
     | (go_at_call 162; refine (HV1.out _ o8.out).mono ?_; rintro r w2 ⟨rfl, fc, f9⟩; have HDB := zmk fc; have ky := zmk f9; clear fc f9)
     | (go_at_call 164; refine (HV2.out _ HDB.out).mono ?_; rintro r w3 ⟨rfl, qh, pL⟩; have HDC := zmk qh; have HFC := zmk (ky.out.same pL); clear qh pL))
    first | (guard_hyp ag; have eq : Hid (OwnHW base w3 (.slice a' np k') (pre ++ [])) := zmk (by rw [zmG]; exact dg.out.of mE.out HFC.out)) | (have eq : Hid (OwnHF base w3 (.slice a' np k') (pre ++ [])) := zmk (by rw [zmG]; exact dg.out.of mE.out HFC.out))
    have bx : Hid (Fr (fun k => some k = (Value.slice a' np k').ownBlock) w w3) := zmk (cd.out.trans HFC.out (fun k hk e => by omega))
    have ig : Hid (∀ k, (Value.slice a' np k').ownBlock = some k -> k < w.heap.size) := zmk (fun k hk => by
     rcases (dg.out.1).2 with ⟨e, _⟩ | ⟨g', aO, cur', e, _⟩
     ·rw [e] at hk; cases hk
     ·exact HOL.out k hk)
    clear ky HFC HDB dg cd
    first
     | guard_hyp ag
       go_loopw [2] (fun sv wr => ∃ (st : St) (lo : List (Rhs × Value)) (j : Nat), Hid (Dec te pe wr w.heap.size g cur st) /\ Hid (OwnHW base wr sv (pre ++ lo)) /\ Hid (Fr (fun k => some k = (Value.slice a' np k').ownBlock) w wr) /\ Hid (∀ k, sv.ownBlock = some k -> (some k = (Value.slice a' np k').ownBlock ∨ w.heap.size <= k)) /\
        Hid (zad (zaN br bt) j st (lo.map Prod.fst) = zad (zaN br bt) rest.length T2 []) /\ Hid (∀ l, st = some l -> l.length <= j /\ lo.length + l.length <= rest.length) /\ lo.length <= rest.length + 1 /\ Hid (aj st)) (fun _ wr => zix w.heap.size wr)
     | go_loopw [2] (fun sv wr => ∃ (st : St) (lo : List (Rhs × Value)) (j : Nat), Hid (Dec te pe wr w.heap.size g cur st) /\ Hid (OwnHF base wr sv (pre ++ lo)) /\ Hid (Fr (fun k => some k = (Value.slice a' np k').ownBlock) w wr) /\ Hid (∀ k, sv.ownBlock = some k -> (some k = (Value.slice a' np k').ownBlock ∨ w.heap.size <= k)) /\
        Hid (zad (zaO br bt) j st (lo.map Prod.fst) = zad (zaO br bt) rest.length T2 []) /\ Hid (∀ l, st = some l -> l.length <= j /\ lo.length + l.length <= rest.length) /\ lo.length <= rest.length + 1 /\ Hid (aj st)) (fun _ wr => zix w.heap.size wr)
    case atStart => exact ⟨T2, [], rest.length, HDC, eq, bx, zmk (fun k hk => .inl hk.symm), zmk rfl, zmk (fun l hl => by
     have h : (zab (zab (some rest)).2).2 = T2 := znb Prod.snd gn.out; obtain ⟨l1, h1, e1⟩ := zbK (st := (zab (some rest)).2) (h.trans hl); obtain ⟨l2, h2, e2⟩ := zbK (st := some rest) h1; injection h2 with h2; subst h2
     simp; omega), by simp, kv⟩
    case round =>
     obtain ⟨st, lo, j, HD, HO, HF, HB, HE, HL9, mn, nU⟩ := hrel; obtain ⟨n6, io, c6, p0, p1, cN, aQ, hd, hg, h2⟩ := HD.out.open_; have hE := zg6 te pe _ _ _ _ _ HD.out; obtain ⟨a6, n9, k6, rfl⟩ := zac HO.out.1; rcases st with _ | l
     ·clear cN p1
      first | (guard_hyp ag; have aI : zad (zaN br bt) rest.length T2 [] = (lo.map Prod.fst, none) := by rw [<- HE.out]; unfold zad; rcases j with _ | j <;> rfl) | (have aI : zad (zaO br bt) rest.length T2 [] = (lo.map Prod.fst, none) := by rw [<- HE.out]; unfold zad; rcases j with _ | j <;> rfl)
      first | (guard_hyp ag; have HR := zmk (zkG iQ.out oa.out gn.out aI)) | (have HR := zmk (zkI iQ.out oa.out gn.out aI))
      clear aI; simp only [zjH] at hE; rcases zmH n6 with rfl | om
      ·go_wp2_with (go_at_call 119; refine hE.mono ?_; rintro r w7 ⟨rfl, rfl⟩)
       go_ret2
       first | (guard_hyp ag; exact zeo HR.out HF.out) | (exact zep HR.out HF.out)
      ·have bV : (0 : Int) < (n6 : Int) := by omega
       go_wp2_with (go_at_call 119; refine hE.mono ?_; rintro r w7 ⟨rfl, rfl⟩)
       go_ret2
       first | (guard_hyp ag; exact zeo HR.out HF.out) | (exact zep HR.out HF.out)
     ·obtain rfl : n6 = l.length := cN l rfl
      simp only [zjH] at hE; rcases l with _ | ⟨x, r⟩
      ·first | (guard_hyp ag; have aI : zad (zaN br bt) rest.length T2 [] = (lo.map Prod.fst, some []) := by rw [<- HE.out]; unfold zad; rcases j with _ | j <;> rfl) | (have aI : zad (zaO br bt) rest.length T2 [] = (lo.map Prod.fst, some []) := by rw [<- HE.out]; unfold zad; rcases j with _ | j <;> rfl)
       first | (guard_hyp ag; have HR := zmk (zkF iQ.out oa.out gn.out aI)) | (have HR := zmk (zkH iQ.out oa.out gn.out aI))
       clear aI cN p1; simp only [znd] at p0; go_wp2_with (go_at_call 119; refine hE.mono ?_; rintro r w7 ⟨rfl, rfl⟩)
       go_ret2
       first | (guard_hyp ag; exact zfH HR.out HF.out HO.out) | (exact zfI HR.out HF.out HO.out)
      ·obtain ⟨n7, bV⟩ := exE ((x :: r).length)
       have ma : (0 : Int) < (n7 : Int) := by rw [<- bV]; simp
       have gg := HL9.out _ rfl; have hM := zbu HD.out; rw [bV] at p0 gg hM; obtain ⟨aY, bR⟩ := gZ.out _ nU.out; have eU := zmk bV; obtain ⟨S0, gK⟩ : ∃ S0 : St, some (x :: r) = S0 := ⟨_, rfl⟩; have nz := HD.out; rw [gK] at aY bR nz; have gW := zmk gK; have nW := zmk bR; have cS := zdC te pe _ _ _ _ _ nz; obtain ⟨v0, eX⟩ := exE ((zaI S0).1)
       obtain ⟨S1, hS1⟩ := exE ((zaI S0).2); obtain ⟨v1, cE⟩ := exE ((zaI S1).1); obtain ⟨S2, hS2⟩ := exE ((zaI S1).2); rw [eX, hS1] at cS; have HV5 : Hid (∀ W, Dec te pe W w.heap.size g cur S1 -> Calls prog 165 #[.pointer (some ⟨w.heap.size, 0, none⟩)] W (zb0 te pe W w.heap.size g cur (.int .i64 v1) S2)) := zmk (fun W hW => by have := zdC te pe _ _ _ _ _ hW; rwa [cE, hS2] at this)
       first | (guard_hyp ag; unfold zcG at aY) | (unfold zcH at aY)
       rw [hS1, hS2] at aY; have ik := zmk aY; have nM := zmk (znc eX (znc hS1 (znc cE hS2))); obtain ⟨cs8, fo, hbg8, _⟩ := zb8 HD.out; have kc := zmk fo; have hlt8 := fo.lt; clear cN p1 bV gK bR aY eX hS1 cE hS2 fo hbg8 nz; have og := HF.out.size; obtain ⟨y0, ei, hw0⟩ := HU.out v0; obtain ⟨y1, dW⟩ := exE (wrap64 (bt + v1))
       have kG : IntKind.i64.wrap (bt + v1) = y1 := by rw [<- dW, IntKind.wrap_i64]; unfold wrap64; omega
       have HYY : Hid (_ /\ _) := zmk (znc ei dW); clear ei dW
       go_upto_region 13 with (first
        | (go_at_call 119; refine hE.mono ?_; rintro r w7 ⟨rfl, rfl⟩)
        | (go_at_call 165; refine (HV5.out _ rv.out).mono ?_; rintro r w8 ⟨rfl, fc, f9⟩; have oF := zmk fc; have kw := zmk (ro.out.same f9); clear fc f9)
        | (go_at_call 165; refine cS.mono ?_; rintro r w8 ⟨rfl, cT, cz⟩; have rv := zmk cT; have ro := zmk cz; clear cT cz))
       first | (guard_hyp ag; obtain ⟨Z, hZ⟩ : ∃ Z : Array Value, #[.int .u8 0, .int .i32 0, .float .f64 0, .int .u64 0, .int .u64 0, .float .f64 0, .slice none 0 0, .slice none 0 0, .slice none 0 0, .slice none 0 0, .slice none 0 0] = Z := ⟨_, rfl⟩) | (obtain ⟨Z, hZ⟩ : ∃ Z : Array Value, #[.int .u8 0, .int .i32 0, .float .f64 0, .float .f64 0, .float .f64 0, .float .f64 0, .slice none 0 0, .slice none 0 0, .slice none 0 0, .slice none 0 0, .slice none 0 0] = Z := ⟨_, rfl⟩)
       obtain ⟨Y, hY⟩ : ∃ Y : Array Value, #[.int .u64 y0, .int .i64 y1, .pointer (some ⟨w8.heap.size, 0, none⟩)] = Y := ⟨_, rfl⟩; rw [hZ, hY]
       first | (guard_hyp ag; have FA : Fr (fun _ => False) w8 ((w8.alloc (.cells Z 288)).alloc (.cells Y 290)) := ((znq (fun _ => False) w8).alloc (.cells Z 288)).alloc (.cells Y 290)) | (have FA : Fr (fun _ => False) w8 ((w8.alloc (.cells Z 296)).alloc (.cells Y 298)) := ((znq (fun _ => False) w8).alloc (.cells Z 296)).alloc (.cells Y 298))
       first | (guard_hyp ag; have BZ : Blk ((w8.alloc (.cells Z 288)).alloc (.cells Y 290)) w8.heap.size 288 Z := (znr w8 288 Z).alloc (.cells Y 290)) | (have BZ : Blk ((w8.alloc (.cells Z 296)).alloc (.cells Y 298)) w8.heap.size 296 Z := (znr w8 296 Z).alloc (.cells Y 298))
       first | (guard_hyp ag; have BY : Blk ((w8.alloc (.cells Z 288)).alloc (.cells Y 290)) (w8.heap.size + 1) 290 Y := by have h := znr (w8.alloc (.cells Z 288)) 290 Y; simpa using h) | (have BY : Blk ((w8.alloc (.cells Z 296)).alloc (.cells Y 298)) (w8.heap.size + 1) 298 Y := by have h := znr (w8.alloc (.cells Z 296)) 298 Y; simpa using h)
       have hs8 := kw.out.size; have h2w : 2 < w8.heap.size := by omega
       first | (guard_hyp ag; have mR : ((w8.alloc (.cells Z 288)).alloc (.cells Y 290)).heap.size = w8.heap.size + 2 := by simp) | (have mR : ((w8.alloc (.cells Z 296)).alloc (.cells Y 298)).heap.size = w8.heap.size + 2 := by simp)
       first | (guard_hyp ag; obtain ⟨W9, hW9⟩ := exE ((w8.alloc (.cells Z 288)).alloc (.cells Y 290))) | (obtain ⟨W9, hW9⟩ := exE ((w8.alloc (.cells Z 296)).alloc (.cells Y 298)))
       rw [hW9] at FA BZ BY mR ⊢; have D9 : Dec te pe W9 w.heap.size g cur S2 := oF.out.fr FA (fun e => e) (fun e => e) (fun e => e)
       first
        | guard_hyp ag
          have hDH : DH te pe w.heap.size g cur w8.heap.size 288 W9 W9 S2 #[.int .u8 0, .int .i32 0, .float .f64 0, .int .u64 0, .int .u64 0, .float .f64 0, .slice none 0 0, .slice none 0 0, .slice none 0 0, .slice none 0 0, .slice none 0 0] [] :=
           ⟨D9, by rw [hZ]; exact BZ, trivial, znq _ _, by omega, by omega, by omega, by omega, by omega, by omega, by omega⟩
        | have hDH : DH te pe w.heap.size g cur w8.heap.size 296 W9 W9 S2 #[.int .u8 0, .int .i32 0, .float .f64 0, .float .f64 0, .float .f64 0, .float .f64 0, .slice none 0 0, .slice none 0 0, .slice none 0 0, .slice none 0 0, .slice none 0 0] [] :=
           ⟨D9, by rw [hZ]; exact BZ, trivial, znq _ _, by omega, by omega, by omega, by omega, by omega, by omega, by omega⟩
       first | (guard_hyp ag; have hX := zjw te pe w.heap.size g cur w8.heap.size w8.heap.size W9 S2 (zmw _) hDH ik.out) | (have hX := zjy te pe w.heap.size g cur w8.heap.size w8.heap.size W9 S2 (zmw _) hDH ik.out)
       first | (guard_hyp ag; obtain ⟨hh, mu⟩ := exE ((zcv S2).1)) | (obtain ⟨hh, mu⟩ := exE ((zcw S2).1))
       first | (guard_hyp ag; obtain ⟨S3, hS3⟩ := exE ((zcv S2).2)) | (obtain ⟨S3, hS3⟩ := exE ((zcw S2).2))
       rw [mu, hS3] at hX
       first | (guard_hyp ag; have O8 : OwnHW base w8 (.slice a6 n9 k6) (pre ++ lo) := HO.out.of kc.out kw.out) | (have O8 : OwnHF base w8 (.slice a6 n9 k6) (pre ++ lo) := HO.out.of kc.out kw.out)
       have F9 : Fr (fun k => some k = (Value.slice a' np k').ownBlock) w W9 := (HF.out.trans kw.out (fun k hk e => by omega)).trans FA (fun _ _ e => e.elim); have c2 : W9.cell? ⟨w8.heap.size + 1, 2, none⟩ = some (.pointer (some ⟨w8.heap.size, 0, none⟩)) := by rw [BY.cell, <- hY]; rfl
       have HX := zmk hX; have iP := zmk O8; have HFA9 := zmk FA; have rq := zmk F9; have HEH := zmk (znc mu hS3); have oH := zmk BY; have ox := zmk hY; have HWZ := zmk mR; clear hX O8 F9 mu hS3 FA BZ BY hZ hY hW9 D9 hDH hE p0 cS; have c29 : W9.cell? ⟨w8.heap.size + 1, 2, none⟩ = some (.pointer (some ⟨w8.heap.size, 0, none⟩)) := c2
       first
        | guard_hyp ag
          go_wp2_with (first
           | (go_at_call 174; refine HX.out.mono ?_; rintro r cX ⟨rfl, fX, jL, zim⟩; have JD := zmk fX; have JO := zmk jL; have JF := zmk zim
              have KY := zmk (oH.out.fr zim (by omega)); have g0 : cX.cell? ⟨w8.heap.size + 1, 0, none⟩ = some (.int .u64 y0) := by rw [KY.out.cell, <- ox.out]; rfl
              have g1 : cX.cell? ⟨w8.heap.size + 1, 1, none⟩ = some (.int .i64 y1) := by rw [KY.out.cell, <- ox.out]; rfl
              have g2 : cX.cell? ⟨w8.heap.size + 1, 2, none⟩ = some (.pointer (some ⟨w8.heap.size, 0, none⟩)) := by rw [KY.out.cell, <- ox.out]; rfl
              clear fX jL zim c2 c29)
           | (at_builtin; refine Hid.out ?_))
        | go_wp2_with (first
           | (go_at_call 177; refine HX.out.mono ?_; rintro r cX ⟨rfl, fX, jL, zim⟩; have JD := zmk fX; have JO := zmk jL; have JF := zmk zim
              have KY := zmk (oH.out.fr zim (by omega)); have g0 : cX.cell? ⟨w8.heap.size + 1, 0, none⟩ = some (.int .u64 y0) := by rw [KY.out.cell, <- ox.out]; rfl
              have g1 : cX.cell? ⟨w8.heap.size + 1, 1, none⟩ = some (.int .i64 y1) := by rw [KY.out.cell, <- ox.out]; rfl
              have g2 : cX.cell? ⟨w8.heap.size + 1, 2, none⟩ = some (.pointer (some ⟨w8.heap.size, 0, none⟩)) := by rw [KY.out.cell, <- ox.out]; rfl
              clear fX jL zim c2 c29)
           | (at_builtin; refine Hid.out ?_))
       have hs10 := JF.out.size; obtain ⟨cs9, fm, _, _⟩ := zb8 oF.out; have F8 : Fr (fun k => k = w.heap.size) w8 cX := (HFA9.out.mono (fun _ _ e => e.elim)).trans JF.out (fun k hk e => by omega)
       first | (guard_hyp ag; have O10 : OwnHW base cX (.slice a6 n9 k6) (pre ++ lo) := iP.out.of fm F8) | (have O10 : OwnHF base cX (.slice a6 n9 k6) (pre ++ lo) := iP.out.of fm F8)
       have F10 : Fr (fun k => some k = (Value.slice a' np k').ownBlock) w cX := rq.out.trans JF.out (fun k hk e => by omega)
       first | (guard_hyp ag; have J10 : OwnW base cX hh (.pointer (some ⟨w8.heap.size, 0, none⟩)) := JO.out.mono (by omega)) | (have J10 : OwnF base cX hh (.pointer (some ⟨w8.heap.size, 0, none⟩)) := JO.out.mono (by omega))
       have cR := zmk O10; have ky := zmk F10; have HJA := zmk J10; have dh : (pre ++ lo).length = pre.length + lo.length := zml; clear F8 O10 F10 J10 fm; refine zmk ?_
       first | (guard_hyp ag; refine zaf _ rfl _ _ 177 177 rfl base 290 i0 _ 3 24 underlying177 aD aA az aC rfl (by decide) _ (pre ++ lo).length ((pre ++ lo).flatMap rhc) rfl (cR.out.1.alloc _) _ 1 [.int .u64 y0, .int .i64 y1, .pointer (some ⟨w8.heap.size, 0, none⟩)] rfl (zaH underlying177 (znr cX 290 #[.int .u64 y0, .int .i64 y1, .pointer (some ⟨w8.heap.size, 0, none⟩)]) rfl (by simp [Value.oneCell'])) (by unfold maxLen; omega) (by omega) (by simp; omega) ?_) | (refine zaf _ rfl _ _ 182 182 rfl base 298 i0 _ 3 24 underlying182 aD aA az aC rfl (by decide) _ (pre ++ lo).length ((pre ++ lo).flatMap rhc) rfl (cR.out.1.alloc _) _ 1 [.int .u64 y0, .int .i64 y1, .pointer (some ⟨w8.heap.size, 0, none⟩)] rfl (zaH underlying182 (znr cX 298 #[.int .u64 y0, .int .i64 y1, .pointer (some ⟨w8.heap.size, 0, none⟩)]) rfl (by simp [Value.oneCell'])) (by unfold maxLen; omega) (by omega) (by simp; omega) ?_)
       intro v' w2 ac ad ax
       have qV := zmk ac; have HGR := zmk ad; have gd := zmk ax
       clear ac ad ax dh
       first | (guard_hyp ag; have AL : Fr (fun _ => False) cX (cX.alloc (.cells #[.int .u64 y0, .int .i64 y1, .pointer (some ⟨w8.heap.size, 0, none⟩)] 290)) := (znq (fun _ => False) cX).alloc _) | (have AL : Fr (fun _ => False) cX (cX.alloc (.cells #[.int .u64 y0, .int .i64 y1, .pointer (some ⟨w8.heap.size, 0, none⟩)] 298)) := (znq (fun _ => False) cX).alloc _)
       first
        | guard_hyp ag
          have aU : OwnHW base w2 v' (pre ++ (lo ++ [((⟨y0, y1, hh⟩ : Rhs), Value.pointer (some ⟨w8.heap.size, 0, none⟩))])) := by
           rw [<- zmn]; exact OwnHW.push (p := ((⟨y0, y1, hh⟩ : Rhs), Value.pointer (some ⟨w8.heap.size, 0, none⟩))) (cR.out.fr AL (fun _ _ _ e => e)) (HJA.out.fr AL (fun _ _ _ e => e)) HGR.out qV.out
        | have aU : OwnHF base w2 v' (pre ++ (lo ++ [((⟨y0, y1, hh⟩ : Rhs), Value.pointer (some ⟨w8.heap.size, 0, none⟩))])) := by
           rw [<- zmn]; exact OwnHF.push (p := ((⟨y0, y1, hh⟩ : Rhs), Value.pointer (some ⟨w8.heap.size, 0, none⟩))) (cR.out.fr AL (fun _ _ _ e => e)) (HJA.out.fr AL (fun _ _ _ e => e)) HGR.out qV.out
       have fG : Fr (fun k => some k = (Value.slice a6 n9 k6).ownBlock) cX w2 := (AL.mono (fun _ _ e => e.elim)).grown HGR.out (fun k hk => .inl hk.symm); have aV : ∀ k, (Value.slice a6 n9 k6).ownBlock = some k -> base <= k := fun k hk => (cR.out.1.lt k hk).1; obtain ⟨qo, iD, fQ, _⟩ := zb8 JD.out
       have rD : Dec te pe w2 w.heap.size g cur S3 := JD.out.fr fG (fun e => zak cR.out.1 iD (by decide) e.symm) (fun e => zak cR.out.1 fQ (by decide) e.symm) (fun e => by have := aV _ e.symm; omega)
       have rF : Fr (fun k => some k = (Value.slice a' np k').ownBlock) w w2 := ky.out.trans fG (fun k hk e => by
        rcases HB.out k e.symm with h | h
        ·exact h
        ·omega)
       have ip := HGR.out.size; simp at ip; have rB : ∀ k, v'.ownBlock = some k -> (some k = (Value.slice a' np k').ownBlock ∨ w.heap.size <= k) := fun k hk => by
        rcases gd.out with h | h
        ·exact HB.out k (h ▸ hk)
        ·rw [h] at hk; injection hk with hk; simp at hk; exact .inr (by omega)
       obtain ⟨q0, q1, q2, q3⟩ := nM.out; obtain ⟨q4, q5⟩ := HYY.out; obtain ⟨q6, q7⟩ := HEH.out
       first | (guard_hyp ag; have ba : zaN br bt S0 = (⟨y0, y1, hh⟩, S3) := by unfold zaN; rw [q1, q0, q3, q2, q6, q7, q4, q5]) | (have ba : zaO br bt S0 = (⟨y0, y1, hh⟩, S3) := by unfold zaO; rw [q1, q0, q3, q2, q6, q7, q4, q5])
       first
        | guard_hyp ag
          have dk : Hid (∀ j', j = j' + 1 -> zad (zaN br bt) j' S3 ((lo ++ [((⟨y0, y1, hh⟩ : Rhs), Value.pointer (some ⟨w8.heap.size, 0, none⟩))]).map Prod.fst) = zad (zaN br bt) rest.length T2 []) := zmk (by
           rintro j' rfl; have h := HE.out; have h2 : zad (zaN br bt) (j' + 1) (some (x :: r)) (lo.map Prod.fst) = zad (zaN br bt) j' (zaN br bt (some (x :: r))).2 (lo.map Prod.fst ++ [(zaN br bt (some (x :: r))).1]) := rfl; rw [h2, gW.out, ba] at h; rw [zmK]
           exact h)
        | have dk : Hid (∀ j', j = j' + 1 -> zad (zaO br bt) j' S3 ((lo ++ [((⟨y0, y1, hh⟩ : Rhs), Value.pointer (some ⟨w8.heap.size, 0, none⟩))]).map Prod.fst) = zad (zaO br bt) rest.length T2 []) := zmk (by
           rintro j' rfl; have h := HE.out; have h2 : zad (zaO br bt) (j' + 1) (some (x :: r)) (lo.map Prod.fst) = zad (zaO br bt) j' (zaO br bt (some (x :: r))).2 (lo.map Prod.fst ++ [(zaO br bt (some (x :: r))).1]) := rfl; rw [h2, gW.out, ba] at h; rw [zmK]
           exact h)
       have bd : Hid (∀ l, S3 = some l -> l.length < n7) := zmk (fun l hl => by
        have h := HLN.out br bt (x :: r) l (by rw [gW.out, ba]; exact hl)
        rw [eU.out] at h; exact h)
       have nV : Hid (aj S3) := zmk (by have h := nW.out; rw [ba] at h; exact h); have rM : zix w.heap.size w2 < n7 + 1 := by
        rcases S3 with _ | l9
        ·rw [zdc rD]; omega
        ·rw [zbu rD]; have := bd.out l9 rfl; omega
       have RD := zmk rD; have RO := zmk aU; have RF := zmk rF; have RB := zmk rB; clear rD aU rF rB fG aV iD fQ q0 q1 q2 q3 q4 q5 q6 q7 ba AL g0 g1 g2; go_wp2; go_roundw
       case rel =>
        obtain ⟨j', rfl⟩ : ∃ j', j = j' + 1 := ⟨j - 1, by have := eU.out; simp at this; omega⟩; refine ⟨S3, lo ++ [((⟨y0, y1, hh⟩ : Rhs), Value.pointer (some ⟨w8.heap.size, 0, none⟩))], j', RD, RO, RF, RB, zmk (dk.out j' rfl), zmk (fun l hl => ?_), by simp; omega, nV⟩; have := bd.out l hl; rw [zml, zmB]; omega
       case measure => rw [hM]; exact rM
theorem decHsW_go : type_of% (zdp.1 trivial) := zdp.1 trivial
theorem decHsF_go : type_of% (zdp.2 trivial) := zdp.2 trivial
theorem gN_len {α : Type} {f : St -> α × St} (hf : ∀ st l, (f st).2 = some l -> ∃ l0, st = some l0 /\ l.length < l0.length) : ∀ (n : Nat) (st : St) (l : List UInt8), (gN f n st).2 = some l -> ∃ l0, st = some l0 /\ l.length <= l0.length
 | 0, st, l, h => ⟨l, h, zmw _⟩
 | n + 1, st, l, h => by
   obtain ⟨l1, h1, e1⟩ := gN_len hf n (f st).2 l h; obtain ⟨l0, h0, e0⟩ := hf st l1 h1; exact ⟨l0, h0, by omega⟩
theorem zcK {α : Type} {f : St -> α × St} (hf : ∀ st l, (f st).2 = some l -> ∃ l0, st = some l0 /\ l.length < l0.length) (st : St) (l : List UInt8) (h : (zeW f st).2 = some l) : ∃ l0, st = some l0 /\ l.length < l0.length := by
 obtain ⟨l1, h1, e1⟩ := gN_len hf _ _ l h; obtain ⟨l0, h0, e0⟩ := zb7 h1; exact ⟨l0, h0, by omega⟩
theorem zdO (st : St) (l : List UInt8) (h : (zaI st).2 = some l) : ∃ l0, st = some l0 /\ l.length < l0.length := zb7 h
theorem zin (st : St) (l : List UInt8) (h : (gSp st).2 = some l) : ∃ l0, st = some l0 /\ l.length < l0.length := by
 obtain ⟨l1, h1, e1⟩ := zb7 (st := (zaI st).2) h; obtain ⟨l0, h0, e0⟩ := zdO st l1 h1; exact ⟨l0, h0, by omega⟩
theorem zhH {st : St} {l : List UInt8} (h : (zaD st).2 = some l) : ∃ l0, st = some l0 /\ l.length < l0.length := by
 rcases st with _ | _ | ⟨b, r⟩
 ·cases h
 ·cases h
 ·have e : some r = some l := h
  injection e with e; subst e; exact ⟨_, rfl, by simp⟩
theorem zf7 (st : St) (l : List UInt8) (h : (zab st).2 = some l) : ∃ l0, st = some l0 /\ l.length < l0.length := zbK h
theorem zhF (st : St) (l : List UInt8) (h : (zcv st).2 = some l) : ∃ l0, st = some l0 /\ l.length < l0.length := by
 have h10 : ∃ l1, hW10 st = some l1 /\ l.length <= l1.length := by
  have h2 : (hWc st).2 = some l := h; unfold hWc at h2; by_cases hc : zhb st = -53
  ·rw [if_pos hc] at h2
   obtain ⟨l1, e1, e2⟩ := zcK zf7 _ _ h2; exact ⟨l1, e1, by omega⟩
  ·rw [znh hc] at h2
   exact ⟨l, h2, zmw _⟩
 obtain ⟨oR, h10, kp⟩ := h10; obtain ⟨l9, h9, e9⟩ := zcK zdO _ _ (show (zeW _ (hW9 st)).2 = some oR from h10); obtain ⟨l8, h8, e8⟩ := zcK zdO _ _ (show (zeW _ (hW8 st)).2 = some l9 from h9); obtain ⟨l7, h7, e7⟩ := zcK zin _ _ (show (zeW _ (hW7 st)).2 = some l8 from h8); obtain ⟨l6, h6, e6⟩ := zcK zin _ _ (show (zeW _ (hW6 st)).2 = some l7 from h7)
 obtain ⟨l5, h5, e5⟩ := zbK (show (zab (hW5 st)).2 = some l6 from h6); obtain ⟨l4, h4, e4⟩ := zb7 (show _ = some l5 from h5); obtain ⟨l3, h3, e3⟩ := zb7 (show _ = some l4 from h4); obtain ⟨l2, h2, e2⟩ := zbK (show (zab (hS2 st)).2 = some l3 from h3); obtain ⟨l1, h1, e1⟩ := zb7 (show _ = some l2 from h2); obtain ⟨l0, h0, e0⟩ := zhH (show (zaD st).2 = some l1 from h1)
 exact ⟨l0, h0, by omega⟩
theorem zkp (br : Nat) (bt : Int) (l0 l : List UInt8) (h : (zaN br bt (some l0)).2 = some l) : l.length < l0.length := by
 obtain ⟨l1, h1, e1⟩ := zhF _ _ h; obtain ⟨l2, h2, e2⟩ := zdO _ _ h1; obtain ⟨l3, h3, e3⟩ := zdO _ _ h2; injection h3 with h3; subst h3; omega
theorem zjt (te : TypeId) (pe : Value) (dv : Value) (g base : Nat) (cur : Array Value) (pre : List (Rhs × Value)) (kd : UInt8) (ek : kd = 7 ∨ kd = 9) (v sv : Value) (w : World) (h : Rec te pe w g cur [kd] v) (ho : OwnHW base w sv pre) :
 Calls prog 83 #[dv, v, sv] w (zdX (fun k => some k = sv.ownBlock) w base pre (zaV [])) := by
 have hD := h.dec; obtain ⟨off, c, rfl, _⟩ := h; have hQ := zbG te pe w.heap.size g cur _ _ hD; rw [show zaD (some [kd]) = (kd.toNat, some []) from rfl] at hQ; simp only [] at hQ; obtain ⟨n, hn⟩ := exE (([kd] : List UInt8).length); have dH := zmk (znr w 229 #[.slice (some ⟨g, off, none⟩) ([kd] : List UInt8).length c, .nilIface]); rw [hn] at hQ dH ⊢; have HO := zmk ho
 obtain ⟨a', np, k', rfl⟩ := zac ho.1
 have HL : Hid (∀ W, Dec te pe W w.heap.size g cur (some []) -> Calls prog 118 #[.pointer (some ⟨w.heap.size, 0, none⟩)] W (fun r w' => r = .returned (.int .i64 0) /\ W = w')) := zmk (fun W hW => by
  refine (zff te pe _ _ _ _ _ hW).mono ?_; rintro r w0 ⟨m, rfl, hm, _, rfl⟩; have hm0 := hm _ rfl; subst hm0
  exact ⟨rfl, rfl⟩)
 have hn : ((kd.toNat : Int) = 7 ∨ (kd.toNat : Int) = 9) := by rcases ek with rfl | rfl <;> decide
 obtain ⟨kx, mf⟩ := exE kd.toNat
 rw [mf] at hn hQ; have re := zmk hn; clear hD ho ek mf hn; go_enter func83, ntmps83
 go_upto_region 3 with (first
  | (go_at_call 160; refine hQ.mono ?_; rintro r w1 ⟨rfl, cT, cz⟩; have o8 := zmk cT; have dP := zmk cz; clear cT cz))
 go_cut [23] (fun oK wx => oK = .bool false /\ wx = w1)
 case first =>
  as_aux_lemma =>
   rcases re.out with e | e; all_goals
    obtain rfl : kx = _ := Int.ofNat.inj e; go_wp2_with fail
    go_meet
    exact ⟨rfl, rfl⟩
 case rest =>
  as_aux_lemma =>
   obtain ⟨rfl, rfl⟩ := hcut; have O1 : OwnHW base wc (.slice a' np k') pre := (HO.out.fr ((znq (fun _ => False) w).alloc (.cells #[.slice (some ⟨g, off, none⟩) n c, .nilIface] 229)) (fun _ _ _ e => e)).of dH.out dP.out
   have F1 : Fr (fun k => some k = (Value.slice a' np k').ownBlock) w wc := ((znq (fun k => some k = (Value.slice a' np k').ownBlock) w).alloc (.cells #[.slice (some ⟨g, off, none⟩) n c, .nilIface] 229)).trans dP.out (fun k hk e => by omega); have dg := zmk O1; have cd := zmk F1; clear O1 F1 hQ; go_wp2_with (go_at_call 118; refine (HL.out _ o8.out).mono ?_; rintro r w0 ⟨rfl, rfl⟩)
   go_ret2; exact zfH (lo := []) rfl cd.out (by rw [zmG]; exact dg.out)
theorem zl5 (te : TypeId) (pe : Value) (dv : Value) (g base : Nat) (cur : Array Value) (pre : List (Rhs × Value)) (xs : List UInt8) (v sv : Value) (w : World) (h : Rec te pe w g cur xs v) (ho : OwnHW base w sv pre) (hb : 2 < base /\ base <= w.heap.size) (bm : pre.length <= 1073741824)
 (aj : St -> Prop) (hG : ∀ kd rest, xs = kd :: rest -> (kd = 7 ∨ kd = 9) -> ∀ l, aj (some l) -> zcG (some l) /\ aj (zaN (zab (some rest)).1 (zao (zab (some rest)).2).1 (some l)).2) (aZ : ∀ kd rest, xs = kd :: rest -> (kd = 7 ∨ kd = 9) -> rest ≠ [] -> aj (zao (zab (some rest)).2).2) :
 Calls prog 83 #[dv, v, sv] w (zdX (fun k => some k = sv.ownBlock) w base pre (zci xs)) := by
 by_cases hx : (zaD (some xs)).1 = 7 ∨ (zaD (some xs)).1 = 9
 ·rcases xs with _ | ⟨kd, rest⟩
  ·exact absurd hx (by decide)
  ·have ek : kd = 7 ∨ kd = 9 := by
    rcases hx with h1 | h1
    ·exact .inl (UInt8.toNat_inj.1 (show kd.toNat = (7 : UInt8).toNat from h1))
    ·exact .inr (UInt8.toNat_inj.1 (show kd.toNat = (9 : UInt8).toNat from h1))
   have hd : zci (kd :: rest) = zaV rest := by show (if kd = 7 ∨ kd = 9 then zaV rest else none) = _; rw [if_pos ek]
   rw [hd]; by_cases hr : rest = []
   ·subst hr
    exact zjt te pe dv g base cur pre kd ek v sv w h ho
   ·exact decHsW_go te pe dv g base cur pre kd ek rest hr v sv w h ho hb bm aj (hG kd rest rfl ek) (aZ kd rest rfl ek hr) zkp
 ·have hd : zci xs = none := by
   rcases xs with _ | ⟨kd, r⟩
   ·rfl
   ·have : ¬ (kd = 7 ∨ kd = 9) := by rintro (rfl | rfl) <;> exact hx (by first | exact .inl rfl | exact .inr rfl)
    show (if kd = 7 ∨ kd = 9 then zaV r else none) = _; rw [znh this]
  rw [hd]; have hD := h.dec; obtain ⟨off, c, rfl, _⟩ := h; have hQ := zbG te pe w.heap.size g cur _ _ hD; have dS : (((zaD (some xs)).1 : Int) != 7) = true := by simp; omega
  have hx3 : (((zaD (some xs)).1 : Int) != 9) = true := by simp; omega
  obtain ⟨a', n', k', rfl⟩ := zac ho.1; clear hx hd hG aZ hD ho; generalize (zaD (some xs)).1 = x at hQ dS hx3; generalize (zaD (some xs)).2 = st at hQ; go_enter func83, ntmps83; go_wp2_with (first | (go_at_call 160; refine hQ.mono ?_; rintro r w1 ⟨rfl, cr, ai⟩) | (go_at_call 161; refine (zbP _ _).mono ?_; rintro r w2 ⟨t, a, rfl, ar⟩))
  go_ret2; have f1 := (((znq (fun k => some k = (Value.slice a' n' k').ownBlock) w).alloc (.cells #[.slice (some ⟨g, off, none⟩) xs.length c, .nilIface] 229)).trans ai (fun k hk e => by omega)); exact zeo rfl (f1.trans ar (fun _ _ e => e.elim))
theorem zhG (st : St) (l : List UInt8) (h : (zcw st).2 = some l) : ∃ l0, st = some l0 /\ l.length < l0.length := by
 have h10 : ∃ l1, zim st = some l1 /\ l.length <= l1.length := by
  have h2 : (hFc st).2 = some l := h; unfold hFc at h2; by_cases hc : zhb st = -53
  ·rw [if_pos hc] at h2
   obtain ⟨l1, e1, e2⟩ := zcK zf7 _ _ h2; exact ⟨l1, e1, by omega⟩
  ·rw [znh hc] at h2
   exact ⟨l, h2, zmw _⟩
 obtain ⟨oR, h10, kp⟩ := h10; obtain ⟨l9, h9, e9⟩ := zcK zf7 _ _ (show (zeW _ (hF9 st)).2 = some oR from h10); obtain ⟨l8, h8, e8⟩ := zcK zf7 _ _ (show (zeW _ (hF8 st)).2 = some l9 from h9); obtain ⟨l7, h7, e7⟩ := zcK zin _ _ (show (zeW _ (hF7 st)).2 = some l8 from h8); obtain ⟨l6, h6, e6⟩ := zcK zin _ _ (show (zeW _ (hF6 st)).2 = some l7 from h7)
 obtain ⟨l5, h5, e5⟩ := zbK (show (zab (hF5 st)).2 = some l6 from h6); obtain ⟨l4, h4, e4⟩ := zbK (show _ = some l5 from h5); obtain ⟨l3, h3, e3⟩ := zbK (show _ = some l4 from h4); obtain ⟨l2, h2, e2⟩ := zbK (show (zab (hS2 st)).2 = some l3 from h3); obtain ⟨l1, h1, e1⟩ := zb7 (show _ = some l2 from h2); obtain ⟨l0, h0, e0⟩ := zhH (show (zaD st).2 = some l1 from h1)
 exact ⟨l0, h0, by omega⟩
theorem zkq (br : Nat) (bt : Int) (l0 l : List UInt8) (h : (zaO br bt (some l0)).2 = some l) : l.length < l0.length := by
 obtain ⟨l1, h1, e1⟩ := zhG _ _ h; obtain ⟨l2, h2, e2⟩ := zdO _ _ h1; obtain ⟨l3, h3, e3⟩ := zdO _ _ h2; injection h3 with h3; subst h3; omega
theorem zju (te : TypeId) (pe : Value) (dv : Value) (g base : Nat) (cur : Array Value) (pre : List (Rhs × Value)) (kd : UInt8) (ek : kd = 8 ∨ kd = 10) (v sv : Value) (w : World) (h : Rec te pe w g cur [kd] v) (ho : OwnHF base w sv pre) :
 Calls prog 86 #[dv, v, sv] w (zdY (fun k => some k = sv.ownBlock) w base pre (zaW [])) := by
 have hD := h.dec; obtain ⟨off, c, rfl, _⟩ := h; have hQ := zbG te pe w.heap.size g cur _ _ hD; rw [show zaD (some [kd]) = (kd.toNat, some []) from rfl] at hQ; simp only [] at hQ; obtain ⟨n, hn⟩ := exE (([kd] : List UInt8).length); have dH := zmk (znr w 229 #[.slice (some ⟨g, off, none⟩) ([kd] : List UInt8).length c, .nilIface]); rw [hn] at hQ dH ⊢; have HO := zmk ho
 obtain ⟨a', np, k', rfl⟩ := zac ho.1
 have HL : Hid (∀ W, Dec te pe W w.heap.size g cur (some []) -> Calls prog 118 #[.pointer (some ⟨w.heap.size, 0, none⟩)] W (fun r w' => r = .returned (.int .i64 0) /\ W = w')) := zmk (fun W hW => by
  refine (zff te pe _ _ _ _ _ hW).mono ?_; rintro r w0 ⟨m, rfl, hm, _, rfl⟩; have hm0 := hm _ rfl; subst hm0
  exact ⟨rfl, rfl⟩)
 have hn : ((kd.toNat : Int) = 8 ∨ (kd.toNat : Int) = 10) := by rcases ek with rfl | rfl <;> decide
 obtain ⟨kx, mf⟩ := exE kd.toNat
 rw [mf] at hn hQ; have re := zmk hn; clear hD ho ek mf hn; go_enter func86, ntmps86
 go_upto_region 3 with (first
  | (go_at_call 160; refine hQ.mono ?_; rintro r w1 ⟨rfl, cT, cz⟩; have o8 := zmk cT; have dP := zmk cz; clear cT cz))
 go_cut [23] (fun oK wx => oK = .bool false /\ wx = w1)
 case first =>
  as_aux_lemma =>
   rcases re.out with e | e; all_goals
    obtain rfl : kx = _ := Int.ofNat.inj e; go_wp2_with fail
    go_meet
    exact ⟨rfl, rfl⟩
 case rest =>
  as_aux_lemma =>
   obtain ⟨rfl, rfl⟩ := hcut; have O1 : OwnHF base wc (.slice a' np k') pre := (HO.out.fr ((znq (fun _ => False) w).alloc (.cells #[.slice (some ⟨g, off, none⟩) n c, .nilIface] 229)) (fun _ _ _ e => e)).of dH.out dP.out
   have F1 : Fr (fun k => some k = (Value.slice a' np k').ownBlock) w wc := ((znq (fun k => some k = (Value.slice a' np k').ownBlock) w).alloc (.cells #[.slice (some ⟨g, off, none⟩) n c, .nilIface] 229)).trans dP.out (fun k hk e => by omega); have dg := zmk O1; have cd := zmk F1; clear O1 F1 hQ; go_wp2_with (go_at_call 118; refine (HL.out _ o8.out).mono ?_; rintro r w0 ⟨rfl, rfl⟩)
   go_ret2; exact zfI (lo := []) rfl cd.out (by rw [zmG]; exact dg.out)
theorem zl7 (te : TypeId) (pe : Value) (dv : Value) (g base : Nat) (cur : Array Value) (pre : List (Rhs × Value)) (xs : List UInt8) (v sv : Value) (w : World) (h : Rec te pe w g cur xs v) (ho : OwnHF base w sv pre) (hb : 2 < base /\ base <= w.heap.size) (bm : pre.length <= 1073741824)
 (aj : St -> Prop) (hG : ∀ kd rest, xs = kd :: rest -> (kd = 8 ∨ kd = 10) -> ∀ l, aj (some l) -> zcH (some l) /\ aj (zaO (zab (some rest)).1 (zao (zab (some rest)).2).1 (some l)).2) (aZ : ∀ kd rest, xs = kd :: rest -> (kd = 8 ∨ kd = 10) -> rest ≠ [] -> aj (zao (zab (some rest)).2).2) :
 Calls prog 86 #[dv, v, sv] w (zdY (fun k => some k = sv.ownBlock) w base pre (zcj xs)) := by
 by_cases hx : (zaD (some xs)).1 = 8 ∨ (zaD (some xs)).1 = 10
 ·rcases xs with _ | ⟨kd, rest⟩
  ·exact absurd hx (by decide)
  ·have ek : kd = 8 ∨ kd = 10 := by
    rcases hx with h1 | h1
    ·exact .inl (UInt8.toNat_inj.1 (show kd.toNat = (8 : UInt8).toNat from h1))
    ·exact .inr (UInt8.toNat_inj.1 (show kd.toNat = (10 : UInt8).toNat from h1))
   have hd : zcj (kd :: rest) = zaW rest := by show (if kd = 8 ∨ kd = 10 then zaW rest else none) = _; rw [if_pos ek]
   rw [hd]; by_cases hr : rest = []
   ·subst hr
    exact zju te pe dv g base cur pre kd ek v sv w h ho
   ·exact decHsF_go te pe dv g base cur pre kd ek rest hr v sv w h ho hb bm aj (hG kd rest rfl ek) (aZ kd rest rfl ek hr) zkq
 ·have hd : zcj xs = none := by
   rcases xs with _ | ⟨kd, r⟩
   ·rfl
   ·have : ¬ (kd = 8 ∨ kd = 10) := by rintro (rfl | rfl) <;> exact hx (by first | exact .inl rfl | exact .inr rfl)
    show (if kd = 8 ∨ kd = 10 then zaW r else none) = _; rw [znh this]
  rw [hd]; have hD := h.dec; obtain ⟨off, c, rfl, _⟩ := h; have hQ := zbG te pe w.heap.size g cur _ _ hD; have dS : (((zaD (some xs)).1 : Int) != 8) = true := by simp; omega
  have hx3 : (((zaD (some xs)).1 : Int) != 10) = true := by simp; omega
  obtain ⟨a', n', k', rfl⟩ := zac ho.1; clear hx hd hG aZ hD ho; generalize (zaD (some xs)).1 = x at hQ dS hx3; generalize (zaD (some xs)).2 = st at hQ; go_enter func86, ntmps86; go_wp2_with (first | (go_at_call 160; refine hQ.mono ?_; rintro r w1 ⟨rfl, cr, ai⟩) | (go_at_call 161; refine (zbP _ _).mono ?_; rintro r w2 ⟨t, a, rfl, ar⟩))
  go_ret2; have f1 := (((znq (fun k => some k = (Value.slice a' n' k').ownBlock) w).alloc (.cells #[.slice (some ⟨g, off, none⟩) xs.length c, .nilIface] 229)).trans ai (fun k hk e => by omega)); exact zep rfl (f1.trans ar (fun _ _ e => e.elim))
def zeV (f s : Rhs) : Int := wrap64 (wrap64 s.ref - wrap64 f.ref)
def hT (f s : Rhs) : Int := wrap64 (s.t - f.t)
def Rhs.ok (s : Rhs) : Prop := s.ref < 18446744073709551616 /\ -9223372036854775808 <= s.t /\ s.t <= 9223372036854775807 /\ s.h.ok
def zar (f : Rhs) : List UInt8 := Lib.beBytes 8 f.ref ++ Lib.beBytes 8 (u64 f.t)
theorem ze8 {e : Nat} {o : Option Nat} {w w1 : World} {xs ys zs : List UInt8} (h : Put w e o xs ys w1) {f : FuncId} {args : Array Value}
 (hc : ∀ o1, Enc w1 e o1 (xs ++ ys) -> (o1 = o ∨ ∃ k, o1 = some k /\ w.heap.size <= k) -> Calls prog f args w1 (zbZ w1 e o1 (xs ++ ys) zs)) : Calls prog f args w1 fun r w2 => r = .returned (.tuple #[]) /\ Put w e o xs (ys ++ zs) w2 /\ Hid (Keeps w1 w2) := by
 obtain ⟨o1, he, hf, ho⟩ := h; exact (hc o1 he ho).mono fun r w2 ⟨hr, h2⟩ => ⟨hr, Put.step he hf ho h2, h2.keeps he⟩
theorem zeY (l : List (Int × Nat)) (n : Nat) (hn : l.length <= n) (hn2 : n <= 60) (h : ∀ p ∈ l, -2147483648 <= p.1 /\ p.1 <= 2147483647 /\ p.2 < 4294967296) : (zbS l).length <= 1210 := by
 have h1 := zbH zaQ 20 l (fun p hp => zda p (h p hp)); have h2 := zmA (x := l.length) (by omega); have h3 : l.length * 20 <= 60 * 20 := zmx _ (by omega); rw [zbS, zml]; omega
theorem zk1 (l : List Int) (hn : l.length <= 60) (h : ∀ x ∈ l, -9223372036854775808 <= x /\ x <= 9223372036854775807) : (zds l).length <= 610 := by
 have h1 := zbH zzu 10 l (fun x hx => zbB x (h x hx).1 (h x hx).2); have h2 := zmA (x := l.length) (by omega); have h3 : l.length * 10 <= 60 * 10 := zmx _ (by omega); rw [zds, zml]; omega
theorem ziD (l : List Nat) (hn : l.length <= 60) : (zdb l).length <= 610 := by
 have h1 := zbH (Lib.beBytes 8) 8 l (fun x hx => by simp [zmu]); have h2 := zmA (x := l.length) (by omega); have h3 : l.length * 8 <= 60 * 8 := zmx _ (by omega); rw [zdb, zml]; omega
theorem cus_len (h : Hst) (k : h.ok) : (zcy h).length <= 610 := by
 have := ziD h.cus k.few.2.2.2.2.2.2; unfold zcy; split
 ·exact this
 ·exact zmv _
theorem zjk (h : Hst) (k : h.ok) : (za0 h).length <= 5000 := by
 have a1 := zbB h.schema (by have := k.s0; omega) (by have := k.s1; omega); have a2 := zmA k.zc; have a3 := zmA k.cnt; have a4 := zeY h.pos 60 k.few.1 (by omega) k.pos; have a5 := zeY h.neg 60 k.few.2.1 (by omega) k.neg; have a6 := zk1 h.ups k.few.2.2.1 k.ups; have a7 := zk1 h.downs k.few.2.2.2.1 k.downs; have a8 := cus_len h k
 have a9 : (Lib.beBytes 8 h.thr).length = 8 := by simp [zmu]
 have a10 : (Lib.beBytes 8 h.sum).length = 8 := by simp [zmu]
 simp only [za0, zml, zmB]; omega
def za4 (f s : Rhs) : List UInt8 := zzu (zeV f s) ++ (zzu (hT f s) ++ za0 s.h)
theorem zfv (f s : Rhs) (h : s.ok) : (za4 f s).length <= 5020 := by
 have h1 := zbB (zeV f s) (zae _).1 (zae _).2; have h2 := zbB (hT f s) (zae _).1 (zae _).2; have h3 := zjk s.h h.2.2.2; simp only [za4, zml]; omega
def zbf (kind : UInt8) (q : Rhs -> Bool) : List Rhs -> List UInt8
 | [] => [kind]
 | f :: r => [kind] ++ (zar f ++ ((f :: r).filter q).flatMap (za4 f))
theorem zjl (h : Hst) (k : h.ok) : (za1 h).length <= 5000 := by
 have a1 := zbB h.schema (by have := k.s0; omega) (by have := k.s1; omega); have a2 := (show (Lib.beBytes 8 h.zc).length <= 10 by simp [zmu]); have a3 := (show (Lib.beBytes 8 h.cnt).length <= 10 by simp [zmu]); have a4 := zeY h.pos 60 k.few.1 (by omega) k.pos; have a5 := zeY h.neg 60 k.few.2.1 (by omega) k.neg; have a6 := ziD h.fups k.few.2.2.2.2.1
 have a7 := ziD h.fdowns k.few.2.2.2.2.2.1; have a8 := cus_len h k; have a9 : (Lib.beBytes 8 h.thr).length = 8 := by simp [zmu]
 have a10 : (Lib.beBytes 8 h.sum).length = 8 := by simp [zmu]
 simp only [za1, zml, zmB]; omega
def za5 (f s : Rhs) : List UInt8 := zzu (zeV f s) ++ (zzu (hT f s) ++ za1 s.h)
theorem zfw (f s : Rhs) (h : s.ok) : (za5 f s).length <= 5020 := by
 have h1 := zbB (zeV f s) (zae _).1 (zae _).2; have h2 := zbB (hT f s) (zae _).1 (zae _).2; have h3 := zjl s.h h.2.2.2; simp only [za5, zml]; omega
def zbg (kind : UInt8) (q : Rhs -> Bool) : List Rhs -> List UInt8
 | [] => [kind]
 | f :: r => [kind] ++ (zar f ++ ((f :: r).filter q).flatMap (za5 f))
theorem zcM : (∀ (_ : True) (ep : Value) (sv : Value) (P : Nat -> Prop) (v : Value) (xs : List UInt8) (lo : List (Rhs × Value)) (w : World) (h : RdHW P w sv lo) (ab : w.ownsRow 0 5 1 v xs.length (bc xs)) (hl : xs.length <= 536870912)
 (au : lo.length <= 12) (aG : ∀ p ∈ lo, p.1.ok) (hP : ∀ g, P g -> g < w.heap.size /\ some g ≠ v.ownBlock),
 Calls prog 99 #[ep, sv, v] w (zbR w v.ownBlock (xs ++ zbf 9 (fun _ => true) (lo.map Prod.fst)))) /\ (∀ (_ : True) (ep : Value) (sv : Value) (P : Nat -> Prop) (v : Value) (xs : List UInt8) (lo : List (Rhs × Value)) (w : World) (h : RdHF P w sv lo) (ab : w.ownsRow 0 5 1 v xs.length (bc xs)) (hl : xs.length <= 536870912)
 (au : lo.length <= 12) (aG : ∀ p ∈ lo, p.1.ok) (hP : ∀ g, P g -> g < w.heap.size /\ some g ≠ v.ownBlock),
 Calls prog 100 #[ep, sv, v] w (zbR w v.ownBlock (xs ++ zbg 10 (fun _ => true) (lo.map Prod.fst)))) := by
 refine ⟨fun ag ep sv P v xs lo w h ab hl au aG hP => ?_, fun bY ep sv P v xs lo w h ab hl au aG hP => ?_⟩; all_goals
  obtain ⟨h, cl⟩ := h; obtain ⟨A, c, rfl⟩ := h.shape; obtain ⟨a', n', k', rfl⟩ := zac ab; have hE := Enc.made (z := .int .u8 0) ab _ rfl
  first | (guard_hyp ag; have hQ := zcm w.heap.size _ xs 9 _ hE (by omega)) | (have hQ := zcm w.heap.size _ xs 10 _ hE (by omega))
  first | (guard_hyp ag; have e2 : ((9 : UInt8).toNat : Int) = 9 := rfl) | (have e2 : ((10 : UInt8).toNat : Int) = 10 := rfl)
  rw [e2] at hQ; have cP : Fr (fun k => some k = (Value.slice a' n' k').ownBlock) w (w.alloc (.cells #[.slice a' n' k', .int .u8 0, .int .u8 0, .int .u8 0, .int .u8 0, .int .u8 0, .int .u8 0, .int .u8 0, .int .u8 0, .int .u8 0, .int .u8 0] 224)) := (znq _ w).alloc _; rcases lo with _ | ⟨f, r⟩
  ·clear hE cP e2 h cl aG
   first | (guard_hyp ag; go_enter func99, ntmps99) | (go_enter func100, ntmps100)
   go_wp2_with (first | (go_at_call 180; refine hQ.mono ?_; rintro r1 w1 ⟨rfl, R⟩; obtain ⟨o1, eG, ai, dK⟩ := R; have hG := zd9 _ _ _ _ eG) | (go_at_call 116; refine hG.mono ?_; rintro r w2 ⟨v2, rfl, rfl, af, bI⟩))
   go_ret
   first | (guard_hyp ag; refine ⟨v2, rfl, by simpa [zbf] using af, zdn (o1 := o1) ai, ?_⟩) | (refine ⟨v2, rfl, by simpa [zbg] using af, zdn (o1 := o1) ai, ?_⟩)
   rw [bI]; rcases dK with h | ⟨k, h, hk⟩
   ·exact .inl h
   ·exact .inr ⟨k, h, by simp at hk; omega⟩
  ·obtain ⟨n, hn⟩ := exE ((f :: r).length)
   rw [hn] at h au ⊢; obtain ⟨LO, eR⟩ := exE (f :: r); have eM : (0 : Int) < (n : Int) := by rw [<- hn]; simp
   have fO : ((n : Int) == 0) = false := by simp; omega
   have ng : f ∈ LO := by rw [<- eR]; exact zne ..
   have fj : LO[0]? = some f := by rw [<- eR]; rfl
   have dL : (f :: r).map Prod.fst = f.1 :: r.map Prod.fst := rfl; have gu : ∀ p ∈ LO, p.1.ok := by rw [<- eR]; exact aG
   first | (guard_hyp ag; have fi : ∀ p ∈ LO, RdW P w p.1.h p.2 := by rw [<- eR]; exact cl) | (have fi : ∀ p ∈ LO, RdF P w p.1.h p.2 := by rw [<- eR]; exact cl)
   rw [eR] at h hn
   first
    | guard_hyp ag
      have gE : zbf 9 (fun _ => true) ((f :: r).map Prod.fst) = [9] ++ (zar f.1 ++ LO.flatMap (fun p => za4 f.1 p.1)) := by
       rw [<- eR]; have e1 : ∀ l : List Rhs, l.filter (fun _ => true) = l := fun l => List.filter_eq_self.2 (fun _ _ => rfl); rw [dL, zbf, e1, zmz, zmz, List.flatMap_map]
    | have gE : zbg 10 (fun _ => true) ((f :: r).map Prod.fst) = [10] ++ (zar f.1 ++ LO.flatMap (fun p => za5 f.1 p.1)) := by
       rw [<- eR]; have e1 : ∀ l : List Rhs, l.filter (fun _ => true) = l := fun l => List.filter_eq_self.2 (fun _ _ => rfl); rw [dL, zbg, e1, zmz, zmz, List.flatMap_map]
   rw [gE]; obtain ⟨pm, mO, mN, _⟩ := gu f ng; obtain ⟨g, off, rfl, fV, aa⟩ := h.at (by omega); have hg := hP g fV; obtain ⟨f1, fv⟩ := f; simp only [] at pm mO mN; have c0 : w.cell? ⟨g, off, none⟩ = some (.int .u64 f1.ref) := aa 0 _ (by exact zfc rhc (fun _ => rfl) LO 0 (f1, fv) fj 0 (by omega))
   have c1 : w.cell? ⟨g, off + 1, none⟩ = some (.int .i64 f1.t) := aa 1 _ (by exact zfc rhc (fun _ => rfl) LO 0 (f1, fv) fj 1 (by omega)); have c2 : w.cell? ⟨g, off + 2, none⟩ = some fv := aa 2 _ (by exact zfc rhc (fun _ => rfl) LO 0 (f1, fv) fj 2 (by omega)); obtain ⟨gf, _, pK, _⟩ := fi _ ng; simp only [] at pK; subst pK; have HN := zmk hn; have HP := zmk hP
   have HE := zmk hE; have dF := zmk cP; have dV := zmk aa; have rn := zmk fi; have kq := zmk gu; clear hE cP e2 h cl aG gu fi hn dL gE aa eR ng fj hP; generalize dZ : w.alloc (.cells #[.slice a' n' k', .int .u8 0, .int .u8 0, .int .u8 0, .int .u8 0, .int .u8 0, .int .u8 0, .int .u8 0, .int .u8 0, .int .u8 0, .int .u8 0] 224) = WB at hQ HE dF
   have hB : w.heap.size < WB.heap.size := by rw [<- dZ]; simp
   rw [<- dZ] at hQ; have qK := zmk dZ; clear dZ
   first | (guard_hyp ag; go_enter func99, ntmps99) | (go_enter func100, ntmps100)
   go_wp2_with (go_at_call 180; refine hQ.mono ?_; rintro r1 w1 ⟨rfl, R⟩; refine Hid.out ?_)
   rw [qK.out] at R; clear hQ qK
   have gc := zmk (fun (W : World) (hf : Fr (fun k => k = w.heap.size ∨ some k = (Value.slice a' n' k').ownBlock) WB W) => dF.out.trans hf (fun k hk e => by
    rcases e with e | e
    ·omega
    ·exact e))
   have dE := gc.out w1 R.fr; have d0 : w1.cell? ⟨g, off, none⟩ = some (.int .u64 f1.ref) := by rw [dE.cell (p := ⟨g, off, none⟩) hg.1 hg.2]; exact c0
   have d1 : w1.cell? ⟨g, off + 1, none⟩ = some (.int .i64 f1.t) := by rw [dE.cell (p := ⟨g, off + 1, none⟩) hg.1 hg.2]; exact c1
   have d2 : w1.cell? ⟨g, off + 2, none⟩ = some (.pointer (some ⟨gf, 0, none⟩)) := by rw [dE.cell (p := ⟨g, off + 2, none⟩) hg.1 hg.2]; exact c2
   first | (guard_hyp ag; have cU := zmk (R.alloc (.cells #[.int .u64 f1.ref, .int .i64 f1.t, .pointer (some ⟨gf, 0, none⟩)] 290))) | (have cU := zmk (R.alloc (.cells #[.int .u64 f1.ref, .int .i64 f1.t, .pointer (some ⟨gf, 0, none⟩)] 298)))
   first | (guard_hyp ag; have kb := zmk (znr w1 290 #[.int .u64 f1.ref, .int .i64 f1.t, .pointer (some ⟨gf, 0, none⟩)])) | (have kb := zmk (znr w1 298 #[.int .u64 f1.ref, .int .i64 f1.t, .pointer (some ⟨gf, 0, none⟩)]))
   have jj := R.fr.size; clear R dE c0 c1 c2; refine zmk ?_
   go_wp2_with (first
    | (go_at_call 181; refine (zag cU.out (f := 181) (args := #[.pointer (some ⟨w.heap.size, 0, none⟩), .int .u64 f1.ref]) (zs := Lib.beBytes 8 f1.ref) (fun o2 he => zcn _ o2 _ f1.ref pm _ he (by rw [zml, zmB]; omega))).mono ?_; rintro r2 w2 ⟨rfl, R2, K2⟩
       have bi := K2.out _ _ _ (by decide) (by decide) kb.out; have b1 : w2.cell? ⟨w1.heap.size, 1, none⟩ = some (.int .i64 f1.t) := bi.cell 1; have cM := zmk bi; have aW := zmk R2
       clear bi R2 K2 cU d0 d1 d2)
    | (go_at_call 182; refine (zag aW.out (f := 182) (args := #[.pointer (some ⟨w.heap.size, 0, none⟩), .int .i64 f1.t]) (zs := Lib.beBytes 8 (u64 f1.t)) (fun o2 he => zdm _ o2 _ f1.t _ he (by simp [zmu]; omega))).mono ?_; rintro r3 w3 ⟨rfl, R3, K3⟩
       have bE := zmk (K3.out _ _ _ (by decide) (by decide) cM.out); have aS := zmk R3
       clear R3 K3 aW b1 cM))
   clear kb; generalize hbf : w1.heap.size = bf at bE jj; clear hbf
   first | (guard_hyp ag; go_loopw [29] (fun i wr => ∃ k : Nat, k <= n /\ i = .int .i64 k /\ Hid (Put WB w.heap.size (Value.slice a' n' k').ownBlock xs ([9] ++ zar f1 ++ (LO.take k).flatMap (fun p => za4 f1 p.1)) wr) /\ Hid (Blk wr bf 290 #[.int .u64 f1.ref, .int .i64 f1.t, .pointer (some ⟨gf, 0, none⟩)])) (fun i _ => n - (intOf i).toNat)) | (go_loopw [29] (fun i wr => ∃ k : Nat, k <= n /\ i = .int .i64 k /\ Hid (Put WB w.heap.size (Value.slice a' n' k').ownBlock xs ([10] ++ zar f1 ++ (LO.take k).flatMap (fun p => za5 f1 p.1)) wr) /\ Hid (Blk wr bf 298 #[.int .u64 f1.ref, .int .i64 f1.t, .pointer (some ⟨gf, 0, none⟩)])) (fun i _ => n - (intOf i).toNat))
   case atStart => exact ⟨0, zmv _, rfl, zmk (by simpa [zar] using aS.out), bE⟩
   case round =>
    obtain ⟨k, hk, rfl, HR, il⟩ := hrel; by_cases hlt : k < n
    ·obtain ⟨x, hx⟩ : ∃ x, LO[k]? = some x := ⟨_, zmm (by rw [HN.out]; exact hlt)⟩
     have aH := zms hx; have dM := gc.out wr HR.out.fr; have cc : ∀ j, j < 3 -> ∀ u, (rhc x)[j]? = some u -> wr.cell? ⟨g, off + (k * 3 + j), none⟩ = some u := fun j hj u hu => by
      rw [dM.cell (p := ⟨g, off + (k * 3 + j), none⟩) hg.1 hg.2]; exact dV.out (k * 3 + j) u (by rw [zfc rhc (fun _ => rfl) LO k x hx j hj]; exact hu)
     have d0 : wr.cell? ⟨g, off + k * 3, none⟩ = some (.int .u64 x.1.ref) := cc 0 (by omega) _ rfl; have d1 : wr.cell? ⟨g, off + k * 3 + 1, none⟩ = some (.int .i64 x.1.t) := cc 1 (by omega) _ rfl; have d2 : wr.cell? ⟨g, off + k * 3 + 2, none⟩ = some x.2 := cc 2 (by omega) _ rfl; have fK := rn.out x aH; have lQ := kq.out x aH; obtain ⟨x1, xv⟩ := x; simp only [] at d0 d1 d2 fK lQ; have mW := fK
     obtain ⟨gx, _, rfl, _⟩ := mW; have b0 : wr.cell? ⟨bf, 0, none⟩ = some (.int .u64 f1.ref) := il.out.cell 0; have b1 : wr.cell? ⟨bf, 1, none⟩ = some (.int .i64 f1.t) := il.out.cell 1; have mj := il.out.lt
     first
      | guard_hyp ag
        have bF : ([(9 : UInt8)] ++ zar f1 ++ (LO.take k).flatMap (fun p => za4 f1 p.1)).length <= 17 + k * 5020 := by
         have h1 := zaL (fun p : Rhs × Value => za4 f1 p.1) 5020 LO k (fun p hp => zfv f1 p.1 (kq.out p hp)); have h4 : (zar f1).length = 16 := by simp [zar, zmu]
         rw [zml, zml, h4, zmB]; omega
      | have bF : ([(10 : UInt8)] ++ zar f1 ++ (LO.take k).flatMap (fun p => za5 f1 p.1)).length <= 17 + k * 5020 := by
         have h1 := zaL (fun p : Rhs × Value => za5 f1 p.1) 5020 LO k (fun p hp => zfw f1 p.1 (kq.out p hp)); have h4 : (zar f1).length = 16 := by simp [zar, zmu]
         rw [zml, zml, h4, zmB]; omega
     have cy : k * 5020 <= 12 * 5020 := zmx _ (by omega)
     first | (guard_hyp ag; obtain ⟨Y, hY⟩ := exE ([(9 : UInt8)] ++ zar f1 ++ (LO.take k).flatMap (fun p => za4 f1 p.1))) | (obtain ⟨Y, hY⟩ := exE ([(10 : UInt8)] ++ zar f1 ++ (LO.take k).flatMap (fun p => za5 f1 p.1)))
     rw [hY] at bF HR; have HY := zmk hY; have HX := zmk hx
     first | (guard_hyp ag; have cV := zmk (znr wr 290 #[.int .u64 x1.ref, .int .i64 x1.t, .pointer (some ⟨gx, 0, none⟩)])) | (have cV := zmk (znr wr 298 #[.int .u64 x1.ref, .int .i64 x1.t, .pointer (some ⟨gx, 0, none⟩)]))
     first | (guard_hyp ag; have bT := zmk (HR.out.alloc (.cells #[.int .u64 x1.ref, .int .i64 x1.t, .pointer (some ⟨gx, 0, none⟩)] 290))) | (have bT := zmk (HR.out.alloc (.cells #[.int .u64 x1.ref, .int .i64 x1.t, .pointer (some ⟨gx, 0, none⟩)] 298)))
     first | (guard_hyp ag; have dH := zmk (il.out.alloc (.cells #[.int .u64 x1.ref, .int .i64 x1.t, .pointer (some ⟨gx, 0, none⟩)] 290))) | (have dH := zmk (il.out.alloc (.cells #[.int .u64 x1.ref, .int .i64 x1.t, .pointer (some ⟨gx, 0, none⟩)] 298)))
     have kE : Y.length <= 60300 := by omega
     obtain ⟨Q1, ee⟩ := exE (zzu (zeV f1 x1)); obtain ⟨Q2, de⟩ := exE (zzu (hT f1 x1)); have jA := zbB (zeV f1 x1) (zae _).1 (zae _).2; have jz := zbB (hT f1 x1) (zae _).1 (zae _).2; rw [ee] at jA; rw [de] at jz; have gX := zmk ee; have eS := zmk de; have qR := zmk fK; have qJ := zmk lQ
     clear hx dM cc hY bF cy ee de aH fK lQ HR il
     first
      | guard_hyp ag
        go_wp2_with (first
         | (go_at_call 183; refine (zag bT.out (f := 183) (args := #[.pointer (some ⟨w.heap.size, 0, none⟩), .int .i64 (zeV f1 x1)]) (zs := Q1) (fun o2 he => by have := zax _ o2 _ (zeV f1 x1) (zae _).1 (zae _).2 _ he (by rw [zml]; omega); rw [show Lib.uvarint (Lib.zigzag (zeV f1 x1)) = Q1 from gX.out] at this; exact this)).mono ?_; rintro rA wA ⟨rfl, R1, K1⟩
            have aw := K1.out _ _ _ (by decide) (by decide) cV.out; have bi := K1.out _ _ _ (by decide) (by decide) dH.out; have p1 : wA.cell? ⟨wr.heap.size, 1, none⟩ = some (.int .i64 x1.t) := aw.cell 1; have q1 : wA.cell? ⟨bf, 1, none⟩ = some (.int .i64 f1.t) := bi.cell 1; have dC := zmk aw; have eJ := zmk bi; have aW := zmk R1
            have bI : (Y ++ Q1).length <= 60310 := by rw [zml]; omega
            clear R1 K1 aw bi bT b0 b1 cV dH)
         | (go_at_call 183; refine (zag aW.out (f := 183) (args := #[.pointer (some ⟨w.heap.size, 0, none⟩), .int .i64 (hT f1 x1)]) (zs := Q2) (fun o2 he => by have := zax _ o2 _ (hT f1 x1) (zae _).1 (zae _).2 _ he (by rw [zml]; omega); rw [show Lib.uvarint (Lib.zigzag (hT f1 x1)) = Q2 from eS.out] at this; exact this)).mono ?_; rintro rB wB ⟨rfl, R1, K1⟩
            have aw := K1.out _ _ _ (by decide) (by decide) dC.out; have eI := zmk (K1.out _ _ _ (by decide) (by decide) eJ.out); have p2 : wB.cell? ⟨wr.heap.size, 2, none⟩ = some (.pointer (some ⟨gx, 0, none⟩)) := aw.cell 2; have aS := zmk R1; have eW : (Y ++ Q1 ++ Q2).length <= 60320 := by rw [zml]; omega
            have HH := zmk (qR.out.fr (gc.out wB R1.fr) (fun g hg => (HP.out g hg).2))
            clear R1 K1 aw p1 q1 aW bI dC eJ)
         | (go_at_call 189; refine (ze8 aS.out (f := 189) (args := #[.pointer (some ⟨w.heap.size, 0, none⟩), .pointer (some ⟨gx, 0, none⟩)]) (zs := za0 x1.h) (fun o2 he fg => zfK P _ o2 _ x1.h _ _ HH.out he (by rw [zml]; omega) qJ.out.2.2.2 (fun g hg => by
             have h1 := HP.out g hg; rintro (rfl | h2)
             ·omega
             ·rcases fg with h3 | ⟨k, h3, hk⟩
              ·exact h1.2 (h2.trans h3)
              ·rw [h3] at h2; injection h2 with h2; omega))).mono ?_; rintro rD wD ⟨rfl, R1, K1⟩
            have bX := zmk R1; have ka := zmk (K1.out _ _ _ (by decide) (by decide) eI.out)
            clear R1 K1 aS eI))
      | go_wp2_with (first
         | (go_at_call 183; refine (zag bT.out (f := 183) (args := #[.pointer (some ⟨w.heap.size, 0, none⟩), .int .i64 (zeV f1 x1)]) (zs := Q1) (fun o2 he => by have := zax _ o2 _ (zeV f1 x1) (zae _).1 (zae _).2 _ he (by rw [zml]; omega); rw [show Lib.uvarint (Lib.zigzag (zeV f1 x1)) = Q1 from gX.out] at this; exact this)).mono ?_; rintro rA wA ⟨rfl, R1, K1⟩
            have aw := K1.out _ _ _ (by decide) (by decide) cV.out; have bi := K1.out _ _ _ (by decide) (by decide) dH.out; have p1 : wA.cell? ⟨wr.heap.size, 1, none⟩ = some (.int .i64 x1.t) := aw.cell 1; have q1 : wA.cell? ⟨bf, 1, none⟩ = some (.int .i64 f1.t) := bi.cell 1; have dC := zmk aw; have eJ := zmk bi; have aW := zmk R1
            have bI : (Y ++ Q1).length <= 60310 := by rw [zml]; omega
            clear R1 K1 aw bi bT b0 b1 cV dH)
         | (go_at_call 183; refine (zag aW.out (f := 183) (args := #[.pointer (some ⟨w.heap.size, 0, none⟩), .int .i64 (hT f1 x1)]) (zs := Q2) (fun o2 he => by have := zax _ o2 _ (hT f1 x1) (zae _).1 (zae _).2 _ he (by rw [zml]; omega); rw [show Lib.uvarint (Lib.zigzag (hT f1 x1)) = Q2 from eS.out] at this; exact this)).mono ?_; rintro rB wB ⟨rfl, R1, K1⟩
            have aw := K1.out _ _ _ (by decide) (by decide) dC.out; have eI := zmk (K1.out _ _ _ (by decide) (by decide) eJ.out); have p2 : wB.cell? ⟨wr.heap.size, 2, none⟩ = some (.pointer (some ⟨gx, 0, none⟩)) := aw.cell 2; have aS := zmk R1; have eW : (Y ++ Q1 ++ Q2).length <= 60320 := by rw [zml]; omega
            have HH := zmk (qR.out.fr (gc.out wB R1.fr) (fun g hg => (HP.out g hg).2))
            clear R1 K1 aw p1 q1 aW bI dC eJ)
         | (go_at_call 192; refine (ze8 aS.out (f := 192) (args := #[.pointer (some ⟨w.heap.size, 0, none⟩), .pointer (some ⟨gx, 0, none⟩)]) (zs := za1 x1.h) (fun o2 he fg => zfL P _ o2 _ x1.h _ _ HH.out he (by rw [zml]; omega) qJ.out.2.2.2 (fun g hg => by
             have h1 := HP.out g hg; rintro (rfl | h2)
             ·omega
             ·rcases fg with h3 | ⟨k, h3, hk⟩
              ·exact h1.2 (h2.trans h3)
              ·rw [h3] at h2; injection h2 with h2; omega))).mono ?_; rintro rD wD ⟨rfl, R1, K1⟩
            have bX := zmk R1; have ka := zmk (K1.out _ _ _ (by decide) (by decide) eI.out)
            clear R1 K1 aS eI))
     first
      | guard_hyp ag
        have cQ : Hid (Put WB w.heap.size (Value.slice a' n' k').ownBlock xs ([9] ++ zar f1 ++ (LO.take (k + 1)).flatMap (fun p => za4 f1 p.1)) wD) := zmk (by
         rw [zam (fun p : Rhs × Value => za4 f1 p.1) LO k _ HX.out, <- zmn, HY.out]; unfold za4; rw [gX.out, eS.out]
         simpa [zmn] using bX.out)
      | have cQ : Hid (Put WB w.heap.size (Value.slice a' n' k').ownBlock xs ([10] ++ zar f1 ++ (LO.take (k + 1)).flatMap (fun p => za5 f1 p.1)) wD) := zmk (by
         rw [zam (fun p : Rhs × Value => za5 f1 p.1) LO k _ HX.out, <- zmn, HY.out]; unfold za5; rw [gX.out, eS.out]
         simpa [zmn] using bX.out)
     clear bX; go_wp2; go_roundw
     case rel => exact ⟨k + 1, by omega, by go_num, cQ, ka⟩
     case measure => simp [intOf]; omega
    ·obtain rfl : k = n := by omega
     obtain ⟨oZ, dy, dX, fN⟩ := HR.out; have hG := zd9 _ _ _ _ dy; have HZ := zmk dX; clear dy dX; go_wp2_with (go_at_call 116; refine hG.mono ?_; rintro rr w9 ⟨v2, rfl, rfl, af, bI⟩)
     go_ret; refine ⟨v2, rfl, ?_, gc.out _ HZ.out, ?_⟩
     ·have e1 : LO.take k = LO := zmt (by rw [HN.out]; exact zmw _)
      rw [e1] at af; simpa [zmn] using af
     ·rw [bI]
      rcases fN with h | ⟨k2, h, cO⟩
      ·exact .inl h
      ·exact .inr ⟨k2, h, by omega⟩
theorem zkA : type_of% (zcM.1 trivial) := zcM.1 trivial
theorem zkB : type_of% (zcM.2 trivial) := zcM.2 trivial
end Go.Proofs.YtbkookiigkckdaaGreatDoor
