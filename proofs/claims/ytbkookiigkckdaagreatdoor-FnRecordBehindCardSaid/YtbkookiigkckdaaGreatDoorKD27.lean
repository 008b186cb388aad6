/- Merged. -/
import Derived.Test.YtbkookiigkckdaaGreatDoorKD19
set_option linter.unusedVariables false
set_option linter.unusedSimpArgs false
set_option maxRecDepth 100000
set_option maxHeartbeats 8000000
namespace Go.Proofs.YtbkookiigkckdaaGreatDoor
open Go.RowKit Go.Proofs.Tryz
def ze0 {α : Type} (f : St -> α × St) (st : St) : List α × St := gN f (gUv st).1 (gUv st).2
def hS1 (st : St) : St := (zaD st).2
def hS2 (st : St) : St := (zaJ (hS1 st)).2
def hS3 (st : St) : St := (zac (hS2 st)).2
def zjt (st : St) : Int := wrap32 (zaJ (hS1 st)).1
theorem gByte_lt7 (st : St) : (zaD st).1 < 256 := by
 match st with
 | none => decide
 | some [] => decide
 | some (b :: r) => exact b.toNat_lt
theorem zhu (st : St) : (UInt8.ofNat (zaD st).1).toNat = (zaD st).1 := by
 rw [UInt8.toNat_ofNat']; exact Nat.mod_eq_of_lt (gByte_lt7 st)
def hW4 (st : St) : St := (gUv (hS3 st)).2
def hW5 (st : St) : St := (gUv (hW4 st)).2
def hW6 (st : St) : St := (zac (hW5 st)).2
def hW7 (st : St) : St := (ze0 gSp (hW6 st)).2
def hW8 (st : St) : St := (ze0 gSp (hW7 st)).2
def hW9 (st : St) : St := (ze0 zaJ (hW8 st)).2
def hW10 (st : St) : St := (ze0 zaJ (hW9 st)).2
def hWc (st : St) : List Nat × St := if zjt st = -53 then ze0 zac (hW10 st) else ([], hW10 st)
def zcM (st : St) : Hst × St :=
 (⟨UInt8.ofNat (zaD st).1, zjt st, (zac (hS2 st)).1, (zac (hW5 st)).1, (gUv (hS3 st)).1, (gUv (hW4 st)).1, (ze0 gSp (hW6 st)).1, (ze0 gSp (hW7 st)).1, (ze0 zaJ (hW8 st)).1, (ze0 zaJ (hW9 st)).1, [], [], (hWc st).1⟩, (hWc st).2)
def FineW (st : St) : Prop := (gUv (hW6 st)).1 <= 1000 /\ (gUv (hW7 st)).1 <= 1000 /\ (gUv (hW8 st)).1 <= 1000 /\ (gUv (hW9 st)).1 <= 1000 /\ (zjt st = -53 -> (gUv (hW10 st)).1 <= 1000)
theorem zji (te : TypeId) (pe : Value) (d g0 : Nat) (cur : Array Value) (g base : Nat) (w : World) (st : St) (bS : base <= g)
 (hD : DH te pe d g0 cur g 288 w w st #[.int .u8 0, .int .i32 0, .float .f64 0, .int .u64 0, .int .u64 0, .float .f64 0, .slice none 0 0, .slice none 0 0, .slice none 0 0, .slice none 0 0, .slice none 0 0] []) (hf : FineW st) :
 Calls prog 174 #[.pointer (some ⟨d, 0, none⟩), .pointer (some ⟨g, 0, none⟩)] w (fun r w' => r = .returned (.tuple #[]) /\ Dec te pe w' d g0 cur (zcM st).2 /\ OwnW base w' (zcM st).1 (.pointer (some ⟨g, 0, none⟩)) /\ Fr (fun k => k = d ∨ k = g) w w') := by
 obtain ⟨f1, f2, f3, f4, f5⟩ := hf; have hgw : g < w.heap.size := hD.2.2.2.2.2.1
 refine (zjh te pe d g0 cur g w _ _ _ _ _ _ _ _ _ _ (gUv (hW10 st)).1 _ _ _ _ (hWc st).1 st (hS1 st) (hS2 st) (hS3 st) (hW4 st) (hW5 st) (hW6 st) _ (hW7 st) _ (hW8 st) _ (hW9 st) _ (hW10 st) (gUv (hW10 st)).2 (hWc st).2 hD rfl rfl rfl rfl rfl rfl
  rfl f1 rfl rfl f2 rfl rfl f3 rfl rfl f4 rfl (fun h => ⟨rfl, f5 h, by unfold hWc; rw [show zjt st = -53 from h, if_pos rfl]; rfl⟩) (fun h => by unfold hWc; rw [znd (show ¬ zjt st = -53 from h)]; exact ⟨rfl, rfl⟩)).mono ?_
 rintro r w' ⟨rfl, v1, v2, v3, v4, v5, hDE⟩; obtain ⟨q1, q2, ⟨o5, _, o4, _, o3, _, o2, _, o1, _, _⟩, q4, _⟩ := hDE; have hb : base <= w.heap.size := by omega
 refine ⟨rfl, q1, ⟨g, ⟨v1, v2, v3, v4, v5⟩, rfl, bS, ?_, zah o1 hb, zah o2 hb, zah o3 hb, zah o4 hb, zah o5 hb⟩, q4⟩; have e : ((UInt8.ofNat (zaD st).1).toNat : Int) = ((zaD st).1 : Int) := by rw [zhu]
 unfold hcW zcM; simp only []; rw [e]; exact q2
def hF4 (st : St) : St := (zac (hS3 st)).2
def hF5 (st : St) : St := (zac (hF4 st)).2
def hF6 (st : St) : St := (zac (hF5 st)).2
def hF7 (st : St) : St := (ze0 gSp (hF6 st)).2
def hF8 (st : St) : St := (ze0 gSp (hF7 st)).2
def hF9 (st : St) : St := (ze0 zac (hF8 st)).2
def ziV (st : St) : St := (ze0 zac (hF9 st)).2
def hFc (st : St) : List Nat × St := if zjt st = -53 then ze0 zac (ziV st) else ([], ziV st)
def zcN (st : St) : Hst × St :=
 (⟨UInt8.ofNat (zaD st).1, zjt st, (zac (hS2 st)).1, (zac (hF5 st)).1, (zac (hS3 st)).1, (zac (hF4 st)).1, (ze0 gSp (hF6 st)).1, (ze0 gSp (hF7 st)).1, [], [], (ze0 zac (hF8 st)).1, (ze0 zac (hF9 st)).1, (hFc st).1⟩, (hFc st).2)
def FineF (st : St) : Prop := (gUv (hF6 st)).1 <= 1000 /\ (gUv (hF7 st)).1 <= 1000 /\ (gUv (hF8 st)).1 <= 1000 /\ (gUv (hF9 st)).1 <= 1000 /\ (zjt st = -53 -> (gUv (ziV st)).1 <= 1000)
theorem zjk (te : TypeId) (pe : Value) (d g0 : Nat) (cur : Array Value) (g base : Nat) (w : World) (st : St) (bS : base <= g)
 (hD : DH te pe d g0 cur g 296 w w st #[.int .u8 0, .int .i32 0, .float .f64 0, .float .f64 0, .float .f64 0, .float .f64 0, .slice none 0 0, .slice none 0 0, .slice none 0 0, .slice none 0 0, .slice none 0 0] []) (hf : FineF st) :
 Calls prog 177 #[.pointer (some ⟨d, 0, none⟩), .pointer (some ⟨g, 0, none⟩)] w (fun r w' => r = .returned (.tuple #[]) /\ Dec te pe w' d g0 cur (zcN st).2 /\ OwnF base w' (zcN st).1 (.pointer (some ⟨g, 0, none⟩)) /\ Fr (fun k => k = d ∨ k = g) w w') := by
 obtain ⟨f1, f2, f3, f4, f5⟩ := hf; have hgw : g < w.heap.size := hD.2.2.2.2.2.1
 refine (zjj te pe d g0 cur g w _ _ _ _ _ _ _ _ _ _ (gUv (ziV st)).1 _ _ _ _ (hFc st).1 st (hS1 st) (hS2 st) (hS3 st) (hF4 st) (hF5 st) (hF6 st) _ (hF7 st) _ (hF8 st) _ (hF9 st) _ (ziV st) (gUv (ziV st)).2 (hFc st).2 hD rfl rfl rfl rfl rfl rfl
  rfl f1 rfl rfl f2 rfl rfl f3 rfl rfl f4 rfl (fun h => ⟨rfl, f5 h, by unfold hFc; rw [show zjt st = -53 from h, if_pos rfl]; rfl⟩) (fun h => by unfold hFc; rw [znd (show ¬ zjt st = -53 from h)]; exact ⟨rfl, rfl⟩)).mono ?_
 rintro r w' ⟨rfl, v1, v2, v3, v4, v5, hDE⟩; obtain ⟨q1, q2, ⟨o5, _, o4, _, o3, _, o2, _, o1, _, _⟩, q4, _⟩ := hDE; have hb : base <= w.heap.size := by omega
 refine ⟨rfl, q1, ⟨g, ⟨v1, v2, v3, v4, v5⟩, rfl, bS, ?_, zah o1 hb, zah o2 hb, zah o3 hb, zah o4 hb, zah o5 hb⟩, q4⟩; have e : ((UInt8.ofNat (zaD st).1).toNat : Int) = ((zaD st).1 : Int) := by rw [zhu]
 unfold hcF zcN; simp only []; rw [e]; exact q2
def zaR (br : Nat) (bt : Int) (st : St) : Rhs × St :=
 (⟨u64 ((br : Int) + u64 (zaJ st).1), wrap64 (bt + (zaJ (zaJ st).2).1), (zcM (zaJ (zaJ st).2).2).1⟩, (zcM (zaJ (zaJ st).2).2).2)
def zdb (st : St) : Prop := FineW (zaJ (zaJ st).2).2
def zbb (rest : List UInt8) : Option (List Rhs) :=
 if rest = [] then some [] else match zaj (zaR (zac (some rest)).1 (zav (zac (some rest)).2).1) rest.length (zav (zac (some rest)).2).2 [] with
  | (l, some _) => some l
  | (_, none) => none
def zcO (xs : List UInt8) : Option (List Rhs) :=
 match xs with
 | [] => none
 | b :: rest => if b = 7 ∨ b = 9 then zbb rest else none
def zdT (S : Nat -> Prop) (w : World) (base : Nat) (pre : List (Rhs × Value)) (er : Option (List Rhs)) (r : Ending) (w' : World) : Prop :=
 Fr S w w' /\ match er with
  | some l => ∃ v' lo, r = .returned (.tuple #[v', .nilIface]) /\ lo.map Prod.fst = l /\ OwnHW base w' v' (pre ++ lo)
  | none => ∃ t a, r = .returned (.tuple #[.slice none 0 0, .iface t a])
theorem zee {S : Nat -> Prop} {w w' : World} {base : Nat} {pre : List (Rhs × Value)} {er : Option (List Rhs)} {t : TypeId} {a : Value} (hd : er = none) (hf : Fr S w w') : zdT S w base pre er (.returned (.tuple #[.slice none 0 0, .iface t a])) w' := by
 unfold zdT; rw [hd]; exact ⟨hf, _, _, rfl⟩
theorem zfw {S : Nat -> Prop} {w w' : World} {base : Nat} {pre lo : List (Rhs × Value)} {er : Option (List Rhs)} {v : Value} (hd : er = some (lo.map Prod.fst)) (hf : Fr S w w') (ho : OwnHW base w' v (pre ++ lo)) : zdT S w base pre er (.returned (.tuple #[v, .nilIface])) w' := by
 unfold zdT; rw [hd]; exact ⟨hf, _, _, rfl, rfl, ho⟩
theorem zkr {br : Nat} {bt : Int} {rest s : List UInt8} {dQ : St} {l : List Rhs} (h0 : rest ≠ []) (h1 : (zac (some rest)).1 = br) (h2 : (zav (zac (some rest)).2) = (bt, dQ)) (h : zaj (zaR br bt) rest.length dQ [] = (l, some s)) : zbb rest = some l := by
 unfold zbb; rw [znd h0, h1, h2]; simp only []; rw [h]
theorem zks {br : Nat} {bt : Int} {rest : List UInt8} {dQ : St} {l : List Rhs} (h0 : rest ≠ []) (h1 : (zac (some rest)).1 = br) (h2 : (zav (zac (some rest)).2) = (bt, dQ)) (h : zaj (zaR br bt) rest.length dQ [] = (l, none)) : zbb rest = none := by
 unfold zbb; rw [znd h0, h1, h2]; simp only []; rw [h]
theorem OwnHW.of {base : Nat} {w w' : World} {v : Value} {lo : List (Rhs × Value)} {d : Nat} {cs : Array Value} (h : OwnHW base w v lo) (hb : Blk w d 229 cs) (hf : Fr (fun k => k = d) w w') : OwnHW base w' v lo := by
 have go : ∀ {e : TypeId} {z n : Nat} {u : Value} {xs : List Value}, e ≠ 229 -> w.ownsRow base e z u n xs -> w'.ownsRow base e z u n xs := fun he o => zai o hf (fun g hg e => zak o hb he (by rw [hg, e])); refine ⟨go (by decide) h.1, fun p hp => ?_⟩; obtain ⟨g, s, hv, km, qt, a1, a2, a3, a4, a5⟩ := h.2 p hp
 exact ⟨g, s, hv, km, qt.fr hf (fun e => znn qt hb (by decide) e), go (by decide) a1, go (by decide) a2, go (by decide) a3, go (by decide) a4, go (by decide) a5⟩
end Go.Proofs.YtbkookiigkckdaaGreatDoor
