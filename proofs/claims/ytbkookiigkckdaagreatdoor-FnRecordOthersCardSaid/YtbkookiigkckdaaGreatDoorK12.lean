/- Texts of this seat, merged and shortened: J8, J9, H6, J15, J16, J1, J17, J18, Rk, J14. -/
import Derived.Test.YtbkookiigkckdaaGreatDoorK04
import Derived.Test.YtbkookiigkckdaaGreatDoorK05
import Derived.Test.YtbkookiigkckdaaGreatDoorK06
import Derived.Test.YtbkookiigkckdaaGreatDoorK07
import Derived.Test.YtbkookiigkckdaaGreatDoorK09
import Derived.Test.YtbkookiigkckdaaGreatDoorK11
import Derived.Laws.BytesArg
set_option linter.unusedVariables false
set_option linter.unusedSimpArgs false
set_option maxRecDepth 100000
set_option maxHeartbeats 8000000
namespace Go.Proofs.YtbkookiigkckdaaGreatDoor
open Go.RowKit
def zaL (br : Nat) (bt : Int) (st : St) : Rhs × St :=
 (⟨u64 ((br : Int) + u64 (zaE st).1), wrap64 (bt + (zaE (zaE st).2).1), (zcJ (zaE (zaE st).2).2).1⟩, (zcJ (zaE (zaE st).2).2).2)
def zcM (st : St) : Prop := FineW (zaE (zaE st).2).2
def zaY (rest : List UInt8) : Option (List Rhs) :=
 if rest = [] then some [] else match zaj (zaL (zac (some rest)).1 (zaq (zac (some rest)).2).1) rest.length (zaq (zac (some rest)).2).2 [] with
  | (l, some _) => some l
  | (_, none) => none
def zcs (xs : List UInt8) : Option (List Rhs) :=
 match xs with
 | [] => none
 | b :: rest => if b = 7 ∨ b = 9 then zaY rest else none
def zdO (S : Nat → Prop) (w : World) (base : Nat) (pre : List (Rhs × Value)) (res : Option (List Rhs)) (r : Ending) (w' : World) : Prop :=
 Fr S w w' ∧ match res with
  | some l => ∃ v' lo, r = .returned (.tuple #[v', .nilIface]) ∧ lo.map Prod.fst = l ∧ OwnHW base w' v' (pre ++ lo)
  | none => ∃ t a, r = .returned (.tuple #[.slice none 0 0, .iface t a])
theorem zea {S : Nat → Prop} {w w' : World} {base : Nat} {pre : List (Rhs × Value)} {res : Option (List Rhs)} {t : TypeId} {a : Value} (hd : res = none) (hf : Fr S w w') : zdO S w base pre res (.returned (.tuple #[.slice none 0 0, .iface t a])) w' := by
 unfold zdO; rw [hd]; exact ⟨hf, _, _, rfl⟩
theorem zfc {S : Nat → Prop} {w w' : World} {base : Nat} {pre lo : List (Rhs × Value)} {res : Option (List Rhs)} {v : Value} (hd : res = some (lo.map Prod.fst)) (hf : Fr S w w') (ho : OwnHW base w' v (pre ++ lo)) : zdO S w base pre res (.returned (.tuple #[v, .nilIface])) w' := by
 unfold zdO; rw [hd]; exact ⟨hf, _, _, rfl, rfl, ho⟩
theorem zjF {br : Nat} {bt : Int} {rest s : List UInt8} {st2 : St} {l : List Rhs} (h0 : rest ≠ []) (h1 : (zac (some rest)).1 = br) (h2 : (zaq (zac (some rest)).2) = (bt, st2)) (h : zaj (zaL br bt) rest.length st2 [] = (l, some s)) : zaY rest = some l := by
 unfold zaY; rw [if_neg h0, h1, h2]; simp only []; rw [h]
theorem zjG {br : Nat} {bt : Int} {rest : List UInt8} {st2 : St} {l : List Rhs} (h0 : rest ≠ []) (h1 : (zac (some rest)).1 = br) (h2 : (zaq (zac (some rest)).2) = (bt, st2)) (h : zaj (zaL br bt) rest.length st2 [] = (l, none)) : zaY rest = none := by
 unfold zaY; rw [if_neg h0, h1, h2]; simp only []; rw [h]
theorem OwnHW.of {base : Nat} {w w' : World} {v : Value} {lo : List (Rhs × Value)} {d : Nat} {cs : Array Value} (h : OwnHW base w v lo) (hb : Blk w d 229 cs) (hf : Fr (fun k => k = d) w w') : OwnHW base w' v lo := by
 have go : ∀ {e : TypeId} {z n : Nat} {u : Value} {xs : List Value}, e ≠ 229 → w.ownsRow base e z u n xs → w'.ownsRow base e z u n xs := fun he o => zah o hf (fun g hg e => zak o hb he (by rw [hg, e])); refine ⟨go (by decide) h.1, fun p hp => ?_⟩; obtain ⟨g, s, hv, hgb, hbk, a1, a2, a3, a4, a5⟩ := h.2 p hp
 exact ⟨g, s, hv, hgb, hbk.fr hf (fun e => Blk.ne_ hbk hb (by decide) e), go (by decide) a1, go (by decide) a2, go (by decide) a3, go (by decide) a4, go (by decide) a5⟩
def zaM (br : Nat) (bt : Int) (st : St) : Rhs × St :=
 (⟨u64 ((br : Int) + u64 (zaE st).1), wrap64 (bt + (zaE (zaE st).2).1), (zcK (zaE (zaE st).2).2).1⟩, (zcK (zaE (zaE st).2).2).2)
def zcN (st : St) : Prop := FineF (zaE (zaE st).2).2
def zaZ (rest : List UInt8) : Option (List Rhs) :=
 if rest = [] then some [] else match zaj (zaM (zac (some rest)).1 (zaq (zac (some rest)).2).1) rest.length (zaq (zac (some rest)).2).2 [] with
  | (l, some _) => some l
  | (_, none) => none
def zct (xs : List UInt8) : Option (List Rhs) :=
 match xs with
 | [] => none
 | b :: rest => if b = 8 ∨ b = 10 then zaZ rest else none
def zdP (S : Nat → Prop) (w : World) (base : Nat) (pre : List (Rhs × Value)) (res : Option (List Rhs)) (r : Ending) (w' : World) : Prop :=
 Fr S w w' ∧ match res with
  | some l => ∃ v' lo, r = .returned (.tuple #[v', .nilIface]) ∧ lo.map Prod.fst = l ∧ OwnHF base w' v' (pre ++ lo)
  | none => ∃ t a, r = .returned (.tuple #[.slice none 0 0, .iface t a])
theorem zeb {S : Nat → Prop} {w w' : World} {base : Nat} {pre : List (Rhs × Value)} {res : Option (List Rhs)} {t : TypeId} {a : Value} (hd : res = none) (hf : Fr S w w') : zdP S w base pre res (.returned (.tuple #[.slice none 0 0, .iface t a])) w' := by
 unfold zdP; rw [hd]; exact ⟨hf, _, _, rfl⟩
theorem zfd {S : Nat → Prop} {w w' : World} {base : Nat} {pre lo : List (Rhs × Value)} {res : Option (List Rhs)} {v : Value} (hd : res = some (lo.map Prod.fst)) (hf : Fr S w w') (ho : OwnHF base w' v (pre ++ lo)) : zdP S w base pre res (.returned (.tuple #[v, .nilIface])) w' := by
 unfold zdP; rw [hd]; exact ⟨hf, _, _, rfl, rfl, ho⟩
theorem zjH {br : Nat} {bt : Int} {rest s : List UInt8} {st2 : St} {l : List Rhs} (h0 : rest ≠ []) (h1 : (zac (some rest)).1 = br) (h2 : (zaq (zac (some rest)).2) = (bt, st2)) (h : zaj (zaM br bt) rest.length st2 [] = (l, some s)) : zaZ rest = some l := by
 unfold zaZ; rw [if_neg h0, h1, h2]; simp only []; rw [h]
theorem zjI {br : Nat} {bt : Int} {rest : List UInt8} {st2 : St} {l : List Rhs} (h0 : rest ≠ []) (h1 : (zac (some rest)).1 = br) (h2 : (zaq (zac (some rest)).2) = (bt, st2)) (h : zaj (zaM br bt) rest.length st2 [] = (l, none)) : zaZ rest = none := by
 unfold zaZ; rw [if_neg h0, h1, h2]; simp only []; rw [h]
theorem OwnHF.of {base : Nat} {w w' : World} {v : Value} {lo : List (Rhs × Value)} {d : Nat} {cs : Array Value} (h : OwnHF base w v lo) (hb : Blk w d 229 cs) (hf : Fr (fun k => k = d) w w') : OwnHF base w' v lo := by
 have go : ∀ {e : TypeId} {z n : Nat} {u : Value} {xs : List Value}, e ≠ 229 → w.ownsRow base e z u n xs → w'.ownsRow base e z u n xs := fun he o => zah o hf (fun g hg e => zak o hb he (by rw [hg, e])); refine ⟨go (by decide) h.1, fun p hp => ?_⟩; obtain ⟨g, s, hv, hgb, hbk, a1, a2, a3, a4, a5⟩ := h.2 p hp
 exact ⟨g, s, hv, hgb, hbk.fr hf (fun e => Blk.ne_ hbk hb (by decide) e), go (by decide) a1, go (by decide) a2, go (by decide) a3, go (by decide) a4, go (by decide) a5⟩
theorem zdi : (∀ (_ : True) (te : TypeId) (pe : Value) (dv : Value) (g base : Nat) (cur : Array Value) (pre : List (Rhs × Value)) (kd : UInt8) (hkd : kd = 7 ∨ kd = 9) (rest : List UInt8) (hne : rest ≠ []) (v sv : Value) (w : World) (h : Rec te pe w g cur (kd :: rest) v) (ho : OwnHW base w sv pre) (hb : 2 < base ∧ base ≤ w.heap.size) (hpl : pre.length ≤ 1073741824)
 (Good : St → Prop) (hG : ∀ l, Good (some l) → zcM (some l) ∧ Good (zaL (zac (some rest)).1 (zaq (zac (some rest)).2).1 (some l)).2) (hG0 : Good (zaq (zac (some rest)).2).2)
 (hlen : ∀ br bt l0 l, (zaL br bt (some l0)).2 = some l → l.length < l0.length),
 Calls Tryz.prog 83 #[dv, v, sv] w (zdO (fun k => some k = sv.ownBlock) w base pre (zaY rest))) ∧ (∀ (_ : True) (te : TypeId) (pe : Value) (dv : Value) (g base : Nat) (cur : Array Value) (pre : List (Rhs × Value)) (kd : UInt8) (hkd : kd = 8 ∨ kd = 10) (rest : List UInt8) (hne : rest ≠ []) (v sv : Value) (w : World) (h : Rec te pe w g cur (kd :: rest) v) (ho : OwnHF base w sv pre) (hb : 2 < base ∧ base ≤ w.heap.size) (hpl : pre.length ≤ 1073741824)
 (Good : St → Prop) (hG : ∀ l, Good (some l) → zcN (some l) ∧ Good (zaM (zac (some rest)).1 (zaq (zac (some rest)).2).1 (some l)).2) (hG0 : Good (zaq (zac (some rest)).2).2)
 (hlen : ∀ br bt l0 l, (zaM br bt (some l0)).2 = some l → l.length < l0.length),
 Calls Tryz.prog 86 #[dv, v, sv] w (zdP (fun k => some k = sv.ownBlock) w base pre (zaZ rest))) := by
 refine ⟨fun isW te pe dv g base cur pre kd hkd rest hne v sv w h ho hb hpl Good hG hG0 hlen => ?_, fun _ te pe dv g base cur pre kd hkd rest hne v sv w h ho hb hpl Good hG hG0 hlen => ?_⟩; all_goals
  have mixed : Tryz.prog.follows .mixedOrders = true := by kernel_rfl
  first | (guard_hyp isW; obtain ⟨i0, hi0, hz0, hz1, hz2⟩ := info_parts Tryz.info290) | (obtain ⟨i0, hi0, hz0, hz1, hz2⟩ := info_parts Tryz.info298)
  have hD := h.dec; obtain ⟨off, c, rfl, _⟩ := h; have hQ := zbo te pe w.heap.size g cur _ _ hD; rw [show zaB (some (kd :: rest)) = (kd.toNat, some rest) from rfl] at hQ; simp only [] at hQ; obtain ⟨n, hn⟩ : ∃ n, (kd :: rest).length = n := ⟨_, rfl⟩; have HBK := zk7 (Blk.new w 229 #[.slice (some ⟨g, off, none⟩) (kd :: rest).length c, .nilIface]); rw [hn] at hQ HBK ⊢
  have hg9 : g < w.heap.size := by
   obtain ⟨cs0, hbd0, hbg0, hlt2⟩ := zb6 hD; have h1 := hbg0.lt; simp at h1; have := Blk.ne_ hbg0 hbd0 (by decide); omega
  have HLN := zk7 hlen; have hrl : rest.length ≤ 1099511627776 := by
   obtain ⟨n', off', c', _, _, hn', hnc, _⟩ := hD.open_; have := hn' _ rfl; simp at this; omega
  obtain ⟨br, hbr⟩ : ∃ b, (zac (some rest)).1 = b := ⟨_, rfl⟩; obtain ⟨T1, hT1⟩ : ∃ b, (zac (some rest)).2 = b := ⟨_, rfl⟩; obtain ⟨bt, hbt⟩ : ∃ b, (zaq T1).1 = b := ⟨_, rfl⟩; obtain ⟨T2, hT2⟩ : ∃ b, (zaq T1).2 = b := ⟨_, rfl⟩; rw [hbr, hT1, hbt] at hG; rw [hT1, hT2] at hG0; have hpair : zaq (zac (some rest)).2 = (bt, T2) := by rw [hT1]; exact Prod.ext hbt hT2
  have HU : Hid (∀ v : Int, ∃ y : Nat, u64 ((br : Int) + u64 v) = y ∧ IntKind.u64.wrap ((br : Int) + IntKind.u64.wrap v) = (y : Int)) := zk7 (fun v => ⟨_, rfl, by rw [IntKind.wrap_u64, IntKind.wrap_u64]; unfold u64; omega⟩); have HNE := zk7 hne; have HBR := zk7 hbr; have HPR := zk7 hpair; have HGD := zk7 hG; have HG0 := zk7 hG0; have HO := zk7 ho
  have HOL : Hid (∀ k, sv.ownBlock = some k → k < w.heap.size) := zk7 (fun k hk => zav ho.1 hk); obtain ⟨a', np, k', rfl⟩ := zae ho.1; have hr1 : ((rest.length : Int) == 0) = false := by have := List.length_pos_iff.2 hne; simp; omega
  have HL : Hid (∀ W, Dec te pe W w.heap.size g cur (some rest) → Calls Tryz.prog 118 #[.pointer (some ⟨w.heap.size, 0, none⟩)] W (fun r w' => r = .returned (.int .i64 rest.length) ∧ W = w')) := zk7 (fun W hW => by
   refine (zeV te pe _ _ _ _ _ hW).mono ?_; rintro r w0 ⟨m, rfl, hm, _, rfl⟩; have hm0 := hm _ rfl; subst hm0
   exact ⟨rfl, rfl⟩)
  have HV1 : Hid (∀ W, Dec te pe W w.heap.size g cur (some rest) → Calls Tryz.prog 162 #[.pointer (some ⟨w.heap.size, 0, none⟩)] W (zap te pe W w.heap.size g cur (.int .u64 br) T1)) := zk7 (fun W hW => by have := zcA te pe _ _ _ _ _ hW; rwa [hbr, hT1] at this)
  have HV2 : Hid (∀ W, Dec te pe W w.heap.size g cur T1 → Calls Tryz.prog 164 #[.pointer (some ⟨w.heap.size, 0, none⟩)] W (zap te pe W w.heap.size g cur (.int .i64 bt) T2)) := zk7 (fun W hW => by have := zhG te pe _ _ _ _ _ hW; rwa [hbt, hT2] at this)
  first | (guard_hyp isW; have hn : ((kd.toNat : Int) = 7 ∨ (kd.toNat : Int) = 9) := by rcases hkd with rfl | rfl <;> decide) | (have hn : ((kd.toNat : Int) = 8 ∨ (kd.toNat : Int) = 10) := by rcases hkd with rfl | rfl <;> decide)
  obtain ⟨kx, hkx⟩ : ∃ kx, kd.toNat = kx := ⟨_, rfl⟩; rw [hkx] at hn hQ; have HKX := zk7 hn; clear hD ho hne hbr hpair hG hG0 hbt hT2 hT1 hkd hkx hn hlen
  first | (guard_hyp isW; go_enter Tryz.func83, Tryz.ntmps83) | (go_enter Tryz.func86, Tryz.ntmps86)
  go_upto_region 3 with (first
   | (go_at_call 160; refine hQ.mono ?_; rintro r w1 ⟨rfl, hDa, hfa⟩; have HDA := zk7 hDa; have HFA := zk7 hfa; clear hDa hfa))
  go_cut [23] (fun s23 wx => s23 = .bool false ∧ wx = w1)
  case first =>
   as_aux_lemma =>
    rcases HKX.out with e | e; all_goals
     obtain rfl : kx = _ := Int.ofNat.inj e; go_wp2_with fail
     go_meet
     exact ⟨rfl, rfl⟩
  case rest =>
   as_aux_lemma =>
    obtain ⟨rfl, rfl⟩ := hcut
    first | (guard_hyp isW; have O1 : OwnHW base wc (.slice a' np k') pre := (HO.out.fr ((zlW (fun _ => False) w).alloc (.cells #[.slice (some ⟨g, off, none⟩) n c, .nilIface] 229)) (fun _ _ _ e => e)).of HBK.out HFA.out) | (have O1 : OwnHF base wc (.slice a' np k') pre := (HO.out.fr ((zlW (fun _ => False) w).alloc (.cells #[.slice (some ⟨g, off, none⟩) n c, .nilIface] 229)) (fun _ _ _ e => e)).of HBK.out HFA.out)
    have F1 : Fr (fun k => some k = (Value.slice a' np k').ownBlock) w wc := ((zlW (fun k => some k = (Value.slice a' np k').ownBlock) w).alloc (.cells #[.slice (some ⟨g, off, none⟩) n c, .nilIface] 229)).trans HFA.out (fun k hk e => by omega); have HO1 := zk7 O1; have HF1 := zk7 F1; obtain ⟨csd, hbd, _, _⟩ := zb6 HDA.out; have HBD := zk7 hbd; clear O1 F1 HFA HBK HO hQ hbd
    go_wp2_with (first
     | (go_at_call 118; refine (HL.out _ HDA.out).mono ?_; rintro r w0 ⟨rfl, rfl⟩)
     | (go_at_call 162; refine (HV1.out _ HDA.out).mono ?_; rintro r w2 ⟨rfl, hDb, hfb⟩; have HDB := zk7 hDb; have HFB := zk7 hfb; clear hDb hfb)
     | (go_at_call 164; refine (HV2.out _ HDB.out).mono ?_; rintro r w3 ⟨rfl, hDc, hfc⟩; have HDC := zk7 hDc; have HFC := zk7 (HFB.out.same hfc); clear hDc hfc))
    first | (guard_hyp isW; have HO3 : Hid (OwnHW base w3 (.slice a' np k') (pre ++ [])) := zk7 (by rw [zlt]; exact HO1.out.of HBD.out HFC.out)) | (have HO3 : Hid (OwnHF base w3 (.slice a' np k') (pre ++ [])) := zk7 (by rw [zlt]; exact HO1.out.of HBD.out HFC.out))
    have HF3 : Hid (Fr (fun k => some k = (Value.slice a' np k').ownBlock) w w3) := zk7 (HF1.out.trans HFC.out (fun k hk e => by omega))
    have HN1 : Hid (∀ k, (Value.slice a' np k').ownBlock = some k → k < w.heap.size) := zk7 (fun k hk => by
     rcases (HO1.out.1).2 with ⟨e, _⟩ | ⟨g', cap, cur', e, _⟩
     ·rw [e] at hk; cases hk
     ·exact HOL.out k hk)
    clear HFB HFC HDB HO1 HF1
    first
     | guard_hyp isW
       go_loopw [2] (fun sv wr => ∃ (st : St) (lo : List (Rhs × Value)) (j : Nat), Hid (Dec te pe wr w.heap.size g cur st) ∧ Hid (OwnHW base wr sv (pre ++ lo)) ∧ Hid (Fr (fun k => some k = (Value.slice a' np k').ownBlock) w wr) ∧ Hid (∀ k, sv.ownBlock = some k → (some k = (Value.slice a' np k').ownBlock ∨ w.heap.size ≤ k)) ∧
        Hid (zaj (zaL br bt) j st (lo.map Prod.fst) = zaj (zaL br bt) rest.length T2 []) ∧ Hid (∀ l, st = some l → l.length ≤ j ∧ lo.length + l.length ≤ rest.length) ∧ lo.length ≤ rest.length + 1 ∧ Hid (Good st)) (fun _ wr => zhE w.heap.size wr)
     | go_loopw [2] (fun sv wr => ∃ (st : St) (lo : List (Rhs × Value)) (j : Nat), Hid (Dec te pe wr w.heap.size g cur st) ∧ Hid (OwnHF base wr sv (pre ++ lo)) ∧ Hid (Fr (fun k => some k = (Value.slice a' np k').ownBlock) w wr) ∧ Hid (∀ k, sv.ownBlock = some k → (some k = (Value.slice a' np k').ownBlock ∨ w.heap.size ≤ k)) ∧
        Hid (zaj (zaM br bt) j st (lo.map Prod.fst) = zaj (zaM br bt) rest.length T2 []) ∧ Hid (∀ l, st = some l → l.length ≤ j ∧ lo.length + l.length ≤ rest.length) ∧ lo.length ≤ rest.length + 1 ∧ Hid (Good st)) (fun _ wr => zhE w.heap.size wr)
    case atStart => exact ⟨T2, [], rest.length, HDC, HO3, HF3, zk7 (fun k hk => .inl hk.symm), zk7 rfl, zk7 (fun l hl => by
     have h : (zac (zac (some rest)).2).2 = T2 := congrArg Prod.snd HPR.out; obtain ⟨l1, h1, e1⟩ := zbC (st := (zac (some rest)).2) (h.trans hl); obtain ⟨l2, h2, e2⟩ := zbC (st := some rest) h1; injection h2 with h2; subst h2
     simp; omega), by simp, HG0⟩
    case round =>
     obtain ⟨st, lo, j, HD, HO, HF, HB, HE, HL9, hal, HGS⟩ := hrel; obtain ⟨n6, off6, c6, p0, p1, hnl, hnc, hd, hg, h2⟩ := HD.out.open_; have hE := zgh te pe _ _ _ _ _ HD.out; obtain ⟨a6, n9, k6, rfl⟩ := zae HO.out.1; rcases st with _ | l
     ·clear hnl p1
      first | (guard_hyp isW; have hres : zaj (zaL br bt) rest.length T2 [] = (lo.map Prod.fst, none) := by rw [← HE.out]; unfold zaj; rcases j with _ | j <;> rfl) | (have hres : zaj (zaM br bt) rest.length T2 [] = (lo.map Prod.fst, none) := by rw [← HE.out]; unfold zaj; rcases j with _ | j <;> rfl)
      first | (guard_hyp isW; have HR := zk7 (zjG HNE.out HBR.out HPR.out hres)) | (have HR := zk7 (zjI HNE.out HBR.out HPR.out hres))
      clear hres; simp only [ziS] at hE; rcases zlu n6 with rfl | hn6
      ·go_wp2_with (go_at_call 119; refine hE.mono ?_; rintro r w7 ⟨rfl, rfl⟩)
       go_ret2
       first | (guard_hyp isW; exact zea HR.out HF.out) | (exact zeb HR.out HF.out)
      ·have hn7 : (0 : Int) < (n6 : Int) := by omega
       go_wp2_with (go_at_call 119; refine hE.mono ?_; rintro r w7 ⟨rfl, rfl⟩)
       go_ret2
       first | (guard_hyp isW; exact zea HR.out HF.out) | (exact zeb HR.out HF.out)
     ·obtain rfl : n6 = l.length := hnl l rfl
      simp only [ziS] at hE; rcases l with _ | ⟨x, r⟩
      ·first | (guard_hyp isW; have hres : zaj (zaL br bt) rest.length T2 [] = (lo.map Prod.fst, some []) := by rw [← HE.out]; unfold zaj; rcases j with _ | j <;> rfl) | (have hres : zaj (zaM br bt) rest.length T2 [] = (lo.map Prod.fst, some []) := by rw [← HE.out]; unfold zaj; rcases j with _ | j <;> rfl)
       first | (guard_hyp isW; have HR := zk7 (zjF HNE.out HBR.out HPR.out hres)) | (have HR := zk7 (zjH HNE.out HBR.out HPR.out hres))
       clear hres hnl p1; simp only [List.length_nil] at p0; go_wp2_with (go_at_call 119; refine hE.mono ?_; rintro r w7 ⟨rfl, rfl⟩)
       go_ret2
       first | (guard_hyp isW; exact zfc HR.out HF.out HO.out) | (exact zfd HR.out HF.out HO.out)
      ·obtain ⟨n7, hn7⟩ : ∃ n7, (x :: r).length = n7 := ⟨_, rfl⟩
       have hn8 : (0 : Int) < (n7 : Int) := by rw [← hn7]; simp
       have hlb := HL9.out _ rfl; have hM := zbm HD.out; rw [hn7] at p0 hlb hM; obtain ⟨hfine, hgood⟩ := HGD.out _ HGS.out; have HN7 := zk7 hn7; obtain ⟨S0, hS0⟩ : ∃ S0 : St, some (x :: r) = S0 := ⟨_, rfl⟩; have hD0 := HD.out; rw [hS0] at hfine hgood hD0; have HS0 := zk7 hS0; have HGN := zk7 hgood; have hV1 := zcO te pe _ _ _ _ _ hD0
       obtain ⟨v0, hv0⟩ : ∃ v, (zaE S0).1 = v := ⟨_, rfl⟩; obtain ⟨S1, hS1⟩ : ∃ S, (zaE S0).2 = S := ⟨_, rfl⟩; obtain ⟨v1, hv1⟩ : ∃ v, (zaE S1).1 = v := ⟨_, rfl⟩; obtain ⟨S2, hS2⟩ : ∃ S, (zaE S1).2 = S := ⟨_, rfl⟩; rw [hv0, hS1] at hV1
       have HV5 : Hid (∀ W, Dec te pe W w.heap.size g cur S1 → Calls Tryz.prog 165 #[.pointer (some ⟨w.heap.size, 0, none⟩)] W (zap te pe W w.heap.size g cur (.int .i64 v1) S2)) := zk7 (fun W hW => by have := zcO te pe _ _ _ _ _ hW; rwa [hv1, hS2] at this)
       first | (guard_hyp isW; unfold zcM at hfine) | (unfold zcN at hfine)
       rw [hS1, hS2] at hfine; have HFI := zk7 hfine; have HSS := zk7 (And.intro hv0 (And.intro hS1 (And.intro hv1 hS2))); obtain ⟨cs8, hbd8, hbg8, _⟩ := zb6 HD.out; have HBD8 := zk7 hbd8; have hlt8 := hbd8.lt; clear hnl p1 hn7 hS0 hgood hfine hv0 hS1 hv1 hS2 hbd8 hbg8 hD0; have hsw := HF.out.size; obtain ⟨y0, hy0, hw0⟩ := HU.out v0; obtain ⟨y1, hy1⟩ : ∃ y, wrap64 (bt + v1) = y := ⟨_, rfl⟩
       have hw1 : IntKind.i64.wrap (bt + v1) = y1 := by rw [← hy1, IntKind.wrap_i64]; unfold wrap64; omega
       have HYY : Hid (_ ∧ _) := zk7 (And.intro hy0 hy1); clear hy0 hy1
       go_upto_region 13 with (first
        | (go_at_call 119; refine hE.mono ?_; rintro r w7 ⟨rfl, rfl⟩)
        | (go_at_call 165; refine (HV5.out _ HDa.out).mono ?_; rintro r w8 ⟨rfl, hDb, hfb⟩; have HDb := zk7 hDb; have HFb := zk7 (HFa.out.same hfb); clear hDb hfb)
        | (go_at_call 165; refine hV1.mono ?_; rintro r w8 ⟨rfl, hDa, hfa⟩; have HDa := zk7 hDa; have HFa := zk7 hfa; clear hDa hfa))
       first | (guard_hyp isW; obtain ⟨Z, hZ⟩ : ∃ Z : Array Value, #[.int .u8 0, .int .i32 0, .float .f64 0, .int .u64 0, .int .u64 0, .float .f64 0, .slice none 0 0, .slice none 0 0, .slice none 0 0, .slice none 0 0, .slice none 0 0] = Z := ⟨_, rfl⟩) | (obtain ⟨Z, hZ⟩ : ∃ Z : Array Value, #[.int .u8 0, .int .i32 0, .float .f64 0, .float .f64 0, .float .f64 0, .float .f64 0, .slice none 0 0, .slice none 0 0, .slice none 0 0, .slice none 0 0, .slice none 0 0] = Z := ⟨_, rfl⟩)
       obtain ⟨Y, hY⟩ : ∃ Y : Array Value, #[.int .u64 y0, .int .i64 y1, .pointer (some ⟨w8.heap.size, 0, none⟩)] = Y := ⟨_, rfl⟩; rw [hZ, hY]
       first | (guard_hyp isW; have FA : Fr (fun _ => False) w8 ((w8.alloc (.cells Z 288)).alloc (.cells Y 290)) := ((zlW (fun _ => False) w8).alloc (.cells Z 288)).alloc (.cells Y 290)) | (have FA : Fr (fun _ => False) w8 ((w8.alloc (.cells Z 296)).alloc (.cells Y 298)) := ((zlW (fun _ => False) w8).alloc (.cells Z 296)).alloc (.cells Y 298))
       first | (guard_hyp isW; have BZ : Blk ((w8.alloc (.cells Z 288)).alloc (.cells Y 290)) w8.heap.size 288 Z := (Blk.new w8 288 Z).alloc (.cells Y 290)) | (have BZ : Blk ((w8.alloc (.cells Z 296)).alloc (.cells Y 298)) w8.heap.size 296 Z := (Blk.new w8 296 Z).alloc (.cells Y 298))
       first | (guard_hyp isW; have BY : Blk ((w8.alloc (.cells Z 288)).alloc (.cells Y 290)) (w8.heap.size + 1) 290 Y := by have h := Blk.new (w8.alloc (.cells Z 288)) 290 Y; simpa using h) | (have BY : Blk ((w8.alloc (.cells Z 296)).alloc (.cells Y 298)) (w8.heap.size + 1) 298 Y := by have h := Blk.new (w8.alloc (.cells Z 296)) 298 Y; simpa using h)
       have hs8 := HFb.out.size; have h2w : 2 < w8.heap.size := by omega
       first | (guard_hyp isW; have hss : ((w8.alloc (.cells Z 288)).alloc (.cells Y 290)).heap.size = w8.heap.size + 2 := by simp) | (have hss : ((w8.alloc (.cells Z 296)).alloc (.cells Y 298)).heap.size = w8.heap.size + 2 := by simp)
       first | (guard_hyp isW; obtain ⟨W9, hW9⟩ : ∃ W, (w8.alloc (.cells Z 288)).alloc (.cells Y 290) = W := ⟨_, rfl⟩) | (obtain ⟨W9, hW9⟩ : ∃ W, (w8.alloc (.cells Z 296)).alloc (.cells Y 298) = W := ⟨_, rfl⟩)
       rw [hW9] at FA BZ BY hss ⊢; have D9 : Dec te pe W9 w.heap.size g cur S2 := HDb.out.fr FA (fun e => e) (fun e => e) (fun e => e)
       first
        | guard_hyp isW
          have hDH : DH te pe w.heap.size g cur w8.heap.size 288 W9 W9 S2 #[.int .u8 0, .int .i32 0, .float .f64 0, .int .u64 0, .int .u64 0, .float .f64 0, .slice none 0 0, .slice none 0 0, .slice none 0 0, .slice none 0 0, .slice none 0 0] [] :=
           ⟨D9, by rw [hZ]; exact BZ, trivial, zlW _ _, by omega, by omega, by omega, by omega, by omega, by omega, by omega⟩
        | have hDH : DH te pe w.heap.size g cur w8.heap.size 296 W9 W9 S2 #[.int .u8 0, .int .i32 0, .float .f64 0, .float .f64 0, .float .f64 0, .float .f64 0, .slice none 0 0, .slice none 0 0, .slice none 0 0, .slice none 0 0, .slice none 0 0] [] :=
           ⟨D9, by rw [hZ]; exact BZ, trivial, zlW _ _, by omega, by omega, by omega, by omega, by omega, by omega, by omega⟩
       first | (guard_hyp isW; have hX := ziF te pe w.heap.size g cur w8.heap.size w8.heap.size W9 S2 (zlj _) hDH HFI.out) | (have hX := ziH te pe w.heap.size g cur w8.heap.size w8.heap.size W9 S2 (zlj _) hDH HFI.out)
       first | (guard_hyp isW; obtain ⟨hh, ehh⟩ : ∃ hh, (zcJ S2).1 = hh := ⟨_, rfl⟩) | (obtain ⟨hh, ehh⟩ : ∃ hh, (zcK S2).1 = hh := ⟨_, rfl⟩)
       first | (guard_hyp isW; obtain ⟨S3, hS3⟩ : ∃ S, (zcJ S2).2 = S := ⟨_, rfl⟩) | (obtain ⟨S3, hS3⟩ : ∃ S, (zcK S2).2 = S := ⟨_, rfl⟩)
       rw [ehh, hS3] at hX
       first | (guard_hyp isW; have O8 : OwnHW base w8 (.slice a6 n9 k6) (pre ++ lo) := HO.out.of HBD8.out HFb.out) | (have O8 : OwnHF base w8 (.slice a6 n9 k6) (pre ++ lo) := HO.out.of HBD8.out HFb.out)
       have F9 : Fr (fun k => some k = (Value.slice a' np k').ownBlock) w W9 := (HF.out.trans HFb.out (fun k hk e => by omega)).trans FA (fun _ _ e => e.elim); have c2 : W9.cell? ⟨w8.heap.size + 1, 2, none⟩ = some (.pointer (some ⟨w8.heap.size, 0, none⟩)) := by rw [BY.cell, ← hY]; rfl
       have HX := zk7 hX; have HO8 := zk7 O8; have HFA9 := zk7 FA; have HF9 := zk7 F9; have HEH := zk7 (And.intro ehh hS3); have HBY := zk7 BY; have HYE := zk7 hY; have HWZ := zk7 hss; clear hX O8 F9 ehh hS3 FA BZ BY hZ hY hW9 D9 hDH hE p0 hV1; have c29 : W9.cell? ⟨w8.heap.size + 1, 2, none⟩ = some (.pointer (some ⟨w8.heap.size, 0, none⟩)) := c2
       first
        | guard_hyp isW
          go_wp2_with (first
           | (go_at_call 174; refine HX.out.mono ?_; rintro r w10 ⟨rfl, hD10, hO10, zh9⟩; have JD := zk7 hD10; have JO := zk7 hO10; have JF := zk7 zh9
              have KY := zk7 (HBY.out.fr zh9 (by omega)); have g0 : w10.cell? ⟨w8.heap.size + 1, 0, none⟩ = some (.int .u64 y0) := by rw [KY.out.cell, ← HYE.out]; rfl
              have g1 : w10.cell? ⟨w8.heap.size + 1, 1, none⟩ = some (.int .i64 y1) := by rw [KY.out.cell, ← HYE.out]; rfl
              have g2 : w10.cell? ⟨w8.heap.size + 1, 2, none⟩ = some (.pointer (some ⟨w8.heap.size, 0, none⟩)) := by rw [KY.out.cell, ← HYE.out]; rfl
              clear hD10 hO10 zh9 c2 c29)
           | (at_builtin; refine Hid.out ?_))
        | go_wp2_with (first
           | (go_at_call 177; refine HX.out.mono ?_; rintro r w10 ⟨rfl, hD10, hO10, zh9⟩; have JD := zk7 hD10; have JO := zk7 hO10; have JF := zk7 zh9
              have KY := zk7 (HBY.out.fr zh9 (by omega)); have g0 : w10.cell? ⟨w8.heap.size + 1, 0, none⟩ = some (.int .u64 y0) := by rw [KY.out.cell, ← HYE.out]; rfl
              have g1 : w10.cell? ⟨w8.heap.size + 1, 1, none⟩ = some (.int .i64 y1) := by rw [KY.out.cell, ← HYE.out]; rfl
              have g2 : w10.cell? ⟨w8.heap.size + 1, 2, none⟩ = some (.pointer (some ⟨w8.heap.size, 0, none⟩)) := by rw [KY.out.cell, ← HYE.out]; rfl
              clear hD10 hO10 zh9 c2 c29)
           | (at_builtin; refine Hid.out ?_))
       have hs10 := JF.out.size; obtain ⟨cs9, hbd9, _, _⟩ := zb6 HDb.out; have F8 : Fr (fun k => k = w.heap.size) w8 w10 := (HFA9.out.mono (fun _ _ e => e.elim)).trans JF.out (fun k hk e => by omega)
       first | (guard_hyp isW; have O10 : OwnHW base w10 (.slice a6 n9 k6) (pre ++ lo) := HO8.out.of hbd9 F8) | (have O10 : OwnHF base w10 (.slice a6 n9 k6) (pre ++ lo) := HO8.out.of hbd9 F8)
       have F10 : Fr (fun k => some k = (Value.slice a' np k').ownBlock) w w10 := HF9.out.trans JF.out (fun k hk e => by omega)
       first | (guard_hyp isW; have J10 : OwnW base w10 hh (.pointer (some ⟨w8.heap.size, 0, none⟩)) := JO.out.mono (by omega)) | (have J10 : OwnF base w10 hh (.pointer (some ⟨w8.heap.size, 0, none⟩)) := JO.out.mono (by omega))
       have HOA := zk7 O10; have HFB := zk7 F10; have HJA := zk7 J10; have hll : (pre ++ lo).length = pre.length + lo.length := zk8; clear F8 O10 F10 J10 hbd9; refine zk7 ?_
       first | (guard_hyp isW; refine zad _ rfl _ _ 177 177 rfl base 290 i0 _ 3 24 Tryz.underlying177 hi0 hz0 hz1 hz2 rfl (by decide) _ (pre ++ lo).length ((pre ++ lo).flatMap rhc) rfl (HOA.out.1.alloc _) _ 1 [.int .u64 y0, .int .i64 y1, .pointer (some ⟨w8.heap.size, 0, none⟩)] rfl (zaF Tryz.underlying177 (Blk.new w10 290 #[.int .u64 y0, .int .i64 y1, .pointer (some ⟨w8.heap.size, 0, none⟩)]) rfl (by simp [Value.oneCell'])) (by unfold maxLen; omega) (by omega) (by simp; omega) ?_) | (refine zad _ rfl _ _ 182 182 rfl base 298 i0 _ 3 24 Tryz.underlying182 hi0 hz0 hz1 hz2 rfl (by decide) _ (pre ++ lo).length ((pre ++ lo).flatMap rhc) rfl (HOA.out.1.alloc _) _ 1 [.int .u64 y0, .int .i64 y1, .pointer (some ⟨w8.heap.size, 0, none⟩)] rfl (zaF Tryz.underlying182 (Blk.new w10 298 #[.int .u64 y0, .int .i64 y1, .pointer (some ⟨w8.heap.size, 0, none⟩)]) rfl (by simp [Value.oneCell'])) (by unfold maxLen; omega) (by omega) (by simp; omega) ?_)
       intro v' w2 hown' hgrow hat
       have HOWN := zk7 hown'; have HGR := zk7 hgrow; have HAT := zk7 hat
       clear hown' hgrow hat hll
       first | (guard_hyp isW; have AL : Fr (fun _ => False) w10 (w10.alloc (.cells #[.int .u64 y0, .int .i64 y1, .pointer (some ⟨w8.heap.size, 0, none⟩)] 290)) := (zlW (fun _ => False) w10).alloc _) | (have AL : Fr (fun _ => False) w10 (w10.alloc (.cells #[.int .u64 y0, .int .i64 y1, .pointer (some ⟨w8.heap.size, 0, none⟩)] 298)) := (zlW (fun _ => False) w10).alloc _)
       first
        | guard_hyp isW
          have newO : OwnHW base w2 v' (pre ++ (lo ++ [((⟨y0, y1, hh⟩ : Rhs), Value.pointer (some ⟨w8.heap.size, 0, none⟩))])) := by
           rw [← zla]; exact OwnHW.push (p := ((⟨y0, y1, hh⟩ : Rhs), Value.pointer (some ⟨w8.heap.size, 0, none⟩))) (HOA.out.fr AL (fun _ _ _ e => e)) (HJA.out.fr AL (fun _ _ _ e => e)) HGR.out HOWN.out
        | have newO : OwnHF base w2 v' (pre ++ (lo ++ [((⟨y0, y1, hh⟩ : Rhs), Value.pointer (some ⟨w8.heap.size, 0, none⟩))])) := by
           rw [← zla]; exact OwnHF.push (p := ((⟨y0, y1, hh⟩ : Rhs), Value.pointer (some ⟨w8.heap.size, 0, none⟩))) (HOA.out.fr AL (fun _ _ _ e => e)) (HJA.out.fr AL (fun _ _ _ e => e)) HGR.out HOWN.out
       have fG : Fr (fun k => some k = (Value.slice a6 n9 k6).ownBlock) w10 w2 := (AL.mono (fun _ _ e => e.elim)).grown HGR.out (fun k hk => .inl hk.symm); have hrow : ∀ k, (Value.slice a6 n9 k6).ownBlock = some k → base ≤ k := fun k hk => (HOA.out.1.lt k hk).1; obtain ⟨cs10, hb10, hg10, _⟩ := zb6 JD.out
       have rD : Dec te pe w2 w.heap.size g cur S3 := JD.out.fr fG (fun e => zak HOA.out.1 hb10 (by decide) e.symm) (fun e => zak HOA.out.1 hg10 (by decide) e.symm) (fun e => by have := hrow _ e.symm; omega)
       have rF : Fr (fun k => some k = (Value.slice a' np k').ownBlock) w w2 := HFB.out.trans fG (fun k hk e => by
        rcases HB.out k e.symm with h | h
        ·exact h
        ·omega)
       have hsG := HGR.out.size; simp at hsG; have rB : ∀ k, v'.ownBlock = some k → (some k = (Value.slice a' np k').ownBlock ∨ w.heap.size ≤ k) := fun k hk => by
        rcases HAT.out with h | h
        ·exact HB.out k (h ▸ hk)
        ·rw [h] at hk; injection hk with hk; simp at hk; exact .inr (by omega)
       obtain ⟨q0, q1, q2, q3⟩ := HSS.out; obtain ⟨q4, q5⟩ := HYY.out; obtain ⟨q6, q7⟩ := HEH.out
       first | (guard_hyp isW; have hst : zaL br bt S0 = (⟨y0, y1, hh⟩, S3) := by unfold zaL; rw [q1, q0, q3, q2, q6, q7, q4, q5]) | (have hst : zaM br bt S0 = (⟨y0, y1, hh⟩, S3) := by unfold zaM; rw [q1, q0, q3, q2, q6, q7, q4, q5])
       first
        | guard_hyp isW
          have HE2 : Hid (∀ j', j = j' + 1 → zaj (zaL br bt) j' S3 ((lo ++ [((⟨y0, y1, hh⟩ : Rhs), Value.pointer (some ⟨w8.heap.size, 0, none⟩))]).map Prod.fst) = zaj (zaL br bt) rest.length T2 []) := zk7 (by
           rintro j' rfl; have h := HE.out; have h2 : zaj (zaL br bt) (j' + 1) (some (x :: r)) (lo.map Prod.fst) = zaj (zaL br bt) j' (zaL br bt (some (x :: r))).2 (lo.map Prod.fst ++ [(zaL br bt (some (x :: r))).1]) := rfl; rw [h2, HS0.out, hst] at h; rw [zlx]
           exact h)
        | have HE2 : Hid (∀ j', j = j' + 1 → zaj (zaM br bt) j' S3 ((lo ++ [((⟨y0, y1, hh⟩ : Rhs), Value.pointer (some ⟨w8.heap.size, 0, none⟩))]).map Prod.fst) = zaj (zaM br bt) rest.length T2 []) := zk7 (by
           rintro j' rfl; have h := HE.out; have h2 : zaj (zaM br bt) (j' + 1) (some (x :: r)) (lo.map Prod.fst) = zaj (zaM br bt) j' (zaM br bt (some (x :: r))).2 (lo.map Prod.fst ++ [(zaM br bt (some (x :: r))).1]) := rfl; rw [h2, HS0.out, hst] at h; rw [zlx]
           exact h)
       have hlen8 : Hid (∀ l, S3 = some l → l.length < n7) := zk7 (fun l hl => by
        have h := HLN.out br bt (x :: r) l (by rw [HS0.out, hst]; exact hl)
        rw [HN7.out] at h; exact h)
       have HGP : Hid (Good S3) := zk7 (by have h := HGN.out; rw [hst] at h; exact h); have rM : zhE w.heap.size w2 < n7 + 1 := by
        rcases S3 with _ | l9
        ·rw [zc5 rD]; omega
        ·rw [zbm rD]; have := hlen8.out l9 rfl; omega
       have RD := zk7 rD; have RO := zk7 newO; have RF := zk7 rF; have RB := zk7 rB; clear rD newO rF rB fG hrow hb10 hg10 q0 q1 q2 q3 q4 q5 q6 q7 hst AL g0 g1 g2; go_wp2; go_roundw
       case rel =>
        obtain ⟨j', rfl⟩ : ∃ j', j = j' + 1 := ⟨j - 1, by have := HN7.out; simp at this; omega⟩; refine ⟨S3, lo ++ [((⟨y0, y1, hh⟩ : Rhs), Value.pointer (some ⟨w8.heap.size, 0, none⟩))], j', RD, RO, RF, RB, zk7 (HE2.out j' rfl), zk7 (fun l hl => ?_), by simp; omega, HGP⟩; have := hlen8.out l hl; rw [zk8, zlo]; omega
       case measure => rw [hM]; exact rM
theorem decHsW_go : type_of% (zdi.1 trivial) := zdi.1 trivial
theorem decHsF_go : type_of% (zdi.2 trivial) := zdi.2 trivial
theorem gN_len {α : Type} {f : St → α × St} (hf : ∀ st l, (f st).2 = some l → ∃ l0, st = some l0 ∧ l.length < l0.length) : ∀ (n : Nat) (st : St) (l : List UInt8), (gN f n st).2 = some l → ∃ l0, st = some l0 ∧ l.length ≤ l0.length
 | 0, st, l, h => ⟨l, h, zlj _⟩
 | n + 1, st, l, h => by
   obtain ⟨l1, h1, e1⟩ := gN_len hf n (f st).2 l h; obtain ⟨l0, h0, e0⟩ := hf st l1 h1; exact ⟨l0, h0, by omega⟩
theorem zcC {α : Type} {f : St → α × St} (hf : ∀ st l, (f st).2 = some l → ∃ l0, st = some l0 ∧ l.length < l0.length) (st : St) (l : List UInt8) (h : (zeR f st).2 = some l) : ∃ l0, st = some l0 ∧ l.length < l0.length := by
 obtain ⟨l1, h1, e1⟩ := gN_len hf _ _ l h; obtain ⟨l0, h0, e0⟩ := zb4 h1; exact ⟨l0, h0, by omega⟩
theorem zdH (st : St) (l : List UInt8) (h : (zaE st).2 = some l) : ∃ l0, st = some l0 ∧ l.length < l0.length := zb4 h
theorem zhs (st : St) (l : List UInt8) (h : (gSp st).2 = some l) : ∃ l0, st = some l0 ∧ l.length < l0.length := by
 obtain ⟨l1, h1, e1⟩ := zb4 (st := (zaE st).2) h; obtain ⟨l0, h0, e0⟩ := zdH st l1 h1; exact ⟨l0, h0, by omega⟩
theorem zgR {st : St} {l : List UInt8} (h : (zaB st).2 = some l) : ∃ l0, st = some l0 ∧ l.length < l0.length := by
 rcases st with _ | _ | ⟨b, r⟩
 ·cases h
 ·cases h
 ·have e : some r = some l := h
  injection e with e; subst e; exact ⟨_, rfl, by simp⟩
theorem zfA (st : St) (l : List UInt8) (h : (zac st).2 = some l) : ∃ l0, st = some l0 ∧ l.length < l0.length := zbC h
theorem zgP (st : St) (l : List UInt8) (h : (zcJ st).2 = some l) : ∃ l0, st = some l0 ∧ l.length < l0.length := by
 have h10 : ∃ l1, hW10 st = some l1 ∧ l.length ≤ l1.length := by
  have h2 : (hWc st).2 = some l := h; unfold hWc at h2; by_cases hc : ziR st = -53
  ·rw [if_pos hc] at h2
   obtain ⟨l1, e1, e2⟩ := zcC zfA _ _ h2; exact ⟨l1, e1, by omega⟩
  ·rw [if_neg hc] at h2
   exact ⟨l, h2, zlj _⟩
 obtain ⟨l10, h10, e10⟩ := h10; obtain ⟨l9, h9, e9⟩ := zcC zdH _ _ (show (zeR _ (hW9 st)).2 = some l10 from h10); obtain ⟨l8, h8, e8⟩ := zcC zdH _ _ (show (zeR _ (hW8 st)).2 = some l9 from h9); obtain ⟨l7, h7, e7⟩ := zcC zhs _ _ (show (zeR _ (hW7 st)).2 = some l8 from h8); obtain ⟨l6, h6, e6⟩ := zcC zhs _ _ (show (zeR _ (hW6 st)).2 = some l7 from h7)
 obtain ⟨l5, h5, e5⟩ := zbC (show (zac (hW5 st)).2 = some l6 from h6); obtain ⟨l4, h4, e4⟩ := zb4 (show _ = some l5 from h5); obtain ⟨l3, h3, e3⟩ := zb4 (show _ = some l4 from h4); obtain ⟨l2, h2, e2⟩ := zbC (show (zac (hS2 st)).2 = some l3 from h3); obtain ⟨l1, h1, e1⟩ := zb4 (show _ = some l2 from h2); obtain ⟨l0, h0, e0⟩ := zgR (show (zaB st).2 = some l1 from h1)
 exact ⟨l0, h0, by omega⟩
theorem zjq (br : Nat) (bt : Int) (l0 l : List UInt8) (h : (zaL br bt (some l0)).2 = some l) : l.length < l0.length := by
 obtain ⟨l1, h1, e1⟩ := zgP _ _ h; obtain ⟨l2, h2, e2⟩ := zdH _ _ h1; obtain ⟨l3, h3, e3⟩ := zdH _ _ h2; injection h3 with h3; subst h3; omega
theorem ziB (te : TypeId) (pe : Value) (dv : Value) (g base : Nat) (cur : Array Value) (pre : List (Rhs × Value)) (kd : UInt8) (hkd : kd = 7 ∨ kd = 9) (v sv : Value) (w : World) (h : Rec te pe w g cur [kd] v) (ho : OwnHW base w sv pre) :
 Calls Tryz.prog 83 #[dv, v, sv] w (zdO (fun k => some k = sv.ownBlock) w base pre (zaY [])) := by
 have hD := h.dec; obtain ⟨off, c, rfl, _⟩ := h; have hQ := zbo te pe w.heap.size g cur _ _ hD; rw [show zaB (some [kd]) = (kd.toNat, some []) from rfl] at hQ; simp only [] at hQ; obtain ⟨n, hn⟩ : ∃ n, ([kd] : List UInt8).length = n := ⟨_, rfl⟩; have HBK := zk7 (Blk.new w 229 #[.slice (some ⟨g, off, none⟩) ([kd] : List UInt8).length c, .nilIface]); rw [hn] at hQ HBK ⊢
 have HO := zk7 ho; obtain ⟨a', np, k', rfl⟩ := zae ho.1
 have HL : Hid (∀ W, Dec te pe W w.heap.size g cur (some []) → Calls Tryz.prog 118 #[.pointer (some ⟨w.heap.size, 0, none⟩)] W (fun r w' => r = .returned (.int .i64 0) ∧ W = w')) := zk7 (fun W hW => by
  refine (zeV te pe _ _ _ _ _ hW).mono ?_; rintro r w0 ⟨m, rfl, hm, _, rfl⟩; have hm0 := hm _ rfl; subst hm0
  exact ⟨rfl, rfl⟩)
 have hn : ((kd.toNat : Int) = 7 ∨ (kd.toNat : Int) = 9) := by rcases hkd with rfl | rfl <;> decide
 obtain ⟨kx, hkx⟩ : ∃ kx, kd.toNat = kx := ⟨_, rfl⟩; rw [hkx] at hn hQ; have HKX := zk7 hn; clear hD ho hkd hkx hn; go_enter Tryz.func83, Tryz.ntmps83
 go_upto_region 3 with (first
  | (go_at_call 160; refine hQ.mono ?_; rintro r w1 ⟨rfl, hDa, hfa⟩; have HDA := zk7 hDa; have HFA := zk7 hfa; clear hDa hfa))
 go_cut [23] (fun s23 wx => s23 = .bool false ∧ wx = w1)
 case first =>
  as_aux_lemma =>
   rcases HKX.out with e | e; all_goals
    obtain rfl : kx = _ := Int.ofNat.inj e; go_wp2_with fail
    go_meet
    exact ⟨rfl, rfl⟩
 case rest =>
  as_aux_lemma =>
   obtain ⟨rfl, rfl⟩ := hcut; have O1 : OwnHW base wc (.slice a' np k') pre := (HO.out.fr ((zlW (fun _ => False) w).alloc (.cells #[.slice (some ⟨g, off, none⟩) n c, .nilIface] 229)) (fun _ _ _ e => e)).of HBK.out HFA.out
   have F1 : Fr (fun k => some k = (Value.slice a' np k').ownBlock) w wc := ((zlW (fun k => some k = (Value.slice a' np k').ownBlock) w).alloc (.cells #[.slice (some ⟨g, off, none⟩) n c, .nilIface] 229)).trans HFA.out (fun k hk e => by omega); have HO1 := zk7 O1; have HF1 := zk7 F1; clear O1 F1 hQ; go_wp2_with (go_at_call 118; refine (HL.out _ HDA.out).mono ?_; rintro r w0 ⟨rfl, rfl⟩)
   go_ret2; exact zfc (lo := []) rfl HF1.out (by rw [zlt]; exact HO1.out)
theorem zkV (te : TypeId) (pe : Value) (dv : Value) (g base : Nat) (cur : Array Value) (pre : List (Rhs × Value)) (xs : List UInt8) (v sv : Value) (w : World) (h : Rec te pe w g cur xs v) (ho : OwnHW base w sv pre) (hb : 2 < base ∧ base ≤ w.heap.size) (hpl : pre.length ≤ 1073741824)
 (Good : St → Prop) (hG : ∀ kd rest, xs = kd :: rest → (kd = 7 ∨ kd = 9) → ∀ l, Good (some l) → zcM (some l) ∧ Good (zaL (zac (some rest)).1 (zaq (zac (some rest)).2).1 (some l)).2) (hG0 : ∀ kd rest, xs = kd :: rest → (kd = 7 ∨ kd = 9) → rest ≠ [] → Good (zaq (zac (some rest)).2).2) :
 Calls Tryz.prog 83 #[dv, v, sv] w (zdO (fun k => some k = sv.ownBlock) w base pre (zcs xs)) := by
 by_cases hx : (zaB (some xs)).1 = 7 ∨ (zaB (some xs)).1 = 9
 ·rcases xs with _ | ⟨kd, rest⟩
  ·exact absurd hx (by decide)
  ·have hkd : kd = 7 ∨ kd = 9 := by
    rcases hx with h1 | h1
    ·exact .inl (UInt8.toNat_inj.1 (show kd.toNat = (7 : UInt8).toNat from h1))
    ·exact .inr (UInt8.toNat_inj.1 (show kd.toNat = (9 : UInt8).toNat from h1))
   have hd : zcs (kd :: rest) = zaY rest := by show (if kd = 7 ∨ kd = 9 then zaY rest else none) = _; rw [if_pos hkd]
   rw [hd]; by_cases hr : rest = []
   ·subst hr
    exact ziB te pe dv g base cur pre kd hkd v sv w h ho
   ·exact decHsW_go te pe dv g base cur pre kd hkd rest hr v sv w h ho hb hpl Good (hG kd rest rfl hkd) (hG0 kd rest rfl hkd hr) zjq
 ·have hd : zcs xs = none := by
   rcases xs with _ | ⟨kd, r⟩
   ·rfl
   ·have : ¬ (kd = 7 ∨ kd = 9) := by rintro (rfl | rfl) <;> exact hx (by first | exact .inl rfl | exact .inr rfl)
    show (if kd = 7 ∨ kd = 9 then zaY r else none) = _; rw [if_neg this]
  rw [hd]; have hD := h.dec; obtain ⟨off, c, rfl, _⟩ := h; have hQ := zbo te pe w.heap.size g cur _ _ hD; have hx2 : (((zaB (some xs)).1 : Int) != 7) = true := by simp; omega
  have hx3 : (((zaB (some xs)).1 : Int) != 9) = true := by simp; omega
  obtain ⟨a', n', k', rfl⟩ := zae ho.1; clear hx hd hG hG0 hD ho; generalize (zaB (some xs)).1 = x at hQ hx2 hx3; generalize (zaB (some xs)).2 = st at hQ; go_enter Tryz.func83, Tryz.ntmps83; go_wp2_with (first | (go_at_call 160; refine hQ.mono ?_; rintro r w1 ⟨rfl, hD1, hf1⟩) | (go_at_call 161; refine (zbL _ _).mono ?_; rintro r w2 ⟨t, a, rfl, hf2⟩))
  go_ret2; have f1 := (((zlW (fun k => some k = (Value.slice a' n' k').ownBlock) w).alloc (.cells #[.slice (some ⟨g, off, none⟩) xs.length c, .nilIface] 229)).trans hf1 (fun k hk e => by omega)); exact zea rfl (f1.trans hf2 (fun _ _ e => e.elim))
theorem zgQ (st : St) (l : List UInt8) (h : (zcK st).2 = some l) : ∃ l0, st = some l0 ∧ l.length < l0.length := by
 have h10 : ∃ l1, zh9 st = some l1 ∧ l.length ≤ l1.length := by
  have h2 : (hFc st).2 = some l := h; unfold hFc at h2; by_cases hc : ziR st = -53
  ·rw [if_pos hc] at h2
   obtain ⟨l1, e1, e2⟩ := zcC zfA _ _ h2; exact ⟨l1, e1, by omega⟩
  ·rw [if_neg hc] at h2
   exact ⟨l, h2, zlj _⟩
 obtain ⟨l10, h10, e10⟩ := h10; obtain ⟨l9, h9, e9⟩ := zcC zfA _ _ (show (zeR _ (hF9 st)).2 = some l10 from h10); obtain ⟨l8, h8, e8⟩ := zcC zfA _ _ (show (zeR _ (hF8 st)).2 = some l9 from h9); obtain ⟨l7, h7, e7⟩ := zcC zhs _ _ (show (zeR _ (hF7 st)).2 = some l8 from h8); obtain ⟨l6, h6, e6⟩ := zcC zhs _ _ (show (zeR _ (hF6 st)).2 = some l7 from h7)
 obtain ⟨l5, h5, e5⟩ := zbC (show (zac (hF5 st)).2 = some l6 from h6); obtain ⟨l4, h4, e4⟩ := zbC (show _ = some l5 from h5); obtain ⟨l3, h3, e3⟩ := zbC (show _ = some l4 from h4); obtain ⟨l2, h2, e2⟩ := zbC (show (zac (hS2 st)).2 = some l3 from h3); obtain ⟨l1, h1, e1⟩ := zb4 (show _ = some l2 from h2); obtain ⟨l0, h0, e0⟩ := zgR (show (zaB st).2 = some l1 from h1)
 exact ⟨l0, h0, by omega⟩
theorem zjr (br : Nat) (bt : Int) (l0 l : List UInt8) (h : (zaM br bt (some l0)).2 = some l) : l.length < l0.length := by
 obtain ⟨l1, h1, e1⟩ := zgQ _ _ h; obtain ⟨l2, h2, e2⟩ := zdH _ _ h1; obtain ⟨l3, h3, e3⟩ := zdH _ _ h2; injection h3 with h3; subst h3; omega
theorem ziD (te : TypeId) (pe : Value) (dv : Value) (g base : Nat) (cur : Array Value) (pre : List (Rhs × Value)) (kd : UInt8) (hkd : kd = 8 ∨ kd = 10) (v sv : Value) (w : World) (h : Rec te pe w g cur [kd] v) (ho : OwnHF base w sv pre) :
 Calls Tryz.prog 86 #[dv, v, sv] w (zdP (fun k => some k = sv.ownBlock) w base pre (zaZ [])) := by
 have hD := h.dec; obtain ⟨off, c, rfl, _⟩ := h; have hQ := zbo te pe w.heap.size g cur _ _ hD; rw [show zaB (some [kd]) = (kd.toNat, some []) from rfl] at hQ; simp only [] at hQ; obtain ⟨n, hn⟩ : ∃ n, ([kd] : List UInt8).length = n := ⟨_, rfl⟩; have HBK := zk7 (Blk.new w 229 #[.slice (some ⟨g, off, none⟩) ([kd] : List UInt8).length c, .nilIface]); rw [hn] at hQ HBK ⊢
 have HO := zk7 ho; obtain ⟨a', np, k', rfl⟩ := zae ho.1
 have HL : Hid (∀ W, Dec te pe W w.heap.size g cur (some []) → Calls Tryz.prog 118 #[.pointer (some ⟨w.heap.size, 0, none⟩)] W (fun r w' => r = .returned (.int .i64 0) ∧ W = w')) := zk7 (fun W hW => by
  refine (zeV te pe _ _ _ _ _ hW).mono ?_; rintro r w0 ⟨m, rfl, hm, _, rfl⟩; have hm0 := hm _ rfl; subst hm0
  exact ⟨rfl, rfl⟩)
 have hn : ((kd.toNat : Int) = 8 ∨ (kd.toNat : Int) = 10) := by rcases hkd with rfl | rfl <;> decide
 obtain ⟨kx, hkx⟩ : ∃ kx, kd.toNat = kx := ⟨_, rfl⟩; rw [hkx] at hn hQ; have HKX := zk7 hn; clear hD ho hkd hkx hn; go_enter Tryz.func86, Tryz.ntmps86
 go_upto_region 3 with (first
  | (go_at_call 160; refine hQ.mono ?_; rintro r w1 ⟨rfl, hDa, hfa⟩; have HDA := zk7 hDa; have HFA := zk7 hfa; clear hDa hfa))
 go_cut [23] (fun s23 wx => s23 = .bool false ∧ wx = w1)
 case first =>
  as_aux_lemma =>
   rcases HKX.out with e | e; all_goals
    obtain rfl : kx = _ := Int.ofNat.inj e; go_wp2_with fail
    go_meet
    exact ⟨rfl, rfl⟩
 case rest =>
  as_aux_lemma =>
   obtain ⟨rfl, rfl⟩ := hcut; have O1 : OwnHF base wc (.slice a' np k') pre := (HO.out.fr ((zlW (fun _ => False) w).alloc (.cells #[.slice (some ⟨g, off, none⟩) n c, .nilIface] 229)) (fun _ _ _ e => e)).of HBK.out HFA.out
   have F1 : Fr (fun k => some k = (Value.slice a' np k').ownBlock) w wc := ((zlW (fun k => some k = (Value.slice a' np k').ownBlock) w).alloc (.cells #[.slice (some ⟨g, off, none⟩) n c, .nilIface] 229)).trans HFA.out (fun k hk e => by omega); have HO1 := zk7 O1; have HF1 := zk7 F1; clear O1 F1 hQ; go_wp2_with (go_at_call 118; refine (HL.out _ HDA.out).mono ?_; rintro r w0 ⟨rfl, rfl⟩)
   go_ret2; exact zfd (lo := []) rfl HF1.out (by rw [zlt]; exact HO1.out)
theorem zkW (te : TypeId) (pe : Value) (dv : Value) (g base : Nat) (cur : Array Value) (pre : List (Rhs × Value)) (xs : List UInt8) (v sv : Value) (w : World) (h : Rec te pe w g cur xs v) (ho : OwnHF base w sv pre) (hb : 2 < base ∧ base ≤ w.heap.size) (hpl : pre.length ≤ 1073741824)
 (Good : St → Prop) (hG : ∀ kd rest, xs = kd :: rest → (kd = 8 ∨ kd = 10) → ∀ l, Good (some l) → zcN (some l) ∧ Good (zaM (zac (some rest)).1 (zaq (zac (some rest)).2).1 (some l)).2) (hG0 : ∀ kd rest, xs = kd :: rest → (kd = 8 ∨ kd = 10) → rest ≠ [] → Good (zaq (zac (some rest)).2).2) :
 Calls Tryz.prog 86 #[dv, v, sv] w (zdP (fun k => some k = sv.ownBlock) w base pre (zct xs)) := by
 by_cases hx : (zaB (some xs)).1 = 8 ∨ (zaB (some xs)).1 = 10
 ·rcases xs with _ | ⟨kd, rest⟩
  ·exact absurd hx (by decide)
  ·have hkd : kd = 8 ∨ kd = 10 := by
    rcases hx with h1 | h1
    ·exact .inl (UInt8.toNat_inj.1 (show kd.toNat = (8 : UInt8).toNat from h1))
    ·exact .inr (UInt8.toNat_inj.1 (show kd.toNat = (10 : UInt8).toNat from h1))
   have hd : zct (kd :: rest) = zaZ rest := by show (if kd = 8 ∨ kd = 10 then zaZ rest else none) = _; rw [if_pos hkd]
   rw [hd]; by_cases hr : rest = []
   ·subst hr
    exact ziD te pe dv g base cur pre kd hkd v sv w h ho
   ·exact decHsF_go te pe dv g base cur pre kd hkd rest hr v sv w h ho hb hpl Good (hG kd rest rfl hkd) (hG0 kd rest rfl hkd hr) zjr
 ·have hd : zct xs = none := by
   rcases xs with _ | ⟨kd, r⟩
   ·rfl
   ·have : ¬ (kd = 8 ∨ kd = 10) := by rintro (rfl | rfl) <;> exact hx (by first | exact .inl rfl | exact .inr rfl)
    show (if kd = 8 ∨ kd = 10 then zaZ r else none) = _; rw [if_neg this]
  rw [hd]; have hD := h.dec; obtain ⟨off, c, rfl, _⟩ := h; have hQ := zbo te pe w.heap.size g cur _ _ hD; have hx2 : (((zaB (some xs)).1 : Int) != 8) = true := by simp; omega
  have hx3 : (((zaB (some xs)).1 : Int) != 10) = true := by simp; omega
  obtain ⟨a', n', k', rfl⟩ := zae ho.1; clear hx hd hG hG0 hD ho; generalize (zaB (some xs)).1 = x at hQ hx2 hx3; generalize (zaB (some xs)).2 = st at hQ; go_enter Tryz.func86, Tryz.ntmps86; go_wp2_with (first | (go_at_call 160; refine hQ.mono ?_; rintro r w1 ⟨rfl, hD1, hf1⟩) | (go_at_call 161; refine (zbL _ _).mono ?_; rintro r w2 ⟨t, a, rfl, hf2⟩))
  go_ret2; have f1 := (((zlW (fun k => some k = (Value.slice a' n' k').ownBlock) w).alloc (.cells #[.slice (some ⟨g, off, none⟩) xs.length c, .nilIface] 229)).trans hf1 (fun k hk e => by omega)); exact zeb rfl (f1.trans hf2 (fun _ _ e => e.elim))
def zaU (s : Rhs) : Bool := s.h.schema == -53
theorem Put.grown {w w1 w2 : World} {e : Nat} {o : Option Nat} {xs ys : List UInt8} {base te z n : Nat} {r : Value} {cs : List Value} (R : Put w e o xs ys w1) (ho : w1.ownsRow base te z r n cs) (hb : w.heap.size ≤ base) (hg : w1.grownBy w2 r.ownBlock) (h1 : te ≠ 224) (h2 : 5 ≠ te) : Put w e o xs ys w2 := by
 obtain ⟨o1, he, hf, hoo⟩ := R; refine ⟨o1, ?_, hf.grown hg (fun k hk => .inr (zlQ hb (ho.lt k hk).1)), hoo⟩; have hf2 : Fr (fun k => some k = r.ownBlock) w1 w2 := (zlW (fun k => some k = r.ownBlock) w1).grown hg (fun k hk => .inl hk.symm); obtain ⟨v, cs', hb', hs, h0, hown, hv⟩ := he
 exact ⟨v, cs', hb'.fr hf2 (fun h => zak ho hb' h1 h.symm), hs, h0, zah hown hf2 (fun g hg h => zbU hown ho h2 g hg h.symm), hv⟩
theorem zdu {w w' : World} {base e size n : Nat} {v : Value} {xs : List Value} (h : w.ownsRow base e size v n xs) (K : Keeps w w') (h1 : e ≠ 224) (h2 : e ≠ 5) : w'.ownsRow base e size v n xs :=
 ⟨h.1, h.2.imp id fun ⟨g, cap, cur, a1, a2, a3, a4⟩ => ⟨g, cap, cur, a1, a2, K g e cur h1 h2 a3, a4⟩⟩
theorem zdL {α : Type} (q : α → Bool) (l : List α) (k : Nat) (x : α) (hx : l[k]? = some x) (hq : q x = true) : (l.take (k + 1)).filter q = (l.take k).filter q ++ [x] := by
 rw [zlI, hx, List.filter_append]; simp [hq]
theorem ze1 {α : Type} (q : α → Bool) (l : List α) (k : Nat) (x : α) (hx : l[k]? = some x) (hq : q x = false) : (l.take (k + 1)).filter q = (l.take k).filter q := by
 rw [zlI, hx, List.filter_append]; simp [hq]
theorem zeT {α : Type} (q : α → Bool) (l : List α) (k : Nat) : ((l.take k).filter q).length ≤ k := zlQ (List.length_filter_le _ _) (List.length_take_le _ _)
theorem usesW_any (P : Nat → Prop) (w : World) (h : Hst) (v : Value) (hr : RdW P w h v) : Calls Tryz.prog 188 #[v] w fun r w' => r = .returned (.bool (h.schema == -53)) ∧ w = w' := by
 obtain ⟨g, s, rfl, _, hb, _⟩ := hr; have c1 : w.cell? ⟨g, 1, none⟩ = some (.int .i32 h.schema) := hb.cell 1; go_enter Tryz.func188, Tryz.ntmps188; go_wp2_with (go_at_call 233; refine (zbW _ _).mono ?_; rintro r w' ⟨rfl, rfl⟩)
 go_ret; exact ⟨rfl, rfl⟩
def EncHWEnds (w : World) (o : Option Nat) (ys : List UInt8) (lc : List (Rhs × Value)) (r : Ending) (w' : World) : Prop :=
 ∃ v' cv, r = .returned (.tuple #[v', cv]) ∧ w'.ownsRow 0 5 1 v' ys.length (bc ys) ∧ w'.ownsRow w.heap.size 290 3 cv lc.length (lc.flatMap rhc) ∧ Fr (fun k => some k = o) w w' ∧ (v'.ownBlock = o ∨ ∃ k, v'.ownBlock = some k ∧ w.heap.size ≤ k)
theorem usesF_any (P : Nat → Prop) (w : World) (h : Hst) (v : Value) (hr : RdF P w h v) : Calls Tryz.prog 191 #[v] w fun r w' => r = .returned (.bool (h.schema == -53)) ∧ w = w' := by
 obtain ⟨g, s, rfl, _, hb, _⟩ := hr; have c1 : w.cell? ⟨g, 1, none⟩ = some (.int .i32 h.schema) := hb.cell 1; go_enter Tryz.func191, Tryz.ntmps191; go_wp2_with (go_at_call 233; refine (zbW _ _).mono ?_; rintro r w' ⟨rfl, rfl⟩)
 go_ret; exact ⟨rfl, rfl⟩
def EncHFEnds (w : World) (o : Option Nat) (ys : List UInt8) (lc : List (Rhs × Value)) (r : Ending) (w' : World) : Prop :=
 ∃ v' cv, r = .returned (.tuple #[v', cv]) ∧ w'.ownsRow 0 5 1 v' ys.length (bc ys) ∧ w'.ownsRow w.heap.size 298 3 cv lc.length (lc.flatMap rhc) ∧ Fr (fun k => some k = o) w w' ∧ (v'.ownBlock = o ∨ ∃ k, v'.ownBlock = some k ∧ w.heap.size ≤ k)
theorem zcQ : (∀ (_ : True) (ep : Value) (sv : Value) (P : Nat → Prop) (v : Value) (xs : List UInt8) (lo : List (Rhs × Value)) (w : World) (h : RdHW P w sv lo) (hown : w.ownsRow 0 5 1 v xs.length (bc xs)) (hl : xs.length ≤ 536870912)
 (hsl : lo.length ≤ 12) (hwf : ∀ p ∈ lo, p.1.ok) (hP : ∀ g, P g → g < w.heap.size ∧ some g ≠ v.ownBlock) (hsome : lo = [] ∨ ∃ p ∈ lo, zaU p.1 = false),
 Calls Tryz.prog 97 #[ep, sv, v] w (EncHWEnds w v.ownBlock (xs ++ za3 7 (fun s => !zaU s) (lo.map Prod.fst)) (lo.filter fun p => zaU p.1))) ∧ (∀ (_ : True) (ep : Value) (sv : Value) (P : Nat → Prop) (v : Value) (xs : List UInt8) (lo : List (Rhs × Value)) (w : World) (h : RdHF P w sv lo) (hown : w.ownsRow 0 5 1 v xs.length (bc xs)) (hl : xs.length ≤ 536870912)
 (hsl : lo.length ≤ 12) (hwf : ∀ p ∈ lo, p.1.ok) (hP : ∀ g, P g → g < w.heap.size ∧ some g ≠ v.ownBlock) (hsome : lo = [] ∨ ∃ p ∈ lo, zaU p.1 = false),
 Calls Tryz.prog 98 #[ep, sv, v] w (EncHFEnds w v.ownBlock (xs ++ za4 8 (fun s => !zaU s) (lo.map Prod.fst)) (lo.filter fun p => zaU p.1))) := by
 refine ⟨fun isW ep sv P v xs lo w h hown hl hsl hwf hP hsome => ?_, fun _ ep sv P v xs lo w h hown hl hsl hwf hP hsome => ?_⟩; all_goals
  obtain ⟨h, hin⟩ := h; obtain ⟨A, c, rfl⟩ := h.shape; obtain ⟨a', n', k', rfl⟩ := zae hown; have hE := Enc.made (z := .int .u8 0) hown _ rfl
  first | (guard_hyp isW; have hQ := zcn w.heap.size _ xs 7 _ hE (by omega)) | (have hQ := zcn w.heap.size _ xs 8 _ hE (by omega))
  first | (guard_hyp isW; have e2 : ((7 : UInt8).toNat : Int) = 7 := rfl) | (have e2 : ((8 : UInt8).toNat : Int) = 8 := rfl)
  rw [e2] at hQ; have hFW : Fr (fun k => some k = (Value.slice a' n' k').ownBlock) w (w.alloc (.cells #[.slice a' n' k', .int .u8 0, .int .u8 0, .int .u8 0, .int .u8 0, .int .u8 0, .int .u8 0, .int .u8 0, .int .u8 0, .int .u8 0, .int .u8 0] 224)) := (zlW _ w).alloc _; rcases lo with _ | ⟨f, r⟩
  ·clear hE hFW e2 h hin hwf hsome
   first | (guard_hyp isW; go_enter Tryz.func97, Tryz.ntmps97) | (go_enter Tryz.func98, Tryz.ntmps98)
   go_wp2_with (first | (go_at_call 180; refine hQ.mono ?_; rintro r1 w1 ⟨rfl, R⟩; obtain ⟨o1, hE1, hf1, ho1⟩ := R; have hG := zdY _ _ _ _ hE1) | (go_at_call 116; refine hG.mono ?_; rintro r w2 ⟨v2, rfl, rfl, hown2, hv2⟩))
   go_ret2
   first | (guard_hyp isW; refine ⟨v2, _, rfl, by simpa [za3] using hown2, zll _ _ _ _, zdf (o1 := o1) hf1, ?_⟩) | (refine ⟨v2, _, rfl, by simpa [za4] using hown2, zll _ _ _ _, zdf (o1 := o1) hf1, ?_⟩)
   rw [hv2]; rcases ho1 with h | ⟨k, h, hk⟩
   ·exact .inl h
   ·exact .inr ⟨k, h, by simp at hk; omega⟩
  ·obtain ⟨n, hn⟩ : ∃ n, (f :: r).length = n := ⟨_, rfl⟩
   rw [hn] at h hsl ⊢; obtain ⟨LO, hLO⟩ : ∃ LO, f :: r = LO := ⟨_, rfl⟩; have hsome2 : ∃ p ∈ LO, zaU p.1 = false := by rw [← hLO]; exact hsome.resolve_left (by simp)
   have HSO := zk7 hsome2; clear hsome hsome2; have hn1 : (0 : Int) < (n : Int) := by rw [← hn]; simp
   have hn0 : ((n : Int) == 0) = false := by simp; omega
   have hfm : f ∈ LO := by rw [← hLO]; exact List.mem_cons_self ..
   have hf0 : LO[0]? = some f := by rw [← hLO]; rfl
   have hmap : (f :: r).map Prod.fst = f.1 :: r.map Prod.fst := rfl; have hwf2 : ∀ p ∈ LO, p.1.ok := by rw [← hLO]; exact hwf
   first | (guard_hyp isW; have hin2 : ∀ p ∈ LO, RdW P w p.1.h p.2 := by rw [← hLO]; exact hin) | (have hin2 : ∀ p ∈ LO, RdF P w p.1.h p.2 := by rw [← hLO]; exact hin)
   rw [hLO] at h hn
   first
    | guard_hyp isW
      have henc : za3 7 (fun s => !zaU s) ((f :: r).map Prod.fst) = [7] ++ (zar f.1 ++ (LO.filter fun p => !zaU p.1).flatMap (fun p => zaW f.1 p.1)) := by
       rw [← hLO]; have e1 : ∀ l : List (Rhs × Value), ((l.map Prod.fst).filter fun s => !zaU s) = (l.filter fun p => !zaU p.1).map Prod.fst := fun l => by rw [List.filter_map]; rfl
       rw [hmap, za3, ← hmap, e1, List.flatMap_map]
    | have henc : za4 8 (fun s => !zaU s) ((f :: r).map Prod.fst) = [8] ++ (zar f.1 ++ (LO.filter fun p => !zaU p.1).flatMap (fun p => zaX f.1 p.1)) := by
       rw [← hLO]; have e1 : ∀ l : List (Rhs × Value), ((l.map Prod.fst).filter fun s => !zaU s) = (l.filter fun p => !zaU p.1).map Prod.fst := fun l => by rw [List.filter_map]; rfl
       rw [hmap, za4, ← hmap, e1, List.flatMap_map]
   rw [henc, hLO]; obtain ⟨hrf, htf0, htf1, _⟩ := hwf2 f hfm; obtain ⟨g, off, rfl, hPg, hcell⟩ := h.at (by omega); have hg := hP g hPg; obtain ⟨f1, fv⟩ := f; simp only [] at hrf htf0 htf1; have c0 : w.cell? ⟨g, off, none⟩ = some (.int .u64 f1.ref) := hcell 0 _ (by exact zeA rhc (fun _ => rfl) LO 0 (f1, fv) hf0 0 (by omega))
   have c1 : w.cell? ⟨g, off + 1, none⟩ = some (.int .i64 f1.t) := hcell 1 _ (by exact zeA rhc (fun _ => rfl) LO 0 (f1, fv) hf0 1 (by omega)); have c2 : w.cell? ⟨g, off + 2, none⟩ = some fv := hcell 2 _ (by exact zeA rhc (fun _ => rfl) LO 0 (f1, fv) hf0 2 (by omega)); obtain ⟨gf, _, hfv, _⟩ := hin2 _ hfm; simp only [] at hfv; subst hfv; have HN := zk7 hn; have HP := zk7 hP
   have HE := zk7 hE; have HFW := zk7 hFW; have HCELL := zk7 hcell; have HIN := zk7 hin2; have HWF := zk7 hwf2; clear hE hFW e2 h hin hwf hwf2 hin2 hn hmap henc hcell hLO hfm hf0 hP; generalize hWB : w.alloc (.cells #[.slice a' n' k', .int .u8 0, .int .u8 0, .int .u8 0, .int .u8 0, .int .u8 0, .int .u8 0, .int .u8 0, .int .u8 0, .int .u8 0, .int .u8 0] 224) = WB at hQ HE HFW
   have hB : w.heap.size < WB.heap.size := by rw [← hWB]; simp
   rw [← hWB] at hQ; have HWB := zk7 hWB; clear hWB
   first | (guard_hyp isW; go_enter Tryz.func97, Tryz.ntmps97) | (go_enter Tryz.func98, Tryz.ntmps98)
   go_wp2_with (go_at_call 180; refine hQ.mono ?_; rintro r1 w1 ⟨rfl, R⟩; refine Hid.out ?_)
   rw [HWB.out] at R; clear hQ HWB
   have HFT := zk7 (fun (W : World) (hf : Fr (fun k => k = w.heap.size ∨ some k = (Value.slice a' n' k').ownBlock) WB W) => HFW.out.trans hf (fun k hk e => by
    rcases e with e | e
    ·omega
    ·exact e))
   have hF1 := HFT.out w1 R.fr; have d0 : w1.cell? ⟨g, off, none⟩ = some (.int .u64 f1.ref) := by rw [hF1.cell (p := ⟨g, off, none⟩) hg.1 hg.2]; exact c0
   have d1 : w1.cell? ⟨g, off + 1, none⟩ = some (.int .i64 f1.t) := by rw [hF1.cell (p := ⟨g, off + 1, none⟩) hg.1 hg.2]; exact c1
   have d2 : w1.cell? ⟨g, off + 2, none⟩ = some (.pointer (some ⟨gf, 0, none⟩)) := by rw [hF1.cell (p := ⟨g, off + 2, none⟩) hg.1 hg.2]; exact c2
   first | (guard_hyp isW; have HR1 := zk7 (R.alloc (.cells #[.int .u64 f1.ref, .int .i64 f1.t, .pointer (some ⟨gf, 0, none⟩)] 290))) | (have HR1 := zk7 (R.alloc (.cells #[.int .u64 f1.ref, .int .i64 f1.t, .pointer (some ⟨gf, 0, none⟩)] 298)))
   first | (guard_hyp isW; have HBF := zk7 (Blk.new w1 290 #[.int .u64 f1.ref, .int .i64 f1.t, .pointer (some ⟨gf, 0, none⟩)])) | (have HBF := zk7 (Blk.new w1 298 #[.int .u64 f1.ref, .int .i64 f1.t, .pointer (some ⟨gf, 0, none⟩)]))
   have hsz1 := R.fr.size; clear R hF1 c0 c1 c2; refine zk7 ?_
   go_wp2_with (first
    | (go_at_call 181; refine (zag HR1.out (f := 181) (args := #[.pointer (some ⟨w.heap.size, 0, none⟩), .int .u64 f1.ref]) (zs := Lib.beBytes 8 f1.ref) (fun o2 he => zco _ o2 _ f1.ref hrf _ he (by rw [zk8, zlo]; omega))).mono ?_; rintro r2 w2 ⟨rfl, R2, K2⟩
       have hB2 := K2.out _ _ _ (by decide) (by decide) HBF.out; have b1 : w2.cell? ⟨w1.heap.size, 1, none⟩ = some (.int .i64 f1.t) := hB2.cell 1; have HB2 := zk7 hB2; have HR2 := zk7 R2
       clear hB2 R2 K2 HR1 d0 d1 d2)
    | (go_at_call 182; refine (zag HR2.out (f := 182) (args := #[.pointer (some ⟨w.heap.size, 0, none⟩), .int .i64 f1.t]) (zs := Lib.beBytes 8 (u64 f1.t)) (fun o2 he => zde _ o2 _ f1.t _ he (by simp [zlh]; omega))).mono ?_; rintro r3 w3 ⟨rfl, R3, K3⟩
       have HB3 := zk7 (K3.out _ _ _ (by decide) (by decide) HB2.out); have HR3 := zk7 R3
       clear R3 K3 HR2 b1 HB2))
   clear HBF; have hsz3 : w1.heap.size + 1 ≤ w3.heap.size := HB3.out.lt; generalize hbf : w1.heap.size = bf at HB3 hsz1 hsz3; clear hbf
   first | (guard_hyp isW; obtain ⟨i0, hi0, hz0, hz1, hz2⟩ := info_parts Tryz.info290) | (obtain ⟨i0, hi0, hz0, hz1, hz2⟩ := info_parts Tryz.info298)
   first | (guard_hyp isW; go_loopw [9, 31] (fun cv i wr => ∃ (k m : Nat), k ≤ n ∧ i = .int .i64 k ∧ m ≤ k ∧ Hid (((LO.take k).filter fun p => zaU p.1).length = m) ∧ Hid (wr.ownsRow (bf + 1) 290 3 cv m (((LO.take k).filter fun p => zaU p.1).flatMap rhc)) ∧ Hid (Put WB w.heap.size (Value.slice a' n' k').ownBlock xs ([7] ++ zar f1 ++ ((LO.take k).filter fun p => !zaU p.1).flatMap (fun p => zaW f1 p.1)) wr) ∧ Hid (Blk wr bf 290 #[.int .u64 f1.ref, .int .i64 f1.t, .pointer (some ⟨gf, 0, none⟩)])) (fun _ i _ => n - (intOf i).toNat)) | (go_loopw [9, 31] (fun cv i wr => ∃ (k m : Nat), k ≤ n ∧ i = .int .i64 k ∧ m ≤ k ∧ Hid (((LO.take k).filter fun p => zaU p.1).length = m) ∧ Hid (wr.ownsRow (bf + 1) 298 3 cv m (((LO.take k).filter fun p => zaU p.1).flatMap rhc)) ∧ Hid (Put WB w.heap.size (Value.slice a' n' k').ownBlock xs ([8] ++ zar f1 ++ ((LO.take k).filter fun p => !zaU p.1).flatMap (fun p => zaX f1 p.1)) wr) ∧ Hid (Blk wr bf 298 #[.int .u64 f1.ref, .int .i64 f1.t, .pointer (some ⟨gf, 0, none⟩)])) (fun _ i _ => n - (intOf i).toNat))
   case atStart => exact ⟨0, 0, zli _, rfl, zlj _, zk7 rfl, zk7 (zll _ _ _ _), zk7 (by simpa [zar] using HR3.out), HB3⟩
   case round =>
    obtain ⟨k, m, hk, rfl, hmk, HM, HO, HR, HBk⟩ := hrel; by_cases hlt : k < n
    ·obtain ⟨x, hx⟩ : ∃ x, LO[k]? = some x := ⟨_, zk9 (by rw [HN.out]; exact hlt)⟩
     have hxm := zlf hx; have hFk := HFT.out wr HR.out.fr; have cc : ∀ j, j < 3 → ∀ u, (rhc x)[j]? = some u → wr.cell? ⟨g, off + (k * 3 + j), none⟩ = some u := fun j hj u hu => by
      rw [hFk.cell (p := ⟨g, off + (k * 3 + j), none⟩) hg.1 hg.2]; exact HCELL.out (k * 3 + j) u (by rw [zeA rhc (fun _ => rfl) LO k x hx j hj]; exact hu)
     have d0 : wr.cell? ⟨g, off + k * 3, none⟩ = some (.int .u64 x.1.ref) := cc 0 (by omega) _ rfl; have d1 : wr.cell? ⟨g, off + k * 3 + 1, none⟩ = some (.int .i64 x.1.t) := cc 1 (by omega) _ rfl; have d2 : wr.cell? ⟨g, off + k * 3 + 2, none⟩ = some x.2 := cc 2 (by omega) _ rfl; have hrd := HIN.out x hxm; have hxo := HWF.out x hxm; obtain ⟨x1, xv⟩ := x; simp only [] at d0 d1 d2 hrd hxo; have hrd2 := hrd
     obtain ⟨gx, _, rfl, _⟩ := hrd2; have b0 : wr.cell? ⟨bf, 0, none⟩ = some (.int .u64 f1.ref) := HBk.out.cell 0; have b1 : wr.cell? ⟨bf, 1, none⟩ = some (.int .i64 f1.t) := HBk.out.cell 1; have hbl := HBk.out.lt
     first
      | guard_hyp isW
        have hyl : ([(7 : UInt8)] ++ zar f1 ++ ((LO.take k).filter fun p => !zaU p.1).flatMap (fun p => zaW f1 p.1)).length ≤ 17 + k * 5020 := by
         have h0 := zby (fun p : Rhs × Value => zaW f1 p.1) 5020 ((LO.take k).filter fun p => !zaU p.1) (fun p hp => ze3 f1 p.1 (HWF.out p (List.mem_of_mem_take (zlM.1 hp).1))); have h8 := zeT (fun p : Rhs × Value => !zaU p.1) LO k; have h9 := zlk 5020 h8; have h1 := zlQ h0 h9
         have h4 : (zar f1).length = 16 := by simp [zar, zlh]
         rw [zk8, zk8, h4, zlo]; omega
      | have hyl : ([(8 : UInt8)] ++ zar f1 ++ ((LO.take k).filter fun p => !zaU p.1).flatMap (fun p => zaX f1 p.1)).length ≤ 17 + k * 5020 := by
         have h0 := zby (fun p : Rhs × Value => zaX f1 p.1) 5020 ((LO.take k).filter fun p => !zaU p.1) (fun p hp => ze4 f1 p.1 (HWF.out p (List.mem_of_mem_take (zlM.1 hp).1))); have h8 := zeT (fun p : Rhs × Value => !zaU p.1) LO k; have h9 := zlk 5020 h8; have h1 := zlQ h0 h9
         have h4 : (zar f1).length = 16 := by simp [zar, zlh]
         rw [zk8, zk8, h4, zlo]; omega
     have hk9 : k * 5020 ≤ 12 * 5020 := zlk _ (by omega)
     first | (guard_hyp isW; obtain ⟨Y, hY⟩ : ∃ Y, [(7 : UInt8)] ++ zar f1 ++ ((LO.take k).filter fun p => !zaU p.1).flatMap (fun p => zaW f1 p.1) = Y := ⟨_, rfl⟩) | (obtain ⟨Y, hY⟩ : ∃ Y, [(8 : UInt8)] ++ zar f1 ++ ((LO.take k).filter fun p => !zaU p.1).flatMap (fun p => zaX f1 p.1) = Y := ⟨_, rfl⟩)
     rw [hY] at hyl HR; have HY := zk7 hY; have HX := zk7 hx
     first | (guard_hyp isW; have HBX := zk7 (Blk.new wr 290 #[.int .u64 x1.ref, .int .i64 x1.t, .pointer (some ⟨gx, 0, none⟩)])) | (have HBX := zk7 (Blk.new wr 298 #[.int .u64 x1.ref, .int .i64 x1.t, .pointer (some ⟨gx, 0, none⟩)]))
     first | (guard_hyp isW; have HRA := zk7 (HR.out.alloc (.cells #[.int .u64 x1.ref, .int .i64 x1.t, .pointer (some ⟨gx, 0, none⟩)] 290))) | (have HRA := zk7 (HR.out.alloc (.cells #[.int .u64 x1.ref, .int .i64 x1.t, .pointer (some ⟨gx, 0, none⟩)] 298)))
     first | (guard_hyp isW; have HBK := zk7 (HBk.out.alloc (.cells #[.int .u64 x1.ref, .int .i64 x1.t, .pointer (some ⟨gx, 0, none⟩)] 290))) | (have HBK := zk7 (HBk.out.alloc (.cells #[.int .u64 x1.ref, .int .i64 x1.t, .pointer (some ⟨gx, 0, none⟩)] 298)))
     have hyl2 : Y.length ≤ 60300 := by omega
     first | (guard_hyp isW; have HU := zk7 (usesW_any P _ x1.h _ ((hrd.fr hFk (fun g hg => (HP.out g hg).2)).fr ((zlW (fun _ => False) wr).alloc (.cells #[.int .u64 x1.ref, .int .i64 x1.t, .pointer (some ⟨gx, 0, none⟩)] 290)) (fun _ _ e => e)))) | (have HU := zk7 (usesF_any P _ x1.h _ ((hrd.fr hFk (fun g hg => (HP.out g hg).2)).fr ((zlW (fun _ => False) wr).alloc (.cells #[.int .u64 x1.ref, .int .i64 x1.t, .pointer (some ⟨gx, 0, none⟩)] 298)) (fun _ _ e => e))))
     obtain ⟨ca, cm, ck, rfl⟩ := zae HO.out; rcases hcu : zaU x1 with _ | _
     ·obtain ⟨Q1, hQ1⟩ : ∃ Q, zzu (zeC f1 x1) = Q := ⟨_, rfl⟩
      obtain ⟨Q2, hQ2⟩ : ∃ Q, zzu (hT f1 x1) = Q := ⟨_, rfl⟩; have hl1 := zbs (zeC f1 x1) (zaf _).1 (zaf _).2; have hl2 := zbs (hT f1 x1) (zaf _).1 (zaf _).2; rw [hQ1] at hl1; rw [hQ2] at hl2; have HQ1 := zk7 hQ1; have HQ2 := zk7 hQ2; have HRD := zk7 hrd; have hU := HU.out; rw [show (x1.h.schema == -53) = false from hcu] at hU
      first | (guard_hyp isW; have HO1 := zk7 (HO.out.alloc (.cells #[.int .u64 x1.ref, .int .i64 x1.t, .pointer (some ⟨gx, 0, none⟩)] 290))) | (have HO1 := zk7 (HO.out.alloc (.cells #[.int .u64 x1.ref, .int .i64 x1.t, .pointer (some ⟨gx, 0, none⟩)] 298)))
      have HXO := zk7 hxo; clear hx hFk cc hY hyl hk9 hQ1 hQ2 hxm hrd hxo HR HBk
      first
       | guard_hyp isW
         go_wp2_with (first
          | (go_at_call 188; refine hU.mono ?_; rintro r w' ⟨rfl, rfl⟩)
          | (go_at_call 183; refine (zag HRA.out (f := 183) (args := #[.pointer (some ⟨w.heap.size, 0, none⟩), .int .i64 (zeC f1 x1)]) (zs := Q1) (fun o2 he => by have := zay _ o2 _ (zeC f1 x1) (zaf _).1 (zaf _).2 _ he (by rw [zk8]; omega); rw [show Lib.uvarint (Lib.zigzag (zeC f1 x1)) = Q1 from HQ1.out] at this; exact this)).mono ?_; rintro rA wA ⟨rfl, R1, K1⟩
             have hB1 := K1.out _ _ _ (by decide) (by decide) HBX.out; have hB2 := K1.out _ _ _ (by decide) (by decide) HBK.out; have p1 : wA.cell? ⟨wr.heap.size, 1, none⟩ = some (.int .i64 x1.t) := hB1.cell 1; have q1 : wA.cell? ⟨bf, 1, none⟩ = some (.int .i64 f1.t) := hB2.cell 1; have HBX1 := zk7 hB1; have HBK1 := zk7 hB2; have HO2 := zk7 (zdu HO1.out K1.out (by decide) (by decide))
             have HR2 := zk7 R1; have hv2 : (Y ++ Q1).length ≤ 60310 := by rw [zk8]; omega
             clear R1 K1 hB1 hB2 HRA b0 b1 HBX HBK hU)
          | (go_at_call 183; refine (zag HR2.out (f := 183) (args := #[.pointer (some ⟨w.heap.size, 0, none⟩), .int .i64 (hT f1 x1)]) (zs := Q2) (fun o2 he => by have := zay _ o2 _ (hT f1 x1) (zaf _).1 (zaf _).2 _ he (by rw [zk8]; omega); rw [show Lib.uvarint (Lib.zigzag (hT f1 x1)) = Q2 from HQ2.out] at this; exact this)).mono ?_; rintro rB wB ⟨rfl, R1, K1⟩
             have hB1 := K1.out _ _ _ (by decide) (by decide) HBX1.out; have HBK2 := zk7 (K1.out _ _ _ (by decide) (by decide) HBK1.out); have HO3 := zk7 (zdu HO2.out K1.out (by decide) (by decide)); have p2 : wB.cell? ⟨wr.heap.size, 2, none⟩ = some (.pointer (some ⟨gx, 0, none⟩)) := hB1.cell 2; have HR3 := zk7 R1; have hv3 : (Y ++ Q1 ++ Q2).length ≤ 60320 := by rw [zk8]; omega
             have HH := zk7 (HRD.out.fr (HFT.out wB R1.fr) (fun g hg => (HP.out g hg).2))
             clear R1 K1 hB1 p1 q1 HR2 hv2 HBX1 HBK1)
          | (go_at_call 189; refine (zeP HR3.out (f := 189) (args := #[.pointer (some ⟨w.heap.size, 0, none⟩), .pointer (some ⟨gx, 0, none⟩)]) (zs := zaS x1.h) (fun o2 he ho2 => zff P _ o2 _ x1.h _ _ HH.out he (by rw [zk8]; omega) HXO.out.2.2.2 (fun g hg => by
              have h1 := HP.out g hg; rintro (rfl | h2)
              ·omega
              ·rcases ho2 with h3 | ⟨k, h3, hk⟩
               ·exact h1.2 (h2.trans h3)
               ·rw [h3] at h2; injection h2 with h2; omega))).mono ?_; rintro rD wD ⟨rfl, R1, K1⟩
             have HR8 := zk7 R1; have HBK8 := zk7 (K1.out _ _ _ (by decide) (by decide) HBK2.out); have HO8 := zk7 (zdu HO3.out K1.out (by decide) (by decide))
             clear R1 K1 HR3 HBK2))
       | go_wp2_with (first
          | (go_at_call 191; refine hU.mono ?_; rintro r w' ⟨rfl, rfl⟩)
          | (go_at_call 183; refine (zag HRA.out (f := 183) (args := #[.pointer (some ⟨w.heap.size, 0, none⟩), .int .i64 (zeC f1 x1)]) (zs := Q1) (fun o2 he => by have := zay _ o2 _ (zeC f1 x1) (zaf _).1 (zaf _).2 _ he (by rw [zk8]; omega); rw [show Lib.uvarint (Lib.zigzag (zeC f1 x1)) = Q1 from HQ1.out] at this; exact this)).mono ?_; rintro rA wA ⟨rfl, R1, K1⟩
             have hB1 := K1.out _ _ _ (by decide) (by decide) HBX.out; have hB2 := K1.out _ _ _ (by decide) (by decide) HBK.out; have p1 : wA.cell? ⟨wr.heap.size, 1, none⟩ = some (.int .i64 x1.t) := hB1.cell 1; have q1 : wA.cell? ⟨bf, 1, none⟩ = some (.int .i64 f1.t) := hB2.cell 1; have HBX1 := zk7 hB1; have HBK1 := zk7 hB2; have HO2 := zk7 (zdu HO1.out K1.out (by decide) (by decide))
             have HR2 := zk7 R1; have hv2 : (Y ++ Q1).length ≤ 60310 := by rw [zk8]; omega
             clear R1 K1 hB1 hB2 HRA b0 b1 HBX HBK hU)
          | (go_at_call 183; refine (zag HR2.out (f := 183) (args := #[.pointer (some ⟨w.heap.size, 0, none⟩), .int .i64 (hT f1 x1)]) (zs := Q2) (fun o2 he => by have := zay _ o2 _ (hT f1 x1) (zaf _).1 (zaf _).2 _ he (by rw [zk8]; omega); rw [show Lib.uvarint (Lib.zigzag (hT f1 x1)) = Q2 from HQ2.out] at this; exact this)).mono ?_; rintro rB wB ⟨rfl, R1, K1⟩
             have hB1 := K1.out _ _ _ (by decide) (by decide) HBX1.out; have HBK2 := zk7 (K1.out _ _ _ (by decide) (by decide) HBK1.out); have HO3 := zk7 (zdu HO2.out K1.out (by decide) (by decide)); have p2 : wB.cell? ⟨wr.heap.size, 2, none⟩ = some (.pointer (some ⟨gx, 0, none⟩)) := hB1.cell 2; have HR3 := zk7 R1; have hv3 : (Y ++ Q1 ++ Q2).length ≤ 60320 := by rw [zk8]; omega
             have HH := zk7 (HRD.out.fr (HFT.out wB R1.fr) (fun g hg => (HP.out g hg).2))
             clear R1 K1 hB1 p1 q1 HR2 hv2 HBX1 HBK1)
          | (go_at_call 192; refine (zeP HR3.out (f := 192) (args := #[.pointer (some ⟨w.heap.size, 0, none⟩), .pointer (some ⟨gx, 0, none⟩)]) (zs := zaT x1.h) (fun o2 he ho2 => zfg P _ o2 _ x1.h _ _ HH.out he (by rw [zk8]; omega) HXO.out.2.2.2 (fun g hg => by
              have h1 := HP.out g hg; rintro (rfl | h2)
              ·omega
              ·rcases ho2 with h3 | ⟨k, h3, hk⟩
               ·exact h1.2 (h2.trans h3)
               ·rw [h3] at h2; injection h2 with h2; omega))).mono ?_; rintro rD wD ⟨rfl, R1, K1⟩
             have HR8 := zk7 R1; have HBK8 := zk7 (K1.out _ _ _ (by decide) (by decide) HBK2.out); have HO8 := zk7 (zdu HO3.out K1.out (by decide) (by decide))
             clear R1 K1 HR3 HBK2))
      first
       | guard_hyp isW
         have HRE : Hid (Put WB w.heap.size (Value.slice a' n' k').ownBlock xs ([7] ++ zar f1 ++ ((LO.take (k + 1)).filter fun p => !zaU p.1).flatMap (fun p => zaW f1 p.1)) wD) := zk7 (by
          rw [zdL (fun p : Rhs × Value => !zaU p.1) LO k _ HX.out (by simp [hcu]), zlG, ← zla, HY.out, zlm, List.flatMap_nil, zlt]; unfold zaW; rw [HQ1.out, HQ2.out]
          simpa [zla] using HR8.out)
       | have HRE : Hid (Put WB w.heap.size (Value.slice a' n' k').ownBlock xs ([8] ++ zar f1 ++ ((LO.take (k + 1)).filter fun p => !zaU p.1).flatMap (fun p => zaX f1 p.1)) wD) := zk7 (by
          rw [zdL (fun p : Rhs × Value => !zaU p.1) LO k _ HX.out (by simp [hcu]), zlG, ← zla, HY.out, zlm, List.flatMap_nil, zlt]; unfold zaX; rw [HQ1.out, HQ2.out]
          simpa [zla] using HR8.out)
      clear HR8; go_wp2; go_roundw
      case rel => exact ⟨k + 1, m, by omega, by go_num, by omega, zk7 (by rw [ze1 (fun p : Rhs × Value => zaU p.1) LO k _ HX.out hcu]; exact HM.out), zk7 (by rw [ze1 (fun p : Rhs × Value => zaU p.1) LO k _ HX.out hcu]; exact HO8.out), HRE, HBK8⟩
      case measure => simp [intOf]; omega
     ·have hU := HU.out
      rw [show (x1.h.schema == -53) = true from hcu] at hU; have hrow := HO.out.lt; have hcs : ∀ j, j < 3 → ∀ u, (rhc (x1, Value.pointer (some ⟨gx, 0, none⟩)))[j]? = some u → True := fun _ _ _ _ => trivial; have hsw : WB.heap.size ≤ wr.heap.size := HR.out.fr.size; clear hx hFk cc hY hyl hk9 hxm hrd hxo b0 b1 hcs
      go_wp2_with (first
       | (go_at_call 188; refine hU.mono ?_; rintro r w' ⟨rfl, rfl⟩)
       | (go_at_call 191; refine hU.mono ?_; rintro r w' ⟨rfl, rfl⟩)
       | (at_builtin; refine Hid.out ?_))
      refine zk7 ?_
      first | (guard_hyp isW; refine zad _ rfl _ _ 177 177 rfl (bf + 1) 290 i0 _ 3 24 Tryz.underlying177 hi0 hz0 hz1 hz2 rfl (by decide) _ m (((LO.take k).filter fun p => zaU p.1).flatMap rhc) rfl ((HO.out.alloc _).alloc _) _ 1 [.int .u64 x1.ref, .int .i64 x1.t, .pointer (some ⟨gx, 0, none⟩)] rfl (zaF Tryz.underlying177 (za6 wr _ 290 #[.int .u64 x1.ref, .int .i64 x1.t, .pointer (some ⟨gx, 0, none⟩)]) rfl (by simp [Value.oneCell'])) (by unfold maxLen; omega) (by omega) (by simp; omega) ?_) | (refine zad _ rfl _ _ 182 182 rfl (bf + 1) 298 i0 _ 3 24 Tryz.underlying182 hi0 hz0 hz1 hz2 rfl (by decide) _ m (((LO.take k).filter fun p => zaU p.1).flatMap rhc) rfl ((HO.out.alloc _).alloc _) _ 1 [.int .u64 x1.ref, .int .i64 x1.t, .pointer (some ⟨gx, 0, none⟩)] rfl (zaF Tryz.underlying182 (za6 wr _ 298 #[.int .u64 x1.ref, .int .i64 x1.t, .pointer (some ⟨gx, 0, none⟩)]) rfl (by simp [Value.oneCell'])) (by unfold maxLen; omega) (by omega) (by simp; omega) ?_)
      intro v' w2 hown' hgrow hat
      first
       | guard_hyp isW
         have HRE : Hid (Put WB w.heap.size (Value.slice a' n' k').ownBlock xs ([7] ++ zar f1 ++ ((LO.take (k + 1)).filter fun p => !zaU p.1).flatMap (fun p => zaW f1 p.1)) w2) := zk7 (by
          rw [ze1 (fun p : Rhs × Value => !zaU p.1) LO k _ HX.out (by simp [hcu]), HY.out]
          exact ((HR.out.alloc _).alloc _).grown ((HO.out.alloc _).alloc _) (by omega) hgrow (by decide) (by decide))
       | have HRE : Hid (Put WB w.heap.size (Value.slice a' n' k').ownBlock xs ([8] ++ zar f1 ++ ((LO.take (k + 1)).filter fun p => !zaU p.1).flatMap (fun p => zaX f1 p.1)) w2) := zk7 (by
          rw [ze1 (fun p : Rhs × Value => !zaU p.1) LO k _ HX.out (by simp [hcu]), HY.out]
          exact ((HR.out.alloc _).alloc _).grown ((HO.out.alloc _).alloc _) (by omega) hgrow (by decide) (by decide))
      have HB8 := zk7 (((HBk.out.alloc _).alloc _).grown hgrow (fun e => by have := (hrow bf e.symm).1; omega)); have HO8 := zk7 hown'
      have HM8 : Hid (((LO.take (k + 1)).filter fun p => zaU p.1).length = m + 1) := zk7 (by
       rw [zdL (fun p : Rhs × Value => zaU p.1) LO k _ HX.out hcu, zk8, HM.out]; rfl)
      first
       | guard_hyp isW
         have HN8 : Hid (w2.ownsRow (bf + 1) 290 3 v' (m + 1) (((LO.take (k + 1)).filter fun p => zaU p.1).flatMap rhc)) := zk7 (by
          rw [zdL (fun p : Rhs × Value => zaU p.1) LO k _ HX.out hcu, zlG]
          simpa [rhc] using HO8.out)
       | have HN8 : Hid (w2.ownsRow (bf + 1) 298 3 v' (m + 1) (((LO.take (k + 1)).filter fun p => zaU p.1).flatMap rhc)) := zk7 (by
          rw [zdL (fun p : Rhs × Value => zaU p.1) LO k _ HX.out hcu, zlG]
          simpa [rhc] using HO8.out)
      clear hown' hgrow hat hrow HO8; go_wp2; go_roundw
      case rel => exact ⟨k + 1, m + 1, by omega, by go_num, by omega, HM8, HN8, HRE, HB8⟩
      case measure => simp [intOf]; omega
    ·obtain rfl : k = n := by omega
     obtain ⟨oZ, hEZ, hfZ, hoZ⟩ := HR.out; have hmk2 : m < k := by
      have h1 := HM.out; have h2 : LO.take k = LO := zlg (by rw [HN.out]; exact zlj _); rw [h2] at h1; have h3 : (LO.filter fun p => zaU p.1).length < LO.length := by
       obtain ⟨p, hp, hq⟩ := HSO.out; exact List.length_filter_lt_length_iff_exists.2 ⟨p, hp, by simp [hq]⟩
      rw [HN.out] at h3; omega
     have hnk : ((k : Int) == (m : Int)) = false := by simp; omega
     obtain ⟨ca, ck, rfl⟩ := zaa HO.out; have hG := zdY _ _ _ _ hEZ; have HZ := zk7 hfZ; clear hEZ hfZ; go_wp2_with (go_at_call 116; refine hG.mono ?_; rintro rr w9 ⟨v2, rfl, rfl, hown2, hv2⟩)
     go_ret2; have e1 : LO.take k = LO := zlg (by rw [HN.out]; exact zlj _); have ho := HO.out; have hm1 := HM.out; rw [e1] at ho hm1; refine ⟨v2, _, rfl, ?_, by rw [hm1]; exact zai ho (by omega), HFT.out _ HZ.out, ?_⟩
     ·rw [e1] at hown2
      simpa [zla] using hown2
     ·rw [hv2]
      rcases hoZ with h | ⟨k2, h, hk2⟩
      ·exact .inl h
      ·exact .inr ⟨k2, h, by omega⟩
theorem zkR : type_of% (zcQ.1 trivial) := zcQ.1 trivial
theorem zkS : type_of% (zcQ.2 trivial) := zcQ.2 trivial
theorem gN_enc {α : Type} (f : St → α × St) (e : α → List UInt8) : ∀ (l : List α), (∀ x ∈ l, ∀ r, f (some (e x ++ r)) = (x, some r)) → ∀ r, gN f l.length (some (l.flatMap e ++ r)) = (l, some r)
 | [], _, r => rfl
 | x :: l, h, r => by
   have h1 : f (some ((x :: l).flatMap e ++ r)) = (x, some (l.flatMap e ++ r)) := by
    rw [zlm, zla]; exact h x (List.mem_cons_self ..) _
   show ((f (some ((x :: l).flatMap e ++ r))).1 :: (gN f l.length (f (some ((x :: l).flatMap e ++ r))).2).1, (gN f l.length (f (some ((x :: l).flatMap e ++ r))).2).2) = (x :: l, some r); rw [h1, gN_enc f e l (fun y hy => h y (List.mem_cons_of_mem _ hy)) r]
theorem zcD {α : Type} (f : St → α × St) (e : α → List UInt8) (l : List α) (hl : l.length ≤ 60) (h : ∀ x ∈ l, ∀ r, f (some (e x ++ r)) = (x, some r)) (r : List UInt8) :
 (gUv (some (Lib.uvarint l.length ++ l.flatMap e ++ r))).1 = l.length ∧ zeR f (some (Lib.uvarint l.length ++ l.flatMap e ++ r)) = (l, some r) := by
 have h1 := zer l.length (by omega) (l.flatMap e ++ r); rw [← zla] at h1; unfold zeR; rw [h1]; exact ⟨rfl, gN_enc f e l h r⟩
theorem zfC {n : Int} (h0 : -2147483648 ≤ n) (h1 : n ≤ 2147483647) : wrap32 n = n := by unfold wrap32; omega
theorem zht (p : Int × Nat) (h : -2147483648 ≤ p.1 ∧ p.1 ≤ 2147483647 ∧ p.2 < 4294967296) (r : List UInt8) : gSp (some (zaJ p ++ r)) = (p, some r) := by
 have h1 := zcg p.1 (by omega) (by omega) (Lib.uvarint p.2 ++ r); have h2 := zer p.2 (by omega) r; unfold gSp zaJ zzu; rw [zla, h1]; simp only []; rw [h2]; simp only []; rw [zfC h.1 h.2.1, Nat.mod_eq_of_lt h.2.2]
def Hst.readW (h : Hst) : Hst := { h with fups := [], fdowns := [], cus := if h.schema = -53 then h.cus else [] }
theorem zku (h : Hst) (hok : h.ok) (r : List UInt8) : FineW (some (zaS h ++ r)) ∧ zcJ (some (zaS h ++ r)) = (h.readW, some r) := by
 obtain ⟨R10, h10⟩ : ∃ R, zcw h ++ r = R := ⟨_, rfl⟩; obtain ⟨R9, h9⟩ : ∃ R, zdn h.downs ++ R10 = R := ⟨_, rfl⟩; obtain ⟨R8, h8⟩ : ∃ R, zdn h.ups ++ R9 = R := ⟨_, rfl⟩; obtain ⟨R7, h7⟩ : ∃ R, zbR h.neg ++ R8 = R := ⟨_, rfl⟩; obtain ⟨R6, h6⟩ : ∃ R, zbR h.pos ++ R7 = R := ⟨_, rfl⟩; obtain ⟨R5, h5⟩ : ∃ R, Lib.beBytes 8 h.sum ++ R6 = R := ⟨_, rfl⟩
 obtain ⟨R4, h4⟩ : ∃ R, Lib.uvarint h.cnt ++ R5 = R := ⟨_, rfl⟩; obtain ⟨R3, h3⟩ : ∃ R, Lib.uvarint h.zc ++ R4 = R := ⟨_, rfl⟩; obtain ⟨R2, h2⟩ : ∃ R, Lib.beBytes 8 h.thr ++ R3 = R := ⟨_, rfl⟩; obtain ⟨R1, h1⟩ : ∃ R, zzu h.schema ++ R2 = R := ⟨_, rfl⟩; have hall : zaS h ++ r = h.hint :: R1 := by
  rw [← h1, ← h2, ← h3, ← h4, ← h5, ← h6, ← h7, ← h8, ← h9, ← h10]; unfold zaS; simp only [zla, List.cons_append, zlJ]
 rw [hall]; obtain ⟨S, hS⟩ : ∃ S : St, some (h.hint :: R1) = S := ⟨_, rfl⟩; rw [hS]; have e0 : zaB S = (h.hint.toNat, some R1) := by rw [← hS]; rfl
 have s1 : hS1 S = some R1 := congrArg Prod.snd e0; have e1 : zaE (hS1 S) = (h.schema, some R2) := by rw [s1, ← h1]; exact zcg h.schema (by have := hok.s0; omega) (by have := hok.s1; omega) R2
 have s2 : hS2 S = some R2 := congrArg Prod.snd e1; have e2 : zac (hS2 S) = (h.thr, some R3) := by rw [s2, ← h2]; exact zaR h.thr hok.thr R3
 have s3 : hS3 S = some R3 := congrArg Prod.snd e2; have e3 : gUv (hS3 S) = (h.zc, some R4) := by rw [s3, ← h3]; exact zer h.zc hok.zc R4
 have s4 : hW4 S = some R4 := congrArg Prod.snd e3; have e4 : gUv (hW4 S) = (h.cnt, some R5) := by rw [s4, ← h4]; exact zer h.cnt hok.cnt R5
 have s5 : hW5 S = some R5 := congrArg Prod.snd e4; have e5 : zac (hW5 S) = (h.sum, some R6) := by rw [s5, ← h5]; exact zaR h.sum hok.sum R6
 have s6 : hW6 S = some R6 := congrArg Prod.snd e5; have e6 := zcD gSp zaJ h.pos hok.few.1 (fun x hx r => zht x (hok.pos x hx) r) R7; rw [show Lib.uvarint h.pos.length ++ h.pos.flatMap zaJ ++ R7 = R6 from h6, ← s6] at e6; have s7 : hW7 S = some R7 := congrArg Prod.snd e6.2; have e7 := zcD gSp zaJ h.neg hok.few.2.1 (fun x hx r => zht x (hok.neg x hx) r) R8
 rw [show Lib.uvarint h.neg.length ++ h.neg.flatMap zaJ ++ R8 = R7 from h7, ← s7] at e7; have s8 : hW8 S = some R8 := congrArg Prod.snd e7.2; have e8 := zcD zaE (zzu) h.ups hok.few.2.2.1 (fun x hx r => zcg x (hok.ups x hx).1 (hok.ups x hx).2 r) R9; rw [show Lib.uvarint h.ups.length ++ h.ups.flatMap (zzu) ++ R9 = R8 from h8, ← s8] at e8
 have s9 : hW9 S = some R9 := congrArg Prod.snd e8.2; have e9 := zcD zaE (zzu) h.downs hok.few.2.2.2.1 (fun x hx r => zcg x (hok.downs x hx).1 (hok.downs x hx).2 r) R10; rw [show Lib.uvarint h.downs.length ++ h.downs.flatMap (zzu) ++ R10 = R9 from h9, ← s9] at e9; have s10 : hW10 S = some R10 := congrArg Prod.snd e9.2
 have sch : ziR S = h.schema := by unfold ziR; rw [e1]; exact zfC hok.s0 hok.s1
 have ec : (h.schema = -53 → (gUv (hW10 S)).1 ≤ 1000) ∧ hWc S = (if h.schema = -53 then h.cus else [], some r) := by
  unfold hWc; rw [sch]; by_cases hc : h.schema = -53
  ·have h11 : zcw h = Lib.uvarint h.cus.length ++ h.cus.flatMap (Lib.beBytes 8) := by unfold zcw; rw [if_pos hc]; rfl
   have e10 := zcD zac (Lib.beBytes 8) h.cus hok.few.2.2.2.2.2.2 (fun x hx r => zaR x (hok.cus x hx) r) r; rw [← h11, h10, ← s10] at e10; rw [if_pos hc, if_pos hc, e10.2]; exact ⟨fun _ => by rw [e10.1]; have := hok.few.2.2.2.2.2.2; omega, rfl⟩
  ·have h11 : zcw h = [] := by unfold zcw; rw [if_neg hc]
   rw [h11, zlJ] at h10; rw [if_neg hc, if_neg hc, s10, ← h10]; exact ⟨fun e => absurd e hc, rfl⟩
 obtain ⟨f1, f2, f3, f4, f5, f6, f7⟩ := hok.few; refine ⟨⟨by rw [e6.1]; omega, by rw [e7.1]; omega, by rw [e8.1]; omega, by rw [e9.1]; omega, fun e => ec.1 (by rw [← sch]; exact e)⟩, ?_⟩; have hh : UInt8.ofNat h.hint.toNat = h.hint := by simp
 unfold zcJ Hst.readW; rw [e0, sch, e2, e5, e3, e4, e6.2, e7.2, e8.2, e9.2, ec.2]; simp only []; rw [hh]
def Hst.readF (h : Hst) : Hst := { h with ups := [], downs := [], cus := if h.schema = -53 then h.cus else [] }
theorem zkv (h : Hst) (hok : h.ok) (r : List UInt8) : FineF (some (zaT h ++ r)) ∧ zcK (some (zaT h ++ r)) = (h.readF, some r) := by
 obtain ⟨R10, h10⟩ : ∃ R, zcw h ++ r = R := ⟨_, rfl⟩; obtain ⟨R9, h9⟩ : ∃ R, zc4 h.fdowns ++ R10 = R := ⟨_, rfl⟩; obtain ⟨R8, h8⟩ : ∃ R, zc4 h.fups ++ R9 = R := ⟨_, rfl⟩; obtain ⟨R7, h7⟩ : ∃ R, zbR h.neg ++ R8 = R := ⟨_, rfl⟩; obtain ⟨R6, h6⟩ : ∃ R, zbR h.pos ++ R7 = R := ⟨_, rfl⟩; obtain ⟨R5, h5⟩ : ∃ R, Lib.beBytes 8 h.sum ++ R6 = R := ⟨_, rfl⟩
 obtain ⟨R4, h4⟩ : ∃ R, Lib.beBytes 8 h.cnt ++ R5 = R := ⟨_, rfl⟩; obtain ⟨R3, h3⟩ : ∃ R, Lib.beBytes 8 h.zc ++ R4 = R := ⟨_, rfl⟩; obtain ⟨R2, h2⟩ : ∃ R, Lib.beBytes 8 h.thr ++ R3 = R := ⟨_, rfl⟩; obtain ⟨R1, h1⟩ : ∃ R, zzu h.schema ++ R2 = R := ⟨_, rfl⟩; have hall : zaT h ++ r = h.hint :: R1 := by
  rw [← h1, ← h2, ← h3, ← h4, ← h5, ← h6, ← h7, ← h8, ← h9, ← h10]; unfold zaT; simp only [zla, List.cons_append, zlJ]
 rw [hall]; obtain ⟨S, hS⟩ : ∃ S : St, some (h.hint :: R1) = S := ⟨_, rfl⟩; rw [hS]; have e0 : zaB S = (h.hint.toNat, some R1) := by rw [← hS]; rfl
 have s1 : hS1 S = some R1 := congrArg Prod.snd e0; have e1 : zaE (hS1 S) = (h.schema, some R2) := by rw [s1, ← h1]; exact zcg h.schema (by have := hok.s0; omega) (by have := hok.s1; omega) R2
 have s2 : hS2 S = some R2 := congrArg Prod.snd e1; have e2 : zac (hS2 S) = (h.thr, some R3) := by rw [s2, ← h2]; exact zaR h.thr hok.thr R3
 have s3 : hS3 S = some R3 := congrArg Prod.snd e2; have e3 : zac (hS3 S) = (h.zc, some R4) := by rw [s3, ← h3]; exact zaR h.zc hok.zc R4
 have s4 : hF4 S = some R4 := congrArg Prod.snd e3; have e4 : zac (hF4 S) = (h.cnt, some R5) := by rw [s4, ← h4]; exact zaR h.cnt hok.cnt R5
 have s5 : hF5 S = some R5 := congrArg Prod.snd e4; have e5 : zac (hF5 S) = (h.sum, some R6) := by rw [s5, ← h5]; exact zaR h.sum hok.sum R6
 have s6 : hF6 S = some R6 := congrArg Prod.snd e5; have e6 := zcD gSp zaJ h.pos hok.few.1 (fun x hx r => zht x (hok.pos x hx) r) R7; rw [show Lib.uvarint h.pos.length ++ h.pos.flatMap zaJ ++ R7 = R6 from h6, ← s6] at e6; have s7 : hF7 S = some R7 := congrArg Prod.snd e6.2; have e7 := zcD gSp zaJ h.neg hok.few.2.1 (fun x hx r => zht x (hok.neg x hx) r) R8
 rw [show Lib.uvarint h.neg.length ++ h.neg.flatMap zaJ ++ R8 = R7 from h7, ← s7] at e7; have s8 : hF8 S = some R8 := congrArg Prod.snd e7.2; have e8 := zcD zac (Lib.beBytes 8) h.fups hok.few.2.2.2.2.1 (fun x hx r => zaR x (hok.fups x hx) r) R9; rw [show Lib.uvarint h.fups.length ++ h.fups.flatMap (Lib.beBytes 8) ++ R9 = R8 from h8, ← s8] at e8
 have s9 : hF9 S = some R9 := congrArg Prod.snd e8.2; have e9 := zcD zac (Lib.beBytes 8) h.fdowns hok.few.2.2.2.2.2.1 (fun x hx r => zaR x (hok.fdowns x hx) r) R10; rw [show Lib.uvarint h.fdowns.length ++ h.fdowns.flatMap (Lib.beBytes 8) ++ R10 = R9 from h9, ← s9] at e9; have s10 : zh9 S = some R10 := congrArg Prod.snd e9.2
 have sch : ziR S = h.schema := by unfold ziR; rw [e1]; exact zfC hok.s0 hok.s1
 have ec : (h.schema = -53 → (gUv (zh9 S)).1 ≤ 1000) ∧ hFc S = (if h.schema = -53 then h.cus else [], some r) := by
  unfold hFc; rw [sch]; by_cases hc : h.schema = -53
  ·have h11 : zcw h = Lib.uvarint h.cus.length ++ h.cus.flatMap (Lib.beBytes 8) := by unfold zcw; rw [if_pos hc]; rfl
   have e10 := zcD zac (Lib.beBytes 8) h.cus hok.few.2.2.2.2.2.2 (fun x hx r => zaR x (hok.cus x hx) r) r; rw [← h11, h10, ← s10] at e10; rw [if_pos hc, if_pos hc, e10.2]; exact ⟨fun _ => by rw [e10.1]; have := hok.few.2.2.2.2.2.2; omega, rfl⟩
  ·have h11 : zcw h = [] := by unfold zcw; rw [if_neg hc]
   rw [h11, zlJ] at h10; rw [if_neg hc, if_neg hc, s10, ← h10]; exact ⟨fun e => absurd e hc, rfl⟩
 obtain ⟨f1, f2, f3, f4, f5, f6, f7⟩ := hok.few; refine ⟨⟨by rw [e6.1]; omega, by rw [e7.1]; omega, by rw [e8.1]; omega, by rw [e9.1]; omega, fun e => ec.1 (by rw [← sch]; exact e)⟩, ?_⟩; have hh : UInt8.ofNat h.hint.toNat = h.hint := by simp
 unfold zcK Hst.readF; rw [e0, sch, e2, e5, e3, e4, e6.2, e7.2, e8.2, e9.2, ec.2]; simp only []; rw [hh]
theorem zc0 {α β : Type} (step : St → α × St) (enc : β → List UInt8) (rd : β → α) (Q : β → Prop) (hs : ∀ x r, Q x → step (some (enc x ++ r)) = (rd x, some r)) (hp : ∀ x, ∃ c r, enc x = c :: r) :
 ∀ (l : List β) (k : Nat) (acc : List α), (∀ x ∈ l, Q x) → l.length ≤ k → zaj step k (some (l.flatMap enc)) acc = (acc ++ l.map rd, some [])
 | [], k, acc, _, _ => by cases k <;> simp [zaj]
 | x :: l, 0, acc, _, h => by simp at h
 | x :: l, k + 1, acc, hw, h => by
   obtain ⟨c, r, e⟩ := hp x; have hst := hs x (l.flatMap enc) (hw x (by simp)); rw [zlm]; rw [e] at hst ⊢; show zaj step (k + 1) (some (c :: (r ++ l.flatMap enc))) acc = _; have hst' : step (some (c :: (r ++ l.flatMap enc))) = (rd x, some (l.flatMap enc)) := hst; rw [zaj, hst']; simp only []
   rw [zc0 step enc rd Q hs hp l k (acc ++ [rd x]) (fun y hy => hw y (by simp [hy])) (by simpa using h)]; simp
theorem ziT (x : Int) (r : List UInt8) : ∃ c t, zzu x ++ r = c :: t := by
 have := Lib.uvarint_pos (Lib.zigzag x); unfold zzu; rcases h : Lib.uvarint (Lib.zigzag x) with _ | ⟨c, t⟩
 ·rw [h] at this; simp at this
 ·exact ⟨c, t ++ r, rfl⟩
theorem zfM (a b : Nat) (ha : a < 18446744073709551616) : u64 ((b : Int) + u64 (wrap64 (wrap64 a - wrap64 b))) = a := by
 have h : ((b : Int) + u64 (wrap64 (wrap64 a - wrap64 b))) % 18446744073709551616 = (a : Int) := by unfold u64 wrap64; omega
 rw [u64, h]; rfl
theorem zf4 {β : Type} (enc : β → List UInt8) (hp : ∀ x, ∃ c r, enc x = c :: r) : ∀ l : List β, l.length ≤ (l.flatMap enc).length
 | [] => by simp
 | x :: l => by
   obtain ⟨c, r, e⟩ := hp x; have := zf4 enc hp l; rw [zlm, zk8, e]; simp only [zlp]; omega
theorem zeQ (f : Rhs) (hf : f.ok) (X : List UInt8) : (zac (some (zar f ++ X))).1 = f.ref ∧ zaq (zac (some (zar f ++ X))).2 = (f.t, some X) := by
 have h1 := zaR f.ref hf.1 (Lib.beBytes 8 (u64 f.t) ++ X); have h2 := zaR (u64 f.t) (zjQ _) X; unfold zar; rw [zla, h1]; refine ⟨rfl, ?_⟩; show (i64 (zac (some (Lib.beBytes 8 (u64 f.t) ++ X))).1, (zac (some (Lib.beBytes 8 (u64 f.t) ++ X))).2) = _; rw [h2]; show (i64 (u64 f.t), some X) = _; rw [zjo _ hf.2.1 hf.2.2.1]
theorem zj3 (f : Rhs) (X : List UInt8) : zar f ++ X ≠ [] := by
 intro h; have := congrArg List.length h; unfold zar at this; simp [zlh] at this
def Rhs.readW (s : Rhs) : Rhs := { s with h := s.h.readW }
theorem zfY (f s : Rhs) (hs : s.ok) (r : List UInt8) : zcM (some (zaW f s ++ r)) ∧ zaL f.ref f.t (some (zaW f s ++ r)) = (s.readW, some r) := by
 have e0 : zaW f s ++ r = Lib.uvarint (Lib.zigzag (zeC f s)) ++ (Lib.uvarint (Lib.zigzag (hT f s)) ++ (zaS s.h ++ r)) := by
  unfold zaW zzu; simp only [zla]
 have h1 := zcg (zeC f s) (zaf _).1 (zaf _).2 (Lib.uvarint (Lib.zigzag (hT f s)) ++ (zaS s.h ++ r)); have h2 := zcg (hT f s) (zaf _).1 (zaf _).2 (zaS s.h ++ r); obtain ⟨h3, h4⟩ := zku s.h hs.2.2.2 r; rw [e0]; constructor
 ·unfold zcM
  rw [h1]; show FineW (zaE (some (Lib.uvarint (Lib.zigzag (hT f s)) ++ (zaS s.h ++ r)))).2; rw [h2]; exact h3
 ·unfold zaL
  rw [h1]; show (Rhs.mk (u64 ((f.ref : Int) + u64 (zeC f s))) (wrap64 (f.t + (zaE (some (Lib.uvarint (Lib.zigzag (hT f s)) ++ (zaS s.h ++ r)))).1)) (zcJ (zaE (some (Lib.uvarint (Lib.zigzag (hT f s)) ++ (zaS s.h ++ r)))).2).1, (zcJ (zaE (some (Lib.uvarint (Lib.zigzag (hT f s)) ++ (zaS s.h ++ r)))).2).2) = _; rw [h2]
  show (Rhs.mk (u64 ((f.ref : Int) + u64 (zeC f s))) (wrap64 (f.t + hT f s)) (zcJ (some (zaS s.h ++ r))).1, (zcJ (some (zaS s.h ++ r))).2) = _; rw [h4]; unfold zeC hT; rw [zfM _ _ hs.1, zjR _ _ hs.2.1 hs.2.2.1]; rfl
theorem zg1 (f s : Rhs) : ∃ c r, zaW f s = c :: r := by unfold zaW; exact ziT _ _
theorem zg7 (kind : UInt8) (hk : kind = 7 ∨ kind = 9) (q : Rhs → Bool) (l : List Rhs) (hl : ∀ s ∈ l, s.ok) : zcs (za3 kind q l) = some ((l.filter q).map Rhs.readW) := by
 rcases l with _ | ⟨f, r⟩
 ·show (if kind = 7 ∨ kind = 9 then zaY [] else none) = _
  rw [if_pos hk]; rfl
 ·have hf := hl f (by simp)
  show (if kind = 7 ∨ kind = 9 then zaY (zar f ++ ((f :: r).filter q).flatMap (zaW f)) else none) = _; rw [if_pos hk]; obtain ⟨X, hX⟩ : ∃ X, ((f :: r).filter q).flatMap (zaW f) = X := ⟨_, rfl⟩; have hlen := zf4 (zaW f) (zg1 f) ((f :: r).filter q)
  have hL := zc0 (zaL f.ref f.t) (zaW f) Rhs.readW Rhs.ok (fun x r hx => (zfY f x hx r).2) (zg1 f) ((f :: r).filter q) (zar f ++ X).length [] (fun x hx => hl x (zlM.1 hx).1) (by rw [zk8, ← hX]; omega); rw [hX] at hL ⊢; obtain ⟨g1, g2⟩ := zeQ f hf X; unfold zaY; rw [if_neg (zj3 f X), g1, g2]; simp only []; rw [hL]; rfl
def GoodW (f : Rhs) (st : St) : Prop := st = none ∨ ∃ l : List Rhs, (∀ s ∈ l, s.ok) ∧ st = some (l.flatMap (zaW f))
theorem zkp (f : Rhs) (l : List UInt8) (h : GoodW f (some l)) : zcM (some l) ∧ GoodW f (zaL f.ref f.t (some l)).2 := by
 rcases h with h | ⟨l', hl', e⟩
 ·cases h
 ·injection e with e
  subst e; rcases l' with _ | ⟨s, l'⟩
  ·show zcM (some []) ∧ GoodW f (zaL f.ref f.t (some [])).2
   have e0 : zaE (some []) = (0, none) := rfl; have e1 : zaE none = (0, none) := rfl; have e2 : (zcJ none).2 = none := by
    rcases h : (zcJ none).2 with _ | l
    ·rfl
    ·obtain ⟨l0, h0, _⟩ := zgP _ _ h
     cases h0
   refine ⟨?_, .inl ?_⟩
   ·unfold zcM
    rw [e0]; show FineW (zaE none).2; rw [e1]; exact ⟨zli _, zli _, zli _, zli _, fun _ => zli _⟩
   ·unfold zaL
    rw [e0]; show (zcJ (zaE none).2).2 = none; rw [e1]; exact e2
  ·obtain ⟨h1, h2⟩ := zfY f s (hl' s (by simp)) (l'.flatMap (zaW f))
   rw [zlm]; exact ⟨h1, .inr ⟨l', fun x hx => hl' x (by simp [hx]), by rw [h2]⟩⟩
theorem zia (kind : UInt8) (q : Rhs → Bool) (l : List Rhs) (hl : ∀ s ∈ l, s.ok) : ∃ Good : St → Prop,
 (∀ kd rest, za3 kind q l = kd :: rest → (kd = 7 ∨ kd = 9) → ∀ l, Good (some l) → zcM (some l) ∧ Good (zaL (zac (some rest)).1 (zaq (zac (some rest)).2).1 (some l)).2) ∧
 (∀ kd rest, za3 kind q l = kd :: rest → (kd = 7 ∨ kd = 9) → rest ≠ [] → Good (zaq (zac (some rest)).2).2) := by
 rcases l with _ | ⟨f, r⟩
 ·refine ⟨fun _ => False, fun _ _ _ _ _ h => h.elim, fun kd rest e _ hr => ?_⟩
  have e2 : [kind] = kd :: rest := e; injection e2 with _ e2; exact absurd e2.symm hr
 ·obtain ⟨X, hX⟩ : ∃ X, ((f :: r).filter q).flatMap (zaW f) = X := ⟨_, rfl⟩
  obtain ⟨g1, g2⟩ := zeQ f (hl f (by simp)) X; have he : ∀ kd rest, za3 kind q (f :: r) = kd :: rest → rest = zar f ++ X := fun kd rest e => by
   have e2 : kind :: (zar f ++ ((f :: r).filter q).flatMap (zaW f)) = kd :: rest := e; injection e2 with _ e2; rw [← e2, hX]
  refine ⟨GoodW f, fun kd rest e _ l' h => ?_, fun kd rest e _ _ => ?_⟩
  ·rw [he kd rest e, g1, g2]
   exact zkp f l' h
  ·rw [he kd rest e, g2, ← hX]
   exact .inr ⟨_, fun x hx => hl x (zlM.1 hx).1, rfl⟩
def Rhs.readF (s : Rhs) : Rhs := { s with h := s.h.readF }
theorem zfZ (f s : Rhs) (hs : s.ok) (r : List UInt8) : zcN (some (zaX f s ++ r)) ∧ zaM f.ref f.t (some (zaX f s ++ r)) = (s.readF, some r) := by
 have e0 : zaX f s ++ r = Lib.uvarint (Lib.zigzag (zeC f s)) ++ (Lib.uvarint (Lib.zigzag (hT f s)) ++ (zaT s.h ++ r)) := by
  unfold zaX zzu; simp only [zla]
 have h1 := zcg (zeC f s) (zaf _).1 (zaf _).2 (Lib.uvarint (Lib.zigzag (hT f s)) ++ (zaT s.h ++ r)); have h2 := zcg (hT f s) (zaf _).1 (zaf _).2 (zaT s.h ++ r); obtain ⟨h3, h4⟩ := zkv s.h hs.2.2.2 r; rw [e0]; constructor
 ·unfold zcN
  rw [h1]; show FineF (zaE (some (Lib.uvarint (Lib.zigzag (hT f s)) ++ (zaT s.h ++ r)))).2; rw [h2]; exact h3
 ·unfold zaM
  rw [h1]; show (Rhs.mk (u64 ((f.ref : Int) + u64 (zeC f s))) (wrap64 (f.t + (zaE (some (Lib.uvarint (Lib.zigzag (hT f s)) ++ (zaT s.h ++ r)))).1)) (zcK (zaE (some (Lib.uvarint (Lib.zigzag (hT f s)) ++ (zaT s.h ++ r)))).2).1, (zcK (zaE (some (Lib.uvarint (Lib.zigzag (hT f s)) ++ (zaT s.h ++ r)))).2).2) = _; rw [h2]
  show (Rhs.mk (u64 ((f.ref : Int) + u64 (zeC f s))) (wrap64 (f.t + hT f s)) (zcK (some (zaT s.h ++ r))).1, (zcK (some (zaT s.h ++ r))).2) = _; rw [h4]; unfold zeC hT; rw [zfM _ _ hs.1, zjR _ _ hs.2.1 hs.2.2.1]; rfl
theorem zg2 (f s : Rhs) : ∃ c r, zaX f s = c :: r := by unfold zaX; exact ziT _ _
theorem zg8 (kind : UInt8) (hk : kind = 8 ∨ kind = 10) (q : Rhs → Bool) (l : List Rhs) (hl : ∀ s ∈ l, s.ok) : zct (za4 kind q l) = some ((l.filter q).map Rhs.readF) := by
 rcases l with _ | ⟨f, r⟩
 ·show (if kind = 8 ∨ kind = 10 then zaZ [] else none) = _
  rw [if_pos hk]; rfl
 ·have hf := hl f (by simp)
  show (if kind = 8 ∨ kind = 10 then zaZ (zar f ++ ((f :: r).filter q).flatMap (zaX f)) else none) = _; rw [if_pos hk]; obtain ⟨X, hX⟩ : ∃ X, ((f :: r).filter q).flatMap (zaX f) = X := ⟨_, rfl⟩; have hlen := zf4 (zaX f) (zg2 f) ((f :: r).filter q)
  have hL := zc0 (zaM f.ref f.t) (zaX f) Rhs.readF Rhs.ok (fun x r hx => (zfZ f x hx r).2) (zg2 f) ((f :: r).filter q) (zar f ++ X).length [] (fun x hx => hl x (zlM.1 hx).1) (by rw [zk8, ← hX]; omega); rw [hX] at hL ⊢; obtain ⟨g1, g2⟩ := zeQ f hf X; unfold zaZ; rw [if_neg (zj3 f X), g1, g2]; simp only []; rw [hL]; rfl
def GoodF (f : Rhs) (st : St) : Prop := st = none ∨ ∃ l : List Rhs, (∀ s ∈ l, s.ok) ∧ st = some (l.flatMap (zaX f))
theorem zks (f : Rhs) (l : List UInt8) (h : GoodF f (some l)) : zcN (some l) ∧ GoodF f (zaM f.ref f.t (some l)).2 := by
 rcases h with h | ⟨l', hl', e⟩
 ·cases h
 ·injection e with e
  subst e; rcases l' with _ | ⟨s, l'⟩
  ·show zcN (some []) ∧ GoodF f (zaM f.ref f.t (some [])).2
   have e0 : zaE (some []) = (0, none) := rfl; have e1 : zaE none = (0, none) := rfl; have e2 : (zcK none).2 = none := by
    rcases h : (zcK none).2 with _ | l
    ·rfl
    ·obtain ⟨l0, h0, _⟩ := zgQ _ _ h
     cases h0
   refine ⟨?_, .inl ?_⟩
   ·unfold zcN
    rw [e0]; show FineF (zaE none).2; rw [e1]; exact ⟨zli _, zli _, zli _, zli _, fun _ => zli _⟩
   ·unfold zaM
    rw [e0]; show (zcK (zaE none).2).2 = none; rw [e1]; exact e2
  ·obtain ⟨h1, h2⟩ := zfZ f s (hl' s (by simp)) (l'.flatMap (zaX f))
   rw [zlm]; exact ⟨h1, .inr ⟨l', fun x hx => hl' x (by simp [hx]), by rw [h2]⟩⟩
theorem zib (kind : UInt8) (q : Rhs → Bool) (l : List Rhs) (hl : ∀ s ∈ l, s.ok) : ∃ Good : St → Prop,
 (∀ kd rest, za4 kind q l = kd :: rest → (kd = 8 ∨ kd = 10) → ∀ l, Good (some l) → zcN (some l) ∧ Good (zaM (zac (some rest)).1 (zaq (zac (some rest)).2).1 (some l)).2) ∧
 (∀ kd rest, za4 kind q l = kd :: rest → (kd = 8 ∨ kd = 10) → rest ≠ [] → Good (zaq (zac (some rest)).2).2) := by
 rcases l with _ | ⟨f, r⟩
 ·refine ⟨fun _ => False, fun _ _ _ _ _ h => h.elim, fun kd rest e _ hr => ?_⟩
  have e2 : [kind] = kd :: rest := e; injection e2 with _ e2; exact absurd e2.symm hr
 ·obtain ⟨X, hX⟩ : ∃ X, ((f :: r).filter q).flatMap (zaX f) = X := ⟨_, rfl⟩
  obtain ⟨g1, g2⟩ := zeQ f (hl f (by simp)) X; have he : ∀ kd rest, za4 kind q (f :: r) = kd :: rest → rest = zar f ++ X := fun kd rest e => by
   have e2 : kind :: (zar f ++ ((f :: r).filter q).flatMap (zaX f)) = kd :: rest := e; injection e2 with _ e2; rw [← e2, hX]
  refine ⟨GoodF f, fun kd rest e _ l' h => ?_, fun kd rest e _ _ => ?_⟩
  ·rw [he kd rest e, g1, g2]
   exact zks f l' h
  ·rw [he kd rest e, g2, ← hX]
   exact .inr ⟨_, fun x hx => hl x (zlM.1 hx).1, rfl⟩
theorem zfG (s : ByteArray) : strOfNums (s.data.toList.map fun b => (b.toNat : Int)) = s := by
 unfold strOfNums; cases s with
 | mk d =>
   congr 1; apply Array.ext'; simp only [List.toList_toArray, List.map_map]; exact (List.map_congr_left (fun b _ => by simp)).trans (List.map_id _)
theorem decStr (te : TypeId) (pe : Value) (d g : Nat) (cur : Array Value) (st : St) (w : World) (h : Dec te pe w d g cur st) (hn : (gUv st).1 < 9223372036854775808) :
 Calls Tryz.prog 173 #[.pointer (some ⟨d, 0, none⟩)] w (zap te pe w d g cur (.string (zch st).1) (zch st).2) := by
 have hB := zhF te pe d g cur st w h hn; generalize (zch st).1 = s at hB ⊢; generalize (zch st).2 = st2 at hB ⊢; clear h hn; unfold ziO at hB; obtain ⟨n, hn⟩ : ∃ n, s.data.toList.length = n := ⟨_, rfl⟩; rw [hn] at hB; have HN := zk7 hn; have HB := zk7 hB; clear hn hB; go_enter Tryz.func173, Tryz.ntmps173
 go_wp2_with (go_at_call 203; refine HB.out.mono ?_; rintro r w1 ⟨g', off, c, rfl, hne, hcell, hD, hf⟩; have hcv := run_convert_bytes_arg (P := Tryz.prog) w1 44 5 Tryz.underlying44 Tryz.underlying5 g' off n c (s.data.toList.map fun b => (b.toNat : Int)) (by rw [zlv]; exact HN.out) (fun i hi => by
  rw [hcell i _ (zk9 (by rw [HN.out]; exact hi))]; rw [← HN.out] at hi
  simp [List.getD, zk9 hi]) 9 Tryz.underlying9; rw [zfG] at hcv; have HD := zk7 hD; have HF := zk7 hf; clear hcell hD hf)
 go_ret; exact ⟨rfl, HD.out, HF.out⟩
def ziK : ByteArray := ⟨#[85, 78, 73, 84]⟩
def ziL : ByteArray := ⟨#[72, 69, 76, 80]⟩
theorem zfF (s : ByteArray) (d : Array UInt8) : (s.toList == d.toList) = true ↔ s = ⟨d⟩ := by
 rw [beq_iff_eq, Lib.toList_data]; constructor
 ·intro h
  cases s; exact congrArg ByteArray.mk (Array.ext' h)
 ·rintro rfl; rfl
theorem zfE (s : ByteArray) (d : Array UInt8) (h : s ≠ ⟨d⟩) : (s.toList == d.toList) = false := by
 rcases hq : (s.toList == d.toList) with _ | _
 ·rfl
 ·exact absurd ((zfF s d).1 hq) h
def gFld (p : (ByteArray × ByteArray) × St) : (ByteArray × ByteArray) × St :=
 (if (zch p.2).1 = ziK then ((zch (zch p.2).2).1, p.1.2) else if (zch p.2).1 = ziL then (p.1.1, (zch (zch p.2).2).1) else p.1, (zch (zch p.2).2).2)
def zdJ (st : St) : Nat → (ByteArray × ByteArray) × St
 | 0 => ((⟨#[]⟩, ⟨#[]⟩), st)
 | k + 1 => gFld (zdJ st k)
def zh4 (st : St) : St := (gUv (zaB (gUv st).2).2).2
def mtaN (st : St) : Nat := (gUv (zaB (gUv st).2).2).1
def za1 (st : St) : Mta × St :=
 (⟨(gUv st).1, UInt8.ofNat (zaB (gUv st).2).1, (zdJ (zh4 st) (mtaN st)).1.1, (zdJ (zh4 st) (mtaN st)).1.2⟩, (zdJ (zh4 st) (mtaN st)).2)
def zef (st : St) : Prop := mtaN st ≤ 4096 ∧ ∀ k, k < mtaN st → (gUv (zdJ (zh4 st) k).2).1 < 9223372036854775808 ∧ (gUv (zch (zdJ (zh4 st) k).2).2).1 < 9223372036854775808
def zaN (xs : List UInt8) : Option (List Mta) := za5 6 za1 xs
theorem gByte_lt (st : St) : (zaB st).1 < 256 := by
 rcases st with _ | _ | ⟨b, r⟩
 ·decide
 ·decide
 ·exact b.toNat_lt
theorem gByte_len {st : St} {l : List UInt8} (h : (zaB st).2 = some l) : ∃ l0, st = some l0 ∧ l.length < l0.length := by
 rcases st with _ | _ | ⟨b, r⟩
 ·cases h
 ·cases h
 ·have h : some r = some l := h
  injection h with h; subst h; exact ⟨_, rfl, by simp⟩
theorem zj4 {st : St} {l : List UInt8} (h : (zch st).2 = some l) : ∃ l0, st = some l0 ∧ l.length ≤ l0.length := by
 rcases st with _ | l0
 ·have : zch none = (⟨#[]⟩, none) := rfl
  rw [this] at h; cases h
 ·exact ⟨l0, rfl, (zic l0 (zch (some l0)).1 (zch (some l0)).2 rfl).2 l h⟩
theorem zie (st : St) : ∀ (k : Nat) (l : List UInt8), (zdJ st k).2 = some l → ∃ l0, st = some l0 ∧ l.length ≤ l0.length
 | 0, l, h => ⟨l, h, zlj _⟩
 | k + 1, l, h => by
   obtain ⟨l1, h1, e1⟩ := zj4 (st := (zch (zdJ st k).2).2) h; obtain ⟨l2, h2, e2⟩ := zj4 h1; obtain ⟨l3, h3, e3⟩ := zie st k l2 h2; exact ⟨l3, h3, by omega⟩
theorem zjg {l0 l : List UInt8} (h : (za1 (some l0)).2 = some l) : l.length < l0.length := by
 obtain ⟨l1, h1, e1⟩ := zie _ _ _ h; obtain ⟨l2, h2, e2⟩ := zb4 (st := (zaB (gUv (some l0)).2).2) h1; obtain ⟨l3, h3, e3⟩ := gByte_len h2; obtain ⟨l4, h4, e4⟩ := zb4 (st := some l0) h3; injection h4 with h4; subst h4; omega
def zcd (w : World) (base : Nat) (o : Option Nat) (pre : List Mta) (xs : List UInt8) (r : Ending) (w' : World) : Prop :=
 Fr (fun k => some k = o) w w' ∧ match zaN xs with
  | some l => ∃ v', r = .returned (.tuple #[v', .nilIface]) ∧ w'.ownsRow base 174 4 v' (pre ++ l).length ((pre ++ l).flatMap Mta.c)
  | none => ∃ t a, r = .returned (.tuple #[.slice none 0 0, .iface t a])
theorem zep {w w' : World} {base : Nat} {o : Option Nat} {pre : List Mta} {xs : List UInt8} {t : TypeId} {a : Value} (hd : zaN xs = none) (hf : Fr (fun k => some k = o) w w') : zcd w base o pre xs (.returned (.tuple #[.slice none 0 0, .iface t a])) w' := by
 unfold zcd; rw [hd]; exact ⟨hf, _, _, rfl⟩
theorem zgu {w w' : World} {base : Nat} {o : Option Nat} {pre : List Mta} {xs : List UInt8} {l : List Mta} {v : Value} (hd : zaN xs = some l) (hf : Fr (fun k => some k = o) w w') (ho : w'.ownsRow base 174 4 v (pre ++ l).length ((pre ++ l).flatMap Mta.c)) : zcd w base o pre xs (.returned (.tuple #[v, .nilIface])) w' := by
 unfold zcd; rw [hd]; exact ⟨hf, _, rfl, ho⟩
theorem zhB (te : TypeId) (pe : Value) (dv : Value) (g base : Nat) (cur : Array Value) (pre : List Mta) (xs : List UInt8) (v sv : Value) (w : World) (h : Rec te pe w g cur xs v) (hx : (zaB (some xs)).1 ≠ 6) :
 Calls Tryz.prog 81 #[dv, v, sv] w (zcd w base sv.ownBlock pre xs) := by
 have hd : zaN xs = none := by
  rcases xs with _ | ⟨b, r⟩
  ·rfl
  ·have : ¬ b = 6 := by rintro rfl; exact hx rfl
   simp [zaN, za5, this]
 unfold zcd; rw [hd]; clear hd; have hD := h.dec; obtain ⟨off, c, rfl, _⟩ := h; have hQ := zbo te pe w.heap.size g cur _ _ hD; have hx2 : ¬ ((zaB (some xs)).1 : Int) = 6 := by omega
 clear hD hx; generalize (zaB (some xs)).1 = x at hQ hx2; generalize (zaB (some xs)).2 = st at hQ; go_enter Tryz.func81, Tryz.ntmps81; go_wp2_with (first | (go_at_call 160; refine hQ.mono ?_; rintro r w1 ⟨rfl, hD1, hf1⟩) | (go_at_call 161; refine (zbL _ _).mono ?_; rintro r w2 ⟨t, a, rfl, hf2⟩))
 go_ret2; refine ⟨?_, _, _, rfl⟩; have f1 := (((zlW (fun k => some k = sv.ownBlock) w).alloc (.cells #[.slice (some ⟨g, off, none⟩) xs.length c, .nilIface] 229)).trans hf1 (fun k hk e => by omega)); exact f1.trans hf2 (fun _ _ e => e.elim)
theorem zhC (Good : St → Prop) (hG : ∀ l, Good (some l) → zef (some l) ∧ Good (za1 (some l)).2) (te : TypeId) (pe : Value) (dv : Value) (g base : Nat) (cur : Array Value) (pre : List Mta) (rest : List UInt8) (v sv : Value) (w : World) (h : Rec te pe w g cur (6 :: rest) v) (ho : w.ownsRow base 174 4 sv pre.length (pre.flatMap Mta.c)) (hb : g < base ∧ 2 < base ∧ base ≤ w.heap.size) (hpl : pre.length ≤ 1073741824) (hG0 : Good (some rest)) :
 Calls Tryz.prog 81 #[dv, v, sv] w (zcd w base sv.ownBlock pre (6 :: rest)) := by
 obtain ⟨i0, hi0, hz0, hz1, hz2⟩ := info_parts Tryz.info174; have HGD := zk7 hG; clear hG; have HG0 := zk7 hG0; clear hG0; have hD := h.dec; obtain ⟨off, c, rfl, _⟩ := h; have hQ := zbo te pe w.heap.size g cur _ _ hD; have e1 : zaB (some (6 :: rest)) = (6, some rest) := rfl; rw [e1] at hQ; have HO := zk7 ho; obtain ⟨a', k', rfl⟩ := zaa ho
 have hrl : rest.length ≤ 1099511627776 := by
  obtain ⟨n, off', c', _, _, hn, hnc, _⟩ := hD.open_; have := hn _ rfl; simp at this; omega
 obtain ⟨np, hnp⟩ : ∃ np, pre.length = np := ⟨_, rfl⟩; have HNP := zk7 hnp; rw [hnp] at HO hpl ⊢; clear hD e1 ho hnp; go_enter Tryz.func81, Tryz.ntmps81; go_wp2_with (go_at_call 160; refine hQ.mono ?_; rintro r w1 ⟨rfl, hD1, hf1⟩; refine Hid.out ?_)
 have F1 : Fr (fun k => some k = (Value.slice a' np k').ownBlock) w w1 := ((zlW (fun k => some k = (Value.slice a' np k').ownBlock) w).alloc _).trans hf1 (fun k hk e => by omega); have O1 : w1.ownsRow base 174 4 (.slice a' np k') np (pre.flatMap Mta.c) := zah (HO.out.alloc _) hf1 (fun k hk => by have := zav HO.out hk; omega); have hs1 := F1.size
 have hn1 : ∀ k, (Value.slice a' np k').ownBlock = some k → k < w.heap.size := fun k hk => zav HO.out hk; have HF1 := zk7 F1; have HO1 := zk7 O1; have HD1 := zk7 hD1; have HN1 := zk7 hn1; clear hD1 hf1 hQ F1 O1 hn1; refine zk7 ?_; go_wp2_with fail
 go_loopw [2] (fun sv wr => ∃ (st : St) (acc : List Mta) (j : Nat), Hid (Dec te pe wr w.heap.size g cur st) ∧ Hid (wr.ownsRow base 174 4 sv (np + acc.length) ((pre ++ acc).flatMap Mta.c)) ∧ Hid (Fr (fun k => some k = (Value.slice a' np k').ownBlock) w wr) ∧ Hid (∀ k, sv.ownBlock = some k → (some k = (Value.slice a' np k').ownBlock ∨ w.heap.size < k)) ∧
  Hid (zaj za1 j st acc = zaj za1 rest.length (some rest) []) ∧ Hid (∀ l, st = some l → l.length ≤ j ∧ acc.length + l.length ≤ rest.length) ∧ acc.length ≤ rest.length + 1 ∧ Hid (Good st)) (fun _ wr => zhE w.heap.size wr)
 case atStart => exact ⟨some rest, [], rest.length, HD1, zk7 (by simpa using HO1.out), HF1, zk7 (fun k hk => .inl hk.symm), zk7 rfl, zk7 (fun l hl => by cases hl; simp), by simp, HG0⟩
 case round =>
  obtain ⟨st, acc, j, HD, HO, HF, HB, HE, HL, hal, HGS⟩ := hrel; obtain ⟨n6, off6, c6, p0, p1, hnl, hnc, hd, hg, h2⟩ := HD.out.open_; have hE := zgh te pe _ _ _ _ _ HD.out; obtain ⟨a6, k6, rfl⟩ := zaa HO.out; rcases st with _ | l
  ·clear hnl p1
   have hres : zaj za1 rest.length (some rest) [] = (acc, none) := by rw [← HE.out]; unfold zaj; rcases j with _ | j <;> rfl
   have HR := zk7 (show zaN (6 :: rest) = none from zcS hres); clear hres; simp only [ziS] at hE; rcases zlu n6 with rfl | hn6
   ·go_wp2_with (go_at_call 119; refine hE.mono ?_; rintro r w7 ⟨rfl, rfl⟩)
    go_ret2; exact zep HR.out HF.out
   ·have hn7 : (0 : Int) < (n6 : Int) := by omega
    go_wp2_with (go_at_call 119; refine hE.mono ?_; rintro r w7 ⟨rfl, rfl⟩)
    go_ret2; exact zep HR.out HF.out
  ·obtain rfl : n6 = l.length := hnl l rfl
   simp only [ziS] at hE; rcases l with _ | ⟨x, r⟩
   ·have hres : zaj za1 rest.length (some rest) [] = (acc, some []) := by rw [← HE.out]; unfold zaj; rcases j with _ | j <;> rfl
    have HR := zk7 (show zaN (6 :: rest) = some acc from zcR hres); clear hres hnl p1; simp only [List.length_nil] at p0; go_wp2_with (go_at_call 119; refine hE.mono ?_; rintro r w7 ⟨rfl, rfl⟩)
    go_ret2; refine zgu HR.out HF.out ?_; have h := HO.out; rw [zk8, HNP.out]; exact h
   ·obtain ⟨n7, hn7⟩ : ∃ n7, (x :: r).length = n7 := ⟨_, rfl⟩
    have hn8 : (0 : Int) < (n7 : Int) := by rw [← hn7]; simp
    have hlb := HL.out _ rfl; have hM := zbm HD.out; rw [hn7] at p0 hlb hM; have hV1 := zkT te pe _ _ _ _ _ HD.out; obtain ⟨hfine, hgood⟩ := HGD.out _ HGS.out; have HN7 := zk7 hn7; obtain ⟨S0, hS0⟩ : ∃ S0 : St, some (x :: r) = S0 := ⟨_, rfl⟩; rw [hS0] at hV1 hfine hgood; have HS0 := zk7 hS0; have HGN := zk7 hgood; obtain ⟨hn4, hflds⟩ := hfine; have HFL := zk7 hflds
    clear hnl p1 hn7 hS0 hgood hflds; obtain ⟨v0, hv0⟩ : ∃ v, (gUv S0).1 = v := ⟨_, rfl⟩; obtain ⟨S1, hS1⟩ : ∃ S, (gUv S0).2 = S := ⟨_, rfl⟩; rw [hv0, hS1] at hV1
    go_wp2_with (first
     | (go_at_call 119; refine hE.mono ?_; rintro r w7 ⟨rfl, rfl⟩)
     | (go_at_call 171; refine hV1.mono ?_; rintro r w8 ⟨rfl, hD8, hf8⟩; refine Hid.out ?_))
    have D8 := zk7 hD8; have hV2 := zbo te pe _ _ _ _ _ hD8; obtain ⟨v1, hv1⟩ : ∃ v, (zaB S1).1 = v := ⟨_, rfl⟩; obtain ⟨S2, hS2⟩ : ∃ S, (zaB S1).2 = S := ⟨_, rfl⟩; rw [hv1, hS2] at hV2; have F8 := zk7 hf8; clear hD8 hf8 hV1 p0; refine zk7 ?_; go_wp2_with (go_at_call 160; refine hV2.mono ?_; rintro r w9 ⟨rfl, hD9, hf9⟩; refine Hid.out ?_)
    have hV3 := zbg te pe _ _ _ _ _ hD9; obtain ⟨nf, hnf⟩ : ∃ v, (gUv S2).1 = v := ⟨_, rfl⟩; obtain ⟨S3, hS3⟩ : ∃ S, (gUv S2).2 = S := ⟨_, rfl⟩; have hmn : mtaN S0 = nf := by unfold mtaN; rw [hS1, hS2, hnf]
    have hms : zh4 S0 = S3 := by unfold zh4; rw [hS1, hS2, hS3]
    rw [hmn] at hn4; rw [hmn, hms] at HFL; rw [hnf, hS3, show i64 nf = (nf : Int) by unfold i64 wrap64; omega] at hV3; have F9 := zk7 (F8.out.same hf9); clear hD9 hf9 hV2 D8 F8; refine zk7 ?_; go_wp2_with (go_at_call 172; refine hV3.mono ?_; rintro r w10 ⟨rfl, hD10, hf10⟩; refine Hid.out ?_)
    have F10 := zk7 (F9.out.same hf10); have D10 := zk7 hD10; clear hD10 hf10 hV3 F9; have HSS := zk7 (And.intro hv0 (And.intro hS1 (And.intro hv1 (And.intro hS2 (And.intro hnf (And.intro hS3 (And.intro hmn hms))))))); have hv1l : v1 < 256 := by rw [← hv1]; exact gByte_lt _
    clear hv0 hS1 hv1 hS2 hnf hS3 hmn hms
    have KW : Hid (∀ W, Fr (fun k => k = w.heap.size) wr W → W.ownsRow base 174 4 (.slice a6 (np + acc.length) k6) (np + acc.length) ((pre ++ acc).flatMap Mta.c) ∧ Fr (fun k => some k = (Value.slice a' np k').ownBlock) w W) := zk7 (fun W hf => ⟨zah HO.out hf (fun k hk e => by
     rcases HB.out k hk with h | h
     ·have := HN1.out k h.symm; omega
     ·omega), HF.out.trans hf (fun k hk e => by omega)⟩)
    refine zk7 ?_; go_wp2_with fail
    go_loopw [12, 13, 14] (fun uv hv vi wq => ∃ k : Nat, k ≤ nf ∧ vi = .int .i64 k ∧ uv = .string (zdJ S3 k).1.1 ∧ hv = .string (zdJ S3 k).1.2 ∧ Hid (Dec te pe wq w.heap.size g cur (zdJ S3 k).2) ∧ Hid (Fr (fun k => k = w.heap.size) wr wq)) (fun _ _ vi _ => nf - (intOf vi).toNat)
    case atStart => exact ⟨0, zli _, rfl, rfl, rfl, D10, F10⟩
    case round =>
     obtain ⟨k, hk, rfl, rfl, rfl, JD, JF⟩ := hrel; by_cases hlt : k < nf
     ·obtain ⟨hu1, hu2⟩ := HFL.out k hlt
      obtain ⟨pk, hpk⟩ : ∃ p, zdJ S3 k = p := ⟨_, rfl⟩; have hnx : zdJ S3 (k + 1) = gFld pk := by rw [← hpk]; rfl
      rw [hpk] at hu1 hu2 JD; have q1 := decStr te pe _ _ _ _ _ JD.out hu1; obtain ⟨nm, hnm⟩ : ∃ s, (zch pk.2).1 = s := ⟨_, rfl⟩; obtain ⟨T1, hT1⟩ : ∃ s, (zch pk.2).2 = s := ⟨_, rfl⟩; rw [hnm, hT1] at q1; rw [hT1] at hu2; have HU2 := zk7 hu2; obtain ⟨vl, hvl⟩ : ∃ s, (zch T1).1 = s := ⟨_, rfl⟩; obtain ⟨T2, hT2⟩ : ∃ s, (zch T1).2 = s := ⟨_, rfl⟩
      have q2 : Hid (∀ W, Dec te pe W w.heap.size g cur T1 → Calls Tryz.prog 173 #[.pointer (some ⟨w.heap.size, 0, none⟩)] W (zap te pe W w.heap.size g cur (.string vl) T2)) := zk7 (fun W hW => by have := decStr te pe _ _ _ _ _ hW HU2.out; rwa [hvl, hT2] at this)
      have hfl : gFld pk = (if nm = ziK then (vl, pk.1.2) else if nm = ziL then (pk.1.1, vl) else pk.1, T2) := by unfold gFld; rw [hnm, hT1, hvl, hT2]
      obtain ⟨⟨pu, ph⟩, pst⟩ := pk; have HNX := zk7 (hnx.trans hfl); rw [hpk]; clear hpk hnx hnm hT1 hvl hT2 hfl hu1 hu2; by_cases hb1 : nm = ziK
      ·have e1 : (nm.toList == [85, 78, 73, 84]) = true := (zfF nm #[85, 78, 73, 84]).2 hb1
       have HB1 := zk7 hb1; clear hb1
       go_wp2_with (first
        | (go_at_call 173; refine (q2.out _ JD1.out).mono ?_; rintro r w12 ⟨rfl, hDb, hfb⟩; have JD2 := zk7 hDb; have JF2 := zk7 (JF1.out.same hfb); clear hDb hfb)
        | (go_at_call 173; refine q1.mono ?_; rintro r w11 ⟨rfl, hDa, hfa⟩; have JD1 := zk7 hDa; have JF1 := zk7 (JF.out.same hfa); clear hDa hfa))
       go_roundw
       case rel => exact ⟨k + 1, by omega, by go_num, by rw [HNX.out, if_pos HB1.out], by rw [HNX.out, if_pos HB1.out], zk7 (by rw [HNX.out]; exact JD2.out), JF2⟩
       case measure => simp [intOf]; omega
      ·have e1 : (nm.toList == [85, 78, 73, 84]) = false := zfE nm #[85, 78, 73, 84] hb1
       have HB1 := zk7 hb1; clear hb1; by_cases hb2 : nm = ziL
       ·have e2 : (nm.toList == [72, 69, 76, 80]) = true := (zfF nm #[72, 69, 76, 80]).2 hb2
        have HB2 := zk7 hb2; clear hb2
        go_wp2_with (first
         | (go_at_call 173; refine (q2.out _ JD1.out).mono ?_; rintro r w12 ⟨rfl, hDb, hfb⟩; have JD2 := zk7 hDb; have JF2 := zk7 (JF1.out.same hfb); clear hDb hfb)
         | (go_at_call 173; refine q1.mono ?_; rintro r w11 ⟨rfl, hDa, hfa⟩; have JD1 := zk7 hDa; have JF1 := zk7 (JF.out.same hfa); clear hDa hfa))
        go_roundw
        case rel => exact ⟨k + 1, by omega, by go_num, by rw [HNX.out, if_neg HB1.out, if_pos HB2.out], by rw [HNX.out, if_neg HB1.out, if_pos HB2.out], zk7 (by rw [HNX.out]; exact JD2.out), JF2⟩
        case measure => simp [intOf]; omega
       ·have e2 : (nm.toList == [72, 69, 76, 80]) = false := zfE nm #[72, 69, 76, 80] hb2
        have HB2 := zk7 hb2; clear hb2
        go_wp2_with (first
         | (go_at_call 173; refine (q2.out _ JD1.out).mono ?_; rintro r w12 ⟨rfl, hDb, hfb⟩; have JD2 := zk7 hDb; have JF2 := zk7 (JF1.out.same hfb); clear hDb hfb)
         | (go_at_call 173; refine q1.mono ?_; rintro r w11 ⟨rfl, hDa, hfa⟩; have JD1 := zk7 hDa; have JF1 := zk7 (JF.out.same hfa); clear hDa hfa))
        go_roundw
        case rel => exact ⟨k + 1, by omega, by go_num, by rw [HNX.out, if_neg HB1.out, if_neg HB2.out], by rw [HNX.out, if_neg HB1.out, if_neg HB2.out], zk7 (by rw [HNX.out]; exact JD2.out), JF2⟩
        case measure => simp [intOf]; omega
     ·obtain rfl : k = nf := by omega
      obtain ⟨pk, hpk⟩ : ∃ p, zdJ S3 k = p := ⟨_, rfl⟩; rw [hpk] at JD ⊢; obtain ⟨⟨pu, ph⟩, pst⟩ := pk; have HPK := zk7 hpk; clear hpk; simp only []; obtain ⟨OA, FA⟩ := KW.out _ JF.out; have sA := FA.size; have HFA := zk7 FA; have HOA := zk7 OA; obtain ⟨q0, q1, q2, q3, q4, q5, q6, q7⟩ := HSS.out; have hst : za1 S0 = (⟨v0, UInt8.ofNat v1, pu, ph⟩, pst) := by
       unfold za1; rw [q0, q1, q2, q6, q7, HPK.out]
      have hty : (UInt8.ofNat v1).toNat = v1 := by simp; omega
      obtain ⟨ty, hty2⟩ : ∃ t, UInt8.ofNat v1 = t := ⟨_, rfl⟩; rw [hty2] at hst hty; subst hty
      have HE2 : Hid (∀ j', j = j' + 1 → zaj za1 j' pst (acc ++ [⟨v0, ty, pu, ph⟩]) = zaj za1 rest.length (some rest) []) := zk7 (by
       rintro j' rfl; have h := HE.out; have h2 : zaj za1 (j' + 1) (some (x :: r)) acc = zaj za1 j' (za1 (some (x :: r))).2 (acc ++ [(za1 (some (x :: r))).1]) := rfl; rw [h2, HS0.out, hst] at h
       exact h)
      have hlen8 : Hid (∀ l, pst = some l → l.length < n7) := zk7 (fun l hl => by
       have h := zjg (l0 := x :: r) (l := l) (by rw [HS0.out, hst]; exact hl)
       rw [HN7.out] at h; exact h)
      have HGP : Hid (Good pst) := zk7 (by have h := HGN.out; rw [hst] at h; exact h); have hDS2 : Hid (Dec te pe wr w.heap.size g cur pst) := JD; clear OA FA q0 q1 q2 q3 q4 q5 q6 q7 hst hty2 hE
      go_wp2_with (first
       | (at_builtin; refine Hid.out ?_))
      refine zk7 ?_
      refine zad _ rfl _ _ 169 169 rfl base 174 i0 _ 4 48 Tryz.underlying169 hi0 hz0 hz1 hz2 rfl (by decide) (.slice a6 (np + acc.length) k6) (np + acc.length) ((pre ++ acc).flatMap Mta.c) rfl (HOA.out.alloc _) _ 1 (Mta.c ⟨v0, ty, pu, ph⟩) rfl (zaF Tryz.underlying169 (Blk.new wr 174 (Mta.c ⟨v0, ty, pu, ph⟩).toArray) rfl (by simp [Mta.c, Value.oneCell'])) (by unfold maxLen; omega) (by omega) (by simp; omega) ?_
      intro v' w2 hown' hgrow hat
      obtain ⟨a9, k9, rfl⟩ := zaa hown'
      have hrow : ∀ k, (Value.slice a6 (np + acc.length) k6).ownBlock = some k → base ≤ k ∧ k ≠ w.heap.size := fun k hk => ⟨(HOA.out.lt k hk).1, by
       rcases HB.out k hk with h | h
       ·have := HN1.out k h.symm; omega
       ·omega⟩
      have hsG := hgrow.size; simp at hsG; have fG : Fr (fun k => some k = (Value.slice a6 (np + acc.length) k6).ownBlock) wr w2 := ((zlW (fun k => some k = (Value.slice a6 (np + acc.length) k6).ownBlock) wr).alloc _).grown hgrow (fun k hk => .inl hk.symm)
      have rD : Dec te pe w2 w.heap.size g cur pst := hDS2.out.fr fG (fun e => (hrow _ e.symm).2 rfl) (fun e => by have := (hrow _ e.symm).1; omega) (fun e => by have := (hrow _ e.symm).1; omega); have rO : w2.ownsRow base 174 4 (.slice a9 (np + acc.length + 1) k9) (np + (acc ++ [(⟨v0, ty, pu, ph⟩ : Mta)]).length) ((pre ++ (acc ++ [(⟨v0, ty, pu, ph⟩ : Mta)])).flatMap Mta.c) := by
       rw [← zla, zlG, zk8, zlo]; simpa [Nat.add_assoc] using hown'
      have rF : Fr (fun k => some k = (Value.slice a' np k').ownBlock) w w2 := HFA.out.trans fG (fun k hk e => by
       rcases HB.out k e.symm with h | h
       ·exact h
       ·omega)
      have rB : ∀ k, (Value.slice a9 (np + acc.length + 1) k9).ownBlock = some k → (some k = (Value.slice a' np k').ownBlock ∨ w.heap.size < k) := fun k hk => by
       rcases hat with h | h
       ·exact HB.out k (h ▸ hk)
       ·rw [h] at hk; injection hk with hk; simp at hk; exact .inr (by omega)
      have rM : zhE w.heap.size w2 < n7 + 1 := by
       rcases pst with _ | l9
       ·rw [zc5 rD]; omega
       ·rw [zbm rD]; have := hlen8.out l9 rfl; omega
      have RD := zk7 rD; have RO := zk7 rO; have RF := zk7 rF; have RB := zk7 rB; clear rD rO rF rB hown' hgrow hat hrow fG; go_wp2; go_roundw
      case rel =>
       obtain ⟨j', rfl⟩ : ∃ j', j = j' + 1 := ⟨j - 1, by have := HN7.out; simp at this; omega⟩; refine ⟨pst, acc ++ [⟨v0, ty, pu, ph⟩], j', RD, RO, RF, RB, zk7 (HE2.out j' rfl), zk7 (fun l hl => ?_), by simp; omega, HGP⟩; have := hlen8.out l hl; rw [zk8, zlo]; omega
      case measure => rw [hM]; exact rM
theorem ziz (Good : St → Prop) (hG : ∀ l, Good (some l) → zef (some l) ∧ Good (za1 (some l)).2) (te : TypeId) (pe : Value) (dv : Value) (g base : Nat) (cur : Array Value) (pre : List Mta) (xs : List UInt8) (v sv : Value) (w : World) (h : Rec te pe w g cur xs v) (ho : w.ownsRow base 174 4 sv pre.length (pre.flatMap Mta.c)) (hb : g < base ∧ 2 < base ∧ base ≤ w.heap.size) (hpl : pre.length ≤ 1073741824) (hG0 : ∀ r, xs = 6 :: r → Good (some r)) :
 Calls Tryz.prog 81 #[dv, v, sv] w (zcd w base sv.ownBlock pre xs) := by
 by_cases hx : (zaB (some xs)).1 = 6
 ·rcases xs with _ | ⟨b, rest⟩
  ·exact absurd hx (by decide)
  ·have hb2 : b = 6 := by
    have : b.toNat = (6 : UInt8).toNat := hx; exact UInt8.toNat_inj.1 this
   subst hb2; exact zhC Good hG te pe dv g base cur pre rest v sv w h ho hb hpl (hG0 _ rfl)
 ·exact zhB te pe dv g base cur pre xs v sv w h hx
theorem ze0 (s : ByteArray) (r : List UInt8) (h : s.size < 18446744073709551616) : (gUv (some (zaI s ++ r))).1 = s.size := by
 unfold zaI; rw [zla, zer s.size h]
theorem zfU (s : Mta) (hs : s.wf) (r : List UInt8) : zef (some (zb3 s ++ r)) ∧ za1 (some (zb3 s ++ r)) = (s, some r) := by
 obtain ⟨w1, w2, w3⟩ := hs; obtain ⟨R6, h6⟩ : ∃ R, zaI s.help ++ r = R := ⟨_, rfl⟩; obtain ⟨R5, h5⟩ : ∃ R, zaI ziL ++ R6 = R := ⟨_, rfl⟩; obtain ⟨R4, h4⟩ : ∃ R, zaI s.unit ++ R5 = R := ⟨_, rfl⟩; obtain ⟨R3, h3⟩ : ∃ R, zaI ziK ++ R4 = R := ⟨_, rfl⟩; obtain ⟨R2, h2⟩ : ∃ R, Lib.uvarint 2 ++ R3 = R := ⟨_, rfl⟩; have hall : zb3 s ++ r = Lib.uvarint s.ref ++ (s.ty :: R2) := by
  rw [← h2, ← h3, ← h4, ← h5, ← h6]; unfold zb3 ziK ziL; simp only [zla, List.cons_append]
 rw [hall]; obtain ⟨S, hS⟩ : ∃ S : St, some (Lib.uvarint s.ref ++ (s.ty :: R2)) = S := ⟨_, rfl⟩; rw [hS]; have a1 : gUv S = (s.ref, some (s.ty :: R2)) := by rw [← hS]; exact zer s.ref w1 _
 have a2 : zaB (gUv S).2 = (s.ty.toNat, some R2) := by rw [a1]; rfl
 have a3 : gUv (zaB (gUv S).2).2 = (2, some R3) := by rw [a2, ← h2]; exact zer 2 (by omega) R3
 have n1 : mtaN S = 2 := congrArg Prod.fst a3; have n2 : zh4 S = some R3 := congrArg Prod.snd a3; have b1 : zch (some R3) = (ziK, some R4) := by rw [← h3]; exact zdI ziK R4 (by decide)
 have b2 : zch (some R4) = (s.unit, some R5) := by rw [← h4]; exact zdI s.unit R5 (by omega)
 have b3 : zch (some R5) = (ziL, some R6) := by rw [← h5]; exact zdI ziL R6 (by decide)
 have b4 : zch (some R6) = (s.help, some r) := by rw [← h6]; exact zdI s.help r (by omega)
 have f0 : zdJ (some R3) 0 = ((⟨#[]⟩, ⟨#[]⟩), some R3) := rfl; have f1 : zdJ (some R3) 1 = ((s.unit, ⟨#[]⟩), some R5) := by
  show gFld (zdJ (some R3) 0) = _; rw [f0]; unfold gFld; simp only []; rw [b1]; simp only [if_true]; rw [b2]
 have hne : ¬ ziL = ziK := by decide
 have f2 : zdJ (some R3) 2 = ((s.unit, s.help), some r) := by
  show gFld (zdJ (some R3) 1) = _; rw [f1]; unfold gFld; simp only []; rw [b3]; simp only [if_neg hne, if_true]; rw [b4]
 refine ⟨⟨by rw [n1]; omega, fun k hk => ?_⟩, ?_⟩
 ·rw [n1] at hk
  rw [n2]; obtain rfl | rfl : k = 0 ∨ k = 1 := by omega
  ·rw [f0]
   show (gUv (some R3)).1 < _ ∧ (gUv (zch (some R3)).2).1 < _; rw [b1]; show (gUv (some R3)).1 < _ ∧ (gUv (some R4)).1 < _; rw [← h3, ze0 _ _ (by decide), ← h4, ze0 _ _ (by omega)]; exact ⟨by decide, by omega⟩
  ·rw [f1]
   show (gUv (some R5)).1 < _ ∧ (gUv (zch (some R5)).2).1 < _; rw [b3]; show (gUv (some R5)).1 < _ ∧ (gUv (some R6)).1 < _; rw [← h5, ze0 _ _ (by decide), ← h6, ze0 _ _ (by omega)]; exact ⟨by decide, by omega⟩
 ·unfold za1
  rw [n1, n2, f2, a2, a1]; simp
theorem zkO (s : Mta) : ∃ c r, zb3 s = c :: r := by
 have := Lib.uvarint_pos s.ref; unfold zb3; rcases h : Lib.uvarint s.ref with _ | ⟨c, t⟩
 ·rw [h] at this; simp at this
 ·exact ⟨c, _, rfl⟩
theorem ziy (l : List Mta) (hl : ∀ s ∈ l, s.wf) : zaN (zb2 l) = some l := by
 unfold zaN zb2; exact zee 6 za1 zb3 Mta.wf (fun x r hx => (zfU x hx r).2) zkO l hl
def GoodM (st : St) : Prop := st = none ∨ ∃ l : List Mta, (∀ s ∈ l, s.wf) ∧ st = some (l.flatMap zb3)
theorem zkr (l : List UInt8) (h : GoodM (some l)) : zef (some l) ∧ GoodM (za1 (some l)).2 := by
 rcases h with h | ⟨l', hl', e⟩
 ·cases h
 ·injection e with e
  subst e; rcases l' with _ | ⟨s, l'⟩
  ·show zef (some []) ∧ GoodM (za1 (some [])).2
   have e0 : mtaN (some []) = 0 := rfl; exact ⟨⟨by rw [e0]; omega, fun k hk => by rw [e0] at hk; omega⟩, .inl rfl⟩
  ·obtain ⟨h1, h2⟩ := zfU s (hl' s (by simp)) (l'.flatMap zb3)
   rw [zlm]; exact ⟨h1, .inr ⟨l', fun x hx => hl' x (by simp [hx]), by rw [h2]⟩⟩
theorem goodM_rec (l : List Mta) (hl : ∀ s ∈ l, s.wf) (r : List UInt8) (e : zb2 l = 6 :: r) : GoodM (some r) := by
 have e2 : 6 :: l.flatMap zb3 = 6 :: r := e; injection e2 with _ e2; exact .inr ⟨l, hl, by rw [e2]⟩
theorem zj0 (l : List Lab) (hl : l.length ≤ 12) (hs : ∀ p ∈ l, p.1.size ≤ 600 ∧ p.2.size ≤ 600) (r : List UInt8) : ze6 (some (zbe l ++ r)) ∧ zfz (some (zbe l ++ r)) = (l, some r) := by
 have hs2 : ∀ p ∈ l, p.1.size < 18446744073709551616 ∧ p.2.size < 18446744073709551616 := fun p hp => by have := hs p hp; omega
 have a : gUv (some (zbe l ++ r)) = (l.length, some (l.flatMap zbI ++ r)) := by unfold zbe; rw [zla]; exact zer l.length (by omega) _
 have b : zfz (some (zbe l ++ r)) = (l, some r) := by
  unfold zfz; rw [a]; show za9 (some (l.flatMap zbI ++ r)) l.length = _; rw [zf0 l r hs2 l.length (zlj _), zly, List.drop_length]; rfl
 refine ⟨⟨by rw [a]; show l.length ≤ 4096; omega, fun k hk => ?_, fun p hp => ?_⟩, b⟩
 ·rw [a] at hk ⊢
  have hk2 : k < l.length := hk; show (gUv (za9 (some (l.flatMap zbI ++ r)) k).2).1 < _ ∧ (gUv (zch (za9 (some (l.flatMap zbI ++ r)) k).2).2).1 < _; rw [zf0 l r hs2 k (by omega), List.drop_eq_getElem_cons hk2, zlm]; have hm := hs _ (List.getElem_mem hk2); obtain ⟨p, hp⟩ : ∃ p, l[k] = p := ⟨_, rfl⟩; rw [hp] at hm ⊢
  have e : zbI p ++ (l.drop (k + 1)).flatMap zbI ++ r = zaI p.1 ++ (zaI p.2 ++ ((l.drop (k + 1)).flatMap zbI ++ r)) := by unfold zbI; simp only [zla]
  rw [e]; show (gUv (some (zaI p.1 ++ _))).1 < _ ∧ (gUv (zch (some (zaI p.1 ++ (zaI p.2 ++ ((l.drop (k + 1)).flatMap zbI ++ r))))).2).1 < _; rw [ze0 _ _ (by omega), zdI _ _ (by omega)]; show p.1.size < _ ∧ (gUv (some (zaI p.2 ++ _))).1 < _; rw [ze0 _ _ (by omega)]; exact ⟨by omega, by omega⟩
 ·rw [b] at hp
  have := hs p hp; omega
theorem zft (l : List Lab) (hl : l.length ≤ 12) (hs : ∀ p ∈ l, p.1.size ≤ 600 ∧ p.2.size ≤ 600) : (zbH l).length ≤ 12 ∧ ∀ p ∈ zbH l, p.1.size ≤ 600 ∧ p.2.size ≤ 600 :=
 have hp := (zck ltL zdw zcW zcV l).2
 ⟨by rw [zcI]; exact hl, fun p hm => hs p (hp.mem_iff.mp hm)⟩
def tos (x : Ser) : SerD := ⟨x.ref, zbH x.labs⟩
theorem zfK (s : Ser) (hs : zgE s) (r : List UInt8) : zdq (some (zbS s ++ r)) ∧ za0 (some (zbS s ++ r)) = (tos s, some r) := by
 obtain ⟨h1, h2, h3, _⟩ := hs; obtain ⟨q1, q2⟩ := zft s.labs h2 h3; obtain ⟨f, g⟩ := zj0 (zbH s.labs) q1 q2 r; have a : zac (some (zbS s ++ r)) = (s.ref, some (zbe (zbH s.labs) ++ r)) := by unfold zbS; rw [zla]; exact zaR s.ref h1 _
 constructor
 ·unfold zdq
  rw [a]; exact f
 ·unfold za0
  rw [a]; show (SerD.mk s.ref (zfz (some (zbe (zbH s.labs) ++ r))).1, (zfz (some (zbe (zbH s.labs) ++ r))).2) = _; rw [g]; rfl
theorem be8_pos (v : Nat) (r : List UInt8) : ∃ c t, Lib.beBytes 8 v ++ r = c :: t := by
 rcases h : Lib.beBytes 8 v ++ r with _ | ⟨c, t⟩
 ·have := congrArg List.length h
  simp [zlh] at this
 ·exact ⟨c, t, rfl⟩
theorem zgZ (s : Ser) : ∃ c r, zbS s = c :: r := by unfold zbS; exact be8_pos _ _
theorem zjC (l : List Ser) (hl : ∀ s ∈ l, zgE s) : zba (zcz l) = some (l.map tos) := by
 have hL := zc0 za0 zbS tos zgE (fun x r hx => (zfK x hx r).2) zgZ l (l.flatMap zbS).length [] hl (zf4 zbS zgZ l); unfold zba zcz; rw [za5, if_pos rfl, hL]; rfl
def GoodR (st : St) : Prop := st = none ∨ ∃ l : List Ser, (∀ s ∈ l, zgE s) ∧ st = some (l.flatMap zbS)
theorem labG_none : zfz none = ([], none) := rfl
theorem zfb : ze6 none := by
 have e : gUv none = (0, none) := rfl; exact ⟨by rw [e]; exact zli _, fun k hk => by rw [e] at hk; exact absurd hk (zlS _), fun p hp => by rw [labG_none] at hp; cases hp⟩
theorem zkq (l : List UInt8) (h : GoodR (some l)) : zdq (some l) ∧ GoodR (za0 (some l)).2 := by
 rcases h with h | ⟨l', hl', e⟩
 ·cases h
 ·injection e with e
  subst e; rcases l' with _ | ⟨s, l'⟩
  ·show zdq (some []) ∧ GoodR (za0 (some [])).2
   exact ⟨zfb, .inl rfl⟩
  ·obtain ⟨h1, h2⟩ := zfK s (hl' s (by simp)) (l'.flatMap zbS)
   rw [zlm]; exact ⟨h1, .inr ⟨l', fun x hx => hl' x (by simp [hx]), by rw [h2]⟩⟩
theorem goodR_rec (l : List Ser) (hl : ∀ s ∈ l, zgE s) (r : List UInt8) (e : zcz l = 1 :: r) : GoodR (some r) := by
 have e2 : 1 :: l.flatMap zbS = 1 :: r := e; injection e2 with _ e2; exact .inr ⟨l, hl, by rw [e2]⟩
def toe (x : Exm) : ExD := ⟨x.ref, x.t, x.v, zbH x.labs⟩
theorem zf7 (f s : Exm) (hs : zfs s) (r : List UInt8) : zd0 (some (zbl f s ++ r)) ∧ zaQ f.ref f.t (some (zbl f s ++ r)) = (toe s, some r) := by
 obtain ⟨w1, w2, w3, w4, h2, h3, _⟩ := hs; obtain ⟨q1, q2⟩ := zft s.labs h2 h3; obtain ⟨p1, p2⟩ := zj0 (zbH s.labs) q1 q2 r; have e0 : zbl f s ++ r = Lib.uvarint (Lib.zigzag (xRef f s)) ++ (Lib.uvarint (Lib.zigzag (xT f s)) ++ (Lib.beBytes 8 s.v ++ (zbe (zbH s.labs) ++ r))) := by
  unfold zbl; simp only [zla]
 have a1 : zaE (some (zbl f s ++ r)) = (xRef f s, some (Lib.uvarint (Lib.zigzag (xT f s)) ++ (Lib.beBytes 8 s.v ++ (zbe (zbH s.labs) ++ r)))) := by rw [e0]; exact zcg _ (zaf _).1 (zaf _).2 _
 have a2 : zaE (zaE (some (zbl f s ++ r))).2 = (xT f s, some (Lib.beBytes 8 s.v ++ (zbe (zbH s.labs) ++ r))) := by rw [a1]; exact zcg _ (zaf _).1 (zaf _).2 _
 have a3 : zac (zaE (zaE (some (zbl f s ++ r))).2).2 = (s.v, some (zbe (zbH s.labs) ++ r)) := by rw [a2]; exact zaR s.v w4 _
 constructor
 ·unfold zd0
  rw [a3]; exact p1
 ·unfold zaQ
  rw [a3, a2, a1]; show (ExD.mk (u64 ((f.ref : Int) + u64 (xRef f s))) (wrap64 (f.t + xT f s)) s.v (zfz (some (zbe (zbH s.labs) ++ r))).1, (zfz (some (zbe (zbH s.labs) ++ r))).2) = _; rw [p2]; unfold xRef xT toe; rw [zfM _ _ w1, zjR _ _ w2 w3]
theorem zg5 (f s : Exm) : ∃ c r, zbl f s = c :: r := by unfold zbl; exact ziT _ _
theorem zh8 (f : Exm) (hf : zfs f) (X : List UInt8) : (zac (some (zbD f ++ X))).1 = f.ref ∧ zaq (zac (some (zbD f ++ X))).2 = (f.t, some X) := by
 have h1 := zaR f.ref hf.1 (Lib.beBytes 8 (u64 f.t) ++ X); have h2 := zaR (u64 f.t) (zjQ _) X; unfold zbD; rw [zla, h1]; refine ⟨rfl, ?_⟩; show (i64 (zac (some (Lib.beBytes 8 (u64 f.t) ++ X))).1, (zac (some (Lib.beBytes 8 (u64 f.t) ++ X))).2) = _; rw [h2]; show (i64 (u64 f.t), some X) = _; rw [zjo _ hf.2.1 hf.2.2.1]
theorem hdrX_pos (f : Exm) (X : List UInt8) : zbD f ++ X ≠ [] := by
 intro h; have := congrArg List.length h; unfold zbD at this; simp [zlh] at this
theorem ziI (rest : List UInt8) : zbf (4 :: rest) = zbJ rest := rfl
theorem zis (f : Exm) (r : List Exm) : zb5 (f :: r) = 4 :: (zbD f ++ (f :: r).flatMap (zbl f)) := rfl
theorem zjJ (l : List Exm) (hl : ∀ s ∈ l, zfs s) : zbf (zb5 l) = some (l.map toe) := by
 rcases l with _ | ⟨f, r⟩
 ·rfl
 ·have hf := hl f (by simp)
  rw [zis, ziI]; obtain ⟨X, hX⟩ : ∃ X, (f :: r).flatMap (zbl f) = X := ⟨_, rfl⟩; have hlen := zf4 (zbl f) (zg5 f) (f :: r); have hL := zc0 (zaQ f.ref f.t) (zbl f) toe zfs (fun x r hx => (zf7 f x hx r).2) (zg5 f) (f :: r) (zbD f ++ X).length [] hl (by rw [zk8, ← hX]; omega); rw [hX] at hL ⊢
  obtain ⟨g1, g2⟩ := zh8 f hf X; unfold zbJ; rw [if_neg (hdrX_pos f X), g1, g2]; simp only []; rw [hL]; rfl
def GoodX (f : Exm) (st : St) : Prop := st = none ∨ ∃ l : List Exm, (∀ s ∈ l, zfs s) ∧ st = some (l.flatMap (zbl f))
theorem zko (f : Exm) (l : List UInt8) (h : GoodX f (some l)) : zd0 (some l) ∧ GoodX f (zaQ f.ref f.t (some l)).2 := by
 rcases h with h | ⟨l', hl', e⟩
 ·cases h
 ·injection e with e
  subst e; rcases l' with _ | ⟨s, l'⟩
  ·show zd0 (some []) ∧ GoodX f (zaQ f.ref f.t (some [])).2
   exact ⟨zfb, .inl rfl⟩
  ·obtain ⟨h1, h2⟩ := zf7 f s (hl' s (by simp)) (l'.flatMap (zbl f))
   rw [zlm]; exact ⟨h1, .inr ⟨l', fun x hx => hl' x (by simp [hx]), by rw [h2]⟩⟩
theorem goodX_rec (l : List Exm) (hl : ∀ s ∈ l, zfs s) : ∃ Good : St → Prop,
 (∀ rest, zb5 l = 4 :: rest → ∀ l, Good (some l) → zd0 (some l) ∧ Good (zaQ (zac (some rest)).1 (zaq (zac (some rest)).2).1 (some l)).2) ∧
 (∀ rest, zb5 l = 4 :: rest → rest ≠ [] → Good (zaq (zac (some rest)).2).2) := by
 rcases l with _ | ⟨f, r⟩
 ·refine ⟨fun _ => False, fun _ _ _ h => h.elim, fun rest e hr => ?_⟩
  have e2 : [4] = 4 :: rest := e; injection e2 with _ e2; exact absurd e2.symm hr
 ·obtain ⟨X, hX⟩ : ∃ X, (f :: r).flatMap (zbl f) = X := ⟨_, rfl⟩
  obtain ⟨g1, g2⟩ := zh8 f (hl f (by simp)) X; have he : ∀ rest, zb5 (f :: r) = 4 :: rest → rest = zbD f ++ X := fun rest e => by
   have e2 : 4 :: (zbD f ++ (f :: r).flatMap (zbl f)) = 4 :: rest := e; injection e2 with _ e2; rw [← e2, hX]
  refine ⟨GoodX f, fun rest e l' h => ?_, fun rest e _ => ?_⟩
  ·rw [he rest e, g1, g2]
   exact zko f l' h
  ·rw [he rest e, g2, ← hX]
   exact .inr ⟨_, hl, rfl⟩
def outM (pre : List Mrk) (xs : List UInt8) : List Mrk := match zaC xs with | some l => pre ++ l | none => []
def ReadEndsM (w : World) (bb bp bo : Nat) (pre : List Mrk) (xs : List UInt8) (r : Ending) (w' : World) : Prop :=
 r = .returned (.tuple #[]) ∧ Fr (fun k => k = bb ∨ k = bp ∨ k = bo) w w' ∧ Blk w' bo 4 #[.bool (zaC xs).isSome] ∧
  ∃ lv, Blk w' bp 54 #[.slice none 0 0, .slice none 0 0, .slice none 0 0, .slice none 0 0, .slice none 0 0, lv, .slice none 0 0] ∧ w'.ownsRow w.heap.size 168 2 lv (outM pre xs).length ((outM pre xs).flatMap Mrk.c)
theorem zfR {α : Type} (step : St → α × St) : ∀ (k : Nat) (st : St) (acc : List α), (zaj step k st acc).1.length ≤ acc.length + k
 | 0, st, acc => by simp [zaj]
 | k + 1, none, acc => by simp [zaj]
 | k + 1, some [], acc => by simp [zaj]
 | k + 1, some (c :: r), acc => by
   have h := zfR step k (step (some (c :: r))).2 (acc ++ [(step (some (c :: r))).1]); rw [zk8, zlo] at h; show (zaj step k (step (some (c :: r))).2 (acc ++ [(step (some (c :: r))).1])).1.length ≤ _; omega
theorem zed {α : Type} {t : UInt8} {step : St → α × St} {xs : List UInt8} {l : List α} (h : za5 t step xs = some l) : l.length ≤ xs.length := by
 rcases xs with _ | ⟨b, rest⟩
 ·cases h
 ·unfold za5 at h
  simp only [] at h; split at h
  ·have hl := zfR step rest.length (some rest) []
   split at h
   ·rename_i e
    injection h with h; rw [e] at hl; subst h; simp at hl ⊢; omega
   ·cases h
  ·cases h
theorem outM_len (pre : List Mrk) (xs : List UInt8) : (outM pre xs).length ≤ pre.length + xs.length := by
 unfold outM; split
 ·rename_i h
  have := zed h; rw [zk8]; omega
 ·simp
theorem zfV {w w' : World} {base : Nat} {o : Option Nat} {pre : List Mrk} {xs : List UInt8} {r : Ending} (h : zbc w base o pre xs r w') :
 ∃ v' e, r = .returned (.tuple #[v', e]) ∧ w'.ownsRow base 166 2 v' (outM pre xs).length ((outM pre xs).flatMap Mrk.c) ∧ Fr (fun k => some k = o) w w' ∧ ((e = .nilIface ∧ (zaC xs).isSome = true) ∨ (∃ t a, e = .iface t a ∧ (zaC xs).isSome = false)) := by
 unfold zbc at h; unfold outM; rcases hd : zaC xs with _ | l
 ·rw [hd] at h
  obtain ⟨hf, t, a, rfl⟩ := h; exact ⟨_, _, rfl, zll _ _ _ _, hf, .inr ⟨_, _, rfl, rfl⟩⟩
 ·rw [hd] at h
  obtain ⟨hf, v', rfl, ho⟩ := h; exact ⟨_, _, rfl, ho, hf, .inl ⟨rfl, rfl⟩⟩
theorem zfy {W w5 w6 : World} {b t : Nat} {cs : Array Value} {v5 : Value} {n : Nat} {xs : List Value} (h : Blk W b t cs) (hf5 : Fr (fun _ => False) W.drew w5) (ho : w5.ownsRow W.drew.heap.size 166 2 v5 n xs) (hf6 : Fr (fun k => some k = v5.ownBlock) w5 w6) : Blk w6 b t cs :=
 (h.drew.fr hf5 (fun e => e)).fr hf6 (fun e => by have h1 := (ho.lt b e.symm).1; have h2 : b < W.heap.size := h.lt; exact zlR _ (zlw h2 h1))
theorem zhj (te : TypeId) (pe : Value) (bb bk bq bp bo : Nat) (P : Nat → Prop) (q0 q1 q2 q3 q4 q5 q6 v : Value) (xs : List UInt8) (w : World) (hb : Blk w bb 44 #[v]) (hv : Sl P w v 1 xs.length (bc xs)) (hk : Blk w bk 3 #[.int .i64 5]) (hq : Blk w bq 54 #[q0, q1, q2, q3, q4, q5, q6]) (pre : List Mrk) (hs : Sl P w q5 2 pre.length (pre.flatMap Mrk.c)) (hpl : pre.length ≤ 1073741824)
 (hp : Blk w bp 54 #[.slice none 0 0, .slice none 0 0, .slice none 0 0, .slice none 0 0, .slice none 0 0, .slice none 0 0, .slice none 0 0]) (ho : Blk w bo 4 #[.bool false]) (hE : w.cell? ⟨2, 0, none⟩ = some (.iface te pe)) (hxl : xs.length ≤ 1073741824)
 (hPb : ∀ g, P g → g ≠ bb) (hpq : bp ≠ bq) (h2 : bb ≠ 2 ∧ bp ≠ 2 ∧ bo ≠ 2) :
 Calls Tryz.prog 66 #[.pointer (some ⟨bb, 0, none⟩), .pointer (some ⟨bk, 0, none⟩), .pointer (some ⟨bq, 0, none⟩), .pointer (some ⟨bp, 0, none⟩), .pointer (some ⟨bo, 0, none⟩)] w (ReadEndsM w bb bp bo pre xs) := by
 obtain ⟨i0, hi0, hz0, hz1, hz2⟩ := info_parts Tryz.info5; have HB := zk7 hb; have HV := zk7 hv; have HK := zk7 hk; have HQ := zk7 hq; have HS := zk7 hs; have HP := zk7 hp; have HO := zk7 ho; have HE := zk7 hE; have HPB := zk7 hPb; have hv1 : ∃ A m c, v = .slice A m c := let ⟨A, c, h, _⟩ := hv; ⟨A, _, c, h⟩
 obtain ⟨A, m, c, rfl⟩ := hv1; clear hb hv hk hq hs hp ho hE hPb; go_enter Tryz.func66, Tryz.ntmps66; go_wp2_with (first | (go_at_call 67; refine (zcU _ _).mono ?_; rintro r w1 ⟨v1, rfl, ⟨a, rfl⟩, hf1⟩; refine Hid.out ?_))
 have hB1 := ((HB.out.fr hf1 (fun e => e)).alloc (.cells #[.slice (some a) 0 0, .string ⟨#[]⟩, .slice none 0 0] 119)).alloc (.cells #[] 5); have b1 := hB1.cell 0; simp at b1; clear hB1; refine zk7 ?_; go_wp2_with (at_builtin; refine Hid.out ?_)
 have hO0 := World.ownsRow_made (base := w.heap.size) (e := 5) (size := 1) (w1.alloc (.cells #[.slice (some a) 0 0, .string ⟨#[]⟩, .slice none 0 0] 119)) #[] 0 (by have := hf1.size; simp; omega) (zli _) rfl; have hFA : Fr (fun _ => False) w ((w1.alloc (.cells #[.slice (some a) 0 0, .string ⟨#[]⟩, .slice none 0 0] 119)).alloc (.cells #[] 5)) := (hf1.alloc _).alloc _; have hs1 := hf1.size
 refine zk7 ?_; have hg0 : (w1.alloc (.cells #[.slice (some a) 0 0, .string ⟨#[]⟩, .slice none 0 0] 119)).heap.size = w1.heap.size + 1 := by simp
 rw [hg0] at hO0; clear b1; generalize World.alloc _ (Obj.cells #[] 5) = WA at hO0 hFA ⊢; have hsA := hFA.size; have hsrc := zc8 Tryz.underlying44 (HV.out.fr hFA (fun _ _ e => e)) (zet xs)
 refine zad _ rfl _ _ 44 44 rfl w.heap.size 5 i0 (.int .u8 0) 1 1 Tryz.underlying44 hi0 hz0 hz1 hz2 rfl (by decide) (.slice (some ⟨w1.heap.size + 1, 0, none⟩) 0 0) 0 [] rfl hO0 (.slice A m c) xs.length (bc xs) rfl hsrc (by unfold maxLen; omega) (by omega) (by omega) ?_; intro v' w2 hown' hgrow hat
 rw [zlC, zlJ] at hown'; obtain ⟨a2, k2, rfl⟩ := zaa hown'; have hge : ∀ k, (Value.slice (some ⟨w1.heap.size + 1, 0, none⟩) 0 0).ownBlock = some k → w.heap.size ≤ k := fun k hk => by
  have hk : w1.heap.size + 1 = k := zlV hk; omega
 have F2 : Fr (fun _ => False) w w2 := hFA.grown hgrow (fun k hk => .inr (hge k hk)); have hrow2 : ∃ g2 cur2, a2 = some ⟨g2, 0, none⟩ ∧ w.heap.size ≤ g2 ∧ Blk w2 g2 5 cur2 ∧ xs.length ≤ k2 ∧ k2 ≤ maxLen ∧ cur2.toList.take xs.length = bc xs := by
  rcases hown'.2 with ⟨h, _⟩ | ⟨g2, cap, cur2, h, h1, h3, h4, h5, _, h6⟩
  ·rw [h] at hat
   rcases hat with hat | hat <;> exact absurd hat (by simp [Value.ownBlock])
  ·injection h with e1 e2 e3
   subst e3; exact ⟨g2, cur2, e1, h1, h3, h4, h5, by simpa using h6⟩
 have hge2 : ∀ k, (Value.slice a2 xs.length k2).ownBlock = some k → w.heap.size ≤ k := fun k hk => (hown'.lt k hk).1; have lB := HB.out.lt; have gB := HB.out.fr F2 (fun e => e); have y0 := gB.cell 0; have y1 := gB.frozen 0; simp at y0
 have F3 : Fr (fun k => k = bb) w (w2.setCell ⟨bb, 0, none⟩ (.slice a2 xs.length k2)) := (F2.mono (S' := fun k => k = bb) (fun _ _ e => e.elim)).setCell (p := ⟨bb, 0, none⟩) (.inl rfl) _; have O3 : (w2.setCell ⟨bb, 0, none⟩ (.slice a2 xs.length k2)).ownsRow w.heap.size 5 1 (.slice a2 xs.length k2) xs.length (bc xs) := zah hown' (Fr.put_ w2 bb 0 _) (fun k hk e => by have := hge2 k hk; omega)
 have B3 : Blk (w2.setCell ⟨bb, 0, none⟩ (.slice a2 xs.length k2)) bb 44 #[.slice a2 xs.length k2] := by simpa using gB.set_ 0 (.slice a2 xs.length k2)
 have K3 := (HK.out.fr F3 (fun e => Blk.ne_ HK.out HB.out (by decide) e)).cell 0; have Q3 := HQ.out.fr F3 (fun e => Blk.ne_ HQ.out HB.out (by decide) e); have P3 := HP.out.fr F3 (fun e => Blk.ne_ HP.out HB.out (by decide) e); have O4 := HO.out.fr F3 (fun e => Blk.ne_ HO.out HB.out (by decide) e)
 have E3 : (w2.setCell ⟨bb, 0, none⟩ (.slice a2 xs.length k2)).cell? ⟨2, 0, none⟩ = some (.iface te pe) := by
  rw [F3.cell (p := ⟨2, 0, none⟩) (zle w _ HE.out) (fun e => h2.1 e.symm)]; exact HE.out
 simp at K3; have HF3 := zk7 F3; have HO3 := zk7 O3; have HB3 := zk7 B3; have HQ3 := zk7 Q3; have HP3 := zk7 P3; have HO4 := zk7 O4; have HE3 := zk7 E3; have HGE := zk7 hge2; obtain ⟨g2, cur2, rfl, hg2, hbk2, hk2, hk2m, htk2⟩ := hrow2
 have R3 : Rec te pe (w2.setCell ⟨bb, 0, none⟩ (.slice (some ⟨g2, 0, none⟩) xs.length k2)) g2 cur2 xs (.slice (some ⟨g2, 0, none⟩) xs.length k2) := by
  refine ⟨0, k2, rfl, hbk2.far (p := ⟨bb, 0, none⟩) (by show g2 ≠ bb; omega) _, hk2, ⟨by simp [maxLen] at hk2m; omega, by omega⟩, fun j u hu => ?_, E3⟩; rw [zlC, ← Array.getElem?_toList]; have hj : j < xs.length := by
   rcases zlA j xs.length with h | h
   ·exact h
   ·rw [zlB (by rw [zc6]; exact h)] at hu; cases hu
  rw [← htk2, List.getElem?_take_of_lt hj] at hu; exact hu
 have HR3 := zk7 R3; have hg2l := hbk2.lt; clear R3 hk2m htk2 hbk2; clear F2 F3 O3 B3 Q3 P3 O4 E3 gB hge hge2 hown' hgrow hat hsrc hO0 hFA hf1; go_wp2_with fail
 generalize w2.setCell ⟨bb, 0, none⟩ (.slice (some ⟨g2, 0, none⟩) xs.length k2) = W3 at HF3 HO3 HB3 HQ3 HP3 HO4 HE3 HR3 ⊢; have hl3 := HR3.out; have hg3 : g2 < W3.heap.size := let ⟨_, _, _, h, _⟩ := hl3; h.lt
 have h23 : 2 < W3.heap.size := zle W3 _ HE3.out; clear hl3; have hS3 : Sl P W3.drew q5 2 pre.length (pre.flatMap Mrk.c) := HS.out.fr HF3.out.drew (fun g hg e => HPB.out g hg e); have hR1 := zel P q5 pre W3.drew hS3 (by omega); have hq1 : ∃ A m c, q5 = .slice A m c := let ⟨A, c, h, _⟩ := HS.out; ⟨A, _, c, h⟩
 obtain ⟨Aq, mq, cq, rfl⟩ := hq1; have x0 := HB3.out.cell 0; have x1 := HQ3.out.cell 5; have x0d : W3.drew.cell? ⟨bb, 0, none⟩ = some (.slice (some ⟨g2, 0, none⟩) xs.length k2) := x0; have x1d : W3.drew.cell? ⟨bq, 5, none⟩ = some (.slice Aq mq cq) := x1; simp at x0 x1; clear y0 y1 K3
 go_region_held3 (fun w' => w'.cell? ⟨bb, 0, none⟩ = some (.slice (some ⟨g2, 0, none⟩) xs.length k2) ∧ w'.cell? ⟨bq, 5, none⟩ = some (.slice Aq mq cq))
  ((first | (go_split_ands; refine ⟨?_, ?_⟩ <;> first | exact (HB3.out.drew.fr hf5 (fun e => e)).cell 0 | exact (HQ3.out.drew.fr hf5 (fun e => e)).cell 5) | (go_split_ands; refine ⟨?_, ?_⟩ <;> first | exact KB.out.cell 0 | exact KQ.out.cell 5) | go_keep))
  ((first
    | (go_at_call 80; refine hR1.mono ?_; rintro r5 w5 ⟨v5, rfl, hown5, hf5⟩)
    | (go_at_call 79; refine (zgD te pe _ g2 W3.drew.heap.size cur2 pre xs _ v5 w5 (HR3.out.fr (w := W3) (((zlW (fun _ => False) W3).drew).same hf5) (fun e => e) (fun e => e)) hown5 ⟨hg3, h23, hf5.size⟩ hpl).mono ?_; rintro r6 w6 hE6; obtain ⟨v6, e6, rfl, hown6, hf6, hor6⟩ := zfV hE6; clear hE6; have KB := zk7 (zfy HB3.out hf5 hown5 hf6); have KQ := zk7 (zfy HQ3.out hf5 hown5 hf6))))
 have T6 : Fr (fun k => k = bb) w w6 := ((HF3.out.trans (((zlW (fun _ => False) W3).drew).same hf5) (fun _ _ e => e.elim)).trans hf6 (fun k hk e => by
  have h1 := (hown5.lt k e.symm).1; have h2 := HF3.out.size
  simp at h1; omega))
 have P6 := zfy HP3.out hf5 hown5 hf6; have O6 := zfy HO4.out hf5 hown5 hf6; have hz6 : w.heap.size ≤ W3.drew.heap.size := HF3.out.size; have V6 := zai hown6 hz6; have HT6 := zk7 T6; have HP6 := zk7 P6; have HO6 := zk7 O6; have HV6 := zk7 V6; have HOR := zk7 hor6; have hsz5 := hf5.size; have hsz6 := hf6.size
 have hb6 : ∀ k, v6.ownBlock = some k → k < w6.heap.size := fun k hk => zav hown6 hk; clear x0 x1 x0d x1d hR1 T6 P6 O6 V6 hor6 hown5 hf5 hown6 hf6 KB KQ HO3 HB3 HQ3 HP3 HO4 HE3 HR3 HF3; obtain ⟨l, hl⟩ : ∃ l, outM pre xs = l := ⟨_, rfl⟩; rw [hl] at HV6; have HLL := zk7 hl; clear hl; obtain ⟨a6, k6, rfl⟩ := zaa HV6.out; go_wp2_with fail
 obtain ⟨n, hn⟩ : ∃ n, l.length = n := ⟨_, rfl⟩; have HN := zk7 hn; rw [hn] at HV6 hb6 ⊢; clear hn; obtain ⟨i1, hi1, hy0, hy1, hy2⟩ := info_parts Tryz.info168
 go_loopw [178] (fun i wr => ∃ (k : Nat) (lv : Value), k ≤ n ∧ i = .int .i64 k ∧ Hid (Fr (fun j => j = bb ∨ j = bp) w wr) ∧ Hid (wr.ownsRow w.heap.size 166 2 (.slice a6 n k6) n (l.flatMap Mrk.c)) ∧ Hid (Blk wr bo 4 #[.bool false]) ∧
  Hid (Blk wr bp 54 #[.slice none 0 0, .slice none 0 0, .slice none 0 0, .slice none 0 0, .slice none 0 0, lv, .slice none 0 0]) ∧ Hid (wr.ownsRow w.heap.size 168 2 lv k ((l.take k).flatMap Mrk.c))) (fun i _ => n - (intOf i).toNat)
 case atStart => exact ⟨0, _, zli _, rfl, zk7 (Fr.mono HT6.out (fun _ _ e => Or.inl e)), HV6, HO6, HP6, zk7 (zll _ _ _ _)⟩
 case round =>
  obtain ⟨k, lv, hk, rfl, RF, RV, RO, RP, RL⟩ := hrel; by_cases hlt : k < n
  ·obtain ⟨A7, c7, e7, _, _, hr7⟩ := Sl.ofOwn RV.out
   injection e7 with e7 _ e7c; subst e7 e7c; obtain ⟨g7, off7, rfl, _, hcell7⟩ := hr7 (by omega); obtain ⟨x, hx⟩ : ∃ x, l[k]? = some x := ⟨_, zk9 (by rw [HN.out]; exact hlt)⟩; have cc : ∀ j, j < 2 → ∀ u, (Mrk.c x)[j]? = some u → wr.cell? ⟨g7, off7 + (k * 2 + j), none⟩ = some u := fun j hj u hu =>
    hcell7 (k * 2 + j) u (by rw [zci Mrk.c (fun _ => rfl) l k x hx j hj]; exact hu)
   have c0 : wr.cell? ⟨g7, off7 + k * 2, none⟩ = some (.int .u64 x.ref) := cc 0 (by omega) _ rfl; have c1 : wr.cell? ⟨g7, off7 + k * 2 + 1, none⟩ = some (.int .u64 x.mm) := cc 1 (by omega) _ rfl; have HX := zk7 hx; obtain ⟨aL, kL, rfl⟩ := zaa RL.out; have lP := RP.out.lt; have hsz := RF.out.size
   have hk40 : k < 1099511627776 + 1073741824 := by have h1 := outM_len pre xs; rw [HLL.out, HN.out] at h1; omega
   have hP8 := RP.out.alloc (.cells #[.int .u64 x.ref, .int .u64 x.mm] 166); have s3 := hP8.cell 5; simp only [zls, zlq, zlr] at s3; have HP8 := zk7 hP8; clear hcell7 hr7 cc hx hP8; go_wp2_with (at_builtin; refine Hid.out ?_)
   refine zk7 ?_; refine zad _ rfl _ _ 51 51 rfl w.heap.size 168 i1 _ 2 16 Tryz.underlying51 hi1 hy0 hy1 hy2 rfl (by decide) (.slice aL k kL) k ((l.take k).flatMap Mrk.c) rfl ((RL.out.alloc _).alloc _) _ 1 (Mrk.c x) rfl (zaF Tryz.underlying51 (za6 wr _ 168 (Mrk.c x).toArray) rfl (by simp [Mrk.c, Value.oneCell'])) (by unfold maxLen; omega) (by omega) (by simp; omega) ?_
   intro v' w2 hown' hgrow hat
   obtain ⟨a9, k9, rfl⟩ := zaa hown'; have KP9 := zk7 ((HP8.out.alloc _).grown hgrow (Ne.symm (zak RL.out RP.out (by decide)))); have p9 := KP9.out.cell 5; have z9 := KP9.out.frozen 5; simp at p9
   have newP : Blk (w2.setCell ⟨bp, 5, none⟩ (.slice a9 (k + 1) k9)) bp 54 #[.slice none 0 0, .slice none 0 0, .slice none 0 0, .slice none 0 0, .slice none 0 0, .slice a9 (k + 1) k9, .slice none 0 0] := by simpa using KP9.out.set_ 5 (.slice a9 (k + 1) k9)
   have newO : Blk (w2.setCell ⟨bp, 5, none⟩ (.slice a9 (k + 1) k9)) bo 4 #[.bool false] := (((RO.out.alloc (.cells #[.int .u64 x.ref, .int .u64 x.mm] 166)).alloc _).grown hgrow (Ne.symm (zak RL.out RO.out (by decide)))).far (p := ⟨bp, 5, none⟩) (Blk.ne_ RO.out RP.out (by decide)) _
   have newL : (w2.setCell ⟨bp, 5, none⟩ (.slice a9 (k + 1) k9)).ownsRow w.heap.size 168 2 (.slice a9 (k + 1) k9) (k + 1) ((l.take (k + 1)).flatMap Mrk.c) := by
    rw [zao Mrk.c l k x HX.out]; exact zah hown' (Fr.put_ w2 bp 5 _) (fun g hg e => zak hown' KP9.out (by decide) (by rw [hg, e]))
   have fG : Fr (fun j => some j = (Value.slice aL k kL).ownBlock ∨ j = bp) wr (w2.setCell ⟨bp, 5, none⟩ (.slice a9 (k + 1) k9)) :=
    ((((zlW (fun j => some j = (Value.slice aL k kL).ownBlock ∨ j = bp) wr).alloc (.cells #[.int .u64 x.ref, .int .u64 x.mm] 166)).alloc _).grown hgrow (fun g hg => .inl (.inl hg.symm))).setCell (p := ⟨bp, 5, none⟩) (.inl (.inr rfl)) _
   have newV := zah RV.out fG (fun g hg e => by
    rcases e with e | e
    ·exact zbU RV.out RL.out (by decide) g hg e.symm
    ·exact zak RV.out RP.out (by decide) (by rw [hg, e]))
   have newF : Fr (fun j => j = bb ∨ j = bp) w (w2.setCell ⟨bp, 5, none⟩ (.slice a9 (k + 1) k9)) := RF.out.trans fG (fun j hj e => by
    rcases e with e | e
    ·have := (RL.out.lt j e.symm).1; omega
    ·exact .inr e)
   have NP := zk7 newP; have NO := zk7 newO; have NL := zk7 newL; have NV := zk7 newV; have NF := zk7 newF; clear newP newO newL newV newF fG hown' hgrow hat c0 c1 s3; go_wp2; go_roundw
   case rel => exact ⟨k + 1, _, by omega, by go_num, NF, NV, NO, NP, NL⟩
   case measure => simp [intOf]; omega
  ·obtain rfl : k = n := by omega
   have o0 := RO.out.cell 0; have o1 := RO.out.frozen 0; simp at o0; have W1 : Blk (wr.setCell ⟨bo, 0, none⟩ (.bool (zaC xs).isSome)) bo 4 #[.bool (zaC xs).isSome] := by simpa using RO.out.set_ 0 (.bool (zaC xs).isSome)
   have W2 := RP.out.far (p := ⟨bo, 0, none⟩) (Blk.ne_ RP.out RO.out (by decide)) (.bool (zaC xs).isSome); have W3' := zah RL.out (Fr.put_ wr bo 0 (.bool (zaC xs).isSome)) (fun g hg e => zak RL.out RO.out (by decide) (by rw [hg, e]))
   have W4 : Fr (fun k => k = bb ∨ k = bp ∨ k = bo) w (wr.setCell ⟨bo, 0, none⟩ (.bool (zaC xs).isSome)) := (Fr.mono (S' := fun k => k = bb ∨ k = bp ∨ k = bo) RF.out (fun _ _ e => e.elim (fun h => Or.inl h) (fun h => Or.inr (Or.inl h)))).setCell (p := ⟨bo, 0, none⟩) (.inl (.inr (.inr rfl))) _; rcases HOR.out with ⟨rfl, hsome⟩ | ⟨t, ae, rfl, hsome⟩; all_goals
    rw [hsome] at W1 W2 W3' W4; have hW1 := zk7 W1; have hW2 := zk7 W2; have hW3 := zk7 W3'; have hW4 := zk7 W4; clear W1 W2 W3' W4; go_wp2_with fail
    go_end0; refine ⟨rfl, hW4.out, by rw [hsome]; exact hW1.out, lv, hW2.out, ?_⟩; have e1 : l.take k = l := zlg (by rw [HN.out]; exact zlj _); have h3 := hW3.out; rw [e1] at h3; rw [HLL.out, HN.out]; exact h3
theorem Tryz.info130 : (Tryz.prog.info? 130).map (fun i => (i.zero, i.size, i.bytes)) = some (some (.agg #[.int .u64 0, .slice none 0 0]), 2, 32) := by kernel_rfl
def ziQ (pre : List SerD) (xs : List UInt8) : List SerD := match zba xs with | some l => pre ++ l | none => []
def toSer (x : SerD) : Ser := ⟨x.ref, x.labs⟩
theorem OwnR.alloc {base : Nat} {w : World} {v : Value} {lo : List (Ser × Value)} (h : OwnR base w v lo) (o : Obj) : OwnR base (w.alloc o) v lo := h.fr ((zlW (fun _ => False) w).alloc o) (fun _ _ _ e => e)
theorem sero_serd (l : List Ser) : l.flatMap sero = (l.map tos).flatMap zhT := by rw [List.flatMap_map]; rfl
def ReadEndsR (w : World) (bb bp bo : Nat) (pre : List SerD) (xs : List UInt8) (r : Ending) (w' : World) : Prop :=
 r = .returned (.tuple #[]) ∧ Fr (fun k => k = bb ∨ k = bp ∨ k = bo) w w' ∧ Blk w' bo 4 #[.bool (zba xs).isSome] ∧
  ∃ lv lo, Blk w' bp 54 #[lv, .slice none 0 0, .slice none 0 0, .slice none 0 0, .slice none 0 0, .slice none 0 0, .slice none 0 0] ∧ OwnR w.heap.size w' lv lo ∧ lo.map Prod.fst = (ziQ pre xs).map toSer
theorem zhS {b0 d : Nat} {w w' : World} {base : Nat} {o : Option Nat} {pre : List SerD} {xs : List UInt8} {r : Ending} (h : zcG b0 d w base o pre xs r w') :
 ∃ v' e, r = .returned (.tuple #[v', e]) ∧ w'.ownsRow base 127 2 v' (ziQ pre xs).length ((ziQ pre xs).flatMap zhT) ∧ Fr (fun k => some k = o ∨ zdr w b0 d k) w w' ∧ ((e = .nilIface ∧ (zba xs).isSome = true) ∨ (∃ t a, e = .iface t a ∧ (zba xs).isSome = false)) := by
 unfold zcG at h; unfold ziQ; rcases hd : zba xs with _ | l
 ·rw [hd] at h
  obtain ⟨hf, t, a, rfl⟩ := h; exact ⟨_, _, rfl, zll _ _ _ _, hf, .inr ⟨_, _, rfl, rfl⟩⟩
 ·rw [hd] at h
  obtain ⟨hf, v', rfl, ho⟩ := h; exact ⟨_, _, rfl, ho, hf, .inl ⟨rfl, rfl⟩⟩
theorem zfx {W w5 w6 : World} {b t b0 d : Nat} {cs : Array Value} {v5 : Value} {n : Nat} {xs : List Value} (h : Blk W b t cs) (hf5 : Fr (fun _ => False) W.drew w5) (ho : w5.ownsRow W.drew.heap.size 127 2 v5 n xs) (hf6 : Fr (fun k => some k = v5.ownBlock ∨ zdr w5 b0 d k) w5 w6) (hb : b < b0 ∧ b0 ≤ d) : Blk w6 b t cs :=
 (h.drew.fr hf5 (fun e => e)).fr hf6 (fun e => by
   rcases e with e | e | ⟨e, _⟩
   ·have h1 := (ho.lt b e.symm).1; have h2 : b < W.heap.size := h.lt; exact zlR _ (zlw h2 h1)
   ·omega
   ·omega)
theorem zh0 (te : TypeId) (pe : Value) (bb bk bq bp bo : Nat) (P : Nat → Prop) (q0 q1 q2 q3 q4 q5 q6 v : Value) (xs : List UInt8) (w : World) (hb : Blk w bb 44 #[v]) (hv : Sl P w v 1 xs.length (bc xs)) (hk : Blk w bk 3 #[.int .i64 1]) (hq : Blk w bq 54 #[q0, q1, q2, q3, q4, q5, q6]) (pre : List (Ser × Value)) (hs : SlR P w q0 pre) (hpl : pre.length ≤ 1024)
 (hpf : ∀ p ∈ pre, LabOk p.1.labs 12 600) (hxf : ∀ x ∈ ziQ ((pre.map Prod.fst).map tos) xs, x.labs.length ≤ 4096 ∧ ∀ p ∈ x.labs, p.1.size ≤ 1048576 ∧ p.2.size ≤ 1048576) (hxn : (ziQ ((pre.map Prod.fst).map tos) xs).length ≤ 1048576)
 (hp : Blk w bp 54 #[.slice none 0 0, .slice none 0 0, .slice none 0 0, .slice none 0 0, .slice none 0 0, .slice none 0 0, .slice none 0 0]) (ho : Blk w bo 4 #[.bool false]) (hE : w.cell? ⟨2, 0, none⟩ = some (.iface te pe)) (hxl : xs.length ≤ 1073741824)
 (hPb : ∀ g, P g → g ≠ bb) (hpq : bp ≠ bq) (h2 : bb ≠ 2 ∧ bp ≠ 2 ∧ bo ≠ 2)
 (Good : St → Prop) (hG : ∀ l, Good (some l) → zdq (some l) ∧ Good (za0 (some l)).2) (hG0 : ∀ r, xs = 1 :: r → Good (some r)) :
 Calls Tryz.prog 66 #[.pointer (some ⟨bb, 0, none⟩), .pointer (some ⟨bk, 0, none⟩), .pointer (some ⟨bq, 0, none⟩), .pointer (some ⟨bp, 0, none⟩), .pointer (some ⟨bo, 0, none⟩)] w (ReadEndsR w bb bp bo ((pre.map Prod.fst).map tos) xs) := by
 have HGD := zk7 hG; have HGD0 := zk7 hG0; have HXF := zk7 hxf; have HXN := zk7 hxn; have HPF := zk7 hpf; have h2w : 2 < w.heap.size := zle w _ hE; have hbbw := hb.lt; have hbpw := hp.lt; have hbow := ho.lt; have hbqw := hq.lt; clear hG hG0 hxf hxn hpf; obtain ⟨i0, hi0, hz0, hz1, hz2⟩ := info_parts Tryz.info5; have HB := zk7 hb; have HV := zk7 hv
 have HK := zk7 hk; have HQ := zk7 hq; have HS := zk7 hs; have HP := zk7 hp; have HO := zk7 ho; have HE := zk7 hE; have HPB := zk7 hPb; have hv1 : ∃ A m c, v = .slice A m c := let ⟨A, c, h, _⟩ := hv; ⟨A, _, c, h⟩
 obtain ⟨A, m, c, rfl⟩ := hv1; clear hb hv hk hq hs hp ho hE hPb; go_enter Tryz.func66, Tryz.ntmps66; go_wp2_with (first | (go_at_call 67; refine (zgL _ _).mono ?_; rintro r w1 ⟨v1, rfl, ⟨gb, rfl, hob⟩, hf1⟩; have HOB := zk7 hob; clear hob; refine Hid.out ?_))
 have hB1 := ((HB.out.fr hf1 (fun e => e)).alloc (.cells #[.slice (some ⟨gb, 0, none⟩) 0 0, .string ⟨#[]⟩, .slice none 0 0] 119)).alloc (.cells #[] 5); have b1 := hB1.cell 0; simp at b1; clear hB1; refine zk7 ?_; go_wp2_with (at_builtin; refine Hid.out ?_)
 have hO0 := World.ownsRow_made (base := w.heap.size) (e := 5) (size := 1) (w1.alloc (.cells #[.slice (some ⟨gb, 0, none⟩) 0 0, .string ⟨#[]⟩, .slice none 0 0] 119)) #[] 0 (by have := hf1.size; simp; omega) (zli _) rfl; have hFA : Fr (fun _ => False) w ((w1.alloc (.cells #[.slice (some ⟨gb, 0, none⟩) 0 0, .string ⟨#[]⟩, .slice none 0 0] 119)).alloc (.cells #[] 5)) := (hf1.alloc _).alloc _
 have hs1 := hf1.size; refine zk7 ?_; have hg0 : (w1.alloc (.cells #[.slice (some ⟨gb, 0, none⟩) 0 0, .string ⟨#[]⟩, .slice none 0 0] 119)).heap.size = w1.heap.size + 1 := by simp
 rw [hg0] at hO0; clear b1; have hBW := bld_new HOB.out; have hB5 : Blk ((w1.alloc (.cells #[.slice (some ⟨gb, 0, none⟩) 0 0, .string ⟨#[]⟩, .slice none 0 0] 119)).alloc (.cells #[] 5)) (w1.heap.size + 1) 5 #[] := by have h := Blk.new (w1.alloc (.cells #[.slice (some ⟨gb, 0, none⟩) 0 0, .string ⟨#[]⟩, .slice none 0 0] 119)) 5 #[]; simpa using h
 generalize World.alloc _ (Obj.cells #[] 5) = WA at hO0 hFA hBW hB5 ⊢; have HBW := zk7 hBW; have HB5 := zk7 hB5; clear hBW hB5; have hsA := hFA.size; have hsrc := zc8 Tryz.underlying44 (HV.out.fr hFA (fun _ _ e => e)) (zet xs)
 refine zad _ rfl _ _ 44 44 rfl w.heap.size 5 i0 (.int .u8 0) 1 1 Tryz.underlying44 hi0 hz0 hz1 hz2 rfl (by decide) (.slice (some ⟨w1.heap.size + 1, 0, none⟩) 0 0) 0 [] rfl hO0 (.slice A m c) xs.length (bc xs) rfl hsrc (by unfold maxLen; omega) (by omega) (by omega) ?_; intro v' w2 hown' hgrow hat
 rw [zlC, zlJ] at hown'; obtain ⟨a2, k2, rfl⟩ := zaa hown'; have hge : ∀ k, (Value.slice (some ⟨w1.heap.size + 1, 0, none⟩) 0 0).ownBlock = some k → w.heap.size ≤ k := fun k hk => by
  have hk : w1.heap.size + 1 = k := zlV hk; omega
 have F2 : Fr (fun _ => False) w w2 := hFA.grown hgrow (fun k hk => .inr (hge k hk)); have hrow2 : ∃ g2 cur2, a2 = some ⟨g2, 0, none⟩ ∧ w.heap.size ≤ g2 ∧ Blk w2 g2 5 cur2 ∧ xs.length ≤ k2 ∧ k2 ≤ maxLen ∧ cur2.toList.take xs.length = bc xs := by
  rcases hown'.2 with ⟨h, _⟩ | ⟨g2, cap, cur2, h, h1, h3, h4, h5, _, h6⟩
  ·rw [h] at hat
   rcases hat with hat | hat <;> exact absurd hat (by simp [Value.ownBlock])
  ·injection h with e1 e2 e3
   subst e3; exact ⟨g2, cur2, e1, h1, h3, h4, h5, by simpa using h6⟩
 have hge2 : ∀ k, (Value.slice a2 xs.length k2).ownBlock = some k → w.heap.size ≤ k := fun k hk => (hown'.lt k hk).1; have lB := HB.out.lt; have gB := HB.out.fr F2 (fun e => e); have y0 := gB.cell 0; have y1 := gB.frozen 0; simp at y0
 have F3 : Fr (fun k => k = bb) w (w2.setCell ⟨bb, 0, none⟩ (.slice a2 xs.length k2)) := (F2.mono (S' := fun k => k = bb) (fun _ _ e => e.elim)).setCell (p := ⟨bb, 0, none⟩) (.inl rfl) _; have O3 : (w2.setCell ⟨bb, 0, none⟩ (.slice a2 xs.length k2)).ownsRow w.heap.size 5 1 (.slice a2 xs.length k2) xs.length (bc xs) := zah hown' (Fr.put_ w2 bb 0 _) (fun k hk e => by have := hge2 k hk; omega)
 have B3 : Blk (w2.setCell ⟨bb, 0, none⟩ (.slice a2 xs.length k2)) bb 44 #[.slice a2 xs.length k2] := by simpa using gB.set_ 0 (.slice a2 xs.length k2)
 have K3 := (HK.out.fr F3 (fun e => Blk.ne_ HK.out HB.out (by decide) e)).cell 0; have Q3 := HQ.out.fr F3 (fun e => Blk.ne_ HQ.out HB.out (by decide) e); have P3 := HP.out.fr F3 (fun e => Blk.ne_ HP.out HB.out (by decide) e); have O4 := HO.out.fr F3 (fun e => Blk.ne_ HO.out HB.out (by decide) e)
 have E3 : (w2.setCell ⟨bb, 0, none⟩ (.slice a2 xs.length k2)).cell? ⟨2, 0, none⟩ = some (.iface te pe) := by
  rw [F3.cell (p := ⟨2, 0, none⟩) (zle w _ HE.out) (fun e => h2.1 e.symm)]; exact HE.out
 simp at K3
 have hBW2 : Bld w2 w.heap.size w1.heap.size [] ⟨#[]⟩ := HBW.out.fr (S := fun k => k = w1.heap.size + 1) ((zlW (fun k => k = w1.heap.size + 1) WA).grown hgrow (fun k hk => .inl (zlV hk).symm)) (by omega) (fun g' _ hc e => by
  obtain ⟨cs, hc⟩ := hc; subst e
  exact Blk.ne_ hc HB5.out (by decide) rfl)
 have hBW3 := hBW2.fr (Fr.put_ w2 bb 0 (.slice a2 xs.length k2)) (by omega) (fun g' _ hc e => by
  obtain ⟨cs, hc⟩ := hc; subst e
  exact Blk.ne_ hc gB (by decide) rfl)
 have HBL3 := zk7 hBW3; clear hBW2 hBW3 HBW HB5; have HF3 := zk7 F3; have HO3 := zk7 O3; have HB3 := zk7 B3; have HQ3 := zk7 Q3; have HP3 := zk7 P3; have HO4 := zk7 O4; have HE3 := zk7 E3; have HGE := zk7 hge2; obtain ⟨g2, cur2, rfl, hg2, hbk2, hk2, hk2m, htk2⟩ := hrow2
 have R3 : Rec te pe (w2.setCell ⟨bb, 0, none⟩ (.slice (some ⟨g2, 0, none⟩) xs.length k2)) g2 cur2 xs (.slice (some ⟨g2, 0, none⟩) xs.length k2) := by
  refine ⟨0, k2, rfl, hbk2.far (p := ⟨bb, 0, none⟩) (by show g2 ≠ bb; omega) _, hk2, ⟨by simp [maxLen] at hk2m; omega, by omega⟩, fun j u hu => ?_, E3⟩; rw [zlC, ← Array.getElem?_toList]; have hj : j < xs.length := by
   rcases zlA j xs.length with h | h
   ·exact h
   ·rw [zlB (by rw [zc6]; exact h)] at hu; cases hu
  rw [← htk2, List.getElem?_take_of_lt hj] at hu; exact hu
 have HR3 := zk7 R3; have hg2l := hbk2.lt; clear R3 hk2m htk2 hbk2; clear F2 F3 O3 B3 Q3 P3 O4 E3 gB hge hge2 hown' hgrow hat hsrc hO0 hFA hf1; go_wp2_with fail
 generalize w2.setCell ⟨bb, 0, none⟩ (.slice (some ⟨g2, 0, none⟩) xs.length k2) = W3 at HF3 HO3 HB3 HQ3 HP3 HO4 HE3 HR3 HBL3 ⊢; have hl3 := HR3.out; have hg3 : g2 < W3.heap.size := let ⟨_, _, _, h, _⟩ := hl3; h.lt
 have h23 : 2 < W3.heap.size := zle W3 _ HE3.out; clear hl3; have hS3 : SlR P W3.drew q0 pre := HS.out.fr HF3.out.drew (fun g hg e => HPB.out g hg e); have hR1 := zeJ P q0 pre W3.drew hS3 (by omega) HPF.out; have hq1 : ∃ A m c, q0 = .slice A m c := let ⟨A, c, h, _⟩ := HS.out.1; ⟨A, _, c, h⟩
 obtain ⟨Aq, mq, cq, rfl⟩ := hq1; have x0 := HB3.out.cell 0; have x1 := HQ3.out.cell 0; have x0d : W3.drew.cell? ⟨bb, 0, none⟩ = some (.slice (some ⟨g2, 0, none⟩) xs.length k2) := x0; have x1d : W3.drew.cell? ⟨bq, 0, none⟩ = some (.slice Aq mq cq) := x1; simp at x0 x1; clear y0 y1 K3
 go_region_held3 (fun w' => w'.cell? ⟨bb, 0, none⟩ = some (.slice (some ⟨g2, 0, none⟩) xs.length k2) ∧ w'.cell? ⟨bq, 0, none⟩ = some (.slice Aq mq cq))
  ((first | (go_split_ands; refine ⟨?_, ?_⟩ <;> first | exact (HB3.out.drew.fr hf5 (fun e => e)).cell 0 | exact (HQ3.out.drew.fr hf5 (fun e => e)).cell 0) | (go_split_ands; refine ⟨?_, ?_⟩ <;> first | exact KB.out.cell 0 | exact KQ.out.cell 0) | go_keep))
  ((first
    | (go_at_call 69; refine hR1.mono ?_; rintro r5 w5 ⟨v5, rfl, hown5, hf5⟩; rw [sero_serd, ← zlv (f := tos)] at hown5)
    | (go_at_call 68; refine (zjD Good HGD.out te pe w.heap.size w1.heap.size g2 W3.drew.heap.size cur2 ((pre.map Prod.fst).map tos) xs _ v5 w5 (HR3.out.fr (w := W3) (((zlW (fun _ => False) W3).drew).same hf5) (fun e => e) (fun e => e)) hown5 ⟨h23, hf5.size, zlw hg3 hf5.size⟩ (by rw [zlv, zlv]; omega) HGD0.out [] ⟨#[]⟩ (HBL3.out.fr (((zlW (fun _ => False) W3).drew).same hf5) (fun e => e) (fun _ _ _ e => e)) ⟨zlQ HF3.out.size hf5.size, h2w, hs1⟩).mono ?_; rintro r6 w6 hE6; obtain ⟨v6, e6, rfl, hown6, hf6, hor6⟩ := zhS hE6; clear hE6; have KB := zk7 (zfx HB3.out hf5 hown5 hf6 ⟨hbbw, hs1⟩); have KQ := zk7 (zfx HQ3.out hf5 hown5 hf6 ⟨hbqw, hs1⟩))))
 have T6 : Fr (fun k => k = bb) w w6 := ((HF3.out.trans (((zlW (fun _ => False) W3).drew).same hf5) (fun _ _ e => e.elim)).trans hf6 (fun k hk e => by
  rcases e with e | e | ⟨e, _⟩
  ·have h1 := (hown5.lt k e.symm).1
   have h2 := HF3.out.size; simp at h1; omega
  ·omega
  ·omega))
 have P6 := zfx HP3.out hf5 hown5 hf6 ⟨hbpw, hs1⟩; have O6 := zfx HO4.out hf5 hown5 hf6 ⟨hbow, hs1⟩; have hz6 : w.heap.size ≤ W3.drew.heap.size := HF3.out.size; have V6 := zai hown6 hz6; have HT6 := zk7 T6; have HP6 := zk7 P6; have HO6 := zk7 O6; have HV6 := zk7 V6; have HOR := zk7 hor6; have hsz5 := hf5.size; have hsz6 := hf6.size
 have hb6 : ∀ k, v6.ownBlock = some k → k < w6.heap.size := fun k hk => zav hown6 hk; clear x0 x1 x0d x1d hR1 T6 P6 O6 V6 hor6 hown5 hf5 hown6 hf6 KB KQ HO3 HB3 HQ3 HP3 HO4 HE3 HR3 HF3 HBL3; obtain ⟨l, hl⟩ : ∃ l, ziQ ((pre.map Prod.fst).map tos) xs = l := ⟨_, rfl⟩; rw [hl] at HV6 HXF HXN; have HLL := zk7 hl; clear hl; obtain ⟨a6, k6, rfl⟩ := zaa HV6.out; go_wp2_with fail
 obtain ⟨n, hn⟩ : ∃ n, l.length = n := ⟨_, rfl⟩; have HN := zk7 hn; rw [hn] at HV6 hb6 HXN ⊢; clear hn; obtain ⟨i1, hi1, hy0, hy1, hy2⟩ := info_parts Tryz.info130
 go_loopw [51] (fun i wr => ∃ (k : Nat) (lv : Value) (lo : List (Ser × Value)), k ≤ n ∧ i = .int .i64 k ∧ Hid (Fr (fun j => j = bb ∨ j = bp) w wr) ∧ Hid (wr.ownsRow w.heap.size 127 2 (.slice a6 n k6) n (l.flatMap zhT)) ∧ Hid (Blk wr bo 4 #[.bool false]) ∧
  Hid (Blk wr bp 54 #[lv, .slice none 0 0, .slice none 0 0, .slice none 0 0, .slice none 0 0, .slice none 0 0, .slice none 0 0]) ∧ Hid (OwnR w.heap.size wr lv lo) ∧ Hid (lo.map Prod.fst = (l.take k).map toSer) ∧ Hid (lo.length = k)) (fun i _ => n - (intOf i).toNat)
 case atStart => exact ⟨0, _, [], zli _, rfl, zk7 (Fr.mono HT6.out (fun _ _ e => Or.inl e)), HV6, HO6, HP6, zk7 (OwnR.nil _ _), zk7 rfl, zk7 rfl⟩
 case round =>
  obtain ⟨k, lv, lo, hk, rfl, RF, RV, RO, RP, RL, RM, RN⟩ := hrel; by_cases hlt : k < n
  ·obtain ⟨A7, c7, e7, _, _, hr7⟩ := Sl.ofOwn RV.out
   injection e7 with e7 _ e7c; subst e7 e7c; obtain ⟨g7, off7, rfl, _, hcell7⟩ := hr7 (by omega); obtain ⟨x, hx⟩ : ∃ x, l[k]? = some x := ⟨_, zk9 (by rw [HN.out]; exact hlt)⟩; have cc : ∀ j, j < 2 → ∀ u, (zhT x)[j]? = some u → wr.cell? ⟨g7, off7 + (k * 2 + j), none⟩ = some u := fun j hj u hu =>
    hcell7 (k * 2 + j) u (by rw [zci zhT (fun _ => rfl) l k x hx j hj]; exact hu)
   have c0 : wr.cell? ⟨g7, off7 + k * 2, none⟩ = some (.int .u64 x.ref) := cc 0 (by omega) _ rfl; have c1 : wr.cell? ⟨g7, off7 + k * 2 + 1, none⟩ = some (.string (zas x.labs)) := cc 1 (by omega) _ rfl; obtain ⟨u1, u2⟩ := HXF.out x (zlf hx); obtain ⟨ref, labs⟩ := x; simp only [] at c0 c1 u1 u2
   have hC := fun W => zgH labs W (by omega) (fun p hp => by have := u2 p hp; omega) (zd8 labs u1 u2); obtain ⟨st, hst⟩ : ∃ st, zas labs = st := ⟨_, rfl⟩; rw [hst] at hC c1; have HX := zk7 hx; have HC := zk7 hC; obtain ⟨aL, kL, rfl⟩ := zaa RL.out.1; clear hcell7 hr7 cc hx hC hst u1 u2; go_wp2_with fail
   have hB8 := Blk.new wr 127 #[.int .u64 ref, .string st]; have s0 := hB8.cell 0; have s1 := hB8.cell 1; have hP8 := RP.out.alloc (.cells #[.int .u64 ref, .string st] 127); have s3 := hP8.cell 0; simp only [zls, zlq, zlr] at s0 s1 s3; have lP := RP.out.lt; have hsz := RF.out.size; have hnn := HXN.out
   have hloz : lo.length ≤ 1048576 := by have h1 := RN.out; omega
   have hk40 : k < 4294967296 := by have h1 := RN.out; omega
   have HB8 := zk7 hB8; have HP8 := zk7 hP8; have hC := HC.out (wr.alloc (.cells #[.int .u64 ref, .string st] 127)).drew; clear hB8 hP8; refine zcl (fun w' => w'.cell? ⟨bp, 0, none⟩ = some (.slice aL lo.length kL) ∧ w'.cell? ⟨wr.heap.size, 0, none⟩ = some (.int .u64 ref) ∧ w'.cell? ⟨wr.heap.size, 1, none⟩ = some (.string st)) 9 (by kernel_rfl) ⟨s3, s0, s1⟩ ?_; intro hS
   refine zaw 0 (.pointer (some ⟨bp, 0, none⟩)) rfl (by kernel_rfl) (by kernel_rfl) (by kernel_rfl) (by kernel_rfl) (fun _ _ _ h => h) (by rfl) (by intro w; go_simp) hS ?_; try simp only [Act.put, zlb, zlc, zld]
   refine zaO 1 [9, 11] (.slice aL lo.length kL) rfl (by kernel_rfl) (by kernel_rfl) (by kernel_rfl) (by kernel_rfl) (by kernel_rfl) (by kernel_rfl) (by kernel_rfl) (fun _ _ _ h => h) (by rfl) (by rintro w ⟨h1, h2, h3⟩; go_simp) hS ?_; try simp only [Act.put, zlb, zlc, zld]
   refine zaw 2 (.pointer (some ⟨wr.heap.size, 0, none⟩)) rfl (by kernel_rfl) (by kernel_rfl) (by kernel_rfl) (by kernel_rfl) (fun _ _ _ h => h) (by rfl) (by intro w; go_simp) hS ?_; try simp only [Act.put, zlb, zlc, zld]
   refine zaO 3 [7, 8, 9, 11] (.int .u64 ref) rfl (by kernel_rfl) (by kernel_rfl) (by kernel_rfl) (by kernel_rfl) (by kernel_rfl) (by kernel_rfl) (by kernel_rfl) (fun _ _ _ h => h) (by rfl) (by rintro w ⟨h1, h2, h3⟩; go_simp) hS ?_; try simp only [Act.put, zlb, zlc, zld]
   refine zaw 4 (.pointer (some ⟨wr.heap.size, 1, none⟩)) rfl (by kernel_rfl) (by kernel_rfl) (by kernel_rfl) (by kernel_rfl) (fun _ _ _ h => h) (by rfl) (by intro w; go_simp) hS ?_; try simp only [Act.put, zlb, zlc, zld]
   refine zaO 5 [6, 7, 8, 9, 11] (.agg #[.string st]) rfl (by kernel_rfl) (by kernel_rfl) (by kernel_rfl) (by kernel_rfl) (by kernel_rfl) (by kernel_rfl) (by kernel_rfl) (fun _ _ _ h => h) (by rfl) (by rintro w ⟨h1, h2, h3⟩; go_simp) hS ?_; try simp only [Act.put, zlb, zlc, zld]
   refine zbF 6 (by kernel_rfl) rfl (by rfl) (fun K hK => ?_); go_simp; go_at_call 70
   refine hC.mono ?_; rintro r w5 ⟨v5, rfl, hown5, hf5⟩; obtain ⟨a5, k5, rfl⟩ := zaa hown5; have F5 := zk7 (((zlW (fun _ => False) wr).alloc (.cells #[.int .u64 ref, .string st] 127)).drew.same hf5); have P5 := zk7 (HP8.out.drew.fr hf5 (fun e => e)); have B5 := zk7 (HB8.out.drew.fr hf5 (fun e => e))
   have hS5 : w5.cell? ⟨bp, 0, none⟩ = some (.slice aL lo.length kL) ∧ w5.cell? ⟨wr.heap.size, 0, none⟩ = some (.int .u64 ref) ∧ w5.cell? ⟨wr.heap.size, 1, none⟩ = some (.string st) := ⟨P5.out.cell 0, B5.out.cell 0, B5.out.cell 1⟩; have hz5 := F5.out.size; have N5 := zk7 (zai hown5 (base' := w.heap.size) (by simp; omega)); have L5 := zk7 (RL.out.fr F5.out (fun _ _ _ e => e))
   refine hK.out _ _ hS5 ?_; clear hK K hS hC hown5 hf5; try simp only [Act.put, zlb, zlc, zld]
   refine zaw 7 (.agg #[.int .u64 ref, .slice a5 labs.length k5]) rfl (by kernel_rfl) (by kernel_rfl) (by kernel_rfl) (by kernel_rfl) (fun _ _ _ h => h) (by rfl) (by intro w; go_simp) hS5 ?_; try simp only [Act.put, zlb, zlc, zld]
   refine zbF 8 (by kernel_rfl) rfl (by rfl) (fun K hK => ?_); go_simp; refine hK.out _ _ ⟨(P5.out.alloc _).cell 0, (B5.out.alloc _).cell 0, (B5.out.alloc _).cell 1⟩ ?_; clear hK K hS5; try simp only [Act.put, zlb, zlc, zld]
   refine zaP 9 (by kernel_rfl) rfl (by kernel_rfl) (by rfl) (fun K hK => ?_)
   refine zbz _ _ _ 46 46 (by rfl) w.heap.size 130 i1 _ 2 32 Tryz.underlying46 hi1 hy0 hy1 hy2 rfl (by decide) (.slice aL lo.length kL) lo.length (lo.flatMap zi6) (by rfl) (L5.out.alloc _).1 _ 1 (zi6 (⟨ref, labs⟩, .slice a5 labs.length k5)) (by rfl) (zaF Tryz.underlying46 (Blk.new w5 130 (zi6 (⟨ref, labs⟩, .slice a5 labs.length k5)).toArray) rfl (by simp [zi6, Value.oneCell'])) (by unfold maxLen; omega) (by omega) (by simp; omega) ?_
   intro v' w2 hown' hgrow hat
   obtain ⟨a9, k9, rfl⟩ := zaa hown'; have KP9 := zk7 ((P5.out.alloc _).grown hgrow (Ne.symm (zak RL.out.1 RP.out (by decide)))); have p9 := KP9.out.cell 0; have z9 := KP9.out.frozen 0; simp at p9; refine hK.out _ _ ?_; clear hK K; try simp only [Act.put, zlb, zlc, zld]
   refine zaP 10 (by kernel_rfl) rfl (by kernel_rfl) (by rfl) (fun K hK => ?_); go_simp; refine hK.out _ _ ?_; clear hK K; refine zaP 11 (by kernel_rfl) rfl (by kernel_rfl) (by rfl) (fun K hK => ?_); go_simp; refine hK.out _ _ ?_; clear hK K; refine zds (by kernel_rfl) ?_ _
   have newP : Blk (w2.setCell ⟨bp, 0, none⟩ (.slice a9 (lo.length + 1) k9)) bp 54 #[.slice a9 (lo.length + 1) k9, .slice none 0 0, .slice none 0 0, .slice none 0 0, .slice none 0 0, .slice none 0 0, .slice none 0 0] := by simpa using KP9.out.set_ 0 (.slice a9 (lo.length + 1) k9)
   have O5 := (RO.out.fr F5.out (fun e => e)).alloc (.cells (zi6 (⟨ref, labs⟩, .slice a5 labs.length k5)).toArray 130); have newO : Blk (w2.setCell ⟨bp, 0, none⟩ (.slice a9 (lo.length + 1) k9)) bo 4 #[.bool false] := (O5.grown hgrow (Ne.symm (zak RL.out.1 RO.out (by decide)))).far (p := ⟨bp, 0, none⟩) (Blk.ne_ RO.out RP.out (by decide)) _
   have newL0 : OwnR w.heap.size w2 (.slice a9 (lo.length + 1) k9) (lo ++ [(⟨ref, labs⟩, .slice a5 labs.length k5)]) :=
    OwnR.push (p := (⟨ref, labs⟩, .slice a5 labs.length k5)) (L5.out.alloc _) (N5.out.alloc _) hgrow hown'
   have newL : OwnR w.heap.size (w2.setCell ⟨bp, 0, none⟩ (.slice a9 (lo.length + 1) k9)) (.slice a9 (lo.length + 1) k9) (lo ++ [(⟨ref, labs⟩, .slice a5 labs.length k5)]) := newL0.off KP9.out (by decide) (by decide) (Fr.put_ w2 bp 0 _); have fG : Fr (fun j => some j = (Value.slice aL lo.length kL).ownBlock ∨ j = bp) wr (w2.setCell ⟨bp, 0, none⟩ (.slice a9 (lo.length + 1) k9)) :=
    (((F5.out.mono (S' := fun j => some j = (Value.slice aL lo.length kL).ownBlock ∨ j = bp) (fun _ _ e => e.elim)).alloc _).grown hgrow (fun g hg => .inl (.inl hg.symm))).setCell (p := ⟨bp, 0, none⟩) (.inl (.inr rfl)) _
   have newV : (w2.setCell ⟨bp, 0, none⟩ (.slice a9 (lo.length + 1) k9)).ownsRow w.heap.size 127 2 (.slice (some ⟨g7, off7, none⟩) n k6) n (l.flatMap zhT) := zah RV.out fG (fun g hg e => by
    rcases e with e | e
    ·exact zbU RV.out RL.out.1 (by decide) g hg e.symm
    ·exact zak RV.out RP.out (by decide) (by rw [hg, e]))
   have newF : Fr (fun j => j = bb ∨ j = bp) w (w2.setCell ⟨bp, 0, none⟩ (.slice a9 (lo.length + 1) k9)) := RF.out.trans fG (fun j hj e => by
    rcases e with e | e
    ·have := (RL.out.1.lt j e.symm).1; omega
    ·exact .inr e)
   have newM : (lo ++ [((⟨ref, labs⟩ : Ser), Value.slice a5 labs.length k5)]).map Prod.fst = (l.take (k + 1)).map toSer := by
    rw [zlI, HX.out, zlx, zlx, RM.out]; rfl
   have newN : (lo ++ [((⟨ref, labs⟩ : Ser), Value.slice a5 labs.length k5)]).length = k + 1 := by rw [zk8, RN.out]; rfl
   have NP := zk7 newP; have NO := zk7 newO; have NL := zk7 newL; have NV := zk7 newV; have NF := zk7 newF; have NM := zk7 newM; have NN := zk7 newN; clear newP newO newL0 newL newV newF newM newN fG hown' hgrow hat p9 z9 c0 c1 s0 s1 s3 O5 L5 N5 F5 P5 B5; go_wp2; go_roundw
   case rel => exact ⟨k + 1, _, _, by omega, by go_num, NF, NV, NO, NP, NL, NM, NN⟩
   case measure => simp [intOf]; omega
  ·obtain rfl : k = n := by omega
   have o0 := RO.out.cell 0; have o1 := RO.out.frozen 0; simp at o0; have W1 : Blk (wr.setCell ⟨bo, 0, none⟩ (.bool (zba xs).isSome)) bo 4 #[.bool (zba xs).isSome] := by simpa using RO.out.set_ 0 (.bool (zba xs).isSome)
   have W2 := RP.out.far (p := ⟨bo, 0, none⟩) (Blk.ne_ RP.out RO.out (by decide)) (.bool (zba xs).isSome); have W3' := OwnR.off RL.out RO.out (by decide) (by decide) (Fr.put_ wr bo 0 (.bool (zba xs).isSome))
   have W4 : Fr (fun k => k = bb ∨ k = bp ∨ k = bo) w (wr.setCell ⟨bo, 0, none⟩ (.bool (zba xs).isSome)) := (Fr.mono (S' := fun k => k = bb ∨ k = bp ∨ k = bo) RF.out (fun _ _ e => e.elim (fun h => Or.inl h) (fun h => Or.inr (Or.inl h)))).setCell (p := ⟨bo, 0, none⟩) (.inl (.inr (.inr rfl))) _; rcases HOR.out with ⟨rfl, hsome⟩ | ⟨t, ae, rfl, hsome⟩; all_goals
    rw [hsome] at W1 W2 W3' W4; have hW1 := zk7 W1; have hW2 := zk7 W2; have hW3 := zk7 W3'; have hW4 := zk7 W4; clear W1 W2 W3' W4; go_wp2_with fail
    go_end0; refine ⟨rfl, hW4.out, by rw [hsome]; exact hW1.out, lv, lo, hW2.out, hW3.out, ?_⟩; have e1 : l.take k = l := zlg (by rw [HN.out]; exact zlj _); rw [RM.out, e1, ← HLL.out, List.map_map]
end Go.Proofs.YtbkookiigkckdaaGreatDoor
