/- Merged. -/
import Derived.Test.YtbkookiigkckdaaGreatDoorKD24
import Derived.Test.YtbkookiigkckdaaGreatDoorKD27
set_option linter.unusedVariables false
set_option linter.unusedSimpArgs false
set_option maxRecDepth 100000
set_option maxHeartbeats 8000000
namespace Go.Proofs.YtbkookiigkckdaaGreatDoor
open Go.RowKit Go.Proofs.Tryz
def zaS (br : Nat) (bt : Int) (st : St) : Rhs × St :=
 (⟨u64 ((br : Int) + u64 (zaJ st).1), wrap64 (bt + (zaJ (zaJ st).2).1), (zcN (zaJ (zaJ st).2).2).1⟩, (zcN (zaJ (zaJ st).2).2).2)
def zdc (st : St) : Prop := FineF (zaJ (zaJ st).2).2
def zbc (rest : List UInt8) : Option (List Rhs) :=
 if rest = [] then some [] else match zaj (zaS (zac (some rest)).1 (zav (zac (some rest)).2).1) rest.length (zav (zac (some rest)).2).2 [] with
  | (l, some _) => some l
  | (_, none) => none
def zcP (xs : List UInt8) : Option (List Rhs) :=
 match xs with
 | [] => none
 | b :: rest => if b = 8 ∨ b = 10 then zbc rest else none
def zdU (S : Nat -> Prop) (w : World) (base : Nat) (pre : List (Rhs × Value)) (er : Option (List Rhs)) (r : Ending) (w' : World) : Prop :=
 Fr S w w' /\ match er with
  | some l => ∃ v' lo, r = .returned (.tuple #[v', .nilIface]) /\ lo.map Prod.fst = l /\ OwnHF base w' v' (pre ++ lo)
  | none => ∃ t a, r = .returned (.tuple #[.slice none 0 0, .iface t a])
theorem zef {S : Nat -> Prop} {w w' : World} {base : Nat} {pre : List (Rhs × Value)} {er : Option (List Rhs)} {t : TypeId} {a : Value} (hd : er = none) (hf : Fr S w w') : zdU S w base pre er (.returned (.tuple #[.slice none 0 0, .iface t a])) w' := by
 unfold zdU; rw [hd]; exact ⟨hf, _, _, rfl⟩
theorem zfx {S : Nat -> Prop} {w w' : World} {base : Nat} {pre lo : List (Rhs × Value)} {er : Option (List Rhs)} {v : Value} (hd : er = some (lo.map Prod.fst)) (hf : Fr S w w') (ho : OwnHF base w' v (pre ++ lo)) : zdU S w base pre er (.returned (.tuple #[v, .nilIface])) w' := by
 unfold zdU; rw [hd]; exact ⟨hf, _, _, rfl, rfl, ho⟩
theorem zkt {br : Nat} {bt : Int} {rest s : List UInt8} {dQ : St} {l : List Rhs} (h0 : rest ≠ []) (h1 : (zac (some rest)).1 = br) (h2 : (zav (zac (some rest)).2) = (bt, dQ)) (h : zaj (zaS br bt) rest.length dQ [] = (l, some s)) : zbc rest = some l := by
 unfold zbc; rw [znd h0, h1, h2]; simp only []; rw [h]
theorem zku {br : Nat} {bt : Int} {rest : List UInt8} {dQ : St} {l : List Rhs} (h0 : rest ≠ []) (h1 : (zac (some rest)).1 = br) (h2 : (zav (zac (some rest)).2) = (bt, dQ)) (h : zaj (zaS br bt) rest.length dQ [] = (l, none)) : zbc rest = none := by
 unfold zbc; rw [znd h0, h1, h2]; simp only []; rw [h]
theorem OwnHF.of {base : Nat} {w w' : World} {v : Value} {lo : List (Rhs × Value)} {d : Nat} {cs : Array Value} (h : OwnHF base w v lo) (hb : Blk w d 229 cs) (hf : Fr (fun k => k = d) w w') : OwnHF base w' v lo := by
 have go : ∀ {e : TypeId} {z n : Nat} {u : Value} {xs : List Value}, e ≠ 229 -> w.ownsRow base e z u n xs -> w'.ownsRow base e z u n xs := fun he o => zai o hf (fun g hg e => zak o hb he (by rw [hg, e])); refine ⟨go (by decide) h.1, fun p hp => ?_⟩; obtain ⟨g, s, hv, km, qt, a1, a2, a3, a4, a5⟩ := h.2 p hp
 exact ⟨g, s, hv, km, qt.fr hf (fun e => znn qt hb (by decide) e), go (by decide) a1, go (by decide) a2, go (by decide) a3, go (by decide) a4, go (by decide) a5⟩
theorem zdn : (∀ (_ : True) (te : TypeId) (pe : Value) (dv : Value) (g base : Nat) (cur : Array Value) (pre : List (Rhs × Value)) (kd : UInt8) (el : kd = 7 ∨ kd = 9) (rest : List UInt8) (aN : rest ≠ []) (v sv : Value) (w : World) (h : Rec te pe w g cur (kd :: rest) v) (ho : OwnHW base w sv pre) (hb : 2 < base /\ base <= w.heap.size) (bx : pre.length <= 1073741824)
 (ak : St -> Prop) (hG : ∀ l, ak (some l) -> zdb (some l) /\ ak (zaR (zac (some rest)).1 (zav (zac (some rest)).2).1 (some l)).2) (aZ : ak (zav (zac (some rest)).2).2)
 (ai : ∀ br bt l0 l, (zaR br bt (some l0)).2 = some l -> l.length < l0.length),
 Calls prog 83 #[dv, v, sv] w (zdT (fun k => some k = sv.ownBlock) w base pre (zbb rest))) /\ (∀ (_ : True) (te : TypeId) (pe : Value) (dv : Value) (g base : Nat) (cur : Array Value) (pre : List (Rhs × Value)) (kd : UInt8) (el : kd = 8 ∨ kd = 10) (rest : List UInt8) (aN : rest ≠ []) (v sv : Value) (w : World) (h : Rec te pe w g cur (kd :: rest) v) (ho : OwnHF base w sv pre) (hb : 2 < base /\ base <= w.heap.size) (bx : pre.length <= 1073741824)
 (ak : St -> Prop) (hG : ∀ l, ak (some l) -> zdc (some l) /\ ak (zaS (zac (some rest)).1 (zav (zac (some rest)).2).1 (some l)).2) (aZ : ak (zav (zac (some rest)).2).2)
 (ai : ∀ br bt l0 l, (zaS br bt (some l0)).2 = some l -> l.length < l0.length),
 Calls prog 86 #[dv, v, sv] w (zdU (fun k => some k = sv.ownBlock) w base pre (zbc rest))) := by
 refine ⟨fun ag te pe dv g base cur pre kd el rest aN v sv w h ho hb bx ak hG aZ ai => ?_, fun bU te pe dv g base cur pre kd el rest aN v sv w h ho hb bx ak hG aZ ai => ?_⟩; all_goals
  have mixed : prog.follows .mixedOrders = true := by kernel_rfl
  first | (guard_hyp ag; obtain ⟨i0, aC, az, ay, aB⟩ := info_parts zj6) | (obtain ⟨i0, aC, az, ay, aB⟩ := info_parts zj5)
  have hD := h.dec; obtain ⟨off, c, rfl, _⟩ := h; have hQ := zbC te pe w.heap.size g cur _ _ hD; rw [show zaD (some (kd :: rest)) = (kd.toNat, some rest) from rfl] at hQ; simp only [] at hQ; obtain ⟨n, hn⟩ := exE ((kd :: rest).length); have dG := zmh (znm w 229 #[.slice (some ⟨g, off, none⟩) (kd :: rest).length c, .nilIface]); rw [hn] at hQ dG ⊢; have hg9 : g < w.heap.size := by
   obtain ⟨cs0, iN, lq, hlt2⟩ := zb6 hD; have h1 := lq.lt; simp at h1; have := znn lq iN (by decide); omega
  have HLN := zmh ai; have oH : rest.length <= 1099511627776 := by
   obtain ⟨n', off', c', _, _, hn', aQ, _⟩ := hD.open_; have := hn' _ rfl; simp at this; omega
  obtain ⟨br, bM⟩ := exE ((zac (some rest)).1); obtain ⟨T1, gu⟩ := exE ((zac (some rest)).2); obtain ⟨bt, ln⟩ := exE ((zav T1).1); obtain ⟨T2, iQ⟩ := exE ((zav T1).2); rw [bM, gu, ln] at hG; rw [gu, iQ] at aZ; have fQ : zav (zac (some rest)).2 = (bt, T2) := by rw [gu]; exact Prod.ext ln iQ
  have HU : Hid (∀ v : Int, ∃ y : Nat, u64 ((br : Int) + u64 v) = y /\ IntKind.u64.wrap ((br : Int) + IntKind.u64.wrap v) = (y : Int)) := zmh (fun v => ⟨_, rfl, by rw [IntKind.wrap_u64, IntKind.wrap_u64]; unfold u64; omega⟩); have j0 := zmh aN; have oB := zmh bM; have gy := zmh fQ; have ii := zmh hG; have kC := zmh aZ; have HO := zmh ho
  have HOL : Hid (∀ k, sv.ownBlock = some k -> k < w.heap.size) := zmh (fun k hk => zaq ho.1 hk); obtain ⟨a', np, k', rfl⟩ := zab ho.1; have hr1 : ((rest.length : Int) == 0) = false := by have := List.length_pos_iff.2 aN; simp; omega
  have HL : Hid (∀ W, Dec te pe W w.heap.size g cur (some rest) -> Calls prog 118 #[.pointer (some ⟨w.heap.size, 0, none⟩)] W (fun r w' => r = .returned (.int .i64 rest.length) /\ W = w')) := zmh (fun W hW => by
   refine (ze5 te pe _ _ _ _ _ hW).mono ?_; rintro r w0 ⟨m, rfl, hm, _, rfl⟩; have hm0 := hm _ rfl; subst hm0
   exact ⟨rfl, rfl⟩)
  have HV1 : Hid (∀ W, Dec te pe W w.heap.size g cur (some rest) -> Calls prog 162 #[.pointer (some ⟨w.heap.size, 0, none⟩)] W (zb0 te pe W w.heap.size g cur (.int .u64 br) T1)) := zmh (fun W hW => by have := zcA te pe _ _ _ _ _ hW; rwa [bM, gu] at this)
  have HV2 : Hid (∀ W, Dec te pe W w.heap.size g cur T1 -> Calls prog 164 #[.pointer (some ⟨w.heap.size, 0, none⟩)] W (zb0 te pe W w.heap.size g cur (.int .i64 bt) T2)) := zmh (fun W hW => by have := zil te pe _ _ _ _ _ hW; rwa [ln, iQ] at this)
  first | (guard_hyp ag; have hn : ((kd.toNat : Int) = 7 ∨ (kd.toNat : Int) = 9) := by rcases el with rfl | rfl <;> decide) | (have hn : ((kd.toNat : Int) = 8 ∨ (kd.toNat : Int) = 10) := by rcases el with rfl | rfl <;> decide)
  obtain ⟨kx, mx⟩ := exE kd.toNat
  rw [mx] at hn hQ; have rT := zmh hn; clear hD ho aN bM fQ hG aZ ln iQ gu el mx hn ai
  first | (guard_hyp ag; go_enter func83, ntmps83) | (go_enter func86, ntmps86)
  go_upto_region 3 with (first
   | (go_at_call 160; refine hQ.mono ?_; rintro r w1 ⟨rfl, cQ, cu⟩; have oz := zmh cQ; have dP := zmh cu; clear cQ cu))
  go_cut [23] (fun pj wx => pj = .bool false /\ wx = w1)
  case first =>
   as_aux_lemma =>
    rcases rT.out with e | e; all_goals
     obtain rfl : kx = _ := Int.ofNat.inj e; go_wp2_with fail
     go_meet
     exact ⟨rfl, rfl⟩
  case rest =>
   as_aux_lemma =>
    obtain ⟨rfl, rfl⟩ := hcut
    first | (guard_hyp ag; have O1 : OwnHW base wc (.slice a' np k') pre := (HO.out.fr ((znl (fun _ => False) w).alloc (.cells #[.slice (some ⟨g, off, none⟩) n c, .nilIface] 229)) (fun _ _ _ e => e)).of dG.out dP.out) | (have O1 : OwnHF base wc (.slice a' np k') pre := (HO.out.fr ((znl (fun _ => False) w).alloc (.cells #[.slice (some ⟨g, off, none⟩) n c, .nilIface] 229)) (fun _ _ _ e => e)).of dG.out dP.out)
    have F1 : Fr (fun k => some k = (Value.slice a' np k').ownBlock) w wc := ((znl (fun k => some k = (Value.slice a' np k').ownBlock) w).alloc (.cells #[.slice (some ⟨g, off, none⟩) n c, .nilIface] 229)).trans dP.out (fun k hk e => by omega); have de := zmh O1; have bX := zmh F1; obtain ⟨csd, lw, _, _⟩ := zb6 oz.out; have kF := zmh lw; clear O1 F1 dP dG HO hQ lw
    go_wp2_with (first
     | (go_at_call 118; refine (HL.out _ oz.out).mono ?_; rintro r w0 ⟨rfl, rfl⟩)
     | (go_at_call 162; refine (HV1.out _ oz.out).mono ?_; rintro r w2 ⟨rfl, fg, fc⟩; have HDB := zmh fg; have kE := zmh fc; clear fg fc)
     | (go_at_call 164; refine (HV2.out _ HDB.out).mono ?_; rintro r w3 ⟨rfl, qI, qg⟩; have HDC := zmh qI; have HFC := zmh (kE.out.same qg); clear qI qg))
    first | (guard_hyp ag; have eq : Hid (OwnHW base w3 (.slice a' np k') (pre ++ [])) := zmh (by rw [zmD]; exact de.out.of kF.out HFC.out)) | (have eq : Hid (OwnHF base w3 (.slice a' np k') (pre ++ [])) := zmh (by rw [zmD]; exact de.out.of kF.out HFC.out))
    have bB : Hid (Fr (fun k => some k = (Value.slice a' np k').ownBlock) w w3) := zmh (bX.out.trans HFC.out (fun k hk e => by omega))
    have ir : Hid (∀ k, (Value.slice a' np k').ownBlock = some k -> k < w.heap.size) := zmh (fun k hk => by
     rcases (de.out.1).2 with ⟨e, _⟩ | ⟨g', aK, cur', e, _⟩
     ·rw [e] at hk; cases hk
     ·exact HOL.out k hk)
    clear kE HFC HDB de bX
    first
     | guard_hyp ag
       go_loopw [2] (fun sv wr => ∃ (st : St) (lo : List (Rhs × Value)) (j : Nat), Hid (Dec te pe wr w.heap.size g cur st) /\ Hid (OwnHW base wr sv (pre ++ lo)) /\ Hid (Fr (fun k => some k = (Value.slice a' np k').ownBlock) w wr) /\ Hid (∀ k, sv.ownBlock = some k -> (some k = (Value.slice a' np k').ownBlock ∨ w.heap.size <= k)) /\
        Hid (zaj (zaR br bt) j st (lo.map Prod.fst) = zaj (zaR br bt) rest.length T2 []) /\ Hid (∀ l, st = some l -> l.length <= j /\ lo.length + l.length <= rest.length) /\ lo.length <= rest.length + 1 /\ Hid (ak st)) (fun _ wr => zij w.heap.size wr)
     | go_loopw [2] (fun sv wr => ∃ (st : St) (lo : List (Rhs × Value)) (j : Nat), Hid (Dec te pe wr w.heap.size g cur st) /\ Hid (OwnHF base wr sv (pre ++ lo)) /\ Hid (Fr (fun k => some k = (Value.slice a' np k').ownBlock) w wr) /\ Hid (∀ k, sv.ownBlock = some k -> (some k = (Value.slice a' np k').ownBlock ∨ w.heap.size <= k)) /\
        Hid (zaj (zaS br bt) j st (lo.map Prod.fst) = zaj (zaS br bt) rest.length T2 []) /\ Hid (∀ l, st = some l -> l.length <= j /\ lo.length + l.length <= rest.length) /\ lo.length <= rest.length + 1 /\ Hid (ak st)) (fun _ wr => zij w.heap.size wr)
    case atStart => exact ⟨T2, [], rest.length, HDC, eq, bB, zmh (fun k hk => .inl hk.symm), zmh rfl, zmh (fun l hl => by
     have h : (zac (zac (some rest)).2).2 = T2 := zm7 Prod.snd gy.out; obtain ⟨l1, h1, e1⟩ := zbH (st := (zac (some rest)).2) (h.trans hl); obtain ⟨l2, h2, e2⟩ := zbH (st := some rest) h1; injection h2 with h2; subst h2
     simp; omega), by simp, kC⟩
    case round =>
     obtain ⟨st, lo, j, HD, HO, HF, HB, HE, HL9, mC, oo⟩ := hrel; obtain ⟨n6, iA, c6, p0, p1, cK, aQ, hd, hg, h2⟩ := HD.out.open_; have hE := zgS te pe _ _ _ _ _ HD.out; obtain ⟨a6, n9, k6, rfl⟩ := zab HO.out.1; rcases st with _ | l
     ·clear cK p1
      first | (guard_hyp ag; have aG : zaj (zaR br bt) rest.length T2 [] = (lo.map Prod.fst, none) := by rw [<- HE.out]; unfold zaj; rcases j with _ | j <;> rfl) | (have aG : zaj (zaS br bt) rest.length T2 [] = (lo.map Prod.fst, none) := by rw [<- HE.out]; unfold zaj; rcases j with _ | j <;> rfl)
      first | (guard_hyp ag; have HR := zmh (zks j0.out oB.out gy.out aG)) | (have HR := zmh (zku j0.out oB.out gy.out aG))
      clear aG; simp only [zju] at hE; rcases zmE n6 with rfl | oJ
      ·go_wp2_with (go_at_call 119; refine hE.mono ?_; rintro r w7 ⟨rfl, rfl⟩)
       go_ret2
       first | (guard_hyp ag; exact zee HR.out HF.out) | (exact zef HR.out HF.out)
      ·have bY : (0 : Int) < (n6 : Int) := by omega
       go_wp2_with (go_at_call 119; refine hE.mono ?_; rintro r w7 ⟨rfl, rfl⟩)
       go_ret2
       first | (guard_hyp ag; exact zee HR.out HF.out) | (exact zef HR.out HF.out)
     ·obtain rfl : n6 = l.length := cK l rfl
      simp only [zju] at hE; rcases l with _ | ⟨x, r⟩
      ·first | (guard_hyp ag; have aG : zaj (zaR br bt) rest.length T2 [] = (lo.map Prod.fst, some []) := by rw [<- HE.out]; unfold zaj; rcases j with _ | j <;> rfl) | (have aG : zaj (zaS br bt) rest.length T2 [] = (lo.map Prod.fst, some []) := by rw [<- HE.out]; unfold zaj; rcases j with _ | j <;> rfl)
       first | (guard_hyp ag; have HR := zmh (zkr j0.out oB.out gy.out aG)) | (have HR := zmh (zkt j0.out oB.out gy.out aG))
       clear aG cK p1; simp only [zm9] at p0; go_wp2_with (go_at_call 119; refine hE.mono ?_; rintro r w7 ⟨rfl, rfl⟩)
       go_ret2
       first | (guard_hyp ag; exact zfw HR.out HF.out HO.out) | (exact zfx HR.out HF.out HO.out)
      ·obtain ⟨n7, bY⟩ := exE ((x :: r).length)
       have mr : (0 : Int) < (n7 : Int) := by rw [<- bY]; simp
       have gm := HL9.out _ rfl; have hM := zbo HD.out; rw [bY] at p0 gm hM; obtain ⟨aW, bR⟩ := ii.out _ oo.out; have eV := zmh bY; obtain ⟨S0, gS⟩ : ∃ S0 : St, some (x :: r) = S0 := ⟨_, rfl⟩; have nO := HD.out; rw [gS] at aW bR nO; have ic := zmh gS; have ot := zmh bR; have cP := zdA te pe _ _ _ _ _ nO; obtain ⟨v0, eY⟩ := exE ((zaJ S0).1)
       obtain ⟨S1, hS1⟩ := exE ((zaJ S0).2); obtain ⟨v1, cA⟩ := exE ((zaJ S1).1); obtain ⟨S2, hS2⟩ := exE ((zaJ S1).2); rw [eY, hS1] at cP; have HV5 : Hid (∀ W, Dec te pe W w.heap.size g cur S1 -> Calls prog 165 #[.pointer (some ⟨w.heap.size, 0, none⟩)] W (zb0 te pe W w.heap.size g cur (.int .i64 v1) S2)) := zmh (fun W hW => by have := zdA te pe _ _ _ _ _ hW; rwa [cA, hS2] at this)
       first | (guard_hyp ag; unfold zdb at aW) | (unfold zdc at aW)
       rw [hS1, hS2] at aW; have mQ := zmh aW; have o9 := zmh (zm8 eY (zm8 hS1 (zm8 cA hS2))); obtain ⟨cs8, ft, hbg8, _⟩ := zb6 HD.out; have ki := zmh ft; have hlt8 := ft.lt; clear cK p1 bY gS bR aW eY hS1 cA hS2 ft hbg8 nO; have oG := HF.out.size; obtain ⟨y0, ei, hw0⟩ := HU.out v0; obtain ⟨y1, dC⟩ := exE (wrap64 (bt + v1))
       have kP : IntKind.i64.wrap (bt + v1) = y1 := by rw [<- dC, IntKind.wrap_i64]; unfold wrap64; omega
       have HYY : Hid (_ /\ _) := zmh (zm8 ei dC); clear ei dC
       go_upto_region 13 with (first
        | (go_at_call 119; refine hE.mono ?_; rintro r w7 ⟨rfl, rfl⟩)
        | (go_at_call 165; refine (HV5.out _ so.out).mono ?_; rintro r w8 ⟨rfl, fg, fc⟩; have pc := zmh fg; have kD := zmh (sg.out.same fc); clear fg fc)
        | (go_at_call 165; refine cP.mono ?_; rintro r w8 ⟨rfl, cQ, cu⟩; have so := zmh cQ; have sg := zmh cu; clear cQ cu))
       first | (guard_hyp ag; obtain ⟨Z, hZ⟩ : ∃ Z : Array Value, #[.int .u8 0, .int .i32 0, .float .f64 0, .int .u64 0, .int .u64 0, .float .f64 0, .slice none 0 0, .slice none 0 0, .slice none 0 0, .slice none 0 0, .slice none 0 0] = Z := ⟨_, rfl⟩) | (obtain ⟨Z, hZ⟩ : ∃ Z : Array Value, #[.int .u8 0, .int .i32 0, .float .f64 0, .float .f64 0, .float .f64 0, .float .f64 0, .slice none 0 0, .slice none 0 0, .slice none 0 0, .slice none 0 0, .slice none 0 0] = Z := ⟨_, rfl⟩)
       obtain ⟨Y, hY⟩ : ∃ Y : Array Value, #[.int .u64 y0, .int .i64 y1, .pointer (some ⟨w8.heap.size, 0, none⟩)] = Y := ⟨_, rfl⟩; rw [hZ, hY]
       first | (guard_hyp ag; have FA : z_F w8 ((w8.alloc (.cells Z 288)).alloc (.cells Y 290)) := ((znl (fun _ => False) w8).alloc (.cells Z 288)).alloc (.cells Y 290)) | (have FA : z_F w8 ((w8.alloc (.cells Z 296)).alloc (.cells Y 298)) := ((znl (fun _ => False) w8).alloc (.cells Z 296)).alloc (.cells Y 298))
       first | (guard_hyp ag; have BZ : Blk ((w8.alloc (.cells Z 288)).alloc (.cells Y 290)) w8.heap.size 288 Z := (znm w8 288 Z).alloc (.cells Y 290)) | (have BZ : Blk ((w8.alloc (.cells Z 296)).alloc (.cells Y 298)) w8.heap.size 296 Z := (znm w8 296 Z).alloc (.cells Y 298))
       first | (guard_hyp ag; have BY : Blk ((w8.alloc (.cells Z 288)).alloc (.cells Y 290)) (w8.heap.size + 1) 290 Y := by have h := znm (w8.alloc (.cells Z 288)) 290 Y; simpa using h) | (have BY : Blk ((w8.alloc (.cells Z 296)).alloc (.cells Y 298)) (w8.heap.size + 1) 298 Y := by have h := znm (w8.alloc (.cells Z 296)) 298 Y; simpa using h)
       have hs8 := kD.out.size; have h2w : 2 < w8.heap.size := by omega
       first | (guard_hyp ag; have nk : ((w8.alloc (.cells Z 288)).alloc (.cells Y 290)).heap.size = w8.heap.size + 2 := by simp) | (have nk : ((w8.alloc (.cells Z 296)).alloc (.cells Y 298)).heap.size = w8.heap.size + 2 := by simp)
       first | (guard_hyp ag; obtain ⟨W9, hW9⟩ := exE ((w8.alloc (.cells Z 288)).alloc (.cells Y 290))) | (obtain ⟨W9, hW9⟩ := exE ((w8.alloc (.cells Z 296)).alloc (.cells Y 298)))
       rw [hW9] at FA BZ BY nk ⊢; have D9 : Dec te pe W9 w.heap.size g cur S2 := pc.out.fr FA id id id
       first
        | guard_hyp ag
          have hDH : DH te pe w.heap.size g cur w8.heap.size 288 W9 W9 S2 #[.int .u8 0, .int .i32 0, .float .f64 0, .int .u64 0, .int .u64 0, .float .f64 0, .slice none 0 0, .slice none 0 0, .slice none 0 0, .slice none 0 0, .slice none 0 0] [] :=
           ⟨D9, by rw [hZ]; exact BZ, trivial, znl _ _, by omega, by omega, by omega, by omega, by omega, by omega, by omega⟩
        | have hDH : DH te pe w.heap.size g cur w8.heap.size 296 W9 W9 S2 #[.int .u8 0, .int .i32 0, .float .f64 0, .float .f64 0, .float .f64 0, .float .f64 0, .slice none 0 0, .slice none 0 0, .slice none 0 0, .slice none 0 0, .slice none 0 0] [] :=
           ⟨D9, by rw [hZ]; exact BZ, trivial, znl _ _, by omega, by omega, by omega, by omega, by omega, by omega, by omega⟩
       first | (guard_hyp ag; have hX := zji te pe w.heap.size g cur w8.heap.size w8.heap.size W9 S2 (zmt _) hDH mQ.out) | (have hX := zjk te pe w.heap.size g cur w8.heap.size w8.heap.size W9 S2 (zmt _) hDH mQ.out)
       first | (guard_hyp ag; obtain ⟨hh, mH⟩ := exE ((zcM S2).1)) | (obtain ⟨hh, mH⟩ := exE ((zcN S2).1))
       first | (guard_hyp ag; obtain ⟨S3, hS3⟩ := exE ((zcM S2).2)) | (obtain ⟨S3, hS3⟩ := exE ((zcN S2).2))
       rw [mH, hS3] at hX
       first | (guard_hyp ag; have O8 : OwnHW base w8 (.slice a6 n9 k6) (pre ++ lo) := HO.out.of ki.out kD.out) | (have O8 : OwnHF base w8 (.slice a6 n9 k6) (pre ++ lo) := HO.out.of ki.out kD.out)
       have F9 : Fr (fun k => some k = (Value.slice a' np k').ownBlock) w W9 := (HF.out.trans kD.out (fun k hk e => by omega)).trans FA (fun _ _ e => e.elim); have c2 : W9.cell? ⟨w8.heap.size + 1, 2, none⟩ = some (.pointer (some ⟨w8.heap.size, 0, none⟩)) := by rw [BY.cell, <- hY]; rfl
       have HX := zmh hX; have iZ := zmh O8; have HFA9 := zmh FA; have si := zmh F9; have HEH := zmh (zm8 mH hS3); have pf := zmh BY; have oT := zmh hY; have HWZ := zmh nk; clear hX O8 F9 mH hS3 FA BZ BY hZ hY hW9 D9 hDH hE p0 cP; have c29 : W9.cell? ⟨w8.heap.size + 1, 2, none⟩ = some (.pointer (some ⟨w8.heap.size, 0, none⟩)) := c2
       first
        | guard_hyp ag
          go_wp2_with (first
           | (go_at_call 174; refine HX.out.mono ?_; rintro r cU ⟨rfl, gd, jR, ziV⟩; have JD := zmh gd; have JO := zmh jR; have JF := zmh ziV
              have KY := zmh (pf.out.fr ziV (by omega)); have g0 : cU.cell? ⟨w8.heap.size + 1, 0, none⟩ = some (.int .u64 y0) := by rw [KY.out.cell, <- oT.out]; rfl
              have g1 : cU.cell? ⟨w8.heap.size + 1, 1, none⟩ = some (.int .i64 y1) := by rw [KY.out.cell, <- oT.out]; rfl
              have g2 : cU.cell? ⟨w8.heap.size + 1, 2, none⟩ = some (.pointer (some ⟨w8.heap.size, 0, none⟩)) := by rw [KY.out.cell, <- oT.out]; rfl
              clear gd jR ziV c2 c29)
           | (at_builtin; refine Hid.out ?_))
        | go_wp2_with (first
           | (go_at_call 177; refine HX.out.mono ?_; rintro r cU ⟨rfl, gd, jR, ziV⟩; have JD := zmh gd; have JO := zmh jR; have JF := zmh ziV
              have KY := zmh (pf.out.fr ziV (by omega)); have g0 : cU.cell? ⟨w8.heap.size + 1, 0, none⟩ = some (.int .u64 y0) := by rw [KY.out.cell, <- oT.out]; rfl
              have g1 : cU.cell? ⟨w8.heap.size + 1, 1, none⟩ = some (.int .i64 y1) := by rw [KY.out.cell, <- oT.out]; rfl
              have g2 : cU.cell? ⟨w8.heap.size + 1, 2, none⟩ = some (.pointer (some ⟨w8.heap.size, 0, none⟩)) := by rw [KY.out.cell, <- oT.out]; rfl
              clear gd jR ziV c2 c29)
           | (at_builtin; refine Hid.out ?_))
       have hs10 := JF.out.size; obtain ⟨cs9, fq, _, _⟩ := zb6 pc.out; have F8 : Fr (fun k => k = w.heap.size) w8 cU := (HFA9.out.mono (fun _ _ e => e.elim)).trans JF.out (fun k hk e => by omega)
       first | (guard_hyp ag; have O10 : OwnHW base cU (.slice a6 n9 k6) (pre ++ lo) := iZ.out.of fq F8) | (have O10 : OwnHF base cU (.slice a6 n9 k6) (pre ++ lo) := iZ.out.of fq F8)
       have F10 : Fr (fun k => some k = (Value.slice a' np k').ownBlock) w cU := si.out.trans JF.out (fun k hk e => by omega)
       first | (guard_hyp ag; have J10 : OwnW base cU hh (.pointer (some ⟨w8.heap.size, 0, none⟩)) := JO.out.mono (by omega)) | (have J10 : OwnF base cU hh (.pointer (some ⟨w8.heap.size, 0, none⟩)) := JO.out.mono (by omega))
       have cN := zmh O10; have kE := zmh F10; have HJA := zmh J10; have dh : (pre ++ lo).length = pre.length + lo.length := zmi; clear F8 O10 F10 J10 fq; refine zmh ?_
       first | (guard_hyp ag; refine zaf _ rfl _ _ 177 177 rfl base 290 i0 _ 3 24 underlying177 aC az ay aB rfl (by decide) _ (pre ++ lo).length ((pre ++ lo).flatMap rhc) rfl (cN.out.1.alloc _) _ 1 [.int .u64 y0, .int .i64 y1, .pointer (some ⟨w8.heap.size, 0, none⟩)] rfl (zaF underlying177 (znm cU 290 #[.int .u64 y0, .int .i64 y1, .pointer (some ⟨w8.heap.size, 0, none⟩)]) rfl (by simp [Value.oneCell'])) (by unfold maxLen; omega) (by omega) (by simp; omega) ?_) | (refine zaf _ rfl _ _ 182 182 rfl base 298 i0 _ 3 24 underlying182 aC az ay aB rfl (by decide) _ (pre ++ lo).length ((pre ++ lo).flatMap rhc) rfl (cN.out.1.alloc _) _ 1 [.int .u64 y0, .int .i64 y1, .pointer (some ⟨w8.heap.size, 0, none⟩)] rfl (zaF underlying182 (znm cU 298 #[.int .u64 y0, .int .i64 y1, .pointer (some ⟨w8.heap.size, 0, none⟩)]) rfl (by simp [Value.oneCell'])) (by unfold maxLen; omega) (by omega) (by simp; omega) ?_)
       intro v' w2 ac ad av
       have rJ := zmh ac; have HGR := zmh ad; have gl := zmh av
       clear ac ad av dh
       first | (guard_hyp ag; have AL : z_F cU (cU.alloc (.cells #[.int .u64 y0, .int .i64 y1, .pointer (some ⟨w8.heap.size, 0, none⟩)] 290)) := (znl (fun _ => False) cU).alloc _) | (have AL : z_F cU (cU.alloc (.cells #[.int .u64 y0, .int .i64 y1, .pointer (some ⟨w8.heap.size, 0, none⟩)] 298)) := (znl (fun _ => False) cU).alloc _)
       first
        | guard_hyp ag
          have aU : OwnHW base w2 v' (pre ++ (lo ++ [((⟨y0, y1, hh⟩ : Rhs), Value.pointer (some ⟨w8.heap.size, 0, none⟩))])) := by
           rw [<- zmk]; exact OwnHW.push (p := ((⟨y0, y1, hh⟩ : Rhs), Value.pointer (some ⟨w8.heap.size, 0, none⟩))) (cN.out.fr AL (fun _ _ _ e => e)) (HJA.out.fr AL (fun _ _ _ e => e)) HGR.out rJ.out
        | have aU : OwnHF base w2 v' (pre ++ (lo ++ [((⟨y0, y1, hh⟩ : Rhs), Value.pointer (some ⟨w8.heap.size, 0, none⟩))])) := by
           rw [<- zmk]; exact OwnHF.push (p := ((⟨y0, y1, hh⟩ : Rhs), Value.pointer (some ⟨w8.heap.size, 0, none⟩))) (cN.out.fr AL (fun _ _ _ e => e)) (HJA.out.fr AL (fun _ _ _ e => e)) HGR.out rJ.out
       have fG : Fr (fun k => some k = (Value.slice a6 n9 k6).ownBlock) cU w2 := (AL.mono (fun _ _ e => e.elim)).grown HGR.out (fun k hk => .inl hk.symm); have aO : ∀ k, (Value.slice a6 n9 k6).ownBlock = some k -> base <= k := fun k hk => (cN.out.1.lt k hk).1; obtain ⟨qW, iO, fV, _⟩ := zb6 JD.out
       have rD : Dec te pe w2 w.heap.size g cur S3 := JD.out.fr fG (fun e => zak cN.out.1 iO (by decide) e.symm) (fun e => zak cN.out.1 fV (by decide) e.symm) (fun e => by have := aO _ e.symm; omega)
       have rF : Fr (fun k => some k = (Value.slice a' np k').ownBlock) w w2 := kE.out.trans fG (fun k hk e => by
        rcases HB.out k e.symm with h | h
        ·exact h
        ·omega)
       have iB := HGR.out.size; simp at iB; have rB : ∀ k, v'.ownBlock = some k -> (some k = (Value.slice a' np k').ownBlock ∨ w.heap.size <= k) := fun k hk => by
        rcases gl.out with h | h
        ·exact HB.out k (h ▸ hk)
        ·rw [h] at hk; injection hk with hk; simp at hk; exact .inr (by omega)
       obtain ⟨q0, q1, q2, q3⟩ := o9.out; obtain ⟨q4, q5⟩ := HYY.out; obtain ⟨q6, q7⟩ := HEH.out
       first | (guard_hyp ag; have bg : zaR br bt S0 = (⟨y0, y1, hh⟩, S3) := by unfold zaR; rw [q1, q0, q3, q2, q6, q7, q4, q5]) | (have bg : zaS br bt S0 = (⟨y0, y1, hh⟩, S3) := by unfold zaS; rw [q1, q0, q3, q2, q6, q7, q4, q5])
       first
        | guard_hyp ag
          have dk : Hid (∀ j', j = j' + 1 -> zaj (zaR br bt) j' S3 ((lo ++ [((⟨y0, y1, hh⟩ : Rhs), Value.pointer (some ⟨w8.heap.size, 0, none⟩))]).map Prod.fst) = zaj (zaR br bt) rest.length T2 []) := zmh (by
           rintro j' rfl; have h := HE.out; have h2 : zaj (zaR br bt) (j' + 1) (some (x :: r)) (lo.map Prod.fst) = zaj (zaR br bt) j' (zaR br bt (some (x :: r))).2 (lo.map Prod.fst ++ [(zaR br bt (some (x :: r))).1]) := rfl; rw [h2, ic.out, bg] at h; rw [zmH]
           exact h)
        | have dk : Hid (∀ j', j = j' + 1 -> zaj (zaS br bt) j' S3 ((lo ++ [((⟨y0, y1, hh⟩ : Rhs), Value.pointer (some ⟨w8.heap.size, 0, none⟩))]).map Prod.fst) = zaj (zaS br bt) rest.length T2 []) := zmh (by
           rintro j' rfl; have h := HE.out; have h2 : zaj (zaS br bt) (j' + 1) (some (x :: r)) (lo.map Prod.fst) = zaj (zaS br bt) j' (zaS br bt (some (x :: r))).2 (lo.map Prod.fst ++ [(zaS br bt (some (x :: r))).1]) := rfl; rw [h2, ic.out, bg] at h; rw [zmH]
           exact h)
       have bi : Hid (∀ l, S3 = some l -> l.length < n7) := zmh (fun l hl => by
        have h := HLN.out br bt (x :: r) l (by rw [ic.out, bg]; exact hl)
        rw [eV.out] at h; exact h)
       have oq : Hid (ak S3) := zmh (by have h := ot.out; rw [bg] at h; exact h); have rM : zij w.heap.size w2 < n7 + 1 := by
        rcases S3 with _ | l9
        ·rw [zc7 rD]; omega
        ·rw [zbo rD]; have := bi.out l9 rfl; omega
       have RD := zmh rD; have RO := zmh aU; have RF := zmh rF; have RB := zmh rB; clear rD aU rF rB fG aO iO fV q0 q1 q2 q3 q4 q5 q6 q7 bg AL g0 g1 g2; go_wp2; go_roundw
       case rel =>
        obtain ⟨j', rfl⟩ : ∃ j', j = j' + 1 := ⟨j - 1, by have := eV.out; simp at this; omega⟩; refine ⟨S3, lo ++ [((⟨y0, y1, hh⟩ : Rhs), Value.pointer (some ⟨w8.heap.size, 0, none⟩))], j', RD, RO, RF, RB, zmh (dk.out j' rfl), zmh (fun l hl => ?_), by simp; omega, oq⟩; have := bi.out l hl; rw [zmi, zmy]; omega
       case measure => rw [hM]; exact rM
theorem decHsW_go : type_of% (zdn.1 trivial) := zdn.1 trivial
theorem decHsF_go : type_of% (zdn.2 trivial) := zdn.2 trivial
theorem gN_len {α : Type} {f : St -> α × St} (hf : ∀ st l, (f st).2 = some l -> ∃ l0, st = some l0 /\ l.length < l0.length) : ∀ (n : Nat) (st : St) (l : List UInt8), (gN f n st).2 = some l -> ∃ l0, st = some l0 /\ l.length <= l0.length
 | 0, st, l, h => ⟨l, h, zmt _⟩
 | n + 1, st, l, h => by
   obtain ⟨l1, h1, e1⟩ := gN_len hf n (f st).2 l h; obtain ⟨l0, h0, e0⟩ := hf st l1 h1; exact ⟨l0, h0, by omega⟩
theorem zcD {α : Type} {f : St -> α × St} (hf : ∀ st l, (f st).2 = some l -> ∃ l0, st = some l0 /\ l.length < l0.length) (st : St) (l : List UInt8) (h : (ze0 f st).2 = some l) : ∃ l0, st = some l0 /\ l.length < l0.length := by
 obtain ⟨l1, h1, e1⟩ := gN_len hf _ _ l h; obtain ⟨l0, h0, e0⟩ := zb5 h1; exact ⟨l0, h0, by omega⟩
theorem zdK (st : St) (l : List UInt8) (h : (zaJ st).2 = some l) : ∃ l0, st = some l0 /\ l.length < l0.length := zb5 h
theorem zh9 (st : St) (l : List UInt8) (h : (gSp st).2 = some l) : ∃ l0, st = some l0 /\ l.length < l0.length := by
 obtain ⟨l1, h1, e1⟩ := zb5 (st := (zaJ st).2) h; obtain ⟨l0, h0, e0⟩ := zdK st l1 h1; exact ⟨l0, h0, by omega⟩
theorem zht {st : St} {l : List UInt8} (h : (zaD st).2 = some l) : ∃ l0, st = some l0 /\ l.length < l0.length := by
 rcases st with _ | _ | ⟨b, r⟩
 ·cases h
 ·cases h
 ·have e : some r = some l := h
  injection e with e; subst e; exact ⟨_, rfl, by simp⟩
theorem zfX (st : St) (l : List UInt8) (h : (zac st).2 = some l) : ∃ l0, st = some l0 /\ l.length < l0.length := zbH h
theorem zhr (st : St) (l : List UInt8) (h : (zcM st).2 = some l) : ∃ l0, st = some l0 /\ l.length < l0.length := by
 have h10 : ∃ l1, hW10 st = some l1 /\ l.length <= l1.length := by
  have h2 : (hWc st).2 = some l := h; unfold hWc at h2; by_cases hc : zjt st = -53
  ·rw [if_pos hc] at h2
   obtain ⟨l1, e1, e2⟩ := zcD zfX _ _ h2; exact ⟨l1, e1, by omega⟩
  ·rw [znd hc] at h2
   exact ⟨l, h2, zmt _⟩
 obtain ⟨pw, h10, ku⟩ := h10; obtain ⟨l9, h9, e9⟩ := zcD zdK _ _ (show (ze0 _ (hW9 st)).2 = some pw from h10); obtain ⟨l8, h8, e8⟩ := zcD zdK _ _ (show (ze0 _ (hW8 st)).2 = some l9 from h9); obtain ⟨l7, h7, e7⟩ := zcD zh9 _ _ (show (ze0 _ (hW7 st)).2 = some l8 from h8); obtain ⟨l6, h6, e6⟩ := zcD zh9 _ _ (show (ze0 _ (hW6 st)).2 = some l7 from h7)
 obtain ⟨l5, h5, e5⟩ := zbH (show (zac (hW5 st)).2 = some l6 from h6); obtain ⟨l4, h4, e4⟩ := zb5 (show _ = some l5 from h5); obtain ⟨l3, h3, e3⟩ := zb5 (show _ = some l4 from h4); obtain ⟨l2, h2, e2⟩ := zbH (show (zac (hS2 st)).2 = some l3 from h3); obtain ⟨l1, h1, e1⟩ := zb5 (show _ = some l2 from h2); obtain ⟨l0, h0, e0⟩ := zht (show (zaD st).2 = some l1 from h1)
 exact ⟨l0, h0, by omega⟩
theorem zkd (br : Nat) (bt : Int) (l0 l : List UInt8) (h : (zaR br bt (some l0)).2 = some l) : l.length < l0.length := by
 obtain ⟨l1, h1, e1⟩ := zhr _ _ h; obtain ⟨l2, h2, e2⟩ := zdK _ _ h1; obtain ⟨l3, h3, e3⟩ := zdK _ _ h2; injection h3 with h3; subst h3; omega
theorem zjf (te : TypeId) (pe : Value) (dv : Value) (g base : Nat) (cur : Array Value) (pre : List (Rhs × Value)) (kd : UInt8) (el : kd = 7 ∨ kd = 9) (v sv : Value) (w : World) (h : Rec te pe w g cur [kd] v) (ho : OwnHW base w sv pre) :
 Calls prog 83 #[dv, v, sv] w (zdT (fun k => some k = sv.ownBlock) w base pre (zbb [])) := by
 have hD := h.dec; obtain ⟨off, c, rfl, _⟩ := h; have hQ := zbC te pe w.heap.size g cur _ _ hD; rw [show zaD (some [kd]) = (kd.toNat, some []) from rfl] at hQ; simp only [] at hQ; obtain ⟨n, hn⟩ := exE (([kd] : List UInt8).length); have dG := zmh (znm w 229 #[.slice (some ⟨g, off, none⟩) ([kd] : List UInt8).length c, .nilIface]); rw [hn] at hQ dG ⊢; have HO := zmh ho
 obtain ⟨a', np, k', rfl⟩ := zab ho.1
 have HL : Hid (∀ W, Dec te pe W w.heap.size g cur (some []) -> Calls prog 118 #[.pointer (some ⟨w.heap.size, 0, none⟩)] W (fun r w' => r = .returned (.int .i64 0) /\ W = w')) := zmh (fun W hW => by
  refine (ze5 te pe _ _ _ _ _ hW).mono ?_; rintro r w0 ⟨m, rfl, hm, _, rfl⟩; have hm0 := hm _ rfl; subst hm0
  exact ⟨rfl, rfl⟩)
 have hn : ((kd.toNat : Int) = 7 ∨ (kd.toNat : Int) = 9) := by rcases el with rfl | rfl <;> decide
 obtain ⟨kx, mx⟩ := exE kd.toNat
 rw [mx] at hn hQ; have rT := zmh hn; clear hD ho el mx hn; go_enter func83, ntmps83
 go_upto_region 3 with (first
  | (go_at_call 160; refine hQ.mono ?_; rintro r w1 ⟨rfl, cQ, cu⟩; have oz := zmh cQ; have dP := zmh cu; clear cQ cu))
 go_cut [23] (fun pj wx => pj = .bool false /\ wx = w1)
 case first =>
  as_aux_lemma =>
   rcases rT.out with e | e; all_goals
    obtain rfl : kx = _ := Int.ofNat.inj e; go_wp2_with fail
    go_meet
    exact ⟨rfl, rfl⟩
 case rest =>
  as_aux_lemma =>
   obtain ⟨rfl, rfl⟩ := hcut; have O1 : OwnHW base wc (.slice a' np k') pre := (HO.out.fr ((znl (fun _ => False) w).alloc (.cells #[.slice (some ⟨g, off, none⟩) n c, .nilIface] 229)) (fun _ _ _ e => e)).of dG.out dP.out
   have F1 : Fr (fun k => some k = (Value.slice a' np k').ownBlock) w wc := ((znl (fun k => some k = (Value.slice a' np k').ownBlock) w).alloc (.cells #[.slice (some ⟨g, off, none⟩) n c, .nilIface] 229)).trans dP.out (fun k hk e => by omega); have de := zmh O1; have bX := zmh F1; clear O1 F1 hQ; go_wp2_with (go_at_call 118; refine (HL.out _ oz.out).mono ?_; rintro r w0 ⟨rfl, rfl⟩)
   go_ret2; exact zfw (lo := []) rfl bX.out (by rw [zmD]; exact de.out)
theorem zlY (te : TypeId) (pe : Value) (dv : Value) (g base : Nat) (cur : Array Value) (pre : List (Rhs × Value)) (xs : List UInt8) (v sv : Value) (w : World) (h : Rec te pe w g cur xs v) (ho : OwnHW base w sv pre) (hb : 2 < base /\ base <= w.heap.size) (bx : pre.length <= 1073741824)
 (ak : St -> Prop) (hG : ∀ kd rest, xs = kd :: rest -> (kd = 7 ∨ kd = 9) -> ∀ l, ak (some l) -> zdb (some l) /\ ak (zaR (zac (some rest)).1 (zav (zac (some rest)).2).1 (some l)).2) (aZ : ∀ kd rest, xs = kd :: rest -> (kd = 7 ∨ kd = 9) -> rest ≠ [] -> ak (zav (zac (some rest)).2).2) :
 Calls prog 83 #[dv, v, sv] w (zdT (fun k => some k = sv.ownBlock) w base pre (zcO xs)) := by
 by_cases hx : (zaD (some xs)).1 = 7 ∨ (zaD (some xs)).1 = 9
 ·rcases xs with _ | ⟨kd, rest⟩
  ·exact absurd hx (by decide)
  ·have el : kd = 7 ∨ kd = 9 := by
    rcases hx with h1 | h1
    ·exact .inl (UInt8.toNat_inj.1 (show kd.toNat = (7 : UInt8).toNat from h1))
    ·exact .inr (UInt8.toNat_inj.1 (show kd.toNat = (9 : UInt8).toNat from h1))
   have hd : zcO (kd :: rest) = zbb rest := by show (if kd = 7 ∨ kd = 9 then zbb rest else none) = _; rw [if_pos el]
   rw [hd]; by_cases hr : rest = []
   ·subst hr
    exact zjf te pe dv g base cur pre kd el v sv w h ho
   ·exact decHsW_go te pe dv g base cur pre kd el rest hr v sv w h ho hb bx ak (hG kd rest rfl el) (aZ kd rest rfl el hr) zkd
 ·have hd : zcO xs = none := by
   rcases xs with _ | ⟨kd, r⟩
   ·rfl
   ·have : ¬ (kd = 7 ∨ kd = 9) := by rintro (rfl | rfl) <;> exact hx (by first | exact .inl rfl | exact .inr rfl)
    show (if kd = 7 ∨ kd = 9 then zbb r else none) = _; rw [znd this]
  rw [hd]; have hD := h.dec; obtain ⟨off, c, rfl, _⟩ := h; have hQ := zbC te pe w.heap.size g cur _ _ hD; have dS : (((zaD (some xs)).1 : Int) != 7) = true := by simp; omega
  have hx3 : (((zaD (some xs)).1 : Int) != 9) = true := by simp; omega
  obtain ⟨a', n', k', rfl⟩ := zab ho.1; clear hx hd hG aZ hD ho; generalize (zaD (some xs)).1 = x at hQ dS hx3; generalize (zaD (some xs)).2 = st at hQ; go_enter func83, ntmps83; go_wp2_with (first | (go_at_call 160; refine hQ.mono ?_; rintro r w1 ⟨rfl, cr, ah⟩) | (go_at_call 161; refine (zbN _ _).mono ?_; rintro r w2 ⟨t, a, rfl, aq⟩))
  go_ret2; have f1 := (((znl (fun k => some k = (Value.slice a' n' k').ownBlock) w).alloc (.cells #[.slice (some ⟨g, off, none⟩) xs.length c, .nilIface] 229)).trans ah (fun k hk e => by omega)); exact zee rfl (f1.trans aq (fun _ _ e => e.elim))
theorem zhs (st : St) (l : List UInt8) (h : (zcN st).2 = some l) : ∃ l0, st = some l0 /\ l.length < l0.length := by
 have h10 : ∃ l1, ziV st = some l1 /\ l.length <= l1.length := by
  have h2 : (hFc st).2 = some l := h; unfold hFc at h2; by_cases hc : zjt st = -53
  ·rw [if_pos hc] at h2
   obtain ⟨l1, e1, e2⟩ := zcD zfX _ _ h2; exact ⟨l1, e1, by omega⟩
  ·rw [znd hc] at h2
   exact ⟨l, h2, zmt _⟩
 obtain ⟨pw, h10, ku⟩ := h10; obtain ⟨l9, h9, e9⟩ := zcD zfX _ _ (show (ze0 _ (hF9 st)).2 = some pw from h10); obtain ⟨l8, h8, e8⟩ := zcD zfX _ _ (show (ze0 _ (hF8 st)).2 = some l9 from h9); obtain ⟨l7, h7, e7⟩ := zcD zh9 _ _ (show (ze0 _ (hF7 st)).2 = some l8 from h8); obtain ⟨l6, h6, e6⟩ := zcD zh9 _ _ (show (ze0 _ (hF6 st)).2 = some l7 from h7)
 obtain ⟨l5, h5, e5⟩ := zbH (show (zac (hF5 st)).2 = some l6 from h6); obtain ⟨l4, h4, e4⟩ := zbH (show _ = some l5 from h5); obtain ⟨l3, h3, e3⟩ := zbH (show _ = some l4 from h4); obtain ⟨l2, h2, e2⟩ := zbH (show (zac (hS2 st)).2 = some l3 from h3); obtain ⟨l1, h1, e1⟩ := zb5 (show _ = some l2 from h2); obtain ⟨l0, h0, e0⟩ := zht (show (zaD st).2 = some l1 from h1)
 exact ⟨l0, h0, by omega⟩
theorem zke (br : Nat) (bt : Int) (l0 l : List UInt8) (h : (zaS br bt (some l0)).2 = some l) : l.length < l0.length := by
 obtain ⟨l1, h1, e1⟩ := zhs _ _ h; obtain ⟨l2, h2, e2⟩ := zdK _ _ h1; obtain ⟨l3, h3, e3⟩ := zdK _ _ h2; injection h3 with h3; subst h3; omega
theorem zjg (te : TypeId) (pe : Value) (dv : Value) (g base : Nat) (cur : Array Value) (pre : List (Rhs × Value)) (kd : UInt8) (el : kd = 8 ∨ kd = 10) (v sv : Value) (w : World) (h : Rec te pe w g cur [kd] v) (ho : OwnHF base w sv pre) :
 Calls prog 86 #[dv, v, sv] w (zdU (fun k => some k = sv.ownBlock) w base pre (zbc [])) := by
 have hD := h.dec; obtain ⟨off, c, rfl, _⟩ := h; have hQ := zbC te pe w.heap.size g cur _ _ hD; rw [show zaD (some [kd]) = (kd.toNat, some []) from rfl] at hQ; simp only [] at hQ; obtain ⟨n, hn⟩ := exE (([kd] : List UInt8).length); have dG := zmh (znm w 229 #[.slice (some ⟨g, off, none⟩) ([kd] : List UInt8).length c, .nilIface]); rw [hn] at hQ dG ⊢; have HO := zmh ho
 obtain ⟨a', np, k', rfl⟩ := zab ho.1
 have HL : Hid (∀ W, Dec te pe W w.heap.size g cur (some []) -> Calls prog 118 #[.pointer (some ⟨w.heap.size, 0, none⟩)] W (fun r w' => r = .returned (.int .i64 0) /\ W = w')) := zmh (fun W hW => by
  refine (ze5 te pe _ _ _ _ _ hW).mono ?_; rintro r w0 ⟨m, rfl, hm, _, rfl⟩; have hm0 := hm _ rfl; subst hm0
  exact ⟨rfl, rfl⟩)
 have hn : ((kd.toNat : Int) = 8 ∨ (kd.toNat : Int) = 10) := by rcases el with rfl | rfl <;> decide
 obtain ⟨kx, mx⟩ := exE kd.toNat
 rw [mx] at hn hQ; have rT := zmh hn; clear hD ho el mx hn; go_enter func86, ntmps86
 go_upto_region 3 with (first
  | (go_at_call 160; refine hQ.mono ?_; rintro r w1 ⟨rfl, cQ, cu⟩; have oz := zmh cQ; have dP := zmh cu; clear cQ cu))
 go_cut [23] (fun pj wx => pj = .bool false /\ wx = w1)
 case first =>
  as_aux_lemma =>
   rcases rT.out with e | e; all_goals
    obtain rfl : kx = _ := Int.ofNat.inj e; go_wp2_with fail
    go_meet
    exact ⟨rfl, rfl⟩
 case rest =>
  as_aux_lemma =>
   obtain ⟨rfl, rfl⟩ := hcut; have O1 : OwnHF base wc (.slice a' np k') pre := (HO.out.fr ((znl (fun _ => False) w).alloc (.cells #[.slice (some ⟨g, off, none⟩) n c, .nilIface] 229)) (fun _ _ _ e => e)).of dG.out dP.out
   have F1 : Fr (fun k => some k = (Value.slice a' np k').ownBlock) w wc := ((znl (fun k => some k = (Value.slice a' np k').ownBlock) w).alloc (.cells #[.slice (some ⟨g, off, none⟩) n c, .nilIface] 229)).trans dP.out (fun k hk e => by omega); have de := zmh O1; have bX := zmh F1; clear O1 F1 hQ; go_wp2_with (go_at_call 118; refine (HL.out _ oz.out).mono ?_; rintro r w0 ⟨rfl, rfl⟩)
   go_ret2; exact zfx (lo := []) rfl bX.out (by rw [zmD]; exact de.out)
theorem zl0 (te : TypeId) (pe : Value) (dv : Value) (g base : Nat) (cur : Array Value) (pre : List (Rhs × Value)) (xs : List UInt8) (v sv : Value) (w : World) (h : Rec te pe w g cur xs v) (ho : OwnHF base w sv pre) (hb : 2 < base /\ base <= w.heap.size) (bx : pre.length <= 1073741824)
 (ak : St -> Prop) (hG : ∀ kd rest, xs = kd :: rest -> (kd = 8 ∨ kd = 10) -> ∀ l, ak (some l) -> zdc (some l) /\ ak (zaS (zac (some rest)).1 (zav (zac (some rest)).2).1 (some l)).2) (aZ : ∀ kd rest, xs = kd :: rest -> (kd = 8 ∨ kd = 10) -> rest ≠ [] -> ak (zav (zac (some rest)).2).2) :
 Calls prog 86 #[dv, v, sv] w (zdU (fun k => some k = sv.ownBlock) w base pre (zcP xs)) := by
 by_cases hx : (zaD (some xs)).1 = 8 ∨ (zaD (some xs)).1 = 10
 ·rcases xs with _ | ⟨kd, rest⟩
  ·exact absurd hx (by decide)
  ·have el : kd = 8 ∨ kd = 10 := by
    rcases hx with h1 | h1
    ·exact .inl (UInt8.toNat_inj.1 (show kd.toNat = (8 : UInt8).toNat from h1))
    ·exact .inr (UInt8.toNat_inj.1 (show kd.toNat = (10 : UInt8).toNat from h1))
   have hd : zcP (kd :: rest) = zbc rest := by show (if kd = 8 ∨ kd = 10 then zbc rest else none) = _; rw [if_pos el]
   rw [hd]; by_cases hr : rest = []
   ·subst hr
    exact zjg te pe dv g base cur pre kd el v sv w h ho
   ·exact decHsF_go te pe dv g base cur pre kd el rest hr v sv w h ho hb bx ak (hG kd rest rfl el) (aZ kd rest rfl el hr) zke
 ·have hd : zcP xs = none := by
   rcases xs with _ | ⟨kd, r⟩
   ·rfl
   ·have : ¬ (kd = 8 ∨ kd = 10) := by rintro (rfl | rfl) <;> exact hx (by first | exact .inl rfl | exact .inr rfl)
    show (if kd = 8 ∨ kd = 10 then zbc r else none) = _; rw [znd this]
  rw [hd]; have hD := h.dec; obtain ⟨off, c, rfl, _⟩ := h; have hQ := zbC te pe w.heap.size g cur _ _ hD; have dS : (((zaD (some xs)).1 : Int) != 8) = true := by simp; omega
  have hx3 : (((zaD (some xs)).1 : Int) != 10) = true := by simp; omega
  obtain ⟨a', n', k', rfl⟩ := zab ho.1; clear hx hd hG aZ hD ho; generalize (zaD (some xs)).1 = x at hQ dS hx3; generalize (zaD (some xs)).2 = st at hQ; go_enter func86, ntmps86; go_wp2_with (first | (go_at_call 160; refine hQ.mono ?_; rintro r w1 ⟨rfl, cr, ah⟩) | (go_at_call 161; refine (zbN _ _).mono ?_; rintro r w2 ⟨t, a, rfl, aq⟩))
  go_ret2; have f1 := (((znl (fun k => some k = (Value.slice a' n' k').ownBlock) w).alloc (.cells #[.slice (some ⟨g, off, none⟩) xs.length c, .nilIface] 229)).trans ah (fun k hk e => by omega)); exact zef rfl (f1.trans aq (fun _ _ e => e.elim))
theorem gN_enc {α : Type} (f : St -> α × St) (e : α -> List UInt8) : ∀ (l : List α), (∀ x ∈ l, ∀ r, f (some (e x ++ r)) = (x, some r)) -> ∀ r, gN f l.length (some (l.flatMap e ++ r)) = (l, some r)
 | [], _, r => rfl
 | x :: l, h, r => by
   have h1 : f (some ((x :: l).flatMap e ++ r)) = (x, some (l.flatMap e ++ r)) := by
    rw [zmw, zmk]; exact h x (zna ..) _
   show ((f (some ((x :: l).flatMap e ++ r))).1 :: (gN f l.length (f (some ((x :: l).flatMap e ++ r))).2).1, (gN f l.length (f (some ((x :: l).flatMap e ++ r))).2).2) = (x :: l, some r); rw [h1, gN_enc f e l (fun y hy => h y (zng _ hy)) r]
theorem zcE {α : Type} (f : St -> α × St) (e : α -> List UInt8) (l : List α) (hl : l.length <= 60) (h : ∀ x ∈ l, ∀ r, f (some (e x ++ r)) = (x, some r)) (r : List UInt8) :
 (gUv (some (Lib.uvarint l.length ++ l.flatMap e ++ r))).1 = l.length /\ ze0 f (some (Lib.uvarint l.length ++ l.flatMap e ++ r)) = (l, some r) := by
 have h1 := zez l.length (by omega) (l.flatMap e ++ r); rw [<- zmk] at h1; unfold ze0; rw [h1]; exact ⟨rfl, gN_enc f e l h r⟩
theorem zf0 {n : Int} (h0 : -2147483648 <= n) (h1 : n <= 2147483647) : wrap32 n = n := by unfold wrap32; omega
theorem zia (p : Int × Nat) (h : -2147483648 <= p.1 /\ p.1 <= 2147483647 /\ p.2 < 4294967296) (r : List UInt8) : gSp (some (zaO p ++ r)) = (p, some r) := by
 have h1 := zcd p.1 (by omega) (by omega) (Lib.uvarint p.2 ++ r); have h2 := zez p.2 (by omega) r; unfold gSp zaO zzu; rw [zmk, h1]; simp only []; rw [h2]; simp only []; rw [zf0 h.1 h.2.1, Nat.mod_eq_of_lt h.2.2]
def Hst.readW (h : Hst) : Hst := { h with fups := [], fdowns := [], cus := if h.schema = -53 then h.cus else [] }
theorem zlx (h : Hst) (bE : h.ok) (r : List UInt8) : FineW (some (zaX h ++ r)) /\ zcM (some (zaX h ++ r)) = (h.readW, some r) := by
 obtain ⟨lJ, h10⟩ := exE (zcu h ++ r); obtain ⟨R9, h9⟩ := exE (zdr h.downs ++ lJ); obtain ⟨R8, h8⟩ := exE (zdr h.ups ++ R9); obtain ⟨R7, h7⟩ := exE (zbS h.neg ++ R8); obtain ⟨R6, h6⟩ := exE (zbS h.pos ++ R7); obtain ⟨R5, h5⟩ := exE (Lib.beBytes 8 h.sum ++ R6); obtain ⟨R4, h4⟩ := exE (Lib.uvarint h.cnt ++ R5); obtain ⟨R3, h3⟩ := exE (Lib.uvarint h.zc ++ R4)
 obtain ⟨R2, h2⟩ := exE (Lib.beBytes 8 h.thr ++ R3); obtain ⟨R1, h1⟩ := exE (zzu h.schema ++ R2); have aS : zaX h ++ r = h.hint :: R1 := by
  rw [<- h1, <- h2, <- h3, <- h4, <- h5, <- h6, <- h7, <- h8, <- h9, <- h10]; unfold zaX; simp only [zmk, List.cons_append, zmT]
 rw [aS]; obtain ⟨S, hS⟩ : ∃ S : St, some (h.hint :: R1) = S := ⟨_, rfl⟩; rw [hS]; have e0 : zaD S = (h.hint.toNat, some R1) := by rw [<- hS]; rfl
 have s1 : hS1 S = some R1 := zm7 Prod.snd e0; have e1 : zaJ (hS1 S) = (h.schema, some R2) := by rw [s1, <- h1]; exact zcd h.schema (by have := bE.s0; omega) (by have := bE.s1; omega) R2
 have s2 : hS2 S = some R2 := zm7 Prod.snd e1; have e2 : zac (hS2 S) = (h.thr, some R3) := by rw [s2, <- h2]; exact zaT h.thr bE.thr R3
 have s3 : hS3 S = some R3 := zm7 Prod.snd e2; have e3 : gUv (hS3 S) = (h.zc, some R4) := by rw [s3, <- h3]; exact zez h.zc bE.zc R4
 have s4 : hW4 S = some R4 := zm7 Prod.snd e3; have e4 : gUv (hW4 S) = (h.cnt, some R5) := by rw [s4, <- h4]; exact zez h.cnt bE.cnt R5
 have s5 : hW5 S = some R5 := zm7 Prod.snd e4; have e5 : zac (hW5 S) = (h.sum, some R6) := by rw [s5, <- h5]; exact zaT h.sum bE.sum R6
 have s6 : hW6 S = some R6 := zm7 Prod.snd e5; have e6 := zcE gSp zaO h.pos bE.few.1 (fun x hx r => zia x (bE.pos x hx) r) R7; rw [show Lib.uvarint h.pos.length ++ h.pos.flatMap zaO ++ R7 = R6 from h6, <- s6] at e6; have s7 : hW7 S = some R7 := zm7 Prod.snd e6.2; have e7 := zcE gSp zaO h.neg bE.few.2.1 (fun x hx r => zia x (bE.neg x hx) r) R8
 rw [show Lib.uvarint h.neg.length ++ h.neg.flatMap zaO ++ R8 = R7 from h7, <- s7] at e7; have s8 : hW8 S = some R8 := zm7 Prod.snd e7.2; have e8 := zcE zaJ (zzu) h.ups bE.few.2.2.1 (fun x hx r => zcd x (bE.ups x hx).1 (bE.ups x hx).2 r) R9; rw [show Lib.uvarint h.ups.length ++ h.ups.flatMap (zzu) ++ R9 = R8 from h8, <- s8] at e8
 have s9 : hW9 S = some R9 := zm7 Prod.snd e8.2; have e9 := zcE zaJ (zzu) h.downs bE.few.2.2.2.1 (fun x hx r => zcd x (bE.downs x hx).1 (bE.downs x hx).2 r) lJ; rw [show Lib.uvarint h.downs.length ++ h.downs.flatMap (zzu) ++ lJ = R9 from h9, <- s9] at e9; have iz : hW10 S = some lJ := zm7 Prod.snd e9.2
 have mV : zjt S = h.schema := by unfold zjt; rw [e1]; exact zf0 bE.s0 bE.s1
 have ec : (h.schema = -53 -> (gUv (hW10 S)).1 <= 1000) /\ hWc S = (if h.schema = -53 then h.cus else [], some r) := by
  unfold hWc; rw [mV]; by_cases hc : h.schema = -53
  ·have lI : zcu h = Lib.uvarint h.cus.length ++ h.cus.flatMap (Lib.beBytes 8) := by unfold zcu; rw [if_pos hc]; rfl
   have ku := zcE zac (Lib.beBytes 8) h.cus bE.few.2.2.2.2.2.2 (fun x hx r => zaT x (bE.cus x hx) r) r; rw [<- lI, h10, <- iz] at ku; rw [if_pos hc, if_pos hc, ku.2]; exact ⟨fun _ => by rw [ku.1]; have := bE.few.2.2.2.2.2.2; omega, rfl⟩
  ·have lI : zcu h = [] := by unfold zcu; rw [znd hc]
   rw [lI, zmT] at h10; rw [znd hc, znd hc, iz, <- h10]; exact ⟨fun e => absurd e hc, rfl⟩
 obtain ⟨f1, f2, f3, f4, f5, f6, f7⟩ := bE.few; refine ⟨⟨by rw [e6.1]; omega, by rw [e7.1]; omega, by rw [e8.1]; omega, by rw [e9.1]; omega, fun e => ec.1 (by rw [<- mV]; exact e)⟩, ?_⟩; have hh : UInt8.ofNat h.hint.toNat = h.hint := by simp
 unfold zcM Hst.readW; rw [e0, mV, e2, e5, e3, e4, e6.2, e7.2, e8.2, e9.2, ec.2]; simp only []; rw [hh]
def Hst.readF (h : Hst) : Hst := { h with ups := [], downs := [], cus := if h.schema = -53 then h.cus else [] }
theorem zly (h : Hst) (bE : h.ok) (r : List UInt8) : FineF (some (zaY h ++ r)) /\ zcN (some (zaY h ++ r)) = (h.readF, some r) := by
 obtain ⟨lJ, h10⟩ := exE (zcu h ++ r); obtain ⟨R9, h9⟩ := exE (zc6 h.fdowns ++ lJ); obtain ⟨R8, h8⟩ := exE (zc6 h.fups ++ R9); obtain ⟨R7, h7⟩ := exE (zbS h.neg ++ R8); obtain ⟨R6, h6⟩ := exE (zbS h.pos ++ R7); obtain ⟨R5, h5⟩ := exE (Lib.beBytes 8 h.sum ++ R6); obtain ⟨R4, h4⟩ := exE (Lib.beBytes 8 h.cnt ++ R5); obtain ⟨R3, h3⟩ := exE (Lib.beBytes 8 h.zc ++ R4)
 obtain ⟨R2, h2⟩ := exE (Lib.beBytes 8 h.thr ++ R3); obtain ⟨R1, h1⟩ := exE (zzu h.schema ++ R2); have aS : zaY h ++ r = h.hint :: R1 := by
  rw [<- h1, <- h2, <- h3, <- h4, <- h5, <- h6, <- h7, <- h8, <- h9, <- h10]; unfold zaY; simp only [zmk, List.cons_append, zmT]
 rw [aS]; obtain ⟨S, hS⟩ : ∃ S : St, some (h.hint :: R1) = S := ⟨_, rfl⟩; rw [hS]; have e0 : zaD S = (h.hint.toNat, some R1) := by rw [<- hS]; rfl
 have s1 : hS1 S = some R1 := zm7 Prod.snd e0; have e1 : zaJ (hS1 S) = (h.schema, some R2) := by rw [s1, <- h1]; exact zcd h.schema (by have := bE.s0; omega) (by have := bE.s1; omega) R2
 have s2 : hS2 S = some R2 := zm7 Prod.snd e1; have e2 : zac (hS2 S) = (h.thr, some R3) := by rw [s2, <- h2]; exact zaT h.thr bE.thr R3
 have s3 : hS3 S = some R3 := zm7 Prod.snd e2; have e3 : zac (hS3 S) = (h.zc, some R4) := by rw [s3, <- h3]; exact zaT h.zc bE.zc R4
 have s4 : hF4 S = some R4 := zm7 Prod.snd e3; have e4 : zac (hF4 S) = (h.cnt, some R5) := by rw [s4, <- h4]; exact zaT h.cnt bE.cnt R5
 have s5 : hF5 S = some R5 := zm7 Prod.snd e4; have e5 : zac (hF5 S) = (h.sum, some R6) := by rw [s5, <- h5]; exact zaT h.sum bE.sum R6
 have s6 : hF6 S = some R6 := zm7 Prod.snd e5; have e6 := zcE gSp zaO h.pos bE.few.1 (fun x hx r => zia x (bE.pos x hx) r) R7; rw [show Lib.uvarint h.pos.length ++ h.pos.flatMap zaO ++ R7 = R6 from h6, <- s6] at e6; have s7 : hF7 S = some R7 := zm7 Prod.snd e6.2; have e7 := zcE gSp zaO h.neg bE.few.2.1 (fun x hx r => zia x (bE.neg x hx) r) R8
 rw [show Lib.uvarint h.neg.length ++ h.neg.flatMap zaO ++ R8 = R7 from h7, <- s7] at e7; have s8 : hF8 S = some R8 := zm7 Prod.snd e7.2; have e8 := zcE zac (Lib.beBytes 8) h.fups bE.few.2.2.2.2.1 (fun x hx r => zaT x (bE.fups x hx) r) R9; rw [show Lib.uvarint h.fups.length ++ h.fups.flatMap (Lib.beBytes 8) ++ R9 = R8 from h8, <- s8] at e8
 have s9 : hF9 S = some R9 := zm7 Prod.snd e8.2; have e9 := zcE zac (Lib.beBytes 8) h.fdowns bE.few.2.2.2.2.2.1 (fun x hx r => zaT x (bE.fdowns x hx) r) lJ; rw [show Lib.uvarint h.fdowns.length ++ h.fdowns.flatMap (Lib.beBytes 8) ++ lJ = R9 from h9, <- s9] at e9; have iz : ziV S = some lJ := zm7 Prod.snd e9.2
 have mV : zjt S = h.schema := by unfold zjt; rw [e1]; exact zf0 bE.s0 bE.s1
 have ec : (h.schema = -53 -> (gUv (ziV S)).1 <= 1000) /\ hFc S = (if h.schema = -53 then h.cus else [], some r) := by
  unfold hFc; rw [mV]; by_cases hc : h.schema = -53
  ·have lI : zcu h = Lib.uvarint h.cus.length ++ h.cus.flatMap (Lib.beBytes 8) := by unfold zcu; rw [if_pos hc]; rfl
   have ku := zcE zac (Lib.beBytes 8) h.cus bE.few.2.2.2.2.2.2 (fun x hx r => zaT x (bE.cus x hx) r) r; rw [<- lI, h10, <- iz] at ku; rw [if_pos hc, if_pos hc, ku.2]; exact ⟨fun _ => by rw [ku.1]; have := bE.few.2.2.2.2.2.2; omega, rfl⟩
  ·have lI : zcu h = [] := by unfold zcu; rw [znd hc]
   rw [lI, zmT] at h10; rw [znd hc, znd hc, iz, <- h10]; exact ⟨fun e => absurd e hc, rfl⟩
 obtain ⟨f1, f2, f3, f4, f5, f6, f7⟩ := bE.few; refine ⟨⟨by rw [e6.1]; omega, by rw [e7.1]; omega, by rw [e8.1]; omega, by rw [e9.1]; omega, fun e => ec.1 (by rw [<- mV]; exact e)⟩, ?_⟩; have hh : UInt8.ofNat h.hint.toNat = h.hint := by simp
 unfold zcN Hst.readF; rw [e0, mV, e2, e5, e3, e4, e6.2, e7.2, e8.2, e9.2, ec.2]; simp only []; rw [hh]
def zgp (pre : List Rhs) (xs : List UInt8) : List Rhs := match zcO xs with | some l => (pre ++ l).map (fun x => { x with h := x.h.cutW }) | none => []
def zkA (w : World) (bb bp bo : Nat) (pre : List Rhs) (xs : List UInt8) (r : Ending) (w' : World) : Prop :=
 r = .returned (.tuple #[]) /\ Fr (fun k => k = bb ∨ k = bp ∨ k = bo) w w' /\ Blk w' bo 4 #[.bool (zcO xs).isSome] /\
  ∃ lv lo, Blk w' bp 54 #[.slice none 0 0, .slice none 0 0, .slice none 0 0, .slice none 0 0, .slice none 0 0, .slice none 0 0, lv] /\ OwnI w.heap.size w' lv lo /\ lo.map Prod.fst = zgp pre xs
theorem zkc {S : Nat -> Prop} {w w' : World} {base : Nat} {lo : List (Rhs × Value)} {xs : List UInt8} {r : Ending} (h : zdT S w base lo (zcO xs) r w') :
 ∃ v' e l2, r = .returned (.tuple #[v', e]) /\ OwnHW base w' v' l2 /\ (l2.map fun p => ({ p.1 with h := p.1.h.cutW } : Rhs)) = zgp (lo.map Prod.fst) xs /\ Fr S w w' /\ ((e = .nilIface /\ (zcO xs).isSome = true /\ ∀ l, zcO xs = some l -> l2.map Prod.fst = lo.map Prod.fst ++ l) ∨ (∃ t a, e = .iface t a /\ (zcO xs).isSome = false /\ l2 = [])) := by
 unfold zdT at h; unfold zgp; rcases hd : zcO xs with _ | l
 ·rw [hd] at h
  obtain ⟨hf, t, a, rfl⟩ := h; exact ⟨_, _, [], rfl, OwnHW.nil _ _, rfl, hf, .inr ⟨_, _, rfl, rfl, rfl⟩⟩
 ·rw [hd] at h
  obtain ⟨hf, v', l3, rfl, fb, ho⟩ := h; refine ⟨_, _, lo ++ l3, rfl, ho, ?_, hf, .inl ⟨rfl, rfl, fun l' e => ?_⟩⟩
  ·show _ = ((lo.map Prod.fst ++ l).map (fun x => ({ x with h := x.h.cutW } : Rhs)))
   rw [<- fb, <- zmH, znj]; rfl
  ·injection e with e
   subst e; rw [zmH, fb]
theorem OwnI.fr9 {base : Nat} {w w' : World} {v : Value} {lo : List (Rhs × Hsl)} {d t : Nat} {cs : Array Value} (h : OwnI base w v lo) (hb : Blk w d t cs) (ht : t = 54 ∨ t = 4) (hf : Fr (fun k => k = d) w w') : OwnI base w' v lo := by
 have go : ∀ {e : TypeId} {z n : Nat} {u : Value} {xs : List Value}, e ≠ t -> w.ownsRow base e z u n xs -> w'.ownsRow base e z u n xs := fun he o => zai o hf (fun g hg e => zak o hb he (by rw [hg, e])); refine ⟨go (by rcases ht with rfl | rfl <;> decide) h.1, fun p hp => ?_⟩; obtain ⟨a1, a2, a3, a4, a5, a6, a7⟩ := h.2 p hp; have q1 : (319 : Nat) ≠ t := by rcases ht with rfl | rfl <;> decide
 have q2 : (2 : Nat) ≠ t := by rcases ht with rfl | rfl <;> decide
 have q3 : (111 : Nat) ≠ t := by rcases ht with rfl | rfl <;> decide
 exact ⟨go q1 a1, go q1 a2, go q2 a3, go q2 a4, go q3 a5, go q3 a6, go q3 a7⟩
theorem zeV {W w5 w6 : World} {b t : Nat} {cs : Array Value} {v5 : Value} {lo : List (Rhs × Value)} (h : Blk W b t cs) (ap : z_F W.drew w5) (ho : OwnHW W.drew.heap.size w5 v5 lo) (aR : Fr (fun k => some k = v5.ownBlock) w5 w6) : Blk w6 b t cs :=
 (h.drew.fr ap id).fr aR (fun e => by have h1 := (ho.1.lt b e.symm).1; have h2 : b < W.heap.size := h.lt; exact zm1 _ (zmG h2 h1))
end Go.Proofs.YtbkookiigkckdaaGreatDoor
