/- Texts of this seat, merged and shortened. -/
import Derived.Test.YtbkookiigkckdaaGreatDoorK14
import Derived.Laws.BytesArg
set_option linter.unusedVariables false
set_option linter.unusedSimpArgs false
set_option maxRecDepth 100000
set_option maxHeartbeats 8000000
namespace Go.Proofs.YtbkookiigkckdaaGreatDoor
open Go.RowKit Go.Proofs.Tryz
def zaP (s : Rhs) : Bool := s.h.schema == -53
theorem Put.grown {w w1 w2 : World} {e : Nat} {o : Option Nat} {xs ys : List UInt8} {base te z n : Nat} {r : Value} {cs : List Value} (R : Put w e o xs ys w1) (ho : w1.ownsRow base te z r n cs) (hb : w.heap.size <= base) (hg : w1.grownBy w2 r.ownBlock) (h1 : te ≠ 224) (h2 : 5 ≠ te) : Put w e o xs ys w2 := by
 obtain ⟨o1, he, hf, hoo⟩ := R; refine ⟨o1, ?_, hf.grown hg (fun k hk => .inr (zmv hb (ho.lt k hk).1)), hoo⟩; have ar : Fr (fun k => some k = r.ownBlock) w1 w2 := (zmR (fun k => some k = r.ownBlock) w1).grown hg (fun k hk => .inl hk.symm); obtain ⟨v, jM, bK, hs, h0, ab, hv⟩ := he
 exact ⟨v, jM, bK.fr ar (fun h => zak ho bK h1 h.symm), hs, h0, zai ab ar (fun g hg h => zcb ab ho h2 g hg h.symm), hv⟩
theorem zdy {w w' : World} {base e size n : Nat} {v : Value} {xs : List Value} (h : w.ownsRow base e size v n xs) (K : Keeps w w') (h1 : e ≠ 224) (h2 : e ≠ 5) : w'.ownsRow base e size v n xs :=
 ⟨h.1, h.2.imp id fun ⟨g, aP, cur, a1, a2, a3, a4⟩ => ⟨g, aP, cur, a1, a2, K g e cur h1 h2 a3, a4⟩⟩
theorem zdS {α : Type} (q : α -> Bool) (l : List α) (k : Nat) (x : α) (hx : l[k]? = some x) (hq : q x = true) : (l.take (k + 1)).filter q = (l.take k).filter q ++ [x] := by
 rw [zmn, hx, List.filter_append]; simp [hq]
theorem zfg {α : Type} (q : α -> Bool) (l : List α) (k : Nat) (x : α) (hx : l[k]? = some x) (hq : q x = false) : (l.take (k + 1)).filter q = (l.take k).filter q := by
 rw [zmn, hx, List.filter_append]; simp [hq]
theorem ze5 {α : Type} (q : α -> Bool) (l : List α) (k : Nat) : ((l.take k).filter q).length <= k := zmv (zmK _ _) (zmM _ _)
theorem usesW_any (P : Nat -> Prop) (w : World) (h : Hst) (v : Value) (hr : RdW P w h v) : Calls prog 188 #[v] w fun r w' => r = .returned (.bool (h.schema == -53)) /\ w = w' := by
 obtain ⟨g, s, rfl, _, hb, _⟩ := hr; have c1 : w.cell? ⟨g, 1, none⟩ = some (.int .i32 h.schema) := hb.cell 1; go_enter func188, ntmps188; go_wp2_with (go_at_call 233; refine (zb2 _ _).mono ?_; rintro r w' ⟨rfl, rfl⟩)
 go_ret; exact ⟨rfl, rfl⟩
def EncHWEnds (w : World) (o : Option Nat) (ys : List UInt8) (lc : List (Rhs × Value)) (r : Ending) (w' : World) : Prop :=
 ∃ v' cv, r = .returned (.tuple #[v', cv]) /\ w'.ownsRow 0 5 1 v' ys.length (bc ys) /\ w'.ownsRow w.heap.size 290 3 cv lc.length (lc.flatMap rhc) /\ Fr (fun k => some k = o) w w' /\ (v'.ownBlock = o ∨ ∃ k, v'.ownBlock = some k /\ w.heap.size <= k)
theorem usesF_any (P : Nat -> Prop) (w : World) (h : Hst) (v : Value) (hr : RdF P w h v) : Calls prog 191 #[v] w fun r w' => r = .returned (.bool (h.schema == -53)) /\ w = w' := by
 obtain ⟨g, s, rfl, _, hb, _⟩ := hr; have c1 : w.cell? ⟨g, 1, none⟩ = some (.int .i32 h.schema) := hb.cell 1; go_enter func191, ntmps191; go_wp2_with (go_at_call 233; refine (zb2 _ _).mono ?_; rintro r w' ⟨rfl, rfl⟩)
 go_ret; exact ⟨rfl, rfl⟩
def EncHFEnds (w : World) (o : Option Nat) (ys : List UInt8) (lc : List (Rhs × Value)) (r : Ending) (w' : World) : Prop :=
 ∃ v' cv, r = .returned (.tuple #[v', cv]) /\ w'.ownsRow 0 5 1 v' ys.length (bc ys) /\ w'.ownsRow w.heap.size 298 3 cv lc.length (lc.flatMap rhc) /\ Fr (fun k => some k = o) w w' /\ (v'.ownBlock = o ∨ ∃ k, v'.ownBlock = some k /\ w.heap.size <= k)
theorem zcW : (∀ (_ : True) (ep : Value) (sv : Value) (P : Nat -> Prop) (v : Value) (xs : List UInt8) (lo : List (Rhs × Value)) (w : World) (h : RdHW P w sv lo) (ab : w.ownsRow 0 5 1 v xs.length (bc xs)) (hl : xs.length <= 536870912)
 (au : lo.length <= 12) (aF : ∀ p ∈ lo, p.1.ok) (hP : ∀ g, P g -> g < w.heap.size /\ some g ≠ v.ownBlock) (aD : lo = [] ∨ ∃ p ∈ lo, zaP p.1 = false),
 Calls prog 97 #[ep, sv, v] w (EncHWEnds w v.ownBlock (xs ++ za5 7 (fun s => !zaP s) (lo.map Prod.fst)) (lo.filter fun p => zaP p.1))) /\ (∀ (_ : True) (ep : Value) (sv : Value) (P : Nat -> Prop) (v : Value) (xs : List UInt8) (lo : List (Rhs × Value)) (w : World) (h : RdHF P w sv lo) (ab : w.ownsRow 0 5 1 v xs.length (bc xs)) (hl : xs.length <= 536870912)
 (au : lo.length <= 12) (aF : ∀ p ∈ lo, p.1.ok) (hP : ∀ g, P g -> g < w.heap.size /\ some g ≠ v.ownBlock) (aD : lo = [] ∨ ∃ p ∈ lo, zaP p.1 = false),
 Calls prog 98 #[ep, sv, v] w (EncHFEnds w v.ownBlock (xs ++ za6 8 (fun s => !zaP s) (lo.map Prod.fst)) (lo.filter fun p => zaP p.1))) := by
 refine ⟨fun aj ep sv P v xs lo w h ab hl au aF hP aD => ?_, fun cf ep sv P v xs lo w h ab hl au aF hP aD => ?_⟩; all_goals
  obtain ⟨h, co⟩ := h; obtain ⟨A, c, rfl⟩ := h.shape; obtain ⟨a', n', k', rfl⟩ := zab ab; have hE := Enc.made (z := .int .u8 0) ab _ rfl
  first | (guard_hyp aj; have hQ := zcs w.heap.size _ xs 7 _ hE (by omega)) | (have hQ := zcs w.heap.size _ xs 8 _ hE (by omega))
  first | (guard_hyp aj; have e2 : ((7 : UInt8).toNat : Int) = 7 := rfl) | (have e2 : ((8 : UInt8).toNat : Int) = 8 := rfl)
  rw [e2] at hQ; have cS : Fr (fun k => some k = (Value.slice a' n' k').ownBlock) w (w.alloc (.cells #[.slice a' n' k', .int .u8 0, .int .u8 0, .int .u8 0, .int .u8 0, .int .u8 0, .int .u8 0, .int .u8 0, .int .u8 0, .int .u8 0, .int .u8 0] 224)) := (zmR _ w).alloc _; rcases lo with _ | ⟨f, r⟩
  ·clear hE cS e2 h co aF aD
   first | (guard_hyp aj; go_enter func97, ntmps97) | (go_enter func98, ntmps98)
   go_wp2_with (first | (go_at_call 180; refine hQ.mono ?_; rintro r1 w1 ⟨rfl, R⟩; obtain ⟨o1, eJ, ag, dN⟩ := R; have hG := zd7 _ _ _ _ eJ) | (go_at_call 116; refine hG.mono ?_; rintro r w2 ⟨v2, rfl, rfl, af, bz⟩))
   go_ret2
   first | (guard_hyp aj; refine ⟨v2, _, rfl, by simpa [za5] using af, zl0 _ _ _ _, zdl (o1 := o1) ag, ?_⟩) | (refine ⟨v2, _, rfl, by simpa [za6] using af, zl0 _ _ _ _, zdl (o1 := o1) ag, ?_⟩)
   rw [bz]; rcases dN with h | ⟨k, h, hk⟩
   ·exact .inl h
   ·exact .inr ⟨k, h, by simp at hk; omega⟩
  ·obtain ⟨n, hn⟩ := exE ((f :: r).length)
   rw [hn] at h au ⊢; obtain ⟨LO, eT⟩ := exE (f :: r); have jo : ∃ p ∈ LO, zaP p.1 = false := by rw [<- eT]; exact aD.resolve_left (by simp)
   have iT := zlM jo; clear aD jo; have eP : (0 : Int) < (n : Int) := by rw [<- hn]; simp
   have fQ : ((n : Int) == 0) = false := by simp; omega
   have nj : f ∈ LO := by rw [<- eT]; exact zmF ..
   have fm : LO[0]? = some f := by rw [<- eT]; rfl
   have dO : (f :: r).map Prod.fst = f.1 :: r.map Prod.fst := rfl; have gw : ∀ p ∈ LO, p.1.ok := by rw [<- eT]; exact aF
   first | (guard_hyp aj; have fk : ∀ p ∈ LO, RdW P w p.1.h p.2 := by rw [<- eT]; exact co) | (have fk : ∀ p ∈ LO, RdF P w p.1.h p.2 := by rw [<- eT]; exact co)
   rw [eT] at h hn
   first
    | guard_hyp aj
      have gG : za5 7 (fun s => !zaP s) ((f :: r).map Prod.fst) = [7] ++ (zaq f.1 ++ (LO.filter fun p => !zaP p.1).flatMap (fun p => za2 f.1 p.1)) := by
       rw [<- eT]; have e1 : ∀ l : List (Rhs × Value), ((l.map Prod.fst).filter fun s => !zaP s) = (l.filter fun p => !zaP p.1).map Prod.fst := fun l => by rw [List.filter_map]; rfl
       rw [dO, za5, <- dO, e1, List.flatMap_map]
    | have gG : za6 8 (fun s => !zaP s) ((f :: r).map Prod.fst) = [8] ++ (zaq f.1 ++ (LO.filter fun p => !zaP p.1).flatMap (fun p => za3 f.1 p.1)) := by
       rw [<- eT]; have e1 : ∀ l : List (Rhs × Value), ((l.map Prod.fst).filter fun s => !zaP s) = (l.filter fun p => !zaP p.1).map Prod.fst := fun l => by rw [List.filter_map]; rfl
       rw [dO, za6, <- dO, e1, List.flatMap_map]
   rw [gG, eT]; obtain ⟨px, mQ, mP, _⟩ := gw f nj; obtain ⟨g, off, rfl, fX, aa⟩ := h.at (by omega); have hg := hP g fX; obtain ⟨f1, fv⟩ := f; simp only [] at px mQ mP; have c0 : w.cell? ⟨g, off, none⟩ = some (.int .u64 f1.ref) := aa 0 _ (by exact ze4 rhc (fun _ => rfl) LO 0 (f1, fv) fm 0 (by omega))
   have c1 : w.cell? ⟨g, off + 1, none⟩ = some (.int .i64 f1.t) := aa 1 _ (by exact ze4 rhc (fun _ => rfl) LO 0 (f1, fv) fm 1 (by omega)); have c2 : w.cell? ⟨g, off + 2, none⟩ = some fv := aa 2 _ (by exact ze4 rhc (fun _ => rfl) LO 0 (f1, fv) fm 2 (by omega)); obtain ⟨gf, _, pQ, _⟩ := fk _ nj; simp only [] at pQ; subst pQ; have HN := zlM hn; have HP := zlM hP
   have HE := zlM hE; have dJ := zlM cS; have dY := zlM aa; have ry := zlM fk; have kp := zlM gw; clear hE cS e2 h co aF gw fk hn dO gG aa eT nj fm hP; generalize eh : w.alloc (.cells #[.slice a' n' k', .int .u8 0, .int .u8 0, .int .u8 0, .int .u8 0, .int .u8 0, .int .u8 0, .int .u8 0, .int .u8 0, .int .u8 0, .int .u8 0] 224) = WB at hQ HE dJ
   have hB : w.heap.size < WB.heap.size := by rw [<- eh]; simp
   rw [<- eh] at hQ; have qV := zlM eh; clear eh
   first | (guard_hyp aj; go_enter func97, ntmps97) | (go_enter func98, ntmps98)
   go_wp2_with (go_at_call 180; refine hQ.mono ?_; rintro r1 w1 ⟨rfl, R⟩; refine Hid.out ?_)
   rw [qV.out] at R; clear hQ qV
   have ge := zlM (fun (W : World) (hf : Fr (fun k => k = w.heap.size ∨ some k = (Value.slice a' n' k').ownBlock) WB W) => dJ.out.trans hf (fun k hk e => by
    rcases e with e | e
    ·omega
    ·exact e))
   have dI := ge.out w1 R.fr; have d0 : w1.cell? ⟨g, off, none⟩ = some (.int .u64 f1.ref) := by rw [dI.cell (p := ⟨g, off, none⟩) hg.1 hg.2]; exact c0
   have d1 : w1.cell? ⟨g, off + 1, none⟩ = some (.int .i64 f1.t) := by rw [dI.cell (p := ⟨g, off + 1, none⟩) hg.1 hg.2]; exact c1
   have d2 : w1.cell? ⟨g, off + 2, none⟩ = some (.pointer (some ⟨gf, 0, none⟩)) := by rw [dI.cell (p := ⟨g, off + 2, none⟩) hg.1 hg.2]; exact c2
   first | (guard_hyp aj; have cY := zlM (R.alloc (.cells #[.int .u64 f1.ref, .int .i64 f1.t, .pointer (some ⟨gf, 0, none⟩)] 290))) | (have cY := zlM (R.alloc (.cells #[.int .u64 f1.ref, .int .i64 f1.t, .pointer (some ⟨gf, 0, none⟩)] 298)))
   first | (guard_hyp aj; have kb := zlM (zmS w1 290 #[.int .u64 f1.ref, .int .i64 f1.t, .pointer (some ⟨gf, 0, none⟩)])) | (have kb := zlM (zmS w1 298 #[.int .u64 f1.ref, .int .i64 f1.t, .pointer (some ⟨gf, 0, none⟩)]))
   have jk := R.fr.size; clear R dI c0 c1 c2; refine zlM ?_
   go_wp2_with (first
    | (go_at_call 181; refine (zaf cY.out (f := 181) (args := #[.pointer (some ⟨w.heap.size, 0, none⟩), .int .u64 f1.ref]) (zs := Lib.beBytes 8 f1.ref) (fun o2 he => zct _ o2 _ f1.ref px _ he (by rw [zlN, zl3]; omega))).mono ?_; rintro r2 w2 ⟨rfl, R2, K2⟩
       have bh := K2.out _ _ _ (by decide) (by decide) kb.out; have b1 : w2.cell? ⟨w1.heap.size, 1, none⟩ = some (.int .i64 f1.t) := bh.cell 1; have dm := zlM bh; have bd := zlM R2
       clear bh R2 K2 cY d0 d1 d2)
    | (go_at_call 182; refine (zaf bd.out (f := 182) (args := #[.pointer (some ⟨w.heap.size, 0, none⟩), .int .i64 f1.t]) (zs := Lib.beBytes 8 (u64 f1.t)) (fun o2 he => zdk _ o2 _ f1.t _ he (by simp [zlW]; omega))).mono ?_; rintro r3 w3 ⟨rfl, R3, K3⟩
       have bI := zlM (K3.out _ _ _ (by decide) (by decide) dm.out); have bC := zlM R3
       clear R3 K3 bd b1 dm))
   clear kb; have hsz3 : w1.heap.size + 1 <= w3.heap.size := bI.out.lt; generalize hbf : w1.heap.size = bf at bI jk hsz3; clear hbf
   first | (guard_hyp aj; obtain ⟨i0, aB, ay, ax, aA⟩ := info_parts zjU) | (obtain ⟨i0, aB, ay, ax, aA⟩ := info_parts zjT)
   first | (guard_hyp aj; go_loopw [9, 31] (fun cv i wr => ∃ (k m : Nat), k <= n /\ i = .int .i64 k /\ m <= k /\ Hid (((LO.take k).filter fun p => zaP p.1).length = m) /\ Hid (wr.ownsRow (bf + 1) 290 3 cv m (((LO.take k).filter fun p => zaP p.1).flatMap rhc)) /\ Hid (Put WB w.heap.size (Value.slice a' n' k').ownBlock xs ([7] ++ zaq f1 ++ ((LO.take k).filter fun p => !zaP p.1).flatMap (fun p => za2 f1 p.1)) wr) /\ Hid (Blk wr bf 290 #[.int .u64 f1.ref, .int .i64 f1.t, .pointer (some ⟨gf, 0, none⟩)])) (fun _ i _ => n - (intOf i).toNat)) | (go_loopw [9, 31] (fun cv i wr => ∃ (k m : Nat), k <= n /\ i = .int .i64 k /\ m <= k /\ Hid (((LO.take k).filter fun p => zaP p.1).length = m) /\ Hid (wr.ownsRow (bf + 1) 298 3 cv m (((LO.take k).filter fun p => zaP p.1).flatMap rhc)) /\ Hid (Put WB w.heap.size (Value.slice a' n' k').ownBlock xs ([8] ++ zaq f1 ++ ((LO.take k).filter fun p => !zaP p.1).flatMap (fun p => za3 f1 p.1)) wr) /\ Hid (Blk wr bf 298 #[.int .u64 f1.ref, .int .i64 f1.t, .pointer (some ⟨gf, 0, none⟩)])) (fun _ i _ => n - (intOf i).toNat))
   case atStart => exact ⟨0, 0, zlX _, rfl, zlY _, zlM rfl, zlM (zl0 _ _ _ _), zlM (by simpa [zaq] using bC.out), bI⟩
   case round =>
    obtain ⟨k, m, hk, rfl, eC, HM, HO, HR, it⟩ := hrel; by_cases hlt : k < n
    ·obtain ⟨x, hx⟩ : ∃ x, LO[k]? = some x := ⟨_, zlO (by rw [HN.out]; exact hlt)⟩
     have aH := zlU hx; have dP := ge.out wr HR.out.fr; have cc : ∀ j, j < 3 -> ∀ u, (rhc x)[j]? = some u -> wr.cell? ⟨g, off + (k * 3 + j), none⟩ = some u := fun j hj u hu => by
      rw [dP.cell (p := ⟨g, off + (k * 3 + j), none⟩) hg.1 hg.2]; exact dY.out (k * 3 + j) u (by rw [ze4 rhc (fun _ => rfl) LO k x hx j hj]; exact hu)
     have d0 : wr.cell? ⟨g, off + k * 3, none⟩ = some (.int .u64 x.1.ref) := cc 0 (by omega) _ rfl; have d1 : wr.cell? ⟨g, off + k * 3 + 1, none⟩ = some (.int .i64 x.1.t) := cc 1 (by omega) _ rfl; have d2 : wr.cell? ⟨g, off + k * 3 + 2, none⟩ = some x.2 := cc 2 (by omega) _ rfl; have fM := ry.out x aH; have lN := kp.out x aH; obtain ⟨x1, xv⟩ := x; simp only [] at d0 d1 d2 fM lN; have mY := fM
     obtain ⟨gx, _, rfl, _⟩ := mY; have b0 : wr.cell? ⟨bf, 0, none⟩ = some (.int .u64 f1.ref) := it.out.cell 0; have b1 : wr.cell? ⟨bf, 1, none⟩ = some (.int .i64 f1.t) := it.out.cell 1; have mg := it.out.lt
     first
      | guard_hyp aj
        have bE : ([(7 : UInt8)] ++ zaq f1 ++ ((LO.take k).filter fun p => !zaP p.1).flatMap (fun p => za2 f1 p.1)).length <= 17 + k * 5020 := by
         have h0 := zbF (fun p : Rhs × Value => za2 f1 p.1) 5020 ((LO.take k).filter fun p => !zaP p.1) (fun p hp => zfi f1 p.1 (kp.out p (zmJ (zmr.1 hp).1))); have h8 := ze5 (fun p : Rhs × Value => !zaP p.1) LO k; have h9 := zlZ 5020 h8; have h1 := zmv h0 h9
         have h4 : (zaq f1).length = 16 := by simp [zaq, zlW]
         rw [zlN, zlN, h4, zl3]; omega
      | have bE : ([(8 : UInt8)] ++ zaq f1 ++ ((LO.take k).filter fun p => !zaP p.1).flatMap (fun p => za3 f1 p.1)).length <= 17 + k * 5020 := by
         have h0 := zbF (fun p : Rhs × Value => za3 f1 p.1) 5020 ((LO.take k).filter fun p => !zaP p.1) (fun p hp => zfj f1 p.1 (kp.out p (zmJ (zmr.1 hp).1))); have h8 := ze5 (fun p : Rhs × Value => !zaP p.1) LO k; have h9 := zlZ 5020 h8; have h1 := zmv h0 h9
         have h4 : (zaq f1).length = 16 := by simp [zaq, zlW]
         rw [zlN, zlN, h4, zl3]; omega
     have cC : k * 5020 <= 12 * 5020 := zlZ _ (by omega)
     first | (guard_hyp aj; obtain ⟨Y, hY⟩ := exE ([(7 : UInt8)] ++ zaq f1 ++ ((LO.take k).filter fun p => !zaP p.1).flatMap (fun p => za2 f1 p.1))) | (obtain ⟨Y, hY⟩ := exE ([(8 : UInt8)] ++ zaq f1 ++ ((LO.take k).filter fun p => !zaP p.1).flatMap (fun p => za3 f1 p.1)))
     rw [hY] at bE HR; have HY := zlM hY; have HX := zlM hx
     first | (guard_hyp aj; have cZ := zlM (zmS wr 290 #[.int .u64 x1.ref, .int .i64 x1.t, .pointer (some ⟨gx, 0, none⟩)])) | (have cZ := zlM (zmS wr 298 #[.int .u64 x1.ref, .int .i64 x1.t, .pointer (some ⟨gx, 0, none⟩)]))
     first | (guard_hyp aj; have bU := zlM (HR.out.alloc (.cells #[.int .u64 x1.ref, .int .i64 x1.t, .pointer (some ⟨gx, 0, none⟩)] 290))) | (have bU := zlM (HR.out.alloc (.cells #[.int .u64 x1.ref, .int .i64 x1.t, .pointer (some ⟨gx, 0, none⟩)] 298)))
     first | (guard_hyp aj; have dL := zlM (it.out.alloc (.cells #[.int .u64 x1.ref, .int .i64 x1.t, .pointer (some ⟨gx, 0, none⟩)] 290))) | (have dL := zlM (it.out.alloc (.cells #[.int .u64 x1.ref, .int .i64 x1.t, .pointer (some ⟨gx, 0, none⟩)] 298)))
     have kD : Y.length <= 60300 := by omega
     first | (guard_hyp aj; have HU := zlM (usesW_any P _ x1.h _ ((fM.fr dP (fun g hg => (HP.out g hg).2)).fr ((zmR (fun _ => False) wr).alloc (.cells #[.int .u64 x1.ref, .int .i64 x1.t, .pointer (some ⟨gx, 0, none⟩)] 290)) (fun _ _ e => e)))) | (have HU := zlM (usesF_any P _ x1.h _ ((fM.fr dP (fun g hg => (HP.out g hg).2)).fr ((zmR (fun _ => False) wr).alloc (.cells #[.int .u64 x1.ref, .int .i64 x1.t, .pointer (some ⟨gx, 0, none⟩)] 298)) (fun _ _ e => e))))
     obtain ⟨ca, cm, ck, rfl⟩ := zab HO.out; rcases eR : zaP x1 with _ | _
     ·obtain ⟨Q1, ei⟩ := exE (zzu (zeO f1 x1))
      obtain ⟨Q2, dh⟩ := exE (zzu (hT f1 x1)); have jA := zby (zeO f1 x1) (zad _).1 (zad _).2; have jz := zby (hT f1 x1) (zad _).1 (zad _).2; rw [ei] at jA; rw [dh] at jz; have gp := zlM ei; have eU := zlM dh; have qZ := zlM fM; have hU := HU.out; rw [show (x1.h.schema == -53) = false from eR] at hU
      first | (guard_hyp aj; have dk := zlM (HO.out.alloc (.cells #[.int .u64 x1.ref, .int .i64 x1.t, .pointer (some ⟨gx, 0, none⟩)] 290))) | (have dk := zlM (HO.out.alloc (.cells #[.int .u64 x1.ref, .int .i64 x1.t, .pointer (some ⟨gx, 0, none⟩)] 298)))
      have qU := zlM lN; clear hx dP cc hY bE cC ei dh aH fM lN HR it
      first
       | guard_hyp aj
         go_wp2_with (first
          | (go_at_call 188; refine hU.mono ?_; rintro r w' ⟨rfl, rfl⟩)
          | (go_at_call 183; refine (zaf bU.out (f := 183) (args := #[.pointer (some ⟨w.heap.size, 0, none⟩), .int .i64 (zeO f1 x1)]) (zs := Q1) (fun o2 he => by have := zax _ o2 _ (zeO f1 x1) (zad _).1 (zad _).2 _ he (by rw [zlN]; omega); rw [show Lib.uvarint (Lib.zigzag (zeO f1 x1)) = Q1 from gp.out] at this; exact this)).mono ?_; rintro rA wA ⟨rfl, R1, K1⟩
             have av := K1.out _ _ _ (by decide) (by decide) cZ.out; have bh := K1.out _ _ _ (by decide) (by decide) dL.out; have p1 : wA.cell? ⟨wr.heap.size, 1, none⟩ = some (.int .i64 x1.t) := av.cell 1; have q1 : wA.cell? ⟨bf, 1, none⟩ = some (.int .i64 f1.t) := bh.cell 1; have dG := zlM av; have eM := zlM bh; have cL := zlM (zdy dk.out K1.out (by decide) (by decide))
             have bd := zlM R1; have bz : (Y ++ Q1).length <= 60310 := by rw [zlN]; omega
             clear R1 K1 av bh bU b0 b1 cZ dL hU)
          | (go_at_call 183; refine (zaf bd.out (f := 183) (args := #[.pointer (some ⟨w.heap.size, 0, none⟩), .int .i64 (hT f1 x1)]) (zs := Q2) (fun o2 he => by have := zax _ o2 _ (hT f1 x1) (zad _).1 (zad _).2 _ he (by rw [zlN]; omega); rw [show Lib.uvarint (Lib.zigzag (hT f1 x1)) = Q2 from eU.out] at this; exact this)).mono ?_; rintro rB wB ⟨rfl, R1, K1⟩
             have av := K1.out _ _ _ (by decide) (by decide) dG.out; have eL := zlM (K1.out _ _ _ (by decide) (by decide) eM.out); have es := zlM (zdy cL.out K1.out (by decide) (by decide)); have p2 : wB.cell? ⟨wr.heap.size, 2, none⟩ = some (.pointer (some ⟨gx, 0, none⟩)) := av.cell 2; have bC := zlM R1; have dn : (Y ++ Q1 ++ Q2).length <= 60320 := by rw [zlN]; omega
             have HH := zlM (qZ.out.fr (ge.out wB R1.fr) (fun g hg => (HP.out g hg).2))
             clear R1 K1 av p1 q1 bd bz dG eM)
          | (go_at_call 189; refine (ze0 bC.out (f := 189) (args := #[.pointer (some ⟨w.heap.size, 0, none⟩), .pointer (some ⟨gx, 0, none⟩)]) (zs := zaX x1.h) (fun o2 he fi => zfv P _ o2 _ x1.h _ _ HH.out he (by rw [zlN]; omega) qU.out.2.2.2 (fun g hg => by
              have h1 := HP.out g hg; rintro (rfl | h2)
              ·omega
              ·rcases fi with h3 | ⟨k, h3, hk⟩
               ·exact h1.2 (h2.trans h3)
               ·rw [h3] at h2; injection h2 with h2; omega))).mono ?_; rintro rD wD ⟨rfl, R1, K1⟩
             have bY := zlM R1; have ka := zlM (K1.out _ _ _ (by decide) (by decide) eL.out); have iV := zlM (zdy es.out K1.out (by decide) (by decide))
             clear R1 K1 bC eL))
       | go_wp2_with (first
          | (go_at_call 191; refine hU.mono ?_; rintro r w' ⟨rfl, rfl⟩)
          | (go_at_call 183; refine (zaf bU.out (f := 183) (args := #[.pointer (some ⟨w.heap.size, 0, none⟩), .int .i64 (zeO f1 x1)]) (zs := Q1) (fun o2 he => by have := zax _ o2 _ (zeO f1 x1) (zad _).1 (zad _).2 _ he (by rw [zlN]; omega); rw [show Lib.uvarint (Lib.zigzag (zeO f1 x1)) = Q1 from gp.out] at this; exact this)).mono ?_; rintro rA wA ⟨rfl, R1, K1⟩
             have av := K1.out _ _ _ (by decide) (by decide) cZ.out; have bh := K1.out _ _ _ (by decide) (by decide) dL.out; have p1 : wA.cell? ⟨wr.heap.size, 1, none⟩ = some (.int .i64 x1.t) := av.cell 1; have q1 : wA.cell? ⟨bf, 1, none⟩ = some (.int .i64 f1.t) := bh.cell 1; have dG := zlM av; have eM := zlM bh; have cL := zlM (zdy dk.out K1.out (by decide) (by decide))
             have bd := zlM R1; have bz : (Y ++ Q1).length <= 60310 := by rw [zlN]; omega
             clear R1 K1 av bh bU b0 b1 cZ dL hU)
          | (go_at_call 183; refine (zaf bd.out (f := 183) (args := #[.pointer (some ⟨w.heap.size, 0, none⟩), .int .i64 (hT f1 x1)]) (zs := Q2) (fun o2 he => by have := zax _ o2 _ (hT f1 x1) (zad _).1 (zad _).2 _ he (by rw [zlN]; omega); rw [show Lib.uvarint (Lib.zigzag (hT f1 x1)) = Q2 from eU.out] at this; exact this)).mono ?_; rintro rB wB ⟨rfl, R1, K1⟩
             have av := K1.out _ _ _ (by decide) (by decide) dG.out; have eL := zlM (K1.out _ _ _ (by decide) (by decide) eM.out); have es := zlM (zdy cL.out K1.out (by decide) (by decide)); have p2 : wB.cell? ⟨wr.heap.size, 2, none⟩ = some (.pointer (some ⟨gx, 0, none⟩)) := av.cell 2; have bC := zlM R1; have dn : (Y ++ Q1 ++ Q2).length <= 60320 := by rw [zlN]; omega
             have HH := zlM (qZ.out.fr (ge.out wB R1.fr) (fun g hg => (HP.out g hg).2))
             clear R1 K1 av p1 q1 bd bz dG eM)
          | (go_at_call 192; refine (ze0 bC.out (f := 192) (args := #[.pointer (some ⟨w.heap.size, 0, none⟩), .pointer (some ⟨gx, 0, none⟩)]) (zs := zaY x1.h) (fun o2 he fi => zfw P _ o2 _ x1.h _ _ HH.out he (by rw [zlN]; omega) qU.out.2.2.2 (fun g hg => by
              have h1 := HP.out g hg; rintro (rfl | h2)
              ·omega
              ·rcases fi with h3 | ⟨k, h3, hk⟩
               ·exact h1.2 (h2.trans h3)
               ·rw [h3] at h2; injection h2 with h2; omega))).mono ?_; rintro rD wD ⟨rfl, R1, K1⟩
             have bY := zlM R1; have ka := zlM (K1.out _ _ _ (by decide) (by decide) eL.out); have iV := zlM (zdy es.out K1.out (by decide) (by decide))
             clear R1 K1 bC eL))
      first
       | guard_hyp aj
         have cT : Hid (Put WB w.heap.size (Value.slice a' n' k').ownBlock xs ([7] ++ zaq f1 ++ ((LO.take (k + 1)).filter fun p => !zaP p.1).flatMap (fun p => za2 f1 p.1)) wD) := zlM (by
          rw [zdS (fun p : Rhs × Value => !zaP p.1) LO k _ HX.out (by simp [eR]), zml, <- zlP, HY.out, zl1, List.flatMap_nil, zl8]; unfold za2; rw [gp.out, eU.out]
          simpa [zlP] using bY.out)
       | have cT : Hid (Put WB w.heap.size (Value.slice a' n' k').ownBlock xs ([8] ++ zaq f1 ++ ((LO.take (k + 1)).filter fun p => !zaP p.1).flatMap (fun p => za3 f1 p.1)) wD) := zlM (by
          rw [zdS (fun p : Rhs × Value => !zaP p.1) LO k _ HX.out (by simp [eR]), zml, <- zlP, HY.out, zl1, List.flatMap_nil, zl8]; unfold za3; rw [gp.out, eU.out]
          simpa [zlP] using bY.out)
      clear bY; go_wp2; go_roundw
      case rel => exact ⟨k + 1, m, by omega, by go_num, by omega, zlM (by rw [zfg (fun p : Rhs × Value => zaP p.1) LO k _ HX.out eR]; exact HM.out), zlM (by rw [zfg (fun p : Rhs × Value => zaP p.1) LO k _ HX.out eR]; exact iV.out), cT, ka⟩
      case measure => simp [intOf]; omega
     ·have hU := HU.out
      rw [show (x1.h.schema == -53) = true from eR] at hU; have aU := HO.out.lt; have nr : ∀ j, j < 3 -> ∀ u, (rhc (x1, Value.pointer (some ⟨gx, 0, none⟩)))[j]? = some u -> True := fun _ _ _ _ => trivial; have ow : WB.heap.size <= wr.heap.size := HR.out.fr.size; clear hx dP cc hY bE cC aH fM lN b0 b1 nr
      go_wp2_with (first
       | (go_at_call 188; refine hU.mono ?_; rintro r w' ⟨rfl, rfl⟩)
       | (go_at_call 191; refine hU.mono ?_; rintro r w' ⟨rfl, rfl⟩)
       | (at_builtin; refine Hid.out ?_))
      refine zlM ?_
      first | (guard_hyp aj; refine zae _ rfl _ _ 177 177 rfl (bf + 1) 290 i0 _ 3 24 underlying177 aB ay ax aA rfl (by decide) _ m (((LO.take k).filter fun p => zaP p.1).flatMap rhc) rfl ((HO.out.alloc _).alloc _) _ 1 [.int .u64 x1.ref, .int .i64 x1.t, .pointer (some ⟨gx, 0, none⟩)] rfl (zaF underlying177 (zaL wr _ 290 #[.int .u64 x1.ref, .int .i64 x1.t, .pointer (some ⟨gx, 0, none⟩)]) rfl (by simp [Value.oneCell'])) (by unfold maxLen; omega) (by omega) (by simp; omega) ?_) | (refine zae _ rfl _ _ 182 182 rfl (bf + 1) 298 i0 _ 3 24 underlying182 aB ay ax aA rfl (by decide) _ m (((LO.take k).filter fun p => zaP p.1).flatMap rhc) rfl ((HO.out.alloc _).alloc _) _ 1 [.int .u64 x1.ref, .int .i64 x1.t, .pointer (some ⟨gx, 0, none⟩)] rfl (zaF underlying182 (zaL wr _ 298 #[.int .u64 x1.ref, .int .i64 x1.t, .pointer (some ⟨gx, 0, none⟩)]) rfl (by simp [Value.oneCell'])) (by unfold maxLen; omega) (by omega) (by simp; omega) ?_)
      intro v' w2 ac ad aw
      first
       | guard_hyp aj
         have cT : Hid (Put WB w.heap.size (Value.slice a' n' k').ownBlock xs ([7] ++ zaq f1 ++ ((LO.take (k + 1)).filter fun p => !zaP p.1).flatMap (fun p => za2 f1 p.1)) w2) := zlM (by
          rw [zfg (fun p : Rhs × Value => !zaP p.1) LO k _ HX.out (by simp [eR]), HY.out]
          exact ((HR.out.alloc _).alloc _).grown ((HO.out.alloc _).alloc _) (by omega) ad (by decide) (by decide))
       | have cT : Hid (Put WB w.heap.size (Value.slice a' n' k').ownBlock xs ([8] ++ zaq f1 ++ ((LO.take (k + 1)).filter fun p => !zaP p.1).flatMap (fun p => za3 f1 p.1)) w2) := zlM (by
          rw [zfg (fun p : Rhs × Value => !zaP p.1) LO k _ HX.out (by simp [eR]), HY.out]
          exact ((HR.out.alloc _).alloc _).grown ((HO.out.alloc _).alloc _) (by omega) ad (by decide) (by decide))
      have dt := zlM (((it.out.alloc _).alloc _).grown ad (fun e => by have := (aU bf e.symm).1; omega)); have iV := zlM ac
      have HM8 : Hid (((LO.take (k + 1)).filter fun p => zaP p.1).length = m + 1) := zlM (by
       rw [zdS (fun p : Rhs × Value => zaP p.1) LO k _ HX.out eR, zlN, HM.out]; rfl)
      first
       | guard_hyp aj
         have HN8 : Hid (w2.ownsRow (bf + 1) 290 3 v' (m + 1) (((LO.take (k + 1)).filter fun p => zaP p.1).flatMap rhc)) := zlM (by
          rw [zdS (fun p : Rhs × Value => zaP p.1) LO k _ HX.out eR, zml]
          simpa [rhc] using iV.out)
       | have HN8 : Hid (w2.ownsRow (bf + 1) 298 3 v' (m + 1) (((LO.take (k + 1)).filter fun p => zaP p.1).flatMap rhc)) := zlM (by
          rw [zdS (fun p : Rhs × Value => zaP p.1) LO k _ HX.out eR, zml]
          simpa [rhc] using iV.out)
      clear ac ad aw aU iV; go_wp2; go_roundw
      case rel => exact ⟨k + 1, m + 1, by omega, by go_num, by omega, HM8, HN8, cT, dt⟩
      case measure => simp [intOf]; omega
    ·obtain rfl : k = n := by omega
     obtain ⟨oZ, dD, ee, fP⟩ := HR.out; have hmk2 : m < k := by
      have h1 := HM.out; have h2 : LO.take k = LO := zlV (by rw [HN.out]; exact zlY _); rw [h2] at h1; have h3 : (LO.filter fun p => zaP p.1).length < LO.length := by
       obtain ⟨p, hp, hq⟩ := iT.out; exact List.length_filter_lt_length_iff_exists.2 ⟨p, hp, by simp [hq]⟩
      rw [HN.out] at h3; omega
     have hnk : ((k : Int) == (m : Int)) = false := by simp; omega
     obtain ⟨ca, ck, rfl⟩ := zaa HO.out; have hG := zd7 _ _ _ _ dD; have HZ := zlM ee; clear dD ee; go_wp2_with (go_at_call 116; refine hG.mono ?_; rintro rr w9 ⟨v2, rfl, rfl, af, bz⟩)
     go_ret2; have e1 : LO.take k = LO := zlV (by rw [HN.out]; exact zlY _); have ho := HO.out; have kP := HM.out; rw [e1] at ho kP; refine ⟨v2, _, rfl, ?_, by rw [kP]; exact zah ho (by omega), ge.out _ HZ.out, ?_⟩
     ·rw [e1] at af
      simpa [zlP] using af
     ·rw [bz]
      rcases fP with h | ⟨k2, h, cR⟩
      ·exact .inl h
      ·exact .inr ⟨k2, h, by omega⟩
theorem zlu : type_of% (zcW.1 trivial) := zcW.1 trivial
theorem zlv : type_of% (zcW.2 trivial) := zcW.2 trivial
theorem gN_enc {α : Type} (f : St -> α × St) (e : α -> List UInt8) : ∀ (l : List α), (∀ x ∈ l, ∀ r, f (some (e x ++ r)) = (x, some r)) -> ∀ r, gN f l.length (some (l.flatMap e ++ r)) = (l, some r)
 | [], _, r => rfl
 | x :: l, h, r => by
   have h1 : f (some ((x :: l).flatMap e ++ r)) = (x, some (l.flatMap e ++ r)) := by
    rw [zl1, zlP]; exact h x (zmF ..) _
   show ((f (some ((x :: l).flatMap e ++ r))).1 :: (gN f l.length (f (some ((x :: l).flatMap e ++ r))).2).1, (gN f l.length (f (some ((x :: l).flatMap e ++ r))).2).2) = (x :: l, some r); rw [h1, gN_enc f e l (fun y hy => h y (zmL _ hy)) r]
theorem zcK {α : Type} (f : St -> α × St) (e : α -> List UInt8) (l : List α) (hl : l.length <= 60) (h : ∀ x ∈ l, ∀ r, f (some (e x ++ r)) = (x, some r)) (r : List UInt8) :
 (gUv (some (Lib.uvarint l.length ++ l.flatMap e ++ r))).1 = l.length /\ ze2 f (some (Lib.uvarint l.length ++ l.flatMap e ++ r)) = (l, some r) := by
 have h1 := zeC l.length (by omega) (l.flatMap e ++ r); rw [<- zlP] at h1; unfold ze2; rw [h1]; exact ⟨rfl, gN_enc f e l h r⟩
theorem zfW {n : Int} (h0 : -2147483648 <= n) (h1 : n <= 2147483647) : wrap32 n = n := by unfold wrap32; omega
theorem zh3 (p : Int × Nat) (h : -2147483648 <= p.1 /\ p.1 <= 2147483647 /\ p.2 < 4294967296) (r : List UInt8) : gSp (some (zaN p ++ r)) = (p, some r) := by
 have h1 := zcm p.1 (by omega) (by omega) (Lib.uvarint p.2 ++ r); have h2 := zeC p.2 (by omega) r; unfold gSp zaN zzu; rw [zlP, h1]; simp only []; rw [h2]; simp only []; rw [zfW h.1 h.2.1, Nat.mod_eq_of_lt h.2.2]
def Hst.readW (h : Hst) : Hst := { h with fups := [], fdowns := [], cus := if h.schema = -53 then h.cus else [] }
theorem zk7 (h : Hst) (bP : h.ok) (r : List UInt8) : FineW (some (zaX h ++ r)) /\ zcO (some (zaX h ++ r)) = (h.readW, some r) := by
 obtain ⟨lw, h10⟩ := exE (zcz h ++ r); obtain ⟨R9, h9⟩ := exE (zdt h.downs ++ lw); obtain ⟨R8, h8⟩ := exE (zdt h.ups ++ R9); obtain ⟨R7, h7⟩ := exE (zbW h.neg ++ R8); obtain ⟨R6, h6⟩ := exE (zbW h.pos ++ R7); obtain ⟨R5, h5⟩ := exE (Lib.beBytes 8 h.sum ++ R6); obtain ⟨R4, h4⟩ := exE (Lib.uvarint h.cnt ++ R5); obtain ⟨R3, h3⟩ := exE (Lib.uvarint h.zc ++ R4)
 obtain ⟨R2, h2⟩ := exE (Lib.beBytes 8 h.thr ++ R3); obtain ⟨R1, h1⟩ := exE (zzu h.schema ++ R2); have bu : zaX h ++ r = h.hint :: R1 := by
  rw [<- h1, <- h2, <- h3, <- h4, <- h5, <- h6, <- h7, <- h8, <- h9, <- h10]; unfold zaX; simp only [zlP, List.cons_append, zmo]
 rw [bu]; obtain ⟨S, hS⟩ : ∃ S : St, some (h.hint :: R1) = S := ⟨_, rfl⟩; rw [hS]; have e0 : zaC S = (h.hint.toNat, some R1) := by rw [<- hS]; rfl
 have s1 : hS1 S = some R1 := zmC Prod.snd e0; have e1 : zaH (hS1 S) = (h.schema, some R2) := by rw [s1, <- h1]; exact zcm h.schema (by have := bP.s0; omega) (by have := bP.s1; omega) R2
 have s2 : hS2 S = some R2 := zmC Prod.snd e1; have e2 : zac (hS2 S) = (h.thr, some R3) := by rw [s2, <- h2]; exact zaS h.thr bP.thr R3
 have s3 : hS3 S = some R3 := zmC Prod.snd e2; have e3 : gUv (hS3 S) = (h.zc, some R4) := by rw [s3, <- h3]; exact zeC h.zc bP.zc R4
 have s4 : hW4 S = some R4 := zmC Prod.snd e3; have e4 : gUv (hW4 S) = (h.cnt, some R5) := by rw [s4, <- h4]; exact zeC h.cnt bP.cnt R5
 have s5 : hW5 S = some R5 := zmC Prod.snd e4; have e5 : zac (hW5 S) = (h.sum, some R6) := by rw [s5, <- h5]; exact zaS h.sum bP.sum R6
 have s6 : hW6 S = some R6 := zmC Prod.snd e5; have e6 := zcK gSp zaN h.pos bP.few.1 (fun x hx r => zh3 x (bP.pos x hx) r) R7; rw [show Lib.uvarint h.pos.length ++ h.pos.flatMap zaN ++ R7 = R6 from h6, <- s6] at e6; have s7 : hW7 S = some R7 := zmC Prod.snd e6.2; have e7 := zcK gSp zaN h.neg bP.few.2.1 (fun x hx r => zh3 x (bP.neg x hx) r) R8
 rw [show Lib.uvarint h.neg.length ++ h.neg.flatMap zaN ++ R8 = R7 from h7, <- s7] at e7; have s8 : hW8 S = some R8 := zmC Prod.snd e7.2; have e8 := zcK zaH (zzu) h.ups bP.few.2.2.1 (fun x hx r => zcm x (bP.ups x hx).1 (bP.ups x hx).2 r) R9; rw [show Lib.uvarint h.ups.length ++ h.ups.flatMap (zzu) ++ R9 = R8 from h8, <- s8] at e8
 have s9 : hW9 S = some R9 := zmC Prod.snd e8.2; have e9 := zcK zaH (zzu) h.downs bP.few.2.2.2.1 (fun x hx r => zcm x (bP.downs x hx).1 (bP.downs x hx).2 r) lw; rw [show Lib.uvarint h.downs.length ++ h.downs.flatMap (zzu) ++ lw = R9 from h9, <- s9] at e9; have iu : hW10 S = some lw := zmC Prod.snd e9.2
 have mG : zji S = h.schema := by unfold zji; rw [e1]; exact zfW bP.s0 bP.s1
 have ec : (h.schema = -53 -> (gUv (hW10 S)).1 <= 1000) /\ hWc S = (if h.schema = -53 then h.cus else [], some r) := by
  unfold hWc; rw [mG]; by_cases hc : h.schema = -53
  ·have ls : zcz h = Lib.uvarint h.cus.length ++ h.cus.flatMap (Lib.beBytes 8) := by unfold zcz; rw [if_pos hc]; rfl
   have ko := zcK zac (Lib.beBytes 8) h.cus bP.few.2.2.2.2.2.2 (fun x hx r => zaS x (bP.cus x hx) r) r; rw [<- ls, h10, <- iu] at ko; rw [if_pos hc, if_pos hc, ko.2]; exact ⟨fun _ => by rw [ko.1]; have := bP.few.2.2.2.2.2.2; omega, rfl⟩
  ·have ls : zcz h = [] := by unfold zcz; rw [zmI hc]
   rw [ls, zmo] at h10; rw [zmI hc, zmI hc, iu, <- h10]; exact ⟨fun e => absurd e hc, rfl⟩
 obtain ⟨f1, f2, f3, f4, f5, f6, f7⟩ := bP.few; refine ⟨⟨by rw [e6.1]; omega, by rw [e7.1]; omega, by rw [e8.1]; omega, by rw [e9.1]; omega, fun e => ec.1 (by rw [<- mG]; exact e)⟩, ?_⟩; have hh : UInt8.ofNat h.hint.toNat = h.hint := by simp
 unfold zcO Hst.readW; rw [e0, mG, e2, e5, e3, e4, e6.2, e7.2, e8.2, e9.2, ec.2]; simp only []; rw [hh]
def Hst.readF (h : Hst) : Hst := { h with ups := [], downs := [], cus := if h.schema = -53 then h.cus else [] }
theorem zk8 (h : Hst) (bP : h.ok) (r : List UInt8) : FineF (some (zaY h ++ r)) /\ zcP (some (zaY h ++ r)) = (h.readF, some r) := by
 obtain ⟨lw, h10⟩ := exE (zcz h ++ r); obtain ⟨R9, h9⟩ := exE (zc7 h.fdowns ++ lw); obtain ⟨R8, h8⟩ := exE (zc7 h.fups ++ R9); obtain ⟨R7, h7⟩ := exE (zbW h.neg ++ R8); obtain ⟨R6, h6⟩ := exE (zbW h.pos ++ R7); obtain ⟨R5, h5⟩ := exE (Lib.beBytes 8 h.sum ++ R6); obtain ⟨R4, h4⟩ := exE (Lib.beBytes 8 h.cnt ++ R5); obtain ⟨R3, h3⟩ := exE (Lib.beBytes 8 h.zc ++ R4)
 obtain ⟨R2, h2⟩ := exE (Lib.beBytes 8 h.thr ++ R3); obtain ⟨R1, h1⟩ := exE (zzu h.schema ++ R2); have bu : zaY h ++ r = h.hint :: R1 := by
  rw [<- h1, <- h2, <- h3, <- h4, <- h5, <- h6, <- h7, <- h8, <- h9, <- h10]; unfold zaY; simp only [zlP, List.cons_append, zmo]
 rw [bu]; obtain ⟨S, hS⟩ : ∃ S : St, some (h.hint :: R1) = S := ⟨_, rfl⟩; rw [hS]; have e0 : zaC S = (h.hint.toNat, some R1) := by rw [<- hS]; rfl
 have s1 : hS1 S = some R1 := zmC Prod.snd e0; have e1 : zaH (hS1 S) = (h.schema, some R2) := by rw [s1, <- h1]; exact zcm h.schema (by have := bP.s0; omega) (by have := bP.s1; omega) R2
 have s2 : hS2 S = some R2 := zmC Prod.snd e1; have e2 : zac (hS2 S) = (h.thr, some R3) := by rw [s2, <- h2]; exact zaS h.thr bP.thr R3
 have s3 : hS3 S = some R3 := zmC Prod.snd e2; have e3 : zac (hS3 S) = (h.zc, some R4) := by rw [s3, <- h3]; exact zaS h.zc bP.zc R4
 have s4 : hF4 S = some R4 := zmC Prod.snd e3; have e4 : zac (hF4 S) = (h.cnt, some R5) := by rw [s4, <- h4]; exact zaS h.cnt bP.cnt R5
 have s5 : hF5 S = some R5 := zmC Prod.snd e4; have e5 : zac (hF5 S) = (h.sum, some R6) := by rw [s5, <- h5]; exact zaS h.sum bP.sum R6
 have s6 : hF6 S = some R6 := zmC Prod.snd e5; have e6 := zcK gSp zaN h.pos bP.few.1 (fun x hx r => zh3 x (bP.pos x hx) r) R7; rw [show Lib.uvarint h.pos.length ++ h.pos.flatMap zaN ++ R7 = R6 from h6, <- s6] at e6; have s7 : hF7 S = some R7 := zmC Prod.snd e6.2; have e7 := zcK gSp zaN h.neg bP.few.2.1 (fun x hx r => zh3 x (bP.neg x hx) r) R8
 rw [show Lib.uvarint h.neg.length ++ h.neg.flatMap zaN ++ R8 = R7 from h7, <- s7] at e7; have s8 : hF8 S = some R8 := zmC Prod.snd e7.2; have e8 := zcK zac (Lib.beBytes 8) h.fups bP.few.2.2.2.2.1 (fun x hx r => zaS x (bP.fups x hx) r) R9; rw [show Lib.uvarint h.fups.length ++ h.fups.flatMap (Lib.beBytes 8) ++ R9 = R8 from h8, <- s8] at e8
 have s9 : hF9 S = some R9 := zmC Prod.snd e8.2; have e9 := zcK zac (Lib.beBytes 8) h.fdowns bP.few.2.2.2.2.2.1 (fun x hx r => zaS x (bP.fdowns x hx) r) lw; rw [show Lib.uvarint h.fdowns.length ++ h.fdowns.flatMap (Lib.beBytes 8) ++ lw = R9 from h9, <- s9] at e9; have iu : ziK S = some lw := zmC Prod.snd e9.2
 have mG : zji S = h.schema := by unfold zji; rw [e1]; exact zfW bP.s0 bP.s1
 have ec : (h.schema = -53 -> (gUv (ziK S)).1 <= 1000) /\ hFc S = (if h.schema = -53 then h.cus else [], some r) := by
  unfold hFc; rw [mG]; by_cases hc : h.schema = -53
  ·have ls : zcz h = Lib.uvarint h.cus.length ++ h.cus.flatMap (Lib.beBytes 8) := by unfold zcz; rw [if_pos hc]; rfl
   have ko := zcK zac (Lib.beBytes 8) h.cus bP.few.2.2.2.2.2.2 (fun x hx r => zaS x (bP.cus x hx) r) r; rw [<- ls, h10, <- iu] at ko; rw [if_pos hc, if_pos hc, ko.2]; exact ⟨fun _ => by rw [ko.1]; have := bP.few.2.2.2.2.2.2; omega, rfl⟩
  ·have ls : zcz h = [] := by unfold zcz; rw [zmI hc]
   rw [ls, zmo] at h10; rw [zmI hc, zmI hc, iu, <- h10]; exact ⟨fun e => absurd e hc, rfl⟩
 obtain ⟨f1, f2, f3, f4, f5, f6, f7⟩ := bP.few; refine ⟨⟨by rw [e6.1]; omega, by rw [e7.1]; omega, by rw [e8.1]; omega, by rw [e9.1]; omega, fun e => ec.1 (by rw [<- mG]; exact e)⟩, ?_⟩; have hh : UInt8.ofNat h.hint.toNat = h.hint := by simp
 unfold zcP Hst.readF; rw [e0, mG, e2, e5, e3, e4, e6.2, e7.2, e8.2, e9.2, ec.2]; simp only []; rw [hh]
theorem zc3 {α β : Type} (step : St -> α × St) (enc : β -> List UInt8) (rd : β -> α) (Q : β -> Prop) (hs : ∀ x r, Q x -> step (some (enc x ++ r)) = (rd x, some r)) (hp : ∀ x, ∃ c r, enc x = c :: r) :
 ∀ (l : List β) (k : Nat) (acc : List α), (∀ x ∈ l, Q x) -> l.length <= k -> zaj step k (some (l.flatMap enc)) acc = (acc ++ l.map rd, some [])
 | [], k, acc, _, _ => by cases k <;> simp [zaj]
 | x :: l, 0, acc, _, h => by simp at h
 | x :: l, k + 1, acc, hw, h => by
   obtain ⟨c, r, e⟩ := hp x; have aZ := hs x (l.flatMap enc) (hw x (by simp)); rw [zl1]; rw [e] at aZ ⊢; show zaj step (k + 1) (some (c :: (r ++ l.flatMap enc))) acc = _; have jm : step (some (c :: (r ++ l.flatMap enc))) = (rd x, some (l.flatMap enc)) := aZ; rw [zaj, jm]; simp only []
   rw [zc3 step enc rd Q hs hp l k (acc ++ [rd x]) (fun y hy => hw y (by simp [hy])) (by simpa using h)]; simp
theorem zjk (x : Int) (r : List UInt8) : ∃ c t, zzu x ++ r = c :: t := by
 have := Lib.uvarint_pos (Lib.zigzag x); unfold zzu; rcases h : Lib.uvarint (Lib.zigzag x) with _ | ⟨c, t⟩
 ·rw [h] at this; simp at this
 ·exact ⟨c, t ++ r, rfl⟩
theorem zgc (a b : Nat) (ha : a < 18446744073709551616) : u64 ((b : Int) + u64 (wrap64 (wrap64 a - wrap64 b))) = a := by
 have h : ((b : Int) + u64 (wrap64 (wrap64 a - wrap64 b))) % 18446744073709551616 = (a : Int) := by unfold u64 wrap64; omega
 rw [u64, h]; rfl
theorem zgz {β : Type} (enc : β -> List UInt8) (hp : ∀ x, ∃ c r, enc x = c :: r) : ∀ l : List β, l.length <= (l.flatMap enc).length
 | [] => by simp
 | x :: l => by
   obtain ⟨c, r, e⟩ := hp x; have := zgz enc hp l; rw [zl1, zlN, e]; simp only [zl4]; omega
theorem ze1 (f : Rhs) (hf : f.ok) (X : List UInt8) : (zac (some (zaq f ++ X))).1 = f.ref /\ zav (zac (some (zaq f ++ X))).2 = (f.t, some X) := by
 have h1 := zaS f.ref hf.1 (Lib.beBytes 8 (u64 f.t) ++ X); have h2 := zaS (u64 f.t) (zkq _) X; unfold zaq; rw [zlP, h1]; refine ⟨rfl, ?_⟩; show (i64 (zac (some (Lib.beBytes 8 (u64 f.t) ++ X))).1, (zac (some (Lib.beBytes 8 (u64 f.t) ++ X))).2) = _; rw [h2]; show (i64 (u64 f.t), some X) = _; rw [zjX _ hf.2.1 hf.2.2.1]
theorem zkB (f : Rhs) (X : List UInt8) : zaq f ++ X ≠ [] := by
 intro h; have := zmC List.length h; unfold zaq at this; simp [zlW] at this
def Rhs.readW (s : Rhs) : Rhs := { s with h := s.h.readW }
theorem zgt (f s : Rhs) (hs : s.ok) (r : List UInt8) : zda (some (za2 f s ++ r)) /\ zaQ f.ref f.t (some (za2 f s ++ r)) = (s.readW, some r) := by
 have e0 : za2 f s ++ r = Lib.uvarint (Lib.zigzag (zeO f s)) ++ (Lib.uvarint (Lib.zigzag (hT f s)) ++ (zaX s.h ++ r)) := by
  unfold za2 zzu; simp only [zlP]
 have h1 := zcm (zeO f s) (zad _).1 (zad _).2 (Lib.uvarint (Lib.zigzag (hT f s)) ++ (zaX s.h ++ r)); have h2 := zcm (hT f s) (zad _).1 (zad _).2 (zaX s.h ++ r); obtain ⟨h3, h4⟩ := zk7 s.h hs.2.2.2 r; rw [e0]; constructor
 ·unfold zda
  rw [h1]; show FineW (zaH (some (Lib.uvarint (Lib.zigzag (hT f s)) ++ (zaX s.h ++ r)))).2; rw [h2]; exact h3
 ·unfold zaQ
  rw [h1]; show (Rhs.mk (u64 ((f.ref : Int) + u64 (zeO f s))) (wrap64 (f.t + (zaH (some (Lib.uvarint (Lib.zigzag (hT f s)) ++ (zaX s.h ++ r)))).1)) (zcO (zaH (some (Lib.uvarint (Lib.zigzag (hT f s)) ++ (zaX s.h ++ r)))).2).1, (zcO (zaH (some (Lib.uvarint (Lib.zigzag (hT f s)) ++ (zaX s.h ++ r)))).2).2) = _; rw [h2]
  show (Rhs.mk (u64 ((f.ref : Int) + u64 (zeO f s))) (wrap64 (f.t + hT f s)) (zcO (some (zaX s.h ++ r))).1, (zcO (some (zaX s.h ++ r))).2) = _; rw [h4]; unfold zeO hT; rw [zgc _ _ hs.1, zkr _ _ hs.2.1 hs.2.2.1]; rfl
theorem zhA (f s : Rhs) : ∃ c r, za2 f s = c :: r := by unfold za2; exact zjk _ _
theorem zlx (kind : UInt8) (hk : kind = 7 ∨ kind = 9) (q : Rhs -> Bool) (l : List Rhs) (hl : ∀ s ∈ l, s.ok) : zcQ (za5 kind q l) = some ((l.filter q).map Rhs.readW) := by
 rcases l with _ | ⟨f, r⟩
 ·show (if kind = 7 ∨ kind = 9 then zbc [] else none) = _
  rw [if_pos hk]; rfl
 ·have hf := hl f (by simp)
  show (if kind = 7 ∨ kind = 9 then zbc (zaq f ++ ((f :: r).filter q).flatMap (za2 f)) else none) = _; rw [if_pos hk]; obtain ⟨X, hX⟩ := exE (((f :: r).filter q).flatMap (za2 f)); have ai := zgz (za2 f) (zhA f) ((f :: r).filter q)
  have hL := zc3 (zaQ f.ref f.t) (za2 f) Rhs.readW Rhs.ok (fun x r hx => (zgt f x hx r).2) (zhA f) ((f :: r).filter q) (zaq f ++ X).length [] (fun x hx => hl x (zmr.1 hx).1) (by rw [zlN, <- hX]; omega); rw [hX] at hL ⊢; obtain ⟨g1, g2⟩ := ze1 f hf X; unfold zbc; rw [zmI (zkB f X), g1, g2]; simp only []; rw [hL]; rfl
def GoodW (f : Rhs) (st : St) : Prop := st = none ∨ ∃ l : List Rhs, (∀ s ∈ l, s.ok) /\ st = some (l.flatMap (za2 f))
theorem zk2 (f : Rhs) (l : List UInt8) (h : GoodW f (some l)) : zda (some l) /\ GoodW f (zaQ f.ref f.t (some l)).2 := by
 rcases h with h | ⟨l', fR, e⟩
 ·cases h
 ·injection e with e
  subst e; rcases l' with _ | ⟨s, l'⟩
  ·show zda (some []) /\ GoodW f (zaQ f.ref f.t (some [])).2
   have e0 : zaH (some []) = (0, none) := rfl; have e1 : zaH none = (0, none) := rfl; have e2 : (zcO none).2 = none := by
    rcases h : (zcO none).2 with _ | l
    ·rfl
    ·obtain ⟨l0, h0, _⟩ := zho _ _ h
     cases h0
   refine ⟨?_, .inl ?_⟩
   ·unfold zda
    rw [e0]; show FineW (zaH none).2; rw [e1]; exact ⟨zlX _, zlX _, zlX _, zlX _, fun _ => zlX _⟩
   ·unfold zaQ
    rw [e0]; show (zcO (zaH none).2).2 = none; rw [e1]; exact e2
  ·obtain ⟨h1, h2⟩ := zgt f s (fR s (by simp)) (l'.flatMap (za2 f))
   rw [zl1]; exact ⟨h1, .inr ⟨l', fun x hx => fR x (by simp [hx]), by rw [h2]⟩⟩
theorem goodW_rec (kind : UInt8) (q : Rhs -> Bool) (l : List Rhs) (hl : ∀ s ∈ l, s.ok) : ∃ al : St -> Prop,
 (∀ kd rest, za5 kind q l = kd :: rest -> (kd = 7 ∨ kd = 9) -> ∀ l, al (some l) -> zda (some l) /\ al (zaQ (zac (some rest)).1 (zav (zac (some rest)).2).1 (some l)).2) /\
 (∀ kd rest, za5 kind q l = kd :: rest -> (kd = 7 ∨ kd = 9) -> rest ≠ [] -> al (zav (zac (some rest)).2).2) := by
 rcases l with _ | ⟨f, r⟩
 ·refine ⟨fun _ => False, fun _ _ _ _ _ h => h.elim, fun kd rest e _ hr => ?_⟩
  have e2 : [kind] = kd :: rest := e; injection e2 with _ e2; exact absurd e2.symm hr
 ·obtain ⟨X, hX⟩ := exE (((f :: r).filter q).flatMap (za2 f))
  obtain ⟨g1, g2⟩ := ze1 f (hl f (by simp)) X; have he : ∀ kd rest, za5 kind q (f :: r) = kd :: rest -> rest = zaq f ++ X := fun kd rest e => by
   have e2 : kind :: (zaq f ++ ((f :: r).filter q).flatMap (za2 f)) = kd :: rest := e; injection e2 with _ e2; rw [<- e2, hX]
  refine ⟨GoodW f, fun kd rest e _ l' h => ?_, fun kd rest e _ _ => ?_⟩
  ·rw [he kd rest e, g1, g2]
   exact zk2 f l' h
  ·rw [he kd rest e, g2, <- hX]
   exact .inr ⟨_, fun x hx => hl x (zmr.1 hx).1, rfl⟩
def Rhs.readF (s : Rhs) : Rhs := { s with h := s.h.readF }
theorem zgu (f s : Rhs) (hs : s.ok) (r : List UInt8) : zdb (some (za3 f s ++ r)) /\ zaR f.ref f.t (some (za3 f s ++ r)) = (s.readF, some r) := by
 have e0 : za3 f s ++ r = Lib.uvarint (Lib.zigzag (zeO f s)) ++ (Lib.uvarint (Lib.zigzag (hT f s)) ++ (zaY s.h ++ r)) := by
  unfold za3 zzu; simp only [zlP]
 have h1 := zcm (zeO f s) (zad _).1 (zad _).2 (Lib.uvarint (Lib.zigzag (hT f s)) ++ (zaY s.h ++ r)); have h2 := zcm (hT f s) (zad _).1 (zad _).2 (zaY s.h ++ r); obtain ⟨h3, h4⟩ := zk8 s.h hs.2.2.2 r; rw [e0]; constructor
 ·unfold zdb
  rw [h1]; show FineF (zaH (some (Lib.uvarint (Lib.zigzag (hT f s)) ++ (zaY s.h ++ r)))).2; rw [h2]; exact h3
 ·unfold zaR
  rw [h1]; show (Rhs.mk (u64 ((f.ref : Int) + u64 (zeO f s))) (wrap64 (f.t + (zaH (some (Lib.uvarint (Lib.zigzag (hT f s)) ++ (zaY s.h ++ r)))).1)) (zcP (zaH (some (Lib.uvarint (Lib.zigzag (hT f s)) ++ (zaY s.h ++ r)))).2).1, (zcP (zaH (some (Lib.uvarint (Lib.zigzag (hT f s)) ++ (zaY s.h ++ r)))).2).2) = _; rw [h2]
  show (Rhs.mk (u64 ((f.ref : Int) + u64 (zeO f s))) (wrap64 (f.t + hT f s)) (zcP (some (zaY s.h ++ r))).1, (zcP (some (zaY s.h ++ r))).2) = _; rw [h4]; unfold zeO hT; rw [zgc _ _ hs.1, zkr _ _ hs.2.1 hs.2.2.1]; rfl
theorem zhB (f s : Rhs) : ∃ c r, za3 f s = c :: r := by unfold za3; exact zjk _ _
theorem zlz (kind : UInt8) (hk : kind = 8 ∨ kind = 10) (q : Rhs -> Bool) (l : List Rhs) (hl : ∀ s ∈ l, s.ok) : zcR (za6 kind q l) = some ((l.filter q).map Rhs.readF) := by
 rcases l with _ | ⟨f, r⟩
 ·show (if kind = 8 ∨ kind = 10 then zbd [] else none) = _
  rw [if_pos hk]; rfl
 ·have hf := hl f (by simp)
  show (if kind = 8 ∨ kind = 10 then zbd (zaq f ++ ((f :: r).filter q).flatMap (za3 f)) else none) = _; rw [if_pos hk]; obtain ⟨X, hX⟩ := exE (((f :: r).filter q).flatMap (za3 f)); have ai := zgz (za3 f) (zhB f) ((f :: r).filter q)
  have hL := zc3 (zaR f.ref f.t) (za3 f) Rhs.readF Rhs.ok (fun x r hx => (zgu f x hx r).2) (zhB f) ((f :: r).filter q) (zaq f ++ X).length [] (fun x hx => hl x (zmr.1 hx).1) (by rw [zlN, <- hX]; omega); rw [hX] at hL ⊢; obtain ⟨g1, g2⟩ := ze1 f hf X; unfold zbd; rw [zmI (zkB f X), g1, g2]; simp only []; rw [hL]; rfl
def GoodF (f : Rhs) (st : St) : Prop := st = none ∨ ∃ l : List Rhs, (∀ s ∈ l, s.ok) /\ st = some (l.flatMap (za3 f))
theorem zk5 (f : Rhs) (l : List UInt8) (h : GoodF f (some l)) : zdb (some l) /\ GoodF f (zaR f.ref f.t (some l)).2 := by
 rcases h with h | ⟨l', fR, e⟩
 ·cases h
 ·injection e with e
  subst e; rcases l' with _ | ⟨s, l'⟩
  ·show zdb (some []) /\ GoodF f (zaR f.ref f.t (some [])).2
   have e0 : zaH (some []) = (0, none) := rfl; have e1 : zaH none = (0, none) := rfl; have e2 : (zcP none).2 = none := by
    rcases h : (zcP none).2 with _ | l
    ·rfl
    ·obtain ⟨l0, h0, _⟩ := zhp _ _ h
     cases h0
   refine ⟨?_, .inl ?_⟩
   ·unfold zdb
    rw [e0]; show FineF (zaH none).2; rw [e1]; exact ⟨zlX _, zlX _, zlX _, zlX _, fun _ => zlX _⟩
   ·unfold zaR
    rw [e0]; show (zcP (zaH none).2).2 = none; rw [e1]; exact e2
  ·obtain ⟨h1, h2⟩ := zgu f s (fR s (by simp)) (l'.flatMap (za3 f))
   rw [zl1]; exact ⟨h1, .inr ⟨l', fun x hx => fR x (by simp [hx]), by rw [h2]⟩⟩
theorem goodF_rec (kind : UInt8) (q : Rhs -> Bool) (l : List Rhs) (hl : ∀ s ∈ l, s.ok) : ∃ al : St -> Prop,
 (∀ kd rest, za6 kind q l = kd :: rest -> (kd = 8 ∨ kd = 10) -> ∀ l, al (some l) -> zdb (some l) /\ al (zaR (zac (some rest)).1 (zav (zac (some rest)).2).1 (some l)).2) /\
 (∀ kd rest, za6 kind q l = kd :: rest -> (kd = 8 ∨ kd = 10) -> rest ≠ [] -> al (zav (zac (some rest)).2).2) := by
 rcases l with _ | ⟨f, r⟩
 ·refine ⟨fun _ => False, fun _ _ _ _ _ h => h.elim, fun kd rest e _ hr => ?_⟩
  have e2 : [kind] = kd :: rest := e; injection e2 with _ e2; exact absurd e2.symm hr
 ·obtain ⟨X, hX⟩ := exE (((f :: r).filter q).flatMap (za3 f))
  obtain ⟨g1, g2⟩ := ze1 f (hl f (by simp)) X; have he : ∀ kd rest, za6 kind q (f :: r) = kd :: rest -> rest = zaq f ++ X := fun kd rest e => by
   have e2 : kind :: (zaq f ++ ((f :: r).filter q).flatMap (za3 f)) = kd :: rest := e; injection e2 with _ e2; rw [<- e2, hX]
  refine ⟨GoodF f, fun kd rest e _ l' h => ?_, fun kd rest e _ _ => ?_⟩
  ·rw [he kd rest e, g1, g2]
   exact zk5 f l' h
  ·rw [he kd rest e, g2, <- hX]
   exact .inr ⟨_, fun x hx => hl x (zmr.1 hx).1, rfl⟩
theorem zf1 (s : ByteArray) : strOfNums (s.data.toList.map fun b => (b.toNat : Int)) = s := by
 unfold strOfNums; cases s with
 | mk d =>
   congr 1; apply Array.ext'; simp only [List.toList_toArray, zmP]; exact (List.map_congr_left (fun b _ => by simp)).trans (List.map_id _)
theorem decStr (te : TypeId) (pe : Value) (d g : Nat) (cur : Array Value) (st : St) (w : World) (h : Dec te pe w d g cur st) (hn : (gUv st).1 < 9223372036854775808) :
 Calls prog 173 #[.pointer (some ⟨d, 0, none⟩)] w (zb6 te pe w d g cur (.string (zcn st).1) (zcn st).2) := by
 have hB := zid te pe d g cur st w h hn; generalize (zcn st).1 = s at hB ⊢; generalize (zcn st).2 = dU at hB ⊢; clear h hn; unfold zjg at hB; obtain ⟨n, hn⟩ := exE s.data.toList.length; rw [hn] at hB; have HN := zlM hn; have HB := zlM hB; clear hn hB; go_enter func173, ntmps173
 go_wp2_with (go_at_call 203; refine HB.out.mono ?_; rintro r w1 ⟨g', off, c, rfl, bD, aa, hD, hf⟩; have iF := run_convert_bytes_arg (P := prog) w1 44 5 underlying44 underlying5 g' off n c (s.data.toList.map fun b => (b.toNat : Int)) (by rw [zma]; exact HN.out) (fun i hi => by
  rw [aa i _ (zlO (by rw [HN.out]; exact hi))]; rw [<- HN.out] at hi
  simp [List.getD, zlO hi]) 9 underlying9; rw [zf1] at iF; have HD := zlM hD; have HF := zlM hf; clear aa hD hf)
 go_ret; exact ⟨rfl, HD.out, HF.out⟩
def zjc : ByteArray := ⟨#[85, 78, 73, 84]⟩
def zjd : ByteArray := ⟨#[72, 69, 76, 80]⟩
theorem zf0 (s : ByteArray) (d : Array UInt8) : (s.toList == d.toList) = true ↔ s = ⟨d⟩ := by
 rw [beq_iff_eq, Lib.toList_data]; constructor
 ·intro h
  cases s; exact zmC ByteArray.mk (Array.ext' h)
 ·rintro rfl; rfl
theorem zfZ (s : ByteArray) (d : Array UInt8) (h : s ≠ ⟨d⟩) : (s.toList == d.toList) = false := by
 rcases hq : (s.toList == d.toList) with _ | _
 ·rfl
 ·exact absurd ((zf0 s d).1 hq) h
def gFld (p : (ByteArray × ByteArray) × St) : (ByteArray × ByteArray) × St :=
 (if (zcn p.2).1 = zjc then ((zcn (zcn p.2).2).1, p.1.2) else if (zcn p.2).1 = zjd then (p.1.1, (zcn (zcn p.2).2).1) else p.1, (zcn (zcn p.2).2).2)
def zdQ (st : St) : Nat -> (ByteArray × ByteArray) × St
 | 0 => ((⟨#[]⟩, ⟨#[]⟩), st)
 | k + 1 => gFld (zdQ st k)
def ziE (st : St) : St := (gUv (zaC (gUv st).2).2).2
def mtaN (st : St) : Nat := (gUv (zaC (gUv st).2).2).1
def zbf (st : St) : Mta × St :=
 (⟨(gUv st).1, UInt8.ofNat (zaC (gUv st).2).1, (zdQ (ziE st) (mtaN st)).1.1, (zdQ (ziE st) (mtaN st)).1.2⟩, (zdQ (ziE st) (mtaN st)).2)
def zeN (st : St) : Prop := mtaN st <= 4096 /\ ∀ k, k < mtaN st -> (gUv (zdQ (ziE st) k).2).1 < 9223372036854775808 /\ (gUv (zcn (zdQ (ziE st) k).2).2).1 < 9223372036854775808
def zaT (xs : List UInt8) : Option (List Mta) := zbq 6 zbf xs
theorem gByte_lt (st : St) : (zaC st).1 < 256 := by
 rcases st with _ | _ | ⟨b, r⟩
 ·decide
 ·decide
 ·exact b.toNat_lt
theorem gByte_len {st : St} {l : List UInt8} (h : (zaC st).2 = some l) : ∃ l0, st = some l0 /\ l.length < l0.length := by
 rcases st with _ | _ | ⟨b, r⟩
 ·cases h
 ·cases h
 ·have h : some r = some l := h
  injection h with h; subst h; exact ⟨_, rfl, by simp⟩
theorem zkC {st : St} {l : List UInt8} (h : (zcn st).2 = some l) : ∃ l0, st = some l0 /\ l.length <= l0.length := by
 rcases st with _ | l0
 ·have : zcn none = (⟨#[]⟩, none) := rfl
  rw [this] at h; cases h
 ·exact ⟨l0, rfl, (ziL l0 (zcn (some l0)).1 (zcn (some l0)).2 rfl).2 l h⟩
theorem ziN (st : St) : ∀ (k : Nat) (l : List UInt8), (zdQ st k).2 = some l -> ∃ l0, st = some l0 /\ l.length <= l0.length
 | 0, l, h => ⟨l, h, zlY _⟩
 | k + 1, l, h => by
   obtain ⟨l1, h1, e1⟩ := zkC (st := (zcn (zdQ st k).2).2) h; obtain ⟨l2, h2, e2⟩ := zkC h1; obtain ⟨l3, h3, e3⟩ := ziN st k l2 h2; exact ⟨l3, h3, by omega⟩
theorem zjL {l0 l : List UInt8} (h : (zbf (some l0)).2 = some l) : l.length < l0.length := by
 obtain ⟨l1, h1, e1⟩ := ziN _ _ _ h; obtain ⟨l2, h2, e2⟩ := zcc (st := (zaC (gUv (some l0)).2).2) h1; obtain ⟨l3, h3, e3⟩ := gByte_len h2; obtain ⟨l4, h4, e4⟩ := zcc (st := some l0) h3; injection h4 with h4; subst h4; omega
def zci (w : World) (base : Nat) (o : Option Nat) (pre : List Mta) (xs : List UInt8) (r : Ending) (w' : World) : Prop :=
 Fr (fun k => some k = o) w w' /\ match zaT xs with
  | some l => ∃ v', r = .returned (.tuple #[v', .nilIface]) /\ w'.ownsRow base 174 4 v' (pre ++ l).length ((pre ++ l).flatMap Mta.c)
  | none => ∃ t a, r = .returned (.tuple #[.slice none 0 0, .iface t a])
theorem zeA {w w' : World} {base : Nat} {o : Option Nat} {pre : List Mta} {xs : List UInt8} {t : TypeId} {a : Value} (hd : zaT xs = none) (hf : Fr (fun k => some k = o) w w') : zci w base o pre xs (.returned (.tuple #[.slice none 0 0, .iface t a])) w' := by
 unfold zci; rw [hd]; exact ⟨hf, _, _, rfl⟩
theorem zg3 {w w' : World} {base : Nat} {o : Option Nat} {pre : List Mta} {xs : List UInt8} {l : List Mta} {v : Value} (hd : zaT xs = some l) (hf : Fr (fun k => some k = o) w w') (ho : w'.ownsRow base 174 4 v (pre ++ l).length ((pre ++ l).flatMap Mta.c)) : zci w base o pre xs (.returned (.tuple #[v, .nilIface])) w' := by
 unfold zci; rw [hd]; exact ⟨hf, _, rfl, ho⟩
theorem zia (te : TypeId) (pe : Value) (dv : Value) (g base : Nat) (cur : Array Value) (pre : List Mta) (xs : List UInt8) (v sv : Value) (w : World) (h : Rec te pe w g cur xs v) (hx : (zaC (some xs)).1 ≠ 6) :
 Calls prog 81 #[dv, v, sv] w (zci w base sv.ownBlock pre xs) := by
 have hd : zaT xs = none := by
  rcases xs with _ | ⟨b, r⟩
  ·rfl
  ·have : ¬ b = 6 := by rintro rfl; exact hx rfl
   simp [zaT, zbq, this]
 unfold zci; rw [hd]; clear hd; have hD := h.dec; obtain ⟨off, c, rfl, _⟩ := h; have hQ := zbt te pe w.heap.size g cur _ _ hD; have dW : ¬ ((zaC (some xs)).1 : Int) = 6 := by omega
 clear hD hx; generalize (zaC (some xs)).1 = x at hQ dW; generalize (zaC (some xs)).2 = st at hQ; go_enter func81, ntmps81; go_wp2_with (first | (go_at_call 160; refine hQ.mono ?_; rintro r w1 ⟨rfl, cz, ag⟩) | (go_at_call 161; refine (zbR _ _).mono ?_; rintro r w2 ⟨t, a, rfl, ar⟩))
 go_ret2; refine ⟨?_, _, _, rfl⟩; have f1 := (((zmR (fun k => some k = sv.ownBlock) w).alloc (.cells #[.slice (some ⟨g, off, none⟩) xs.length c, .nilIface] 229)).trans ag (fun k hk e => by omega)); exact f1.trans ar (fun _ _ e => e.elim)
theorem zib (al : St -> Prop) (hG : ∀ l, al (some l) -> zeN (some l) /\ al (zbf (some l)).2) (te : TypeId) (pe : Value) (dv : Value) (g base : Nat) (cur : Array Value) (pre : List Mta) (rest : List UInt8) (v sv : Value) (w : World) (h : Rec te pe w g cur (6 :: rest) v) (ho : w.ownsRow base 174 4 sv pre.length (pre.flatMap Mta.c)) (hb : g < base /\ 2 < base /\ base <= w.heap.size) (bj : pre.length <= 1073741824) (aY : al (some rest)) :
 Calls prog 81 #[dv, v, sv] w (zci w base sv.ownBlock pre (6 :: rest)) := by
 obtain ⟨i0, aB, ay, ax, aA⟩ := info_parts info174; have ib := zlM hG; clear hG; have kt := zlM aY; clear aY; have hD := h.dec; obtain ⟨off, c, rfl, _⟩ := h; have hQ := zbt te pe w.heap.size g cur _ _ hD; have e1 : zaC (some (6 :: rest)) = (6, some rest) := rfl; rw [e1] at hQ; have HO := zlM ho; obtain ⟨a', k', rfl⟩ := zaa ho
 have ox : rest.length <= 1099511627776 := by
  obtain ⟨n, off', c', _, _, hn, aR, _⟩ := hD.open_; have := hn _ rfl; simp at this; omega
 obtain ⟨np, fj⟩ := exE pre.length; have lC := zlM fj; rw [fj] at HO bj ⊢; clear hD e1 ho fj; go_enter func81, ntmps81; go_wp2_with (go_at_call 160; refine hQ.mono ?_; rintro r w1 ⟨rfl, cz, ag⟩; refine Hid.out ?_)
 have F1 : Fr (fun k => some k = (Value.slice a' np k').ownBlock) w w1 := ((zmR (fun k => some k = (Value.slice a' np k').ownBlock) w).alloc _).trans ag (fun k hk e => by omega); have O1 : w1.ownsRow base 174 4 (.slice a' np k') np (pre.flatMap Mta.c) := zai (HO.out.alloc _) ag (fun k hk => by have := zar HO.out hk; omega); have bw := F1.size
 have eP : ∀ k, (Value.slice a' np k').ownBlock = some k -> k < w.heap.size := fun k hk => zar HO.out hk; have cd := zlM F1; have dk := zlM O1; have aI := zlM cz; have hN := zlM eP; clear cz ag hQ F1 O1 eP; refine zlM ?_; go_wp2_with fail
 go_loopw [2] (fun sv wr => ∃ (st : St) (acc : List Mta) (j : Nat), Hid (Dec te pe wr w.heap.size g cur st) /\ Hid (wr.ownsRow base 174 4 sv (np + acc.length) ((pre ++ acc).flatMap Mta.c)) /\ Hid (Fr (fun k => some k = (Value.slice a' np k').ownBlock) w wr) /\ Hid (∀ k, sv.ownBlock = some k -> (some k = (Value.slice a' np k').ownBlock ∨ w.heap.size < k)) /\
  Hid (zaj zbf j st acc = zaj zbf rest.length (some rest) []) /\ Hid (∀ l, st = some l -> l.length <= j /\ acc.length + l.length <= rest.length) /\ acc.length <= rest.length + 1 /\ Hid (al st)) (fun _ wr => zic w.heap.size wr)
 case atStart => exact ⟨some rest, [], rest.length, aI, zlM (by simpa using dk.out), cd, zlM (fun k hk => .inl hk.symm), zlM rfl, zlM (fun l hl => by cases hl; simp), by simp, kt⟩
 case round =>
  obtain ⟨st, acc, j, HD, HO, HF, HB, HE, HL, mj, nZ⟩ := hrel; obtain ⟨n6, iw, c6, p0, p1, cQ, aR, hd, hg, h2⟩ := HD.out.open_; have hE := zgO te pe _ _ _ _ _ HD.out; obtain ⟨a6, k6, rfl⟩ := zaa HO.out; rcases st with _ | l
  ·clear cQ p1
   have aJ : zaj zbf rest.length (some rest) [] = (acc, none) := by rw [<- HE.out]; unfold zaj; rcases j with _ | j <;> rfl
   have HR := zlM (show zaT (6 :: rest) = none from zcY aJ); clear aJ; simp only [zjj] at hE; rcases zl9 n6 with rfl | oz
   ·go_wp2_with (go_at_call 119; refine hE.mono ?_; rintro r w7 ⟨rfl, rfl⟩)
    go_ret2; exact zeA HR.out HF.out
   ·have bW : (0 : Int) < (n6 : Int) := by omega
    go_wp2_with (go_at_call 119; refine hE.mono ?_; rintro r w7 ⟨rfl, rfl⟩)
    go_ret2; exact zeA HR.out HF.out
  ·obtain rfl : n6 = l.length := cQ l rfl
   simp only [zjj] at hE; rcases l with _ | ⟨x, r⟩
   ·have aJ : zaj zbf rest.length (some rest) [] = (acc, some []) := by rw [<- HE.out]; unfold zaj; rcases j with _ | j <;> rfl
    have HR := zlM (show zaT (6 :: rest) = some acc from zcX aJ); clear aJ cQ p1; simp only [zmE] at p0; go_wp2_with (go_at_call 119; refine hE.mono ?_; rintro r w7 ⟨rfl, rfl⟩)
    go_ret2; refine zg3 HR.out HF.out ?_; have h := HO.out; rw [zlN, lC.out]; exact h
   ·obtain ⟨n7, bW⟩ := exE ((x :: r).length)
    have lY : (0 : Int) < (n7 : Int) := by rw [<- bW]; simp
    have gj := HL.out _ rfl; have hM := zbr HD.out; rw [bW] at p0 gj hM; have cV := zlw te pe _ _ _ _ _ HD.out; obtain ⟨aW, bR⟩ := ib.out _ nZ.out; have eW := zlM bW; obtain ⟨S0, gM⟩ : ∃ S0 : St, some (x :: r) = S0 := ⟨_, rfl⟩; rw [gM] at cV aW bR; have gZ := zlM gM; have o8 := zlM bR; obtain ⟨hn4, mf⟩ := aW; have HFL := zlM mf
    clear cQ p1 bW gM bR mf; obtain ⟨v0, eY⟩ := exE ((gUv S0).1); obtain ⟨S1, hS1⟩ := exE ((gUv S0).2); rw [eY, hS1] at cV
    go_wp2_with (first
     | (go_at_call 119; refine hE.mono ?_; rintro r w7 ⟨rfl, rfl⟩)
     | (go_at_call 171; refine cV.mono ?_; rintro r w8 ⟨rfl, fE, cJ⟩; refine Hid.out ?_))
    have D8 := zlM fE; have il := zbt te pe _ _ _ _ _ fE; obtain ⟨v1, bT⟩ := exE ((zaC S1).1); obtain ⟨S2, hS2⟩ := exE ((zaC S1).2); rw [bT, hS2] at il; have F8 := zlM cJ; clear fE cJ cV p0; refine zlM ?_; go_wp2_with (go_at_call 160; refine il.mono ?_; rintro r w9 ⟨rfl, ff, ef⟩; refine Hid.out ?_)
    have jI := zbl te pe _ _ _ _ _ ff; obtain ⟨nf, hnf⟩ := exE ((gUv S2).1); obtain ⟨S3, hS3⟩ := exE ((gUv S2).2); have hmn : mtaN S0 = nf := by unfold mtaN; rw [hS1, hS2, hnf]
    have lZ : ziE S0 = S3 := by unfold ziE; rw [hS1, hS2, hS3]
    rw [hmn] at hn4; rw [hmn, lZ] at HFL; rw [hnf, hS3, show i64 nf = (nf : Int) by unfold i64 wrap64; omega] at jI; have F9 := zlM (F8.out.same ef); clear ff ef il D8 F8; refine zlM ?_; go_wp2_with (go_at_call 172; refine jI.mono ?_; rintro r da ⟨rfl, fZ, pS⟩; refine Hid.out ?_)
    have F10 := zlM (F9.out.same pS); have D10 := zlM fZ; clear fZ pS jI F9; have nQ := zlM (zmD eY (zmD hS1 (zmD bT (zmD hS2 (zmD hnf (zmD hS3 (zmD hmn lZ))))))); have hv1l : v1 < 256 := by rw [<- bT]; exact gByte_lt _
    clear eY hS1 bT hS2 hnf hS3 hmn lZ
    have KW : Hid (∀ W, Fr (fun k => k = w.heap.size) wr W -> W.ownsRow base 174 4 (.slice a6 (np + acc.length) k6) (np + acc.length) ((pre ++ acc).flatMap Mta.c) /\ Fr (fun k => some k = (Value.slice a' np k').ownBlock) w W) := zlM (fun W hf => ⟨zai HO.out hf (fun k hk e => by
     rcases HB.out k hk with h | h
     ·have := hN.out k h.symm; omega
     ·omega), HF.out.trans hf (fun k hk e => by omega)⟩)
    refine zlM ?_; go_wp2_with fail
    go_loopw [12, 13, 14] (fun uv hv vi wq => ∃ k : Nat, k <= nf /\ vi = .int .i64 k /\ uv = .string (zdQ S3 k).1.1 /\ hv = .string (zdQ S3 k).1.2 /\ Hid (Dec te pe wq w.heap.size g cur (zdQ S3 k).2) /\ Hid (Fr (fun k => k = w.heap.size) wr wq)) (fun _ _ vi _ => nf - (intOf vi).toNat)
    case atStart => exact ⟨0, zlX _, rfl, rfl, rfl, D10, F10⟩
    case round =>
     obtain ⟨k, hk, rfl, rfl, rfl, JD, JF⟩ := hrel; by_cases hlt : k < nf
     ·obtain ⟨ov, kH⟩ := HFL.out k hlt
      obtain ⟨pk, lU⟩ := exE (zdQ S3 k); have hnx : zdQ S3 (k + 1) = gFld pk := by rw [<- lU]; rfl
      rw [lU] at ov kH JD; have q1 := decStr te pe _ _ _ _ _ JD.out ov; obtain ⟨nm, hnm⟩ := exE ((zcn pk.2).1); obtain ⟨T1, gm⟩ := exE ((zcn pk.2).2); rw [hnm, gm] at q1; rw [gm] at kH; have HU2 := zlM kH; obtain ⟨vl, hvl⟩ := exE ((zcn T1).1); obtain ⟨T2, iK⟩ := exE ((zcn T1).2)
      have q2 : Hid (∀ W, Dec te pe W w.heap.size g cur T1 -> Calls prog 173 #[.pointer (some ⟨w.heap.size, 0, none⟩)] W (zb6 te pe W w.heap.size g cur (.string vl) T2)) := zlM (fun W hW => by have := decStr te pe _ _ _ _ _ hW HU2.out; rwa [hvl, iK] at this)
      have ki : gFld pk = (if nm = zjc then (vl, pk.1.2) else if nm = zjd then (pk.1.1, vl) else pk.1, T2) := by unfold gFld; rw [hnm, gm, hvl, iK]
      obtain ⟨⟨pu, ph⟩, kB⟩ := pk; have jg := zlM (hnx.trans ki); rw [lU]; clear lU hnx hnm gm hvl iK ki ov kH; by_cases hb1 : nm = zjc
      ·have e1 : (nm.toList == [85, 78, 73, 84]) = true := (zf0 nm #[85, 78, 73, 84]).2 hb1
       have cI := zlM hb1; clear hb1
       go_wp2_with (first
        | (go_at_call 173; refine (q2.out _ qK.out).mono ?_; rintro r w12 ⟨rfl, fe, fa⟩; have qJ := zlM fe; have qG := zlM (qH.out.same fa); clear fe fa)
        | (go_at_call 173; refine q1.mono ?_; rintro r ig ⟨rfl, cX, cD⟩; have qK := zlM cX; have qH := zlM (JF.out.same cD); clear cX cD))
       go_roundw
       case rel => exact ⟨k + 1, by omega, by go_num, by rw [jg.out, if_pos cI.out], by rw [jg.out, if_pos cI.out], zlM (by rw [jg.out]; exact qJ.out), qG⟩
       case measure => simp [intOf]; omega
      ·have e1 : (nm.toList == [85, 78, 73, 84]) = false := zfZ nm #[85, 78, 73, 84] hb1
       have cI := zlM hb1; clear hb1; by_cases hb2 : nm = zjd
       ·have e2 : (nm.toList == [72, 69, 76, 80]) = true := (zf0 nm #[72, 69, 76, 80]).2 hb2
        have dm := zlM hb2; clear hb2
        go_wp2_with (first
         | (go_at_call 173; refine (q2.out _ qK.out).mono ?_; rintro r w12 ⟨rfl, fe, fa⟩; have qJ := zlM fe; have qG := zlM (qH.out.same fa); clear fe fa)
         | (go_at_call 173; refine q1.mono ?_; rintro r ig ⟨rfl, cX, cD⟩; have qK := zlM cX; have qH := zlM (JF.out.same cD); clear cX cD))
        go_roundw
        case rel => exact ⟨k + 1, by omega, by go_num, by rw [jg.out, zmI cI.out, if_pos dm.out], by rw [jg.out, zmI cI.out, if_pos dm.out], zlM (by rw [jg.out]; exact qJ.out), qG⟩
        case measure => simp [intOf]; omega
       ·have e2 : (nm.toList == [72, 69, 76, 80]) = false := zfZ nm #[72, 69, 76, 80] hb2
        have dm := zlM hb2; clear hb2
        go_wp2_with (first
         | (go_at_call 173; refine (q2.out _ qK.out).mono ?_; rintro r w12 ⟨rfl, fe, fa⟩; have qJ := zlM fe; have qG := zlM (qH.out.same fa); clear fe fa)
         | (go_at_call 173; refine q1.mono ?_; rintro r ig ⟨rfl, cX, cD⟩; have qK := zlM cX; have qH := zlM (JF.out.same cD); clear cX cD))
        go_roundw
        case rel => exact ⟨k + 1, by omega, by go_num, by rw [jg.out, zmI cI.out, zmI dm.out], by rw [jg.out, zmI cI.out, zmI dm.out], zlM (by rw [jg.out]; exact qJ.out), qG⟩
        case measure => simp [intOf]; omega
     ·obtain rfl : k = nf := by omega
      obtain ⟨pk, lU⟩ := exE (zdQ S3 k); rw [lU] at JD ⊢; obtain ⟨⟨pu, ph⟩, kB⟩ := pk; have HPK := zlM lU; clear lU; simp only []; obtain ⟨OA, FA⟩ := KW.out _ JF.out; have sA := FA.size; have dS := zlM FA; have cU := zlM OA; obtain ⟨q0, q1, q2, q3, q4, q5, q6, q7⟩ := nQ.out; have aZ : zbf S0 = (⟨v0, UInt8.ofNat v1, pu, ph⟩, kB) := by
       unfold zbf; rw [q0, q1, q2, q6, q7, HPK.out]
      have mN : (UInt8.ofNat v1).toNat = v1 := by simp; omega
      obtain ⟨ty, pl⟩ := exE (UInt8.ofNat v1); rw [pl] at aZ mN; subst mN
      have dr : Hid (∀ j', j = j' + 1 -> zaj zbf j' kB (acc ++ [⟨v0, ty, pu, ph⟩]) = zaj zbf rest.length (some rest) []) := zlM (by
       rintro j' rfl; have h := HE.out; have h2 : zaj zbf (j' + 1) (some (x :: r)) acc = zaj zbf j' (zbf (some (x :: r))).2 (acc ++ [(zbf (some (x :: r))).1]) := rfl; rw [h2, gZ.out, aZ] at h
       exact h)
      have b8 : Hid (∀ l, kB = some l -> l.length < n7) := zlM (fun l hl => by
       have h := zjL (l0 := x :: r) (l := l) (by rw [gZ.out, aZ]; exact hl)
       rw [eW.out] at h; exact h)
      have o6 : Hid (al kB) := zlM (by have h := o8.out; rw [aZ] at h; exact h); have gQ : Hid (Dec te pe wr w.heap.size g cur kB) := JD; clear OA FA q0 q1 q2 q3 q4 q5 q6 q7 aZ pl hE
      go_wp2_with (first
       | (at_builtin; refine Hid.out ?_))
      refine zlM ?_
      refine zae _ rfl _ _ 169 169 rfl base 174 i0 _ 4 48 underlying169 aB ay ax aA rfl (by decide) (.slice a6 (np + acc.length) k6) (np + acc.length) ((pre ++ acc).flatMap Mta.c) rfl (cU.out.alloc _) _ 1 (Mta.c ⟨v0, ty, pu, ph⟩) rfl (zaF underlying169 (zmS wr 174 (Mta.c ⟨v0, ty, pu, ph⟩).toArray) rfl (by simp [Mta.c, Value.oneCell'])) (by unfold maxLen; omega) (by omega) (by simp; omega) ?_
      intro v' w2 ac ad aw
      obtain ⟨a9, k9, rfl⟩ := zaa ac
      have aU : ∀ k, (Value.slice a6 (np + acc.length) k6).ownBlock = some k -> base <= k /\ k ≠ w.heap.size := fun k hk => ⟨(cU.out.lt k hk).1, by
       rcases HB.out k hk with h | h
       ·have := hN.out k h.symm; omega
       ·omega⟩
      have iy := ad.size; simp at iy; have fG : Fr (fun k => some k = (Value.slice a6 (np + acc.length) k6).ownBlock) wr w2 := ((zmR (fun k => some k = (Value.slice a6 (np + acc.length) k6).ownBlock) wr).alloc _).grown ad (fun k hk => .inl hk.symm)
      have rD : Dec te pe w2 w.heap.size g cur kB := gQ.out.fr fG (fun e => (aU _ e.symm).2 rfl) (fun e => by have := (aU _ e.symm).1; omega) (fun e => by have := (aU _ e.symm).1; omega); have rO : w2.ownsRow base 174 4 (.slice a9 (np + acc.length + 1) k9) (np + (acc ++ [(⟨v0, ty, pu, ph⟩ : Mta)]).length) ((pre ++ (acc ++ [(⟨v0, ty, pu, ph⟩ : Mta)])).flatMap Mta.c) := by
       rw [<- zlP, zml, zlN, zl3]; simpa [Nat.add_assoc] using ac
      have rF : Fr (fun k => some k = (Value.slice a' np k').ownBlock) w w2 := dS.out.trans fG (fun k hk e => by
       rcases HB.out k e.symm with h | h
       ·exact h
       ·omega)
      have rB : ∀ k, (Value.slice a9 (np + acc.length + 1) k9).ownBlock = some k -> (some k = (Value.slice a' np k').ownBlock ∨ w.heap.size < k) := fun k hk => by
       rcases aw with h | h
       ·exact HB.out k (h ▸ hk)
       ·rw [h] at hk; injection hk with hk; simp at hk; exact .inr (by omega)
      have rM : zic w.heap.size w2 < n7 + 1 := by
       rcases kB with _ | l9
       ·rw [zc8 rD]; omega
       ·rw [zbr rD]; have := b8.out l9 rfl; omega
      have RD := zlM rD; have RO := zlM rO; have RF := zlM rF; have RB := zlM rB; clear rD rO rF rB ac ad aw aU fG; go_wp2; go_roundw
      case rel =>
       obtain ⟨j', rfl⟩ : ∃ j', j = j' + 1 := ⟨j - 1, by have := eW.out; simp at this; omega⟩; refine ⟨kB, acc ++ [⟨v0, ty, pu, ph⟩], j', RD, RO, RF, RB, zlM (dr.out j' rfl), zlM (fun l hl => ?_), by simp; omega, o6⟩; have := b8.out l hl; rw [zlN, zl3]; omega
      case measure => rw [hM]; exact rM
theorem zi3 (al : St -> Prop) (hG : ∀ l, al (some l) -> zeN (some l) /\ al (zbf (some l)).2) (te : TypeId) (pe : Value) (dv : Value) (g base : Nat) (cur : Array Value) (pre : List Mta) (xs : List UInt8) (v sv : Value) (w : World) (h : Rec te pe w g cur xs v) (ho : w.ownsRow base 174 4 sv pre.length (pre.flatMap Mta.c)) (hb : g < base /\ 2 < base /\ base <= w.heap.size) (bj : pre.length <= 1073741824) (aY : ∀ r, xs = 6 :: r -> al (some r)) :
 Calls prog 81 #[dv, v, sv] w (zci w base sv.ownBlock pre xs) := by
 by_cases hx : (zaC (some xs)).1 = 6
 ·rcases xs with _ | ⟨b, rest⟩
  ·exact absurd hx (by decide)
  ·have hb2 : b = 6 := by
    have : b.toNat = (6 : UInt8).toNat := hx; exact UInt8.toNat_inj.1 this
   subst hb2; exact zib al hG te pe dv g base cur pre rest v sv w h ho hb bj (aY _ rfl)
 ·exact zia te pe dv g base cur pre xs v sv w h hx
theorem zfe (s : ByteArray) (r : List UInt8) (h : s.size < 18446744073709551616) : (gUv (some (zaM s ++ r))).1 = s.size := by
 unfold zaM; rw [zlP, zeC s.size h]
theorem zgm (s : Mta) (hs : s.wf) (r : List UInt8) : zeN (some (zca s ++ r)) /\ zbf (some (zca s ++ r)) = (s, some r) := by
 obtain ⟨w1, w2, w3⟩ := hs; obtain ⟨R6, h6⟩ := exE (zaM s.help ++ r); obtain ⟨R5, h5⟩ := exE (zaM zjd ++ R6); obtain ⟨R4, h4⟩ := exE (zaM s.unit ++ R5); obtain ⟨R3, h3⟩ := exE (zaM zjc ++ R4); obtain ⟨R2, h2⟩ := exE (Lib.uvarint 2 ++ R3); have bu : zca s ++ r = Lib.uvarint s.ref ++ (s.ty :: R2) := by
  rw [<- h2, <- h3, <- h4, <- h5, <- h6]; unfold zca zjc zjd; simp only [zlP, List.cons_append]
 rw [bu]; obtain ⟨S, hS⟩ : ∃ S : St, some (Lib.uvarint s.ref ++ (s.ty :: R2)) = S := ⟨_, rfl⟩; rw [hS]; have a1 : gUv S = (s.ref, some (s.ty :: R2)) := by rw [<- hS]; exact zeC s.ref w1 _
 have a2 : zaC (gUv S).2 = (s.ty.toNat, some R2) := by rw [a1]; rfl
 have a3 : gUv (zaC (gUv S).2).2 = (2, some R3) := by rw [a2, <- h2]; exact zeC 2 (by omega) R3
 have n1 : mtaN S = 2 := zmC Prod.fst a3; have n2 : ziE S = some R3 := zmC Prod.snd a3; have b1 : zcn (some R3) = (zjc, some R4) := by rw [<- h3]; exact zdP zjc R4 (by decide)
 have b2 : zcn (some R4) = (s.unit, some R5) := by rw [<- h4]; exact zdP s.unit R5 (by omega)
 have b3 : zcn (some R5) = (zjd, some R6) := by rw [<- h5]; exact zdP zjd R6 (by decide)
 have b4 : zcn (some R6) = (s.help, some r) := by rw [<- h6]; exact zdP s.help r (by omega)
 have f0 : zdQ (some R3) 0 = ((⟨#[]⟩, ⟨#[]⟩), some R3) := rfl; have f1 : zdQ (some R3) 1 = ((s.unit, ⟨#[]⟩), some R5) := by
  show gFld (zdQ (some R3) 0) = _; rw [f0]; unfold gFld; simp only []; rw [b1]; simp only [if_true]; rw [b2]
 have bD : ¬ zjd = zjc := by decide
 have f2 : zdQ (some R3) 2 = ((s.unit, s.help), some r) := by
  show gFld (zdQ (some R3) 1) = _; rw [f1]; unfold gFld; simp only []; rw [b3]; simp only [zmI bD, if_true]; rw [b4]
 refine ⟨⟨by rw [n1]; omega, fun k hk => ?_⟩, ?_⟩
 ·rw [n1] at hk
  rw [n2]; obtain rfl | rfl : k = 0 ∨ k = 1 := by omega
  ·rw [f0]
   show (gUv (some R3)).1 < _ /\ (gUv (zcn (some R3)).2).1 < _; rw [b1]; show (gUv (some R3)).1 < _ /\ (gUv (some R4)).1 < _; rw [<- h3, zfe _ _ (by decide), <- h4, zfe _ _ (by omega)]; exact ⟨by decide, by omega⟩
  ·rw [f1]
   show (gUv (some R5)).1 < _ /\ (gUv (zcn (some R5)).2).1 < _; rw [b3]; show (gUv (some R5)).1 < _ /\ (gUv (some R6)).1 < _; rw [<- h5, zfe _ _ (by decide), <- h6, zfe _ _ (by omega)]; exact ⟨by decide, by omega⟩
 ·unfold zbf
  rw [n1, n2, f2, a2, a1]; simp
theorem zlr (s : Mta) : ∃ c r, zca s = c :: r := by
 have := Lib.uvarint_pos s.ref; unfold zca; rcases h : Lib.uvarint s.ref with _ | ⟨c, t⟩
 ·rw [h] at this; simp at this
 ·exact ⟨c, _, rfl⟩
theorem zi2 (l : List Mta) (hl : ∀ s ∈ l, s.wf) : zaT (zbL l) = some l := by
 unfold zaT zbL; exact zel 6 zbf zca Mta.wf (fun x r hx => (zgm x hx r).2) zlr l hl
def GoodM (st : St) : Prop := st = none ∨ ∃ l : List Mta, (∀ s ∈ l, s.wf) /\ st = some (l.flatMap zca)
theorem zk4 (l : List UInt8) (h : GoodM (some l)) : zeN (some l) /\ GoodM (zbf (some l)).2 := by
 rcases h with h | ⟨l', fR, e⟩
 ·cases h
 ·injection e with e
  subst e; rcases l' with _ | ⟨s, l'⟩
  ·show zeN (some []) /\ GoodM (zbf (some [])).2
   have e0 : mtaN (some []) = 0 := rfl; exact ⟨⟨by rw [e0]; omega, fun k hk => by rw [e0] at hk; omega⟩, .inl rfl⟩
  ·obtain ⟨h1, h2⟩ := zgm s (fR s (by simp)) (l'.flatMap zca)
   rw [zl1]; exact ⟨h1, .inr ⟨l', fun x hx => fR x (by simp [hx]), by rw [h2]⟩⟩
theorem goodM_rec (l : List Mta) (hl : ∀ s ∈ l, s.wf) (r : List UInt8) (e : zbL l = 6 :: r) : GoodM (some r) := by
 have e2 : 6 :: l.flatMap zca = 6 :: r := e; injection e2 with _ e2; exact .inr ⟨l, hl, by rw [e2]⟩
def zhd (s : Ser) : Prop := s.ref < 18446744073709551616 /\ s.labs.length <= 12 /\ (∀ p ∈ s.labs, p.1.size <= 600 /\ p.2.size <= 600) /\ s.labs.Pairwise (fun a b => a.1 ≠ b.1)
def zbX (s : Ser) : List UInt8 := Lib.beBytes 8 s.ref ++ zbj (zaE s.labs)
def zb4 (l : List Ser) : List UInt8 := 1 :: l.flatMap zbX
theorem za1 {α : Type} (f : α -> List UInt8) (m : Nat) : ∀ l : List α, (∀ x ∈ l, (f x).length <= m) -> (l.flatMap f).length <= l.length * m
 | [], _ => by simp
 | x :: l, hf => by
   have h1 := za1 f m l (fun y hy => hf y (zmL _ hy)); have h2 := hf x (zmF ..); rw [zl1, zlN, zl4, Nat.add_mul]; omega
theorem zgG (s : ByteArray) (h : s.size < 18446744073709551616) : (zaM s).length <= 10 + s.size := by
 have := zl2 h; rw [zaM, zlN, <- zmG]; omega
theorem ze6 (l : List Lab) (hl : l.length <= 12) (hs : ∀ p ∈ l, p.1.size <= 600 /\ p.2.size <= 600) : (zbj l).length <= 14650 := by
 have h0 := zl2 (x := l.length) (by omega)
 have h1 := za1 zbN 1220 l (fun p hp => by
  have := hs p hp; have a1 := zgG p.1 (by omega); have a2 := zgG p.2 (by omega)
  rw [zbN, zlN]; omega)
 have h2 : l.length * 1220 <= 12 * 1220 := zlZ _ hl; rw [zbj, zlN]; omega
theorem zhz (s : Ser) (h : zhd s) : (zbX s).length <= 20000 := by
 have hp := (zb0 ltL zc5 zcC zcB s.labs).2; have := ze6 (zaE s.labs) (by rw [zaZ]; exact h.2.1) (fun p hm => h.2.2.1 p (hp.mem_iff.mp hm)); rw [zbX, zlN, zlW]; omega
theorem zj5 (ep : Value) (sv : Value) (P : Nat -> Prop) (v : Value) (xs : List UInt8) (l : List Ser) (w : World) (h : Sl P w sv 2 l.length (l.flatMap sero)) (ab : w.ownsRow 0 5 1 v xs.length (bc xs)) (hl : xs.length <= 536870912)
 (au : l.length <= 12) (aF : ∀ s ∈ l, zhd s) (hP : ∀ g, P g -> g < w.heap.size /\ some g ≠ v.ownBlock) :
 Calls prog 91 #[ep, sv, v] w (zbT w v.ownBlock (xs ++ zb4 l)) := by
 obtain ⟨A, c, rfl, ai, aR, hr⟩ := h; obtain ⟨a', n', k', rfl⟩ := zab ab; obtain ⟨n, hn⟩ := exE l.length; rw [hn] at aR hr au ⊢; have hE := Enc.made (z := .int .u8 0) ab _ rfl; have hQ := zcs w.heap.size _ xs 1 _ hE (by omega); have e2 : ((1 : UInt8).toNat : Int) = 1 := rfl; rw [e2] at hQ; have HN := zlM hn; have HR := zlM hr; have HP := zlM hP; have HE := zlM hE
 clear hE hr e2 hn ai hP; go_enter func91, ntmps91; go_wp2_with (go_at_call 180; refine hQ.mono ?_; rintro r1 w1 ⟨rfl, R⟩; refine Hid.out ?_)
 have cY := zlM R; clear R hQ; refine zlM ?_; go_wp2_with fail
 have cS : Fr (fun k => some k = (Value.slice a' n' k').ownBlock) w (w.alloc (.cells #[.slice a' n' k', .int .u8 0, .int .u8 0, .int .u8 0, .int .u8 0, .int .u8 0, .int .u8 0, .int .u8 0, .int .u8 0, .int .u8 0, .int .u8 0] 224)) := (zmR _ w).alloc _; generalize eh : w.alloc _ = WB at HE cY cS; have hB : w.heap.size < WB.heap.size := by rw [<- eh]; simp
 clear eh; have dJ := zlM cS; clear cS; go_loopw [15] (fun i wr => ∃ k : Nat, k <= n /\ i = .int .i64 k /\ Put WB w.heap.size (Value.slice a' n' k').ownBlock xs ([1] ++ (l.take k).flatMap zbX) wr) (fun i _ => n - (intOf i).toNat)
 case atStart => exact ⟨0, zlX _, rfl, by simpa using cY.out⟩
 case round =>
  obtain ⟨k, hk, rfl, R⟩ := hrel; by_cases hlt : k < n
  ·obtain ⟨g, off, rfl, fX, aa⟩ := HR.out (by omega)
   have hg := HP.out g fX; obtain ⟨x, hx⟩ : ∃ x, l[k]? = some x := ⟨_, zlO (by rw [HN.out]; exact hlt)⟩; have eX := aF x (zlU hx)
   have dP : Fr (fun k => some k = (Value.slice a' n' k').ownBlock) w wr := dJ.out.trans R.fr (fun k hk e => by
    rcases e with e | e
    ·omega
    ·exact e)
   have cc : ∀ j, j < 2 -> ∀ u, (sero x)[j]? = some u -> wr.cell? ⟨g, off + (k * 2 + j), none⟩ = some u := fun j hj u hu => by
    have := aa (k * 2 + j) u (by rw [zbB sero (fun _ => rfl) l k x hx j hj]; exact hu); rw [dP.cell (p := ⟨g, off + (k * 2 + j), none⟩) hg.1 hg.2]; exact this
   have d0 : wr.cell? ⟨g, off + k * 2, none⟩ = some (.int .u64 x.ref) := cc 0 (by omega) _ rfl; have d1 : wr.cell? ⟨g, off + k * 2 + 1, none⟩ = some (.string (zat (zaE x.labs))) := cc 1 (by omega) _ rfl; have bE : ([(1 : UInt8)] ++ (l.take k).flatMap zbX).length <= 1 + k * 20000 := by
    have h1 := za1 zbX 20000 (l.take k) (fun s hs => zhz s (aF s (zmJ hs))); have h2 : (l.take k).length <= k := zmM _ _; have h3 : (l.take k).length * 20000 <= k * 20000 := zlZ _ h2; rw [zlN, zl3]; omega
   have cC : k * 20000 <= 12 * 20000 := zlZ _ (by omega); obtain ⟨Y, hY⟩ := exE ([(1 : UInt8)] ++ (l.take k).flatMap zbX); rw [hY] at bE; rw [hY] at R; have HY := zlM hY; have HX := zlM hx; obtain ⟨st, aZ⟩ := exE (zat (zaE x.labs)); rw [aZ] at d1; have dj := zmS wr 127 #[.int .u64 x.ref, .string st]
   have RA := R.alloc (.cells #[.int .u64 x.ref, .string st] 127); have cZ := zlM dj; have bU := zlM RA; have kD : Y.length <= 240001 := by omega
   have HW := zlM eX
   have rk := zlM (fun (e : Nat) (o : Option Nat) (zs : List UInt8) (W : World) (h : Enc W e o zs) (hz : zs.length <= 1073741824) => by
    have := zd5 e o zs (zaE x.labs) W h hz (by rw [zaZ]; have := eX.2.1; omega) (fun p hp => by have := eX.2.2.1 p ((zb0 ltL zc5 zcC zcB x.labs).2.mem_iff.mp hp); omega); rw [aZ] at this
    exact this)
   clear hx dP cc dj aa hY R RA bE cC aF eX aZ
   go_wp2_with (first
    | (go_at_call 181; refine (zaf bU.out (f := 181) (args := #[.pointer (some ⟨w.heap.size, 0, none⟩), .int .u64 x.ref]) (zs := Lib.beBytes 8 x.ref) (fun o2 he => zct _ o2 _ _ HW.out.1 _ he (by rw [zlN]; omega))).mono ?_; rintro rA wA ⟨rfl, R1, K1⟩
       have av := K1.out _ _ _ (by decide) (by decide) cZ.out; have p1 := av.cell 1; have bd := zlM R1; have bz : (Y ++ Lib.beBytes 8 x.ref).length <= 240009 := by rw [zlN, zlW]; omega
       clear R1 K1 av)
    | (go_at_call 115; refine (zaf bd.out (f := 115) (args := #[.pointer (some ⟨w.heap.size, 0, none⟩), .agg #[.string st]]) (zs := zbj (zaE x.labs)) (fun o2 he => rk.out _ o2 _ _ he (by rw [zlN]; omega))).mono ?_; rintro rB wB ⟨rfl, R1, K1⟩
       have bY := zlM R1
       clear R1 K1 bd))
   have RE : Put WB w.heap.size (Value.slice a' n' k').ownBlock xs ([1] ++ (l.take (k + 1)).flatMap zbX) wB := by
    rw [zal zbX l k x HX.out, <- zlP, HY.out]; simpa [zbX, zlP] using bY.out
   have cT := zlM RE; clear RE bY; go_wp2; go_roundw
   case rel => exact ⟨k + 1, by omega, by go_num, cT.out⟩
   case measure => simp [intOf]; omega
  ·obtain rfl : k = n := by omega
   obtain ⟨oZ, dD, ee, fP⟩ := R; have hG := zd7 _ _ _ _ dD; have HEZ := zlM dD; have HZ := zlM ee; clear dD ee; go_wp2_with (go_at_call 116; refine hG.mono ?_; rintro rr w2 ⟨v2, rfl, rfl, af, bz⟩)
   go_ret; refine ⟨v2, rfl, ?_, dJ.out.trans HZ.out (fun k hk e => ?_), ?_⟩
   ·have e1 : l.take k = l := zlV (by rw [HN.out]; exact zlY _)
    rw [e1] at af; simpa [zb4] using af
   ·rcases e with e | e
    ·omega
    ·exact e
   ·rw [bz]
    rcases fP with h | ⟨k2, h, cR⟩
    ·exact .inl h
    ·exact .inr ⟨k2, h, by omega⟩
def zfJ (s : Exm) : Prop := s.ref < 18446744073709551616 /\ -9223372036854775808 <= s.t /\ s.t <= 9223372036854775807 /\ s.v < 18446744073709551616 /\ s.labs.length <= 12 /\ (∀ p ∈ s.labs, p.1.size <= 600 /\ p.2.size <= 600) /\ s.labs.Pairwise (fun a b => a.1 ≠ b.1)
def xRef (f s : Exm) : Int := wrap64 (wrap64 s.ref - wrap64 f.ref)
def xT (f s : Exm) : Int := wrap64 (s.t - f.t)
def zbp (f s : Exm) : List UInt8 := Lib.uvarint (Lib.zigzag (xRef f s)) ++ (Lib.uvarint (Lib.zigzag (xT f s)) ++ (Lib.beBytes 8 s.v ++ zbj (zaE s.labs)))
def zbK (f : Exm) : List UInt8 := Lib.beBytes 8 f.ref ++ Lib.beBytes 8 (u64 f.t)
def encXs : List Exm -> List UInt8
 | [] => []
 | f :: r => zbK f ++ (f :: r).flatMap (zbp f)
theorem zhF (f s : Exm) (h : zfJ s) : (zbp f s).length <= 20000 := by
 have hp := (zb0 ltL zc5 zcC zcB s.labs).2; have h0 := ze6 (zaE s.labs) (by rw [zaZ]; exact h.2.2.2.2.1) (fun p hm => h.2.2.2.2.2.1 p (hp.mem_iff.mp hm)); have h1 := zdY (xRef f s) (zad _).1 (zad _).2; have h2 := zdY (xT f s) (zad _).1 (zad _).2; simp only [zbp, zlN, zlW]; omega
theorem zlp (ep : Value) (sv : Value) (P : Nat -> Prop) (e : Nat) (o : Option Nat) (xs : List UInt8) (f : Exm) (r : List Exm) (w : World) (h : Sl P w sv 4 (r.length + 1) ((f :: r).flatMap exo)) (hE : Enc w e o xs) (hl : xs.length <= 536870913)
 (au : r.length + 1 <= 12) (aF : ∀ s ∈ f :: r, zfJ s) (hP : ∀ g, P g -> g < w.heap.size /\ ¬ (g = e ∨ some g = o)) :
 Calls prog 184 #[ep, sv, .pointer (some ⟨e, 0, none⟩)] w (zb5 w e o xs (encXs (f :: r))) := by
 obtain ⟨A, c, rfl, ai, aR, hr⟩ := h; obtain ⟨n, hn⟩ := exE (r.length + 1); rw [hn] at aR hr au ⊢; obtain ⟨g, off, rfl, fX, aa⟩ := hr (by omega); have hg := hP g fX; have HN := zlM hn; have c0 : w.cell? ⟨g, off, none⟩ = some (.int .u64 f.ref) := by simpa using aa 0 _ rfl
 have c1 : w.cell? ⟨g, off + 1, none⟩ = some (.int .i64 f.t) := aa 1 _ rfl; have c2 : w.cell? ⟨g, off + 2, none⟩ = some (.float .f64 f.v) := aa 2 _ rfl; have c3 : w.cell? ⟨g, off + 3, none⟩ = some (.string (zat (zaE f.labs))) := aa 3 _ rfl; obtain ⟨sf, pr⟩ := exE (zat (zaE f.labs)); rw [pr] at c3; have eP : (0 : Int) < (n : Int) := by omega
 have dY := zlM aa; have pw := zbA
 have hBF := zmS w 157 #[.int .u64 f.ref, .int .i64 f.t, .float .f64 f.v, .string sf]; have R0 := Put.refl (hE.alloc (.cells #[.int .u64 f.ref, .int .i64 f.t, .float .f64 f.v, .string sf] 157)); have hEA := hE.alloc (.cells #[.int .u64 f.ref, .int .i64 f.t, .float .f64 f.v, .string sf] 157); have HEA := zlM hEA; have kb := zlM hBF; have nV := zlM R0
 have elt : e < w.heap.size := by obtain ⟨_, _, hb, _⟩ := hE; exact hb.lt
 have HE := zlM hE; have pc := aF f (zmF ..); have HW0 := zlM pc; clear hr hn ai aa hBF R0 hEA hE pc pr; go_enter func184, ntmps184
 go_wp2_with (go_at_call 181; refine (zaf nV.out (f := 181) (args := #[.pointer (some ⟨e, 0, none⟩), .int .u64 f.ref]) (zs := Lib.beBytes 8 f.ref) (fun o2 he => zct _ o2 _ _ HW0.out.1 _ he (by rw [zlN, zmE]; omega))).mono ?_; rintro r1 w1 ⟨rfl, R1, K1⟩; refine Hid.out ?_)
 have av := K1.out _ _ _ (by decide) (by decide) kb.out; have b0 := av.cell 0; have b1 := av.cell 1; simp at b0 b1; have cI := zlM av; have cY := zlM R1; clear av R1 K1 c0 c1 c2 c3; refine zlM ?_
 go_wp2_with (go_at_call 182; refine (zaf cY.out (f := 182) (args := #[.pointer (some ⟨e, 0, none⟩), .int .i64 f.t]) (zs := Lib.beBytes 8 (u64 f.t)) (fun o2 he => zdk _ o2 _ f.t _ he (by simp [zlW]; omega))).mono ?_; rintro r2 w2 ⟨rfl, R2, K2⟩; refine Hid.out ?_)
 have bh := K2.out _ _ _ (by decide) (by decide) cI.out; have bd := zlM R2; clear bh R2 K2 b0 b1 cI cY; refine zlM ?_; go_wp2_with fail
 have cS : Fr (fun k => k = e ∨ some k = o) w (w.alloc (.cells #[.int .u64 f.ref, .int .i64 f.t, .float .f64 f.v, .string sf] 157)) := (zmR _ w).alloc _; have hws : w.heap.size < (w.alloc (.cells #[.int .u64 f.ref, .int .i64 f.t, .float .f64 f.v, .string sf] 157)).heap.size := by simp
 clear nV; generalize eh : w.alloc (.cells #[.int .u64 f.ref, .int .i64 f.t, .float .f64 f.v, .string sf] 157) = WB at bd HEA kb cS hws; clear eh; have dJ := zlM cS; clear cS; go_loopw [22] (fun i wr => ∃ k : Nat, k <= n /\ i = .int .i64 k /\ Put WB e o xs (zbK f ++ ((f :: r).take k).flatMap (zbp f)) wr) (fun i _ => n - (intOf i).toNat)
 case atStart => exact ⟨0, zlX _, rfl, by simpa [zbK] using bd.out⟩
 case round =>
  obtain ⟨k, hk, rfl, R⟩ := hrel; by_cases hlt : k < n
  ·obtain ⟨x, hx⟩ : ∃ x, (f :: r)[k]? = some x := ⟨_, zlO (by rw [zl4, HN.out]; exact hlt)⟩
   have eX := aF x (zlU hx); have dP : Fr (fun k => k = e ∨ some k = o) w wr := dJ.out.trans R.fr (fun k hk h => h); have cc : ∀ j, j < 4 -> ∀ u, (exo x)[j]? = some u -> wr.cell? ⟨g, off + (k * 4 + j), none⟩ = some u := fun j hj u hu => by
    rw [dP.cell (p := ⟨g, off + (k * 4 + j), none⟩) hg.1 hg.2]; exact dY.out (k * 4 + j) u (by rw [zdB exo (fun _ => rfl) (f :: r) k x hx j hj]; exact hu)
   have d0 : wr.cell? ⟨g, off + k * 4, none⟩ = some (.int .u64 x.ref) := cc 0 (by omega) _ rfl; have d1 : wr.cell? ⟨g, off + k * 4 + 1, none⟩ = some (.int .i64 x.t) := cc 1 (by omega) _ rfl; have d2 : wr.cell? ⟨g, off + k * 4 + 2, none⟩ = some (.float .f64 x.v) := cc 2 (by omega) _ rfl; have d3 : wr.cell? ⟨g, off + k * 4 + 3, none⟩ = some (.string (zat (zaE x.labs))) := cc 3 (by omega) _ rfl
   have kn := R.blk HEA.out kb.out (by decide) (by decide); have b0 := kn.cell 0; have b1 := kn.cell 1; simp at b0 b1; have hws2 := kn.lt; have bE : (zbK f ++ ((f :: r).take k).flatMap (zbp f)).length <= 16 + k * 20000 := by
    have h1 := za1 (zbp f) 20000 ((f :: r).take k) (fun s hs => zhF f s (aF s (zmJ hs))); have h2 : ((f :: r).take k).length <= k := zmM _ _; have h3 : ((f :: r).take k).length * 20000 <= k * 20000 := zlZ _ h2; have h4 : (zbK f).length = 16 := by simp [zbK, zlW]
    rw [zlN, h4]; omega
   have cC : k * 20000 <= 12 * 20000 := zlZ _ (by omega); obtain ⟨Y, hY⟩ := exE (zbK f ++ ((f :: r).take k).flatMap (zbp f)); rw [hY] at bE; rw [hY] at R; have HY := zlM hY; have HX := zlM hx; obtain ⟨st, aZ⟩ := exE (zat (zaE x.labs)); rw [aZ] at d3; have dj := zmS wr 157 #[.int .u64 x.ref, .int .i64 x.t, .float .f64 x.v, .string st]
   have RA := R.alloc (.cells #[.int .u64 x.ref, .int .i64 x.t, .float .f64 x.v, .string st] 157); have dL := zlM (kn.alloc (.cells #[.int .u64 x.ref, .int .i64 x.t, .float .f64 x.v, .string st] 157)); have cZ := zlM dj; have bU := zlM RA; have kD : Y.length <= 240016 := by omega
   have HW := zlM eX
   have rk := zlM (fun (e : Nat) (o : Option Nat) (zs : List UInt8) (W : World) (h : Enc W e o zs) (hz : zs.length <= 1073741824) => by
    have := zd5 e o zs (zaE x.labs) W h hz (by rw [zaZ]; have := eX.2.2.2.2.1; omega) (fun p hp => by have := eX.2.2.2.2.2.1 p ((zb0 ltL zc5 zcC zcB x.labs).2.mem_iff.mp hp); omega); rw [aZ] at this
    exact this)
   obtain ⟨Q1, ei⟩ := exE (Lib.uvarint (Lib.zigzag (xRef f x))); obtain ⟨Q2, dh⟩ := exE (Lib.uvarint (Lib.zigzag (xT f x))); have jA := zdY (xRef f x) (zad _).1 (zad _).2; have jz := zdY (xT f x) (zad _).1 (zad _).2; rw [ei] at jA; rw [dh] at jz; have gp := zlM ei; have eU := zlM dh; have hr8 := ziw
   clear hx dP cc dj kn hY R RA bE cC aF eX aZ ei dh dY
   go_wp2_with (first
    | (go_at_call 183; refine (zaf bU.out (f := 183) (args := #[.pointer (some ⟨e, 0, none⟩), .int .i64 (xRef f x)]) (zs := Q1) (fun o2 he => by have := zax _ o2 _ (xRef f x) (zad _).1 (zad _).2 _ he (by rw [zlN]; omega); rw [gp.out] at this; exact this)).mono ?_; rintro rA wA ⟨rfl, R1, K1⟩
       have av := K1.out _ _ _ (by decide) (by decide) cZ.out; have bh := K1.out _ _ _ (by decide) (by decide) dL.out; have p1 := av.cell 1; have q1 := bh.cell 1; simp at p1 q1; have dG := zlM av; have bd := zlM R1; have bz : (Y ++ Q1).length <= 240026 := by rw [zlN]; omega
       clear R1 K1 av bh bU b0 b1)
    | (go_at_call 183; refine (zaf bd.out (f := 183) (args := #[.pointer (some ⟨e, 0, none⟩), .int .i64 (xT f x)]) (zs := Q2) (fun o2 he => by have := zax _ o2 _ (xT f x) (zad _).1 (zad _).2 _ he (by rw [zlN]; omega); rw [eU.out] at this; exact this)).mono ?_; rintro rB wB ⟨rfl, R1, K1⟩
       have av := K1.out _ _ _ (by decide) (by decide) dG.out; have p2 := av.cell 2; simp at p2; have rR := zlM av; have bC := zlM R1; have dn : (Y ++ Q1 ++ Q2).length <= 240036 := by rw [zlN]; omega
       clear R1 K1 av p1 q1 bd bz dG)
    | (go_at_call 181; refine (zaf bC.out (f := 181) (args := #[.pointer (some ⟨e, 0, none⟩), .int .u64 x.v]) (zs := Lib.beBytes 8 x.v) (fun o2 he => zct _ o2 _ _ HW.out.2.2.2.1 _ he (by rw [zlN]; omega))).mono ?_; rintro rC wC ⟨rfl, R1, K1⟩
       have av := K1.out _ _ _ (by decide) (by decide) rR.out; have p3 := av.cell 3; simp at p3; have jR := zlM R1; have pd : (Y ++ Q1 ++ Q2 ++ Lib.beBytes 8 x.v).length <= 240044 := by rw [zlN, zlW]; omega
       clear R1 K1 av p2 bC dn rR)
    | (go_at_call 115; refine (zaf jR.out (f := 115) (args := #[.pointer (some ⟨e, 0, none⟩), .agg #[.string st]]) (zs := zbj (zaE x.labs)) (fun o2 he => rk.out _ o2 _ _ he (by rw [zlN]; omega))).mono ?_; rintro rD wD ⟨rfl, R1, K1⟩
       have bY := zlM R1
       clear R1 K1 jR))
   have RE : Put WB e o xs (zbK f ++ ((f :: r).take (k + 1)).flatMap (zbp f)) wD := by
    rw [zal (zbp f) (f :: r) k x HX.out, <- zlP, HY.out]; unfold zbp; rw [gp.out, eU.out]; simpa [zlP] using bY.out
   have cT := zlM RE; clear RE bY; go_wp2; go_roundw
   case rel => exact ⟨k + 1, by omega, by go_num, cT.out⟩
   case measure => simp [intOf]; omega
  ·obtain rfl : k = n := by omega
   go_wp2; go_end0; have e1 : (f :: r).take k = f :: r := zlV (by rw [zl4, HN.out]; exact zlY _); rw [e1] at R; obtain ⟨oZ, dD, ee, fP⟩ := R; refine ⟨rfl, oZ, dD, dJ.out.trans ee (fun k hk h => h), ?_⟩; rcases fP with h | ⟨k2, h, cR⟩
   ·exact .inl h
   ·exact .inr ⟨k2, h, by omega⟩
def zbD (l : List Exm) : List UInt8 := 4 :: encXs l
theorem zj7 (ep : Value) (sv : Value) (P : Nat -> Prop) (v : Value) (xs : List UInt8) (l : List Exm) (w : World) (h : Sl P w sv 4 l.length (l.flatMap exo)) (ab : w.ownsRow 0 5 1 v xs.length (bc xs)) (hl : xs.length <= 536870912)
 (au : l.length <= 12) (aF : ∀ s ∈ l, zfJ s) (hP : ∀ g, P g -> g < w.heap.size /\ some g ≠ v.ownBlock) :
 Calls prog 94 #[ep, sv, v] w (zbT w v.ownBlock (xs ++ zbD l)) := by
 have hsv : ∃ A m c, sv = .slice A m c := let ⟨A, c, h, _⟩ := h; ⟨A, _, c, h⟩
 have HS := zlM h; obtain ⟨A, c, rfl, ai, aR, hr⟩ := h; obtain ⟨a', n', k', rfl⟩ := zab ab; have hE := Enc.made (z := .int .u8 0) ab _ rfl; have hQ := zcs w.heap.size _ xs 4 _ hE (by omega); have e2 : ((4 : UInt8).toNat : Int) = 4 := rfl; rw [e2] at hQ; have HE := zlM hE; clear hE e2 ai hr hsv
 have cS : Fr (fun k => some k = (Value.slice a' n' k').ownBlock) w (w.alloc (.cells #[.slice a' n' k', .int .u8 0, .int .u8 0, .int .u8 0, .int .u8 0, .int .u8 0, .int .u8 0, .int .u8 0, .int .u8 0, .int .u8 0, .int .u8 0] 224)) := (zmR _ w).alloc _; have dJ := zlM cS; clear cS; rcases l with _ | ⟨f, r⟩
 ·go_enter func94, ntmps94
  go_wp2_with (first | (go_at_call 180; refine hQ.mono ?_; rintro r1 w1 ⟨rfl, R⟩; obtain ⟨o1, eJ, ag, dN⟩ := R; have hG := zd7 _ _ _ _ eJ) | (go_at_call 116; refine hG.mono ?_; rintro r w2 ⟨v2, rfl, rfl, af, bz⟩))
  go_ret; refine ⟨v2, rfl, by simpa [zbD, encXs] using af, zdl (o1 := o1) ag, ?_⟩; rw [bz]; rcases dN with h | ⟨k, h, hk⟩
  ·exact .inl h
  ·exact .inr ⟨k, h, by simp at hk; omega⟩
 ·obtain ⟨n, hn⟩ := exE ((f :: r).length)
  have hn2 : n = r.length + 1 := by rw [<- hn]; rfl
  have HN := zlM hn2; rw [hn] at HS aR au ⊢; have fQ : ((n : Int) == 0) = false := by simp; omega
  have HP := zlM hP; have HW := zlM aF; clear hn hn2 hP aF; go_enter func94, ntmps94
  go_wp2_with (first
   | (go_at_call 180; refine hQ.mono ?_; rintro r1 w1 ⟨rfl, R⟩
      have hws : w.heap.size < w1.heap.size := by have := R.fr.size; simp at this; omega
      obtain ⟨o1, eJ, ag, dN⟩ := R; have hB : ∀ g, P g -> g < w1.heap.size /\ ¬ (g = w.heap.size ∨ some g = o1) := fun g hg => by
       have h1 := HP.out g hg; refine ⟨by omega, ?_⟩; rintro (rfl | h)
       ·omega
       ·rcases dN with h2 | ⟨k, h2, hk⟩
        ·exact h1.2 (h.trans h2)
        ·rw [h2] at h; injection h with h; simp at hk; omega
      have dI := zdl (o1 := o1) ag; have ny := HS.out.fr dI (fun g hg => (HP.out g hg).2); rw [HN.out] at ny; have hX := zlp ep (.slice A n c) P w.heap.size o1 (xs ++ [4]) f r w1 (by rw [HN.out]; exact ny) eJ (by rw [zlN, zl3]; omega) (by have := HN.out; omega) HW.out hB; have cd := zlM dI; have dk := zlM dN
      clear ny hB dI dN ag eJ)
   | (go_at_call 184; refine hX.mono ?_; rintro r2 w2 ⟨rfl, oZ, dD, ee, fP⟩; have hG := zd7 _ _ _ _ dD; have HZ := zlM ee; clear hX ee)
   | (go_at_call 116; refine hG.mono ?_; rintro r w3 ⟨v2, rfl, rfl, af, bz⟩))
  go_ret; refine ⟨v2, rfl, by simpa [zbD, zlP] using af, cd.out.trans HZ.out (fun k hk e => ?_), ?_⟩
  ·rcases e with e | e
   ·omega
   ·rcases dk.out with h2 | ⟨k2, h2, cR⟩
    ·rw [e, h2]
    ·rw [h2] at e; injection e with e; simp at cR; omega
  ·rw [bz]
   rcases fP with h | ⟨k2, h, cR⟩
   ·rw [h]
    rcases dk.out with h2 | ⟨k3, h2, hk3⟩
    ·exact .inl h2
    ·exact .inr ⟨k3, h2, by simp at hk3; omega⟩
   ·exact .inr ⟨k2, h, by omega⟩
end Go.Proofs.YtbkookiigkckdaaGreatDoor
