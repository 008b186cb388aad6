/- Texts of this seat, merged and shortened. -/
import Derived.Test.YtbkookiigkckdaaGreatDoorKC13
import Derived.Laws.BytesArg
set_option linter.unusedVariables false
set_option linter.unusedSimpArgs false
set_option maxRecDepth 100000
set_option maxHeartbeats 8000000
namespace Go.Proofs.YtbkookiigkckdaaGreatDoor
open Go.RowKit Go.Proofs.Tryz
def za7 (s : Rhs) : Bool := s.h.schema == -53
theorem Put.grown {w w1 w2 : World} {e : Nat} {o : Option Nat} {xs ys : List UInt8} {base te z n : Nat} {r : Value} {cs : List Value} (R : Put w e o xs ys w1) (ho : w1.ownsRow base te z r n cs) (hb : w.heap.size <= base) (hg : w1.grownBy w2 r.ownBlock) (h1 : te ≠ 224) (h2 : 5 ≠ te) : Put w e o xs ys w2 := by
 obtain ⟨o1, he, hf, hoo⟩ := R; refine ⟨o1, ?_, hf.grown hg (fun k hk => .inr (zm3 hb (ho.lt k hk).1)), hoo⟩; have ar : Fr (fun k => some k = r.ownBlock) w1 w2 := (znq (fun k => some k = r.ownBlock) w1).grown hg (fun k hk => .inl hk.symm); obtain ⟨v, jN, bK, hs, h0, ab, hv⟩ := he
 exact ⟨v, jN, bK.fr ar (fun h => zak ho bK h1 h.symm), hs, h0, zaj ab ar (fun g hg h => zb6 ab ho h2 g hg h.symm), hv⟩
theorem zdw {w w' : World} {base e size n : Nat} {v : Value} {xs : List Value} (h : w.ownsRow base e size v n xs) (K : Keeps w w') (h1 : e ≠ 224) (h2 : e ≠ 5) : w'.ownsRow base e size v n xs :=
 ⟨h.1, h.2.imp id fun ⟨g, aO, cur, a1, a2, a3, a4⟩ => ⟨g, aO, cur, a1, a2, K g e cur h1 h2 a3, a4⟩⟩
theorem zdS {α : Type} (q : α -> Bool) (l : List α) (k : Nat) (x : α) (hx : l[k]? = some x) (hq : q x = true) : (l.take (k + 1)).filter q = (l.take k).filter q ++ [x] := by
 rw [zmV, hx, List.filter_append]; simp [hq]
theorem zft {α : Type} (q : α -> Bool) (l : List α) (k : Nat) (x : α) (hx : l[k]? = some x) (hq : q x = false) : (l.take (k + 1)).filter q = (l.take k).filter q := by
 rw [zmV, hx, List.filter_append]; simp [hq]
theorem zfd {α : Type} (q : α -> Bool) (l : List α) (k : Nat) : ((l.take k).filter q).length <= k := zm3 (znj _ _) (znl _ _)
theorem usesW_any (P : Nat -> Prop) (w : World) (h : Hst) (v : Value) (hr : RdW P w h v) : Calls prog 188 #[v] w fun r w' => r = .returned (.bool (h.schema == -53)) /\ w = w' := by
 obtain ⟨g, s, rfl, _, hb, _⟩ := hr; have c1 : w.cell? ⟨g, 1, none⟩ = some (.int .i32 h.schema) := hb.cell 1; go_enter func188, ntmps188; go_wp2_with (go_at_call 233; refine (zch _ _).mono ?_; rintro r w' ⟨rfl, rfl⟩)
 go_ret; exact ⟨rfl, rfl⟩
def EncHWEnds (w : World) (o : Option Nat) (ys : List UInt8) (lc : List (Rhs × Value)) (r : Ending) (w' : World) : Prop :=
 ∃ v' cv, r = .returned (.tuple #[v', cv]) /\ w'.ownsRow 0 5 1 v' ys.length (bc ys) /\ w'.ownsRow w.heap.size 290 3 cv lc.length (lc.flatMap rhc) /\ Fr (fun k => some k = o) w w' /\ (v'.ownBlock = o ∨ ∃ k, v'.ownBlock = some k /\ w.heap.size <= k)
theorem usesF_any (P : Nat -> Prop) (w : World) (h : Hst) (v : Value) (hr : RdF P w h v) : Calls prog 191 #[v] w fun r w' => r = .returned (.bool (h.schema == -53)) /\ w = w' := by
 obtain ⟨g, s, rfl, _, hb, _⟩ := hr; have c1 : w.cell? ⟨g, 1, none⟩ = some (.int .i32 h.schema) := hb.cell 1; go_enter func191, ntmps191; go_wp2_with (go_at_call 233; refine (zch _ _).mono ?_; rintro r w' ⟨rfl, rfl⟩)
 go_ret; exact ⟨rfl, rfl⟩
def EncHFEnds (w : World) (o : Option Nat) (ys : List UInt8) (lc : List (Rhs × Value)) (r : Ending) (w' : World) : Prop :=
 ∃ v' cv, r = .returned (.tuple #[v', cv]) /\ w'.ownsRow 0 5 1 v' ys.length (bc ys) /\ w'.ownsRow w.heap.size 298 3 cv lc.length (lc.flatMap rhc) /\ Fr (fun k => some k = o) w w' /\ (v'.ownBlock = o ∨ ∃ k, v'.ownBlock = some k /\ w.heap.size <= k)
theorem zc0 : (∀ (_ : True) (ep : Value) (sv : Value) (P : Nat -> Prop) (v : Value) (xs : List UInt8) (lo : List (Rhs × Value)) (w : World) (h : RdHW P w sv lo) (ab : w.ownsRow 0 5 1 v xs.length (bc xs)) (hl : xs.length <= 536870912)
 (au : lo.length <= 12) (aG : ∀ p ∈ lo, p.1.ok) (hP : ∀ g, P g -> g < w.heap.size /\ some g ≠ v.ownBlock) (aB : lo = [] ∨ ∃ p ∈ lo, za7 p.1 = false),
 Calls prog 97 #[ep, sv, v] w (EncHWEnds w v.ownBlock (xs ++ zbf 7 (fun s => !za7 s) (lo.map Prod.fst)) (lo.filter fun p => za7 p.1))) /\ (∀ (_ : True) (ep : Value) (sv : Value) (P : Nat -> Prop) (v : Value) (xs : List UInt8) (lo : List (Rhs × Value)) (w : World) (h : RdHF P w sv lo) (ab : w.ownsRow 0 5 1 v xs.length (bc xs)) (hl : xs.length <= 536870912)
 (au : lo.length <= 12) (aG : ∀ p ∈ lo, p.1.ok) (hP : ∀ g, P g -> g < w.heap.size /\ some g ≠ v.ownBlock) (aB : lo = [] ∨ ∃ p ∈ lo, za7 p.1 = false),
 Calls prog 98 #[ep, sv, v] w (EncHFEnds w v.ownBlock (xs ++ zbg 8 (fun s => !za7 s) (lo.map Prod.fst)) (lo.filter fun p => za7 p.1))) := by
 refine ⟨fun ag ep sv P v xs lo w h ab hl au aG hP aB => ?_, fun bY ep sv P v xs lo w h ab hl au aG hP aB => ?_⟩; all_goals
  obtain ⟨h, cl⟩ := h; obtain ⟨A, c, rfl⟩ := h.shape; obtain ⟨a', n', k', rfl⟩ := zac ab; have hE := Enc.made (z := .int .u8 0) ab _ rfl
  first | (guard_hyp ag; have hQ := zcm w.heap.size _ xs 7 _ hE (by omega)) | (have hQ := zcm w.heap.size _ xs 8 _ hE (by omega))
  first | (guard_hyp ag; have e2 : ((7 : UInt8).toNat : Int) = 7 := rfl) | (have e2 : ((8 : UInt8).toNat : Int) = 8 := rfl)
  rw [e2] at hQ; have cP : Fr (fun k => some k = (Value.slice a' n' k').ownBlock) w (w.alloc (.cells #[.slice a' n' k', .int .u8 0, .int .u8 0, .int .u8 0, .int .u8 0, .int .u8 0, .int .u8 0, .int .u8 0, .int .u8 0, .int .u8 0, .int .u8 0] 224)) := (znq _ w).alloc _; rcases lo with _ | ⟨f, r⟩
  ·clear hE cP e2 h cl aG aB
   first | (guard_hyp ag; go_enter func97, ntmps97) | (go_enter func98, ntmps98)
   go_wp2_with (first | (go_at_call 180; refine hQ.mono ?_; rintro r1 w1 ⟨rfl, R⟩; obtain ⟨o1, eG, ai, dK⟩ := R; have hG := zd9 _ _ _ _ eG) | (go_at_call 116; refine hG.mono ?_; rintro r w2 ⟨v2, rfl, rfl, af, bI⟩))
   go_ret2
   first | (guard_hyp ag; refine ⟨v2, _, rfl, by simpa [zbf] using af, zmy _ _ _ _, zdn (o1 := o1) ai, ?_⟩) | (refine ⟨v2, _, rfl, by simpa [zbg] using af, zmy _ _ _ _, zdn (o1 := o1) ai, ?_⟩)
   rw [bI]; rcases dK with h | ⟨k, h, hk⟩
   ·exact .inl h
   ·exact .inr ⟨k, h, by simp at hk; omega⟩
  ·obtain ⟨n, hn⟩ := exE ((f :: r).length)
   rw [hn] at h au ⊢; obtain ⟨LO, eR⟩ := exE (f :: r); have jn : ∃ p ∈ LO, za7 p.1 = false := by rw [<- eR]; exact aB.resolve_left (by simp)
   have iO := zmk jn; clear aB jn; have eM : (0 : Int) < (n : Int) := by rw [<- hn]; simp
   have fO : ((n : Int) == 0) = false := by simp; omega
   have ng : f ∈ LO := by rw [<- eR]; exact zne ..
   have fj : LO[0]? = some f := by rw [<- eR]; rfl
   have dL : (f :: r).map Prod.fst = f.1 :: r.map Prod.fst := rfl; have gu : ∀ p ∈ LO, p.1.ok := by rw [<- eR]; exact aG
   first | (guard_hyp ag; have fi : ∀ p ∈ LO, RdW P w p.1.h p.2 := by rw [<- eR]; exact cl) | (have fi : ∀ p ∈ LO, RdF P w p.1.h p.2 := by rw [<- eR]; exact cl)
   rw [eR] at h hn
   first
    | guard_hyp ag
      have gE : zbf 7 (fun s => !za7 s) ((f :: r).map Prod.fst) = [7] ++ (zar f.1 ++ (LO.filter fun p => !za7 p.1).flatMap (fun p => za4 f.1 p.1)) := by
       rw [<- eR]; have e1 : ∀ l : List (Rhs × Value), ((l.map Prod.fst).filter fun s => !za7 s) = (l.filter fun p => !za7 p.1).map Prod.fst := fun l => by rw [List.filter_map]; rfl
       rw [dL, zbf, <- dL, e1, List.flatMap_map]
    | have gE : zbg 8 (fun s => !za7 s) ((f :: r).map Prod.fst) = [8] ++ (zar f.1 ++ (LO.filter fun p => !za7 p.1).flatMap (fun p => za5 f.1 p.1)) := by
       rw [<- eR]; have e1 : ∀ l : List (Rhs × Value), ((l.map Prod.fst).filter fun s => !za7 s) = (l.filter fun p => !za7 p.1).map Prod.fst := fun l => by rw [List.filter_map]; rfl
       rw [dL, zbg, <- dL, e1, List.flatMap_map]
   rw [gE, eR]; obtain ⟨pm, mO, mN, _⟩ := gu f ng; obtain ⟨g, off, rfl, fV, aa⟩ := h.at (by omega); have hg := hP g fV; obtain ⟨f1, fv⟩ := f; simp only [] at pm mO mN; have c0 : w.cell? ⟨g, off, none⟩ = some (.int .u64 f1.ref) := aa 0 _ (by exact zfc rhc (fun _ => rfl) LO 0 (f1, fv) fj 0 (by omega))
   have c1 : w.cell? ⟨g, off + 1, none⟩ = some (.int .i64 f1.t) := aa 1 _ (by exact zfc rhc (fun _ => rfl) LO 0 (f1, fv) fj 1 (by omega)); have c2 : w.cell? ⟨g, off + 2, none⟩ = some fv := aa 2 _ (by exact zfc rhc (fun _ => rfl) LO 0 (f1, fv) fj 2 (by omega)); obtain ⟨gf, _, pK, _⟩ := fi _ ng; simp only [] at pK; subst pK; have HN := zmk hn; have HP := zmk hP
   have HE := zmk hE; have dF := zmk cP; have dV := zmk aa; have rn := zmk fi; have kq := zmk gu; clear hE cP e2 h cl aG gu fi hn dL gE aa eR ng fj hP; generalize dZ : w.alloc (.cells #[.slice a' n' k', .int .u8 0, .int .u8 0, .int .u8 0, .int .u8 0, .int .u8 0, .int .u8 0, .int .u8 0, .int .u8 0, .int .u8 0, .int .u8 0] 224) = WB at hQ HE dF
   have hB : w.heap.size < WB.heap.size := by rw [<- dZ]; simp
   rw [<- dZ] at hQ; have qK := zmk dZ; clear dZ
   first | (guard_hyp ag; go_enter func97, ntmps97) | (go_enter func98, ntmps98)
   go_wp2_with (go_at_call 180; refine hQ.mono ?_; rintro r1 w1 ⟨rfl, R⟩; refine Hid.out ?_)
   rw [qK.out] at R; clear hQ qK
   have gc := zmk (fun (W : World) (hf : Fr (fun k => k = w.heap.size ∨ some k = (Value.slice a' n' k').ownBlock) WB W) => dF.out.trans hf (fun k hk e => by
    rcases e with e | e
    ·omega
    ·exact e))
   have dE := gc.out w1 R.fr; have d0 : w1.cell? ⟨g, off, none⟩ = some (.int .u64 f1.ref) := by rw [dE.cell (p := ⟨g, off, none⟩) hg.1 hg.2]; exact c0
   have d1 : w1.cell? ⟨g, off + 1, none⟩ = some (.int .i64 f1.t) := by rw [dE.cell (p := ⟨g, off + 1, none⟩) hg.1 hg.2]; exact c1
   have d2 : w1.cell? ⟨g, off + 2, none⟩ = some (.pointer (some ⟨gf, 0, none⟩)) := by rw [dE.cell (p := ⟨g, off + 2, none⟩) hg.1 hg.2]; exact c2
   first | (guard_hyp ag; have cU := zmk (R.alloc (.cells #[.int .u64 f1.ref, .int .i64 f1.t, .pointer (some ⟨gf, 0, none⟩)] 290))) | (have cU := zmk (R.alloc (.cells #[.int .u64 f1.ref, .int .i64 f1.t, .pointer (some ⟨gf, 0, none⟩)] 298)))
   first | (guard_hyp ag; have kb := zmk (znr w1 290 #[.int .u64 f1.ref, .int .i64 f1.t, .pointer (some ⟨gf, 0, none⟩)])) | (have kb := zmk (znr w1 298 #[.int .u64 f1.ref, .int .i64 f1.t, .pointer (some ⟨gf, 0, none⟩)]))
   have jj := R.fr.size; clear R dE c0 c1 c2; refine zmk ?_
   go_wp2_with (first
    | (go_at_call 181; refine (zag cU.out (f := 181) (args := #[.pointer (some ⟨w.heap.size, 0, none⟩), .int .u64 f1.ref]) (zs := Lib.beBytes 8 f1.ref) (fun o2 he => zcn _ o2 _ f1.ref pm _ he (by rw [zml, zmB]; omega))).mono ?_; rintro r2 w2 ⟨rfl, R2, K2⟩
       have bi := K2.out _ _ _ (by decide) (by decide) kb.out; have b1 : w2.cell? ⟨w1.heap.size, 1, none⟩ = some (.int .i64 f1.t) := bi.cell 1; have cM := zmk bi; have aW := zmk R2
       clear bi R2 K2 cU d0 d1 d2)
    | (go_at_call 182; refine (zag aW.out (f := 182) (args := #[.pointer (some ⟨w.heap.size, 0, none⟩), .int .i64 f1.t]) (zs := Lib.beBytes 8 (u64 f1.t)) (fun o2 he => zdm _ o2 _ f1.t _ he (by simp [zmu]; omega))).mono ?_; rintro r3 w3 ⟨rfl, R3, K3⟩
       have bE := zmk (K3.out _ _ _ (by decide) (by decide) cM.out); have aS := zmk R3
       clear R3 K3 aW b1 cM))
   clear kb; have hsz3 : w1.heap.size + 1 <= w3.heap.size := bE.out.lt; generalize hbf : w1.heap.size = bf at bE jj hsz3; clear hbf
   first | (guard_hyp ag; obtain ⟨i0, aD, aA, az, aC⟩ := info_parts zkk) | (obtain ⟨i0, aD, aA, az, aC⟩ := info_parts zkj)
   first | (guard_hyp ag; go_loopw [9, 31] (fun cv i wr => ∃ (k m : Nat), k <= n /\ i = .int .i64 k /\ m <= k /\ Hid (((LO.take k).filter fun p => za7 p.1).length = m) /\ Hid (wr.ownsRow (bf + 1) 290 3 cv m (((LO.take k).filter fun p => za7 p.1).flatMap rhc)) /\ Hid (Put WB w.heap.size (Value.slice a' n' k').ownBlock xs ([7] ++ zar f1 ++ ((LO.take k).filter fun p => !za7 p.1).flatMap (fun p => za4 f1 p.1)) wr) /\ Hid (Blk wr bf 290 #[.int .u64 f1.ref, .int .i64 f1.t, .pointer (some ⟨gf, 0, none⟩)])) (fun _ i _ => n - (intOf i).toNat)) | (go_loopw [9, 31] (fun cv i wr => ∃ (k m : Nat), k <= n /\ i = .int .i64 k /\ m <= k /\ Hid (((LO.take k).filter fun p => za7 p.1).length = m) /\ Hid (wr.ownsRow (bf + 1) 298 3 cv m (((LO.take k).filter fun p => za7 p.1).flatMap rhc)) /\ Hid (Put WB w.heap.size (Value.slice a' n' k').ownBlock xs ([8] ++ zar f1 ++ ((LO.take k).filter fun p => !za7 p.1).flatMap (fun p => za5 f1 p.1)) wr) /\ Hid (Blk wr bf 298 #[.int .u64 f1.ref, .int .i64 f1.t, .pointer (some ⟨gf, 0, none⟩)])) (fun _ i _ => n - (intOf i).toNat))
   case atStart => exact ⟨0, 0, zmv _, rfl, zmw _, zmk rfl, zmk (zmy _ _ _ _), zmk (by simpa [zar] using aS.out), bE⟩
   case round =>
    obtain ⟨k, m, hk, rfl, gy, HM, HO, HR, il⟩ := hrel; by_cases hlt : k < n
    ·obtain ⟨x, hx⟩ : ∃ x, LO[k]? = some x := ⟨_, zmm (by rw [HN.out]; exact hlt)⟩
     have aH := zms hx; have dM := gc.out wr HR.out.fr; have cc : ∀ j, j < 3 -> ∀ u, (rhc x)[j]? = some u -> wr.cell? ⟨g, off + (k * 3 + j), none⟩ = some u := fun j hj u hu => by
      rw [dM.cell (p := ⟨g, off + (k * 3 + j), none⟩) hg.1 hg.2]; exact dV.out (k * 3 + j) u (by rw [zfc rhc (fun _ => rfl) LO k x hx j hj]; exact hu)
     have d0 : wr.cell? ⟨g, off + k * 3, none⟩ = some (.int .u64 x.1.ref) := cc 0 (by omega) _ rfl; have d1 : wr.cell? ⟨g, off + k * 3 + 1, none⟩ = some (.int .i64 x.1.t) := cc 1 (by omega) _ rfl; have d2 : wr.cell? ⟨g, off + k * 3 + 2, none⟩ = some x.2 := cc 2 (by omega) _ rfl; have fK := rn.out x aH; have lQ := kq.out x aH; obtain ⟨x1, xv⟩ := x; simp only [] at d0 d1 d2 fK lQ; have mW := fK
     obtain ⟨gx, _, rfl, _⟩ := mW; have b0 : wr.cell? ⟨bf, 0, none⟩ = some (.int .u64 f1.ref) := il.out.cell 0; have b1 : wr.cell? ⟨bf, 1, none⟩ = some (.int .i64 f1.t) := il.out.cell 1; have mj := il.out.lt
     first
      | guard_hyp ag
        have bF : ([(7 : UInt8)] ++ zar f1 ++ ((LO.take k).filter fun p => !za7 p.1).flatMap (fun p => za4 f1 p.1)).length <= 17 + k * 5020 := by
         have h0 := zbH (fun p : Rhs × Value => za4 f1 p.1) 5020 ((LO.take k).filter fun p => !za7 p.1) (fun p hp => zfv f1 p.1 (kq.out p (zni (zmZ.1 hp).1))); have h8 := zfd (fun p : Rhs × Value => !za7 p.1) LO k; have h9 := zmx 5020 h8; have h1 := zm3 h0 h9
         have h4 : (zar f1).length = 16 := by simp [zar, zmu]
         rw [zml, zml, h4, zmB]; omega
      | have bF : ([(8 : UInt8)] ++ zar f1 ++ ((LO.take k).filter fun p => !za7 p.1).flatMap (fun p => za5 f1 p.1)).length <= 17 + k * 5020 := by
         have h0 := zbH (fun p : Rhs × Value => za5 f1 p.1) 5020 ((LO.take k).filter fun p => !za7 p.1) (fun p hp => zfw f1 p.1 (kq.out p (zni (zmZ.1 hp).1))); have h8 := zfd (fun p : Rhs × Value => !za7 p.1) LO k; have h9 := zmx 5020 h8; have h1 := zm3 h0 h9
         have h4 : (zar f1).length = 16 := by simp [zar, zmu]
         rw [zml, zml, h4, zmB]; omega
     have cy : k * 5020 <= 12 * 5020 := zmx _ (by omega)
     first | (guard_hyp ag; obtain ⟨Y, hY⟩ := exE ([(7 : UInt8)] ++ zar f1 ++ ((LO.take k).filter fun p => !za7 p.1).flatMap (fun p => za4 f1 p.1))) | (obtain ⟨Y, hY⟩ := exE ([(8 : UInt8)] ++ zar f1 ++ ((LO.take k).filter fun p => !za7 p.1).flatMap (fun p => za5 f1 p.1)))
     rw [hY] at bF HR; have HY := zmk hY; have HX := zmk hx
     first | (guard_hyp ag; have cV := zmk (znr wr 290 #[.int .u64 x1.ref, .int .i64 x1.t, .pointer (some ⟨gx, 0, none⟩)])) | (have cV := zmk (znr wr 298 #[.int .u64 x1.ref, .int .i64 x1.t, .pointer (some ⟨gx, 0, none⟩)]))
     first | (guard_hyp ag; have bT := zmk (HR.out.alloc (.cells #[.int .u64 x1.ref, .int .i64 x1.t, .pointer (some ⟨gx, 0, none⟩)] 290))) | (have bT := zmk (HR.out.alloc (.cells #[.int .u64 x1.ref, .int .i64 x1.t, .pointer (some ⟨gx, 0, none⟩)] 298)))
     first | (guard_hyp ag; have dH := zmk (il.out.alloc (.cells #[.int .u64 x1.ref, .int .i64 x1.t, .pointer (some ⟨gx, 0, none⟩)] 290))) | (have dH := zmk (il.out.alloc (.cells #[.int .u64 x1.ref, .int .i64 x1.t, .pointer (some ⟨gx, 0, none⟩)] 298)))
     have kE : Y.length <= 60300 := by omega
     first | (guard_hyp ag; have HU := zmk (usesW_any P _ x1.h _ ((fK.fr dM (fun g hg => (HP.out g hg).2)).fr ((znq (fun _ => False) wr).alloc (.cells #[.int .u64 x1.ref, .int .i64 x1.t, .pointer (some ⟨gx, 0, none⟩)] 290)) (fun _ _ e => e)))) | (have HU := zmk (usesF_any P _ x1.h _ ((fK.fr dM (fun g hg => (HP.out g hg).2)).fr ((znq (fun _ => False) wr).alloc (.cells #[.int .u64 x1.ref, .int .i64 x1.t, .pointer (some ⟨gx, 0, none⟩)] 298)) (fun _ _ e => e))))
     obtain ⟨ca, cm, ck, rfl⟩ := zac HO.out; rcases eN : za7 x1 with _ | _
     ·obtain ⟨Q1, ee⟩ := exE (zzu (zeV f1 x1))
      obtain ⟨Q2, de⟩ := exE (zzu (hT f1 x1)); have jA := zbB (zeV f1 x1) (zae _).1 (zae _).2; have jz := zbB (hT f1 x1) (zae _).1 (zae _).2; rw [ee] at jA; rw [de] at jz; have gX := zmk ee; have eS := zmk de; have qR := zmk fK; have hU := HU.out; rw [show (x1.h.schema == -53) = false from eN] at hU
      first | (guard_hyp ag; have dg := zmk (HO.out.alloc (.cells #[.int .u64 x1.ref, .int .i64 x1.t, .pointer (some ⟨gx, 0, none⟩)] 290))) | (have dg := zmk (HO.out.alloc (.cells #[.int .u64 x1.ref, .int .i64 x1.t, .pointer (some ⟨gx, 0, none⟩)] 298)))
      have qJ := zmk lQ; clear hx dM cc hY bF cy ee de aH fK lQ HR il
      first
       | guard_hyp ag
         go_wp2_with (first
          | (go_at_call 188; refine hU.mono ?_; rintro r w' ⟨rfl, rfl⟩)
          | (go_at_call 183; refine (zag bT.out (f := 183) (args := #[.pointer (some ⟨w.heap.size, 0, none⟩), .int .i64 (zeV f1 x1)]) (zs := Q1) (fun o2 he => by have := zax _ o2 _ (zeV f1 x1) (zae _).1 (zae _).2 _ he (by rw [zml]; omega); rw [show Lib.uvarint (Lib.zigzag (zeV f1 x1)) = Q1 from gX.out] at this; exact this)).mono ?_; rintro rA wA ⟨rfl, R1, K1⟩
             have aw := K1.out _ _ _ (by decide) (by decide) cV.out; have bi := K1.out _ _ _ (by decide) (by decide) dH.out; have p1 : wA.cell? ⟨wr.heap.size, 1, none⟩ = some (.int .i64 x1.t) := aw.cell 1; have q1 : wA.cell? ⟨bf, 1, none⟩ = some (.int .i64 f1.t) := bi.cell 1; have dC := zmk aw; have eJ := zmk bi; have cH := zmk (zdw dg.out K1.out (by decide) (by decide))
             have aW := zmk R1; have bI : (Y ++ Q1).length <= 60310 := by rw [zml]; omega
             clear R1 K1 aw bi bT b0 b1 cV dH hU)
          | (go_at_call 183; refine (zag aW.out (f := 183) (args := #[.pointer (some ⟨w.heap.size, 0, none⟩), .int .i64 (hT f1 x1)]) (zs := Q2) (fun o2 he => by have := zax _ o2 _ (hT f1 x1) (zae _).1 (zae _).2 _ he (by rw [zml]; omega); rw [show Lib.uvarint (Lib.zigzag (hT f1 x1)) = Q2 from eS.out] at this; exact this)).mono ?_; rintro rB wB ⟨rfl, R1, K1⟩
             have aw := K1.out _ _ _ (by decide) (by decide) dC.out; have eI := zmk (K1.out _ _ _ (by decide) (by decide) eJ.out); have eq := zmk (zdw cH.out K1.out (by decide) (by decide)); have p2 : wB.cell? ⟨wr.heap.size, 2, none⟩ = some (.pointer (some ⟨gx, 0, none⟩)) := aw.cell 2; have aS := zmk R1; have eW : (Y ++ Q1 ++ Q2).length <= 60320 := by rw [zml]; omega
             have HH := zmk (qR.out.fr (gc.out wB R1.fr) (fun g hg => (HP.out g hg).2))
             clear R1 K1 aw p1 q1 aW bI dC eJ)
          | (go_at_call 189; refine (ze8 aS.out (f := 189) (args := #[.pointer (some ⟨w.heap.size, 0, none⟩), .pointer (some ⟨gx, 0, none⟩)]) (zs := za0 x1.h) (fun o2 he fg => zfK P _ o2 _ x1.h _ _ HH.out he (by rw [zml]; omega) qJ.out.2.2.2 (fun g hg => by
              have h1 := HP.out g hg; rintro (rfl | h2)
              ·omega
              ·rcases fg with h3 | ⟨k, h3, hk⟩
               ·exact h1.2 (h2.trans h3)
               ·rw [h3] at h2; injection h2 with h2; omega))).mono ?_; rintro rD wD ⟨rfl, R1, K1⟩
             have bX := zmk R1; have ka := zmk (K1.out _ _ _ (by decide) (by decide) eI.out); have iP := zmk (zdw eq.out K1.out (by decide) (by decide))
             clear R1 K1 aS eI))
       | go_wp2_with (first
          | (go_at_call 191; refine hU.mono ?_; rintro r w' ⟨rfl, rfl⟩)
          | (go_at_call 183; refine (zag bT.out (f := 183) (args := #[.pointer (some ⟨w.heap.size, 0, none⟩), .int .i64 (zeV f1 x1)]) (zs := Q1) (fun o2 he => by have := zax _ o2 _ (zeV f1 x1) (zae _).1 (zae _).2 _ he (by rw [zml]; omega); rw [show Lib.uvarint (Lib.zigzag (zeV f1 x1)) = Q1 from gX.out] at this; exact this)).mono ?_; rintro rA wA ⟨rfl, R1, K1⟩
             have aw := K1.out _ _ _ (by decide) (by decide) cV.out; have bi := K1.out _ _ _ (by decide) (by decide) dH.out; have p1 : wA.cell? ⟨wr.heap.size, 1, none⟩ = some (.int .i64 x1.t) := aw.cell 1; have q1 : wA.cell? ⟨bf, 1, none⟩ = some (.int .i64 f1.t) := bi.cell 1; have dC := zmk aw; have eJ := zmk bi; have cH := zmk (zdw dg.out K1.out (by decide) (by decide))
             have aW := zmk R1; have bI : (Y ++ Q1).length <= 60310 := by rw [zml]; omega
             clear R1 K1 aw bi bT b0 b1 cV dH hU)
          | (go_at_call 183; refine (zag aW.out (f := 183) (args := #[.pointer (some ⟨w.heap.size, 0, none⟩), .int .i64 (hT f1 x1)]) (zs := Q2) (fun o2 he => by have := zax _ o2 _ (hT f1 x1) (zae _).1 (zae _).2 _ he (by rw [zml]; omega); rw [show Lib.uvarint (Lib.zigzag (hT f1 x1)) = Q2 from eS.out] at this; exact this)).mono ?_; rintro rB wB ⟨rfl, R1, K1⟩
             have aw := K1.out _ _ _ (by decide) (by decide) dC.out; have eI := zmk (K1.out _ _ _ (by decide) (by decide) eJ.out); have eq := zmk (zdw cH.out K1.out (by decide) (by decide)); have p2 : wB.cell? ⟨wr.heap.size, 2, none⟩ = some (.pointer (some ⟨gx, 0, none⟩)) := aw.cell 2; have aS := zmk R1; have eW : (Y ++ Q1 ++ Q2).length <= 60320 := by rw [zml]; omega
             have HH := zmk (qR.out.fr (gc.out wB R1.fr) (fun g hg => (HP.out g hg).2))
             clear R1 K1 aw p1 q1 aW bI dC eJ)
          | (go_at_call 192; refine (ze8 aS.out (f := 192) (args := #[.pointer (some ⟨w.heap.size, 0, none⟩), .pointer (some ⟨gx, 0, none⟩)]) (zs := za1 x1.h) (fun o2 he fg => zfL P _ o2 _ x1.h _ _ HH.out he (by rw [zml]; omega) qJ.out.2.2.2 (fun g hg => by
              have h1 := HP.out g hg; rintro (rfl | h2)
              ·omega
              ·rcases fg with h3 | ⟨k, h3, hk⟩
               ·exact h1.2 (h2.trans h3)
               ·rw [h3] at h2; injection h2 with h2; omega))).mono ?_; rintro rD wD ⟨rfl, R1, K1⟩
             have bX := zmk R1; have ka := zmk (K1.out _ _ _ (by decide) (by decide) eI.out); have iP := zmk (zdw eq.out K1.out (by decide) (by decide))
             clear R1 K1 aS eI))
      first
       | guard_hyp ag
         have cQ : Hid (Put WB w.heap.size (Value.slice a' n' k').ownBlock xs ([7] ++ zar f1 ++ ((LO.take (k + 1)).filter fun p => !za7 p.1).flatMap (fun p => za4 f1 p.1)) wD) := zmk (by
          rw [zdS (fun p : Rhs × Value => !za7 p.1) LO k _ HX.out (by simp [eN]), zmT, <- zmn, HY.out, zmz, List.flatMap_nil, zmG]; unfold za4; rw [gX.out, eS.out]
          simpa [zmn] using bX.out)
       | have cQ : Hid (Put WB w.heap.size (Value.slice a' n' k').ownBlock xs ([8] ++ zar f1 ++ ((LO.take (k + 1)).filter fun p => !za7 p.1).flatMap (fun p => za5 f1 p.1)) wD) := zmk (by
          rw [zdS (fun p : Rhs × Value => !za7 p.1) LO k _ HX.out (by simp [eN]), zmT, <- zmn, HY.out, zmz, List.flatMap_nil, zmG]; unfold za5; rw [gX.out, eS.out]
          simpa [zmn] using bX.out)
      clear bX; go_wp2; go_roundw
      case rel => exact ⟨k + 1, m, by omega, by go_num, by omega, zmk (by rw [zft (fun p : Rhs × Value => za7 p.1) LO k _ HX.out eN]; exact HM.out), zmk (by rw [zft (fun p : Rhs × Value => za7 p.1) LO k _ HX.out eN]; exact iP.out), cQ, ka⟩
      case measure => simp [intOf]; omega
     ·have hU := HU.out
      rw [show (x1.h.schema == -53) = true from eN] at hU; have aV := HO.out.lt; have nk : ∀ j, j < 3 -> ∀ u, (rhc (x1, Value.pointer (some ⟨gx, 0, none⟩)))[j]? = some u -> True := fun _ _ _ _ => trivial; have og : WB.heap.size <= wr.heap.size := HR.out.fr.size; clear hx dM cc hY bF cy aH fK lQ b0 b1 nk
      go_wp2_with (first
       | (go_at_call 188; refine hU.mono ?_; rintro r w' ⟨rfl, rfl⟩)
       | (go_at_call 191; refine hU.mono ?_; rintro r w' ⟨rfl, rfl⟩)
       | (at_builtin; refine Hid.out ?_))
      refine zmk ?_
      first | (guard_hyp ag; refine zaf _ rfl _ _ 177 177 rfl (bf + 1) 290 i0 _ 3 24 underlying177 aD aA az aC rfl (by decide) _ m (((LO.take k).filter fun p => za7 p.1).flatMap rhc) rfl ((HO.out.alloc _).alloc _) _ 1 [.int .u64 x1.ref, .int .i64 x1.t, .pointer (some ⟨gx, 0, none⟩)] rfl (zaH underlying177 (zaK wr _ 290 #[.int .u64 x1.ref, .int .i64 x1.t, .pointer (some ⟨gx, 0, none⟩)]) rfl (by simp [Value.oneCell'])) (by unfold maxLen; omega) (by omega) (by simp; omega) ?_) | (refine zaf _ rfl _ _ 182 182 rfl (bf + 1) 298 i0 _ 3 24 underlying182 aD aA az aC rfl (by decide) _ m (((LO.take k).filter fun p => za7 p.1).flatMap rhc) rfl ((HO.out.alloc _).alloc _) _ 1 [.int .u64 x1.ref, .int .i64 x1.t, .pointer (some ⟨gx, 0, none⟩)] rfl (zaH underlying182 (zaK wr _ 298 #[.int .u64 x1.ref, .int .i64 x1.t, .pointer (some ⟨gx, 0, none⟩)]) rfl (by simp [Value.oneCell'])) (by unfold maxLen; omega) (by omega) (by simp; omega) ?_)
      intro v' w2 ac ad ax
      first
       | guard_hyp ag
         have cQ : Hid (Put WB w.heap.size (Value.slice a' n' k').ownBlock xs ([7] ++ zar f1 ++ ((LO.take (k + 1)).filter fun p => !za7 p.1).flatMap (fun p => za4 f1 p.1)) w2) := zmk (by
          rw [zft (fun p : Rhs × Value => !za7 p.1) LO k _ HX.out (by simp [eN]), HY.out]
          exact ((HR.out.alloc _).alloc _).grown ((HO.out.alloc _).alloc _) (by omega) ad (by decide) (by decide))
       | have cQ : Hid (Put WB w.heap.size (Value.slice a' n' k').ownBlock xs ([8] ++ zar f1 ++ ((LO.take (k + 1)).filter fun p => !za7 p.1).flatMap (fun p => za5 f1 p.1)) w2) := zmk (by
          rw [zft (fun p : Rhs × Value => !za7 p.1) LO k _ HX.out (by simp [eN]), HY.out]
          exact ((HR.out.alloc _).alloc _).grown ((HO.out.alloc _).alloc _) (by omega) ad (by decide) (by decide))
      have dn := zmk (((il.out.alloc _).alloc _).grown ad (fun e => by have := (aV bf e.symm).1; omega)); have iP := zmk ac
      have HM8 : Hid (((LO.take (k + 1)).filter fun p => za7 p.1).length = m + 1) := zmk (by
       rw [zdS (fun p : Rhs × Value => za7 p.1) LO k _ HX.out eN, zml, HM.out]; rfl)
      first
       | guard_hyp ag
         have HN8 : Hid (w2.ownsRow (bf + 1) 290 3 v' (m + 1) (((LO.take (k + 1)).filter fun p => za7 p.1).flatMap rhc)) := zmk (by
          rw [zdS (fun p : Rhs × Value => za7 p.1) LO k _ HX.out eN, zmT]
          simpa [rhc] using iP.out)
       | have HN8 : Hid (w2.ownsRow (bf + 1) 298 3 v' (m + 1) (((LO.take (k + 1)).filter fun p => za7 p.1).flatMap rhc)) := zmk (by
          rw [zdS (fun p : Rhs × Value => za7 p.1) LO k _ HX.out eN, zmT]
          simpa [rhc] using iP.out)
      clear ac ad ax aV iP; go_wp2; go_roundw
      case rel => exact ⟨k + 1, m + 1, by omega, by go_num, by omega, HM8, HN8, cQ, dn⟩
      case measure => simp [intOf]; omega
    ·obtain rfl : k = n := by omega
     obtain ⟨oZ, dy, dX, fN⟩ := HR.out; have hmk2 : m < k := by
      have h1 := HM.out; have h2 : LO.take k = LO := zmt (by rw [HN.out]; exact zmw _); rw [h2] at h1; have h3 : (LO.filter fun p => za7 p.1).length < LO.length := by
       obtain ⟨p, hp, hq⟩ := iO.out; exact List.length_filter_lt_length_iff_exists.2 ⟨p, hp, by simp [hq]⟩
      rw [HN.out] at h3; omega
     have hnk : ((k : Int) == (m : Int)) = false := by simp; omega
     obtain ⟨ca, ck, rfl⟩ := zaa HO.out; have hG := zd9 _ _ _ _ dy; have HZ := zmk dX; clear dy dX; go_wp2_with (go_at_call 116; refine hG.mono ?_; rintro rr w9 ⟨v2, rfl, rfl, af, bI⟩)
     go_ret2; have e1 : LO.take k = LO := zmt (by rw [HN.out]; exact zmw _); have ho := HO.out; have jv := HM.out; rw [e1] at ho jv; refine ⟨v2, _, rfl, ?_, by rw [jv]; exact zai ho (by omega), gc.out _ HZ.out, ?_⟩
     ·rw [e1] at af
      simpa [zmn] using af
     ·rw [bI]
      rcases fN with h | ⟨k2, h, cO⟩
      ·exact .inl h
      ·exact .inr ⟨k2, h, by omega⟩
theorem zl1 : type_of% (zc0.1 trivial) := zc0.1 trivial
theorem zl2 : type_of% (zc0.2 trivial) := zc0.2 trivial
theorem gN_enc {α : Type} (f : St -> α × St) (e : α -> List UInt8) : ∀ (l : List α), (∀ x ∈ l, ∀ r, f (some (e x ++ r)) = (x, some r)) -> ∀ r, gN f l.length (some (l.flatMap e ++ r)) = (l, some r)
 | [], _, r => rfl
 | x :: l, h, r => by
   have h1 : f (some ((x :: l).flatMap e ++ r)) = (x, some (l.flatMap e ++ r)) := by
    rw [zmz, zmn]; exact h x (zne ..) _
   show ((f (some ((x :: l).flatMap e ++ r))).1 :: (gN f l.length (f (some ((x :: l).flatMap e ++ r))).2).1, (gN f l.length (f (some ((x :: l).flatMap e ++ r))).2).2) = (x :: l, some r); rw [h1, gN_enc f e l (fun y hy => h y (znk _ hy)) r]
theorem zcL {α : Type} (f : St -> α × St) (e : α -> List UInt8) (l : List α) (hl : l.length <= 60) (h : ∀ x ∈ l, ∀ r, f (some (e x ++ r)) = (x, some r)) (r : List UInt8) :
 (gUv (some (Lib.uvarint l.length ++ l.flatMap e ++ r))).1 = l.length /\ zeW f (some (Lib.uvarint l.length ++ l.flatMap e ++ r)) = (l, some r) := by
 have h1 := zeJ l.length (by omega) (l.flatMap e ++ r); rw [<- zmn] at h1; unfold zeW; rw [h1]; exact ⟨rfl, gN_enc f e l h r⟩
theorem zge {n : Int} (h0 : -2147483648 <= n) (h1 : n <= 2147483647) : wrap32 n = n := by unfold wrap32; omega
theorem zio (p : Int × Nat) (h : -2147483648 <= p.1 /\ p.1 <= 2147483647 /\ p.2 < 4294967296) (r : List UInt8) : gSp (some (zaQ p ++ r)) = (p, some r) := by
 have h1 := zce p.1 (by omega) (by omega) (Lib.uvarint p.2 ++ r); have h2 := zeJ p.2 (by omega) r; unfold gSp zaQ zzu; rw [zmn, h1]; simp only []; rw [h2]; simp only []; rw [zge h.1 h.2.1, Nat.mod_eq_of_lt h.2.2]
def Hst.readW (h : Hst) : Hst := { h with fups := [], fdowns := [], cus := if h.schema = -53 then h.cus else [] }
theorem zlD (h : Hst) (bP : h.ok) (r : List UInt8) : zkP (some (za0 h ++ r)) /\ zcv (some (za0 h ++ r)) = (h.readW, some r) := by
 obtain ⟨lw, h10⟩ := exE (zcy h ++ r); obtain ⟨R9, h9⟩ := exE (zds h.downs ++ lw); obtain ⟨R8, h8⟩ := exE (zds h.ups ++ R9); obtain ⟨R7, h7⟩ := exE (zbS h.neg ++ R8); obtain ⟨R6, h6⟩ := exE (zbS h.pos ++ R7); obtain ⟨R5, h5⟩ := exE (Lib.beBytes 8 h.sum ++ R6); obtain ⟨R4, h4⟩ := exE (Lib.uvarint h.cnt ++ R5); obtain ⟨R3, h3⟩ := exE (Lib.uvarint h.zc ++ R4)
 obtain ⟨R2, h2⟩ := exE (Lib.beBytes 8 h.thr ++ R3); obtain ⟨R1, h1⟩ := exE (zzu h.schema ++ R2); have bw : za0 h ++ r = h.hint :: R1 := by
  rw [<- h1, <- h2, <- h3, <- h4, <- h5, <- h6, <- h7, <- h8, <- h9, <- h10]; unfold za0; simp only [zmn, List.cons_append, zmW]
 rw [bw]; obtain ⟨S, hS⟩ : ∃ S : St, some (h.hint :: R1) = S := ⟨_, rfl⟩; rw [hS]; have e0 : zaD S = (h.hint.toNat, some R1) := by rw [<- hS]; rfl
 have s1 : hS1 S = some R1 := znb Prod.snd e0; have e1 : zaI (hS1 S) = (h.schema, some R2) := by rw [s1, <- h1]; exact zce h.schema (by have := bP.s0; omega) (by have := bP.s1; omega) R2
 have s2 : hS2 S = some R2 := znb Prod.snd e1; have e2 : zab (hS2 S) = (h.thr, some R3) := by rw [s2, <- h2]; exact zaY h.thr bP.thr R3
 have s3 : hS3 S = some R3 := znb Prod.snd e2; have e3 : gUv (hS3 S) = (h.zc, some R4) := by rw [s3, <- h3]; exact zeJ h.zc bP.zc R4
 have s4 : hW4 S = some R4 := znb Prod.snd e3; have e4 : gUv (hW4 S) = (h.cnt, some R5) := by rw [s4, <- h4]; exact zeJ h.cnt bP.cnt R5
 have s5 : hW5 S = some R5 := znb Prod.snd e4; have e5 : zab (hW5 S) = (h.sum, some R6) := by rw [s5, <- h5]; exact zaY h.sum bP.sum R6
 have s6 : hW6 S = some R6 := znb Prod.snd e5; have e6 := zcL gSp zaQ h.pos bP.few.1 (fun x hx r => zio x (bP.pos x hx) r) R7; rw [show Lib.uvarint h.pos.length ++ h.pos.flatMap zaQ ++ R7 = R6 from h6, <- s6] at e6; have s7 : hW7 S = some R7 := znb Prod.snd e6.2; have e7 := zcL gSp zaQ h.neg bP.few.2.1 (fun x hx r => zio x (bP.neg x hx) r) R8
 rw [show Lib.uvarint h.neg.length ++ h.neg.flatMap zaQ ++ R8 = R7 from h7, <- s7] at e7; have s8 : hW8 S = some R8 := znb Prod.snd e7.2; have e8 := zcL zaI (zzu) h.ups bP.few.2.2.1 (fun x hx r => zce x (bP.ups x hx).1 (bP.ups x hx).2 r) R9; rw [show Lib.uvarint h.ups.length ++ h.ups.flatMap (zzu) ++ R9 = R8 from h8, <- s8] at e8
 have s9 : hW9 S = some R9 := znb Prod.snd e8.2; have e9 := zcL zaI (zzu) h.downs bP.few.2.2.2.1 (fun x hx r => zce x (bP.downs x hx).1 (bP.downs x hx).2 r) lw; rw [show Lib.uvarint h.downs.length ++ h.downs.flatMap (zzu) ++ lw = R9 from h9, <- s9] at e9; have im : hW10 S = some lw := znb Prod.snd e9.2
 have mG : zhb S = h.schema := by unfold zhb; rw [e1]; exact zge bP.s0 bP.s1
 have ec : (h.schema = -53 -> (gUv (hW10 S)).1 <= 1000) /\ hWc S = (if h.schema = -53 then h.cus else [], some r) := by
  unfold hWc; rw [mG]; by_cases hc : h.schema = -53
  ·have ls : zcy h = Lib.uvarint h.cus.length ++ h.cus.flatMap (Lib.beBytes 8) := by unfold zcy; rw [if_pos hc]; rfl
   have kp := zcL zab (Lib.beBytes 8) h.cus bP.few.2.2.2.2.2.2 (fun x hx r => zaY x (bP.cus x hx) r) r; rw [<- ls, h10, <- im] at kp; rw [if_pos hc, if_pos hc, kp.2]; exact ⟨fun _ => by rw [kp.1]; have := bP.few.2.2.2.2.2.2; omega, rfl⟩
  ·have ls : zcy h = [] := by unfold zcy; rw [znh hc]
   rw [ls, zmW] at h10; rw [znh hc, znh hc, im, <- h10]; exact ⟨fun e => absurd e hc, rfl⟩
 obtain ⟨f1, f2, f3, f4, f5, f6, f7⟩ := bP.few; refine ⟨⟨by rw [e6.1]; omega, by rw [e7.1]; omega, by rw [e8.1]; omega, by rw [e9.1]; omega, fun e => ec.1 (by rw [<- mG]; exact e)⟩, ?_⟩; have hh : UInt8.ofNat h.hint.toNat = h.hint := by simp
 unfold zcv Hst.readW; rw [e0, mG, e2, e5, e3, e4, e6.2, e7.2, e8.2, e9.2, ec.2]; simp only []; rw [hh]
def Hst.readF (h : Hst) : Hst := { h with ups := [], downs := [], cus := if h.schema = -53 then h.cus else [] }
theorem zlE (h : Hst) (bP : h.ok) (r : List UInt8) : zkQ (some (za1 h ++ r)) /\ zcw (some (za1 h ++ r)) = (h.readF, some r) := by
 obtain ⟨lw, h10⟩ := exE (zcy h ++ r); obtain ⟨R9, h9⟩ := exE (zdb h.fdowns ++ lw); obtain ⟨R8, h8⟩ := exE (zdb h.fups ++ R9); obtain ⟨R7, h7⟩ := exE (zbS h.neg ++ R8); obtain ⟨R6, h6⟩ := exE (zbS h.pos ++ R7); obtain ⟨R5, h5⟩ := exE (Lib.beBytes 8 h.sum ++ R6); obtain ⟨R4, h4⟩ := exE (Lib.beBytes 8 h.cnt ++ R5); obtain ⟨R3, h3⟩ := exE (Lib.beBytes 8 h.zc ++ R4)
 obtain ⟨R2, h2⟩ := exE (Lib.beBytes 8 h.thr ++ R3); obtain ⟨R1, h1⟩ := exE (zzu h.schema ++ R2); have bw : za1 h ++ r = h.hint :: R1 := by
  rw [<- h1, <- h2, <- h3, <- h4, <- h5, <- h6, <- h7, <- h8, <- h9, <- h10]; unfold za1; simp only [zmn, List.cons_append, zmW]
 rw [bw]; obtain ⟨S, hS⟩ : ∃ S : St, some (h.hint :: R1) = S := ⟨_, rfl⟩; rw [hS]; have e0 : zaD S = (h.hint.toNat, some R1) := by rw [<- hS]; rfl
 have s1 : hS1 S = some R1 := znb Prod.snd e0; have e1 : zaI (hS1 S) = (h.schema, some R2) := by rw [s1, <- h1]; exact zce h.schema (by have := bP.s0; omega) (by have := bP.s1; omega) R2
 have s2 : hS2 S = some R2 := znb Prod.snd e1; have e2 : zab (hS2 S) = (h.thr, some R3) := by rw [s2, <- h2]; exact zaY h.thr bP.thr R3
 have s3 : hS3 S = some R3 := znb Prod.snd e2; have e3 : zab (hS3 S) = (h.zc, some R4) := by rw [s3, <- h3]; exact zaY h.zc bP.zc R4
 have s4 : hF4 S = some R4 := znb Prod.snd e3; have e4 : zab (hF4 S) = (h.cnt, some R5) := by rw [s4, <- h4]; exact zaY h.cnt bP.cnt R5
 have s5 : hF5 S = some R5 := znb Prod.snd e4; have e5 : zab (hF5 S) = (h.sum, some R6) := by rw [s5, <- h5]; exact zaY h.sum bP.sum R6
 have s6 : hF6 S = some R6 := znb Prod.snd e5; have e6 := zcL gSp zaQ h.pos bP.few.1 (fun x hx r => zio x (bP.pos x hx) r) R7; rw [show Lib.uvarint h.pos.length ++ h.pos.flatMap zaQ ++ R7 = R6 from h6, <- s6] at e6; have s7 : hF7 S = some R7 := znb Prod.snd e6.2; have e7 := zcL gSp zaQ h.neg bP.few.2.1 (fun x hx r => zio x (bP.neg x hx) r) R8
 rw [show Lib.uvarint h.neg.length ++ h.neg.flatMap zaQ ++ R8 = R7 from h7, <- s7] at e7; have s8 : hF8 S = some R8 := znb Prod.snd e7.2; have e8 := zcL zab (Lib.beBytes 8) h.fups bP.few.2.2.2.2.1 (fun x hx r => zaY x (bP.fups x hx) r) R9; rw [show Lib.uvarint h.fups.length ++ h.fups.flatMap (Lib.beBytes 8) ++ R9 = R8 from h8, <- s8] at e8
 have s9 : hF9 S = some R9 := znb Prod.snd e8.2; have e9 := zcL zab (Lib.beBytes 8) h.fdowns bP.few.2.2.2.2.2.1 (fun x hx r => zaY x (bP.fdowns x hx) r) lw; rw [show Lib.uvarint h.fdowns.length ++ h.fdowns.flatMap (Lib.beBytes 8) ++ lw = R9 from h9, <- s9] at e9; have im : zim S = some lw := znb Prod.snd e9.2
 have mG : zhb S = h.schema := by unfold zhb; rw [e1]; exact zge bP.s0 bP.s1
 have ec : (h.schema = -53 -> (gUv (zim S)).1 <= 1000) /\ hFc S = (if h.schema = -53 then h.cus else [], some r) := by
  unfold hFc; rw [mG]; by_cases hc : h.schema = -53
  ·have ls : zcy h = Lib.uvarint h.cus.length ++ h.cus.flatMap (Lib.beBytes 8) := by unfold zcy; rw [if_pos hc]; rfl
   have kp := zcL zab (Lib.beBytes 8) h.cus bP.few.2.2.2.2.2.2 (fun x hx r => zaY x (bP.cus x hx) r) r; rw [<- ls, h10, <- im] at kp; rw [if_pos hc, if_pos hc, kp.2]; exact ⟨fun _ => by rw [kp.1]; have := bP.few.2.2.2.2.2.2; omega, rfl⟩
  ·have ls : zcy h = [] := by unfold zcy; rw [znh hc]
   rw [ls, zmW] at h10; rw [znh hc, znh hc, im, <- h10]; exact ⟨fun e => absurd e hc, rfl⟩
 obtain ⟨f1, f2, f3, f4, f5, f6, f7⟩ := bP.few; refine ⟨⟨by rw [e6.1]; omega, by rw [e7.1]; omega, by rw [e8.1]; omega, by rw [e9.1]; omega, fun e => ec.1 (by rw [<- mG]; exact e)⟩, ?_⟩; have hh : UInt8.ofNat h.hint.toNat = h.hint := by simp
 unfold zcw Hst.readF; rw [e0, mG, e2, e5, e3, e4, e6.2, e7.2, e8.2, e9.2, ec.2]; simp only []; rw [hh]
theorem zc6 {α β : Type} (step : St -> α × St) (enc : β -> List UInt8) (rd : β -> α) (Q : β -> Prop) (hs : ∀ x r, Q x -> step (some (enc x ++ r)) = (rd x, some r)) (hp : ∀ x, ∃ c r, enc x = c :: r) :
 ∀ (l : List β) (k : Nat) (acc : List α), (∀ x ∈ l, Q x) -> l.length <= k -> zad step k (some (l.flatMap enc)) acc = (acc ++ l.map rd, some [])
 | [], k, acc, _, _ => by cases k <;> simp [zad]
 | x :: l, 0, acc, _, h => by simp at h
 | x :: l, k + 1, acc, hw, h => by
   obtain ⟨c, r, e⟩ := hp x; have ba := hs x (l.flatMap enc) (hw x (by simp)); rw [zmz]; rw [e] at ba ⊢; show zad step (k + 1) (some (c :: (r ++ l.flatMap enc))) acc = _; have jl : step (some (c :: (r ++ l.flatMap enc))) = (rd x, some (l.flatMap enc)) := ba; rw [zad, jl]; simp only []
   rw [zc6 step enc rd Q hs hp l k (acc ++ [rd x]) (fun y hy => hw y (by simp [hy])) (by simpa using h)]; simp
theorem zjI (x : Int) (r : List UInt8) : ∃ c t, zzu x ++ r = c :: t := by
 have := Lib.uvarint_pos (Lib.zigzag x); unfold zzu; rcases h : Lib.uvarint (Lib.zigzag x) with _ | ⟨c, t⟩
 ·rw [h] at this; simp at this
 ·exact ⟨c, t ++ r, rfl⟩
theorem zgv (a b : Nat) (ha : a < 18446744073709551616) : u64 ((b : Int) + u64 (wrap64 (wrap64 a - wrap64 b))) = a := by
 have h : ((b : Int) + u64 (wrap64 (wrap64 a - wrap64 b))) % 18446744073709551616 = (a : Int) := by unfold u64 wrap64; omega
 rw [u64, h]; rfl
theorem zgR {β : Type} (enc : β -> List UInt8) (hp : ∀ x, ∃ c r, enc x = c :: r) : ∀ l : List β, l.length <= (l.flatMap enc).length
 | [] => by simp
 | x :: l => by
   obtain ⟨c, r, e⟩ := hp x; have := zgR enc hp l; rw [zmz, zml, e]; simp only [zmC]; omega
theorem zfa (f : Rhs) (hf : f.ok) (X : List UInt8) : (zab (some (zar f ++ X))).1 = f.ref /\ zao (zab (some (zar f ++ X))).2 = (f.t, some X) := by
 have h1 := zaY f.ref hf.1 (Lib.beBytes 8 (u64 f.t) ++ X); have h2 := zaY (u64 f.t) (zkT _) X; unfold zar; rw [zmn, h1]; refine ⟨rfl, ?_⟩; show (i64 (zab (some (Lib.beBytes 8 (u64 f.t) ++ X))).1, (zab (some (Lib.beBytes 8 (u64 f.t) ++ X))).2) = _; rw [h2]; show (i64 (u64 f.t), some X) = _; rw [zkn _ hf.2.1 hf.2.2.1]
theorem zk4 (f : Rhs) (X : List UInt8) : zar f ++ X ≠ [] := by
 intro h; have := znb List.length h; unfold zar at this; simp [zmu] at this
def Rhs.readW (s : Rhs) : Rhs := { s with h := s.h.readW }
theorem zgL (f s : Rhs) (hs : s.ok) (r : List UInt8) : zcG (some (za4 f s ++ r)) /\ zaN f.ref f.t (some (za4 f s ++ r)) = (s.readW, some r) := by
 have e0 : za4 f s ++ r = Lib.uvarint (Lib.zigzag (zeV f s)) ++ (Lib.uvarint (Lib.zigzag (hT f s)) ++ (za0 s.h ++ r)) := by
  unfold za4 zzu; simp only [zmn]
 have h1 := zce (zeV f s) (zae _).1 (zae _).2 (Lib.uvarint (Lib.zigzag (hT f s)) ++ (za0 s.h ++ r)); have h2 := zce (hT f s) (zae _).1 (zae _).2 (za0 s.h ++ r); obtain ⟨h3, h4⟩ := zlD s.h hs.2.2.2 r; rw [e0]; constructor
 ·unfold zcG
  rw [h1]; show zkP (zaI (some (Lib.uvarint (Lib.zigzag (hT f s)) ++ (za0 s.h ++ r)))).2; rw [h2]; exact h3
 ·unfold zaN
  rw [h1]; show (Rhs.mk (u64 ((f.ref : Int) + u64 (zeV f s))) (wrap64 (f.t + (zaI (some (Lib.uvarint (Lib.zigzag (hT f s)) ++ (za0 s.h ++ r)))).1)) (zcv (zaI (some (Lib.uvarint (Lib.zigzag (hT f s)) ++ (za0 s.h ++ r)))).2).1, (zcv (zaI (some (Lib.uvarint (Lib.zigzag (hT f s)) ++ (za0 s.h ++ r)))).2).2) = _; rw [h2]
  show (Rhs.mk (u64 ((f.ref : Int) + u64 (zeV f s))) (wrap64 (f.t + hT f s)) (zcv (some (za0 s.h ++ r))).1, (zcv (some (za0 s.h ++ r))).2) = _; rw [h4]; unfold zeV hT; rw [zgv _ _ hs.1, zkU _ _ hs.2.1 hs.2.2.1]; rfl
theorem zhS (f s : Rhs) : ∃ c r, za4 f s = c :: r := by unfold za4; exact zjI _ _
theorem zl4 (kind : UInt8) (hk : kind = 7 ∨ kind = 9) (q : Rhs -> Bool) (l : List Rhs) (hl : ∀ s ∈ l, s.ok) : zci (zbf kind q l) = some ((l.filter q).map Rhs.readW) := by
 rcases l with _ | ⟨f, r⟩
 ·show (if kind = 7 ∨ kind = 9 then zaV [] else none) = _
  rw [if_pos hk]; rfl
 ·have hf := hl f (by simp)
  show (if kind = 7 ∨ kind = 9 then zaV (zar f ++ ((f :: r).filter q).flatMap (za4 f)) else none) = _; rw [if_pos hk]; obtain ⟨X, hX⟩ := exE (((f :: r).filter q).flatMap (za4 f)); have ak := zgR (za4 f) (zhS f) ((f :: r).filter q)
  have hL := zc6 (zaN f.ref f.t) (za4 f) Rhs.readW Rhs.ok (fun x r hx => (zgL f x hx r).2) (zhS f) ((f :: r).filter q) (zar f ++ X).length [] (fun x hx => hl x (zmZ.1 hx).1) (by rw [zml, <- hX]; omega); rw [hX] at hL ⊢; obtain ⟨g1, g2⟩ := zfa f hf X; unfold zaV; rw [znh (zk4 f X), g1, g2]; simp only []; rw [hL]; rfl
def GoodW (f : Rhs) (st : St) : Prop := st = none ∨ ∃ l : List Rhs, (∀ s ∈ l, s.ok) /\ st = some (l.flatMap (za4 f))
theorem zly (f : Rhs) (l : List UInt8) (h : GoodW f (some l)) : zcG (some l) /\ GoodW f (zaN f.ref f.t (some l)).2 := by
 rcases h with h | ⟨l', fP, e⟩
 ·cases h
 ·injection e with e
  subst e; rcases l' with _ | ⟨s, l'⟩
  ·show zcG (some []) /\ GoodW f (zaN f.ref f.t (some [])).2
   have e0 : zaI (some []) = (0, none) := rfl; have e1 : zaI none = (0, none) := rfl; have e2 : (zcv none).2 = none := by
    rcases h : (zcv none).2 with _ | l
    ·rfl
    ·obtain ⟨l0, h0, _⟩ := zhF _ _ h
     cases h0
   refine ⟨?_, .inl ?_⟩
   ·unfold zcG
    rw [e0]; show zkP (zaI none).2; rw [e1]; exact ⟨zmv _, zmv _, zmv _, zmv _, fun _ => zmv _⟩
   ·unfold zaN
    rw [e0]; show (zcv (zaI none).2).2 = none; rw [e1]; exact e2
  ·obtain ⟨h1, h2⟩ := zgL f s (fP s (by simp)) (l'.flatMap (za4 f))
   rw [zmz]; exact ⟨h1, .inr ⟨l', fun x hx => fP x (by simp [hx]), by rw [h2]⟩⟩
theorem goodW_rec (kind : UInt8) (q : Rhs -> Bool) (l : List Rhs) (hl : ∀ s ∈ l, s.ok) : ∃ aj : St -> Prop,
 (∀ kd rest, zbf kind q l = kd :: rest -> (kd = 7 ∨ kd = 9) -> ∀ l, aj (some l) -> zcG (some l) /\ aj (zaN (zab (some rest)).1 (zao (zab (some rest)).2).1 (some l)).2) /\
 (∀ kd rest, zbf kind q l = kd :: rest -> (kd = 7 ∨ kd = 9) -> rest ≠ [] -> aj (zao (zab (some rest)).2).2) := by
 rcases l with _ | ⟨f, r⟩
 ·refine ⟨fun _ => False, fun _ _ _ _ _ h => h.elim, fun kd rest e _ hr => ?_⟩
  have e2 : [kind] = kd :: rest := e; injection e2 with _ e2; exact absurd e2.symm hr
 ·obtain ⟨X, hX⟩ := exE (((f :: r).filter q).flatMap (za4 f))
  obtain ⟨g1, g2⟩ := zfa f (hl f (by simp)) X; have he : ∀ kd rest, zbf kind q (f :: r) = kd :: rest -> rest = zar f ++ X := fun kd rest e => by
   have e2 : kind :: (zar f ++ ((f :: r).filter q).flatMap (za4 f)) = kd :: rest := e; injection e2 with _ e2; rw [<- e2, hX]
  refine ⟨GoodW f, fun kd rest e _ l' h => ?_, fun kd rest e _ _ => ?_⟩
  ·rw [he kd rest e, g1, g2]
   exact zly f l' h
  ·rw [he kd rest e, g2, <- hX]
   exact .inr ⟨_, fun x hx => hl x (zmZ.1 hx).1, rfl⟩
def Rhs.readF (s : Rhs) : Rhs := { s with h := s.h.readF }
theorem zgM (f s : Rhs) (hs : s.ok) (r : List UInt8) : zcH (some (za5 f s ++ r)) /\ zaO f.ref f.t (some (za5 f s ++ r)) = (s.readF, some r) := by
 have e0 : za5 f s ++ r = Lib.uvarint (Lib.zigzag (zeV f s)) ++ (Lib.uvarint (Lib.zigzag (hT f s)) ++ (za1 s.h ++ r)) := by
  unfold za5 zzu; simp only [zmn]
 have h1 := zce (zeV f s) (zae _).1 (zae _).2 (Lib.uvarint (Lib.zigzag (hT f s)) ++ (za1 s.h ++ r)); have h2 := zce (hT f s) (zae _).1 (zae _).2 (za1 s.h ++ r); obtain ⟨h3, h4⟩ := zlE s.h hs.2.2.2 r; rw [e0]; constructor
 ·unfold zcH
  rw [h1]; show zkQ (zaI (some (Lib.uvarint (Lib.zigzag (hT f s)) ++ (za1 s.h ++ r)))).2; rw [h2]; exact h3
 ·unfold zaO
  rw [h1]; show (Rhs.mk (u64 ((f.ref : Int) + u64 (zeV f s))) (wrap64 (f.t + (zaI (some (Lib.uvarint (Lib.zigzag (hT f s)) ++ (za1 s.h ++ r)))).1)) (zcw (zaI (some (Lib.uvarint (Lib.zigzag (hT f s)) ++ (za1 s.h ++ r)))).2).1, (zcw (zaI (some (Lib.uvarint (Lib.zigzag (hT f s)) ++ (za1 s.h ++ r)))).2).2) = _; rw [h2]
  show (Rhs.mk (u64 ((f.ref : Int) + u64 (zeV f s))) (wrap64 (f.t + hT f s)) (zcw (some (za1 s.h ++ r))).1, (zcw (some (za1 s.h ++ r))).2) = _; rw [h4]; unfold zeV hT; rw [zgv _ _ hs.1, zkU _ _ hs.2.1 hs.2.2.1]; rfl
theorem zhT (f s : Rhs) : ∃ c r, za5 f s = c :: r := by unfold za5; exact zjI _ _
theorem zl6 (kind : UInt8) (hk : kind = 8 ∨ kind = 10) (q : Rhs -> Bool) (l : List Rhs) (hl : ∀ s ∈ l, s.ok) : zcj (zbg kind q l) = some ((l.filter q).map Rhs.readF) := by
 rcases l with _ | ⟨f, r⟩
 ·show (if kind = 8 ∨ kind = 10 then zaW [] else none) = _
  rw [if_pos hk]; rfl
 ·have hf := hl f (by simp)
  show (if kind = 8 ∨ kind = 10 then zaW (zar f ++ ((f :: r).filter q).flatMap (za5 f)) else none) = _; rw [if_pos hk]; obtain ⟨X, hX⟩ := exE (((f :: r).filter q).flatMap (za5 f)); have ak := zgR (za5 f) (zhT f) ((f :: r).filter q)
  have hL := zc6 (zaO f.ref f.t) (za5 f) Rhs.readF Rhs.ok (fun x r hx => (zgM f x hx r).2) (zhT f) ((f :: r).filter q) (zar f ++ X).length [] (fun x hx => hl x (zmZ.1 hx).1) (by rw [zml, <- hX]; omega); rw [hX] at hL ⊢; obtain ⟨g1, g2⟩ := zfa f hf X; unfold zaW; rw [znh (zk4 f X), g1, g2]; simp only []; rw [hL]; rfl
def GoodF (f : Rhs) (st : St) : Prop := st = none ∨ ∃ l : List Rhs, (∀ s ∈ l, s.ok) /\ st = some (l.flatMap (za5 f))
theorem zlB (f : Rhs) (l : List UInt8) (h : GoodF f (some l)) : zcH (some l) /\ GoodF f (zaO f.ref f.t (some l)).2 := by
 rcases h with h | ⟨l', fP, e⟩
 ·cases h
 ·injection e with e
  subst e; rcases l' with _ | ⟨s, l'⟩
  ·show zcH (some []) /\ GoodF f (zaO f.ref f.t (some [])).2
   have e0 : zaI (some []) = (0, none) := rfl; have e1 : zaI none = (0, none) := rfl; have e2 : (zcw none).2 = none := by
    rcases h : (zcw none).2 with _ | l
    ·rfl
    ·obtain ⟨l0, h0, _⟩ := zhG _ _ h
     cases h0
   refine ⟨?_, .inl ?_⟩
   ·unfold zcH
    rw [e0]; show zkQ (zaI none).2; rw [e1]; exact ⟨zmv _, zmv _, zmv _, zmv _, fun _ => zmv _⟩
   ·unfold zaO
    rw [e0]; show (zcw (zaI none).2).2 = none; rw [e1]; exact e2
  ·obtain ⟨h1, h2⟩ := zgM f s (fP s (by simp)) (l'.flatMap (za5 f))
   rw [zmz]; exact ⟨h1, .inr ⟨l', fun x hx => fP x (by simp [hx]), by rw [h2]⟩⟩
theorem goodF_rec (kind : UInt8) (q : Rhs -> Bool) (l : List Rhs) (hl : ∀ s ∈ l, s.ok) : ∃ aj : St -> Prop,
 (∀ kd rest, zbg kind q l = kd :: rest -> (kd = 8 ∨ kd = 10) -> ∀ l, aj (some l) -> zcH (some l) /\ aj (zaO (zab (some rest)).1 (zao (zab (some rest)).2).1 (some l)).2) /\
 (∀ kd rest, zbg kind q l = kd :: rest -> (kd = 8 ∨ kd = 10) -> rest ≠ [] -> aj (zao (zab (some rest)).2).2) := by
 rcases l with _ | ⟨f, r⟩
 ·refine ⟨fun _ => False, fun _ _ _ _ _ h => h.elim, fun kd rest e _ hr => ?_⟩
  have e2 : [kind] = kd :: rest := e; injection e2 with _ e2; exact absurd e2.symm hr
 ·obtain ⟨X, hX⟩ := exE (((f :: r).filter q).flatMap (za5 f))
  obtain ⟨g1, g2⟩ := zfa f (hl f (by simp)) X; have he : ∀ kd rest, zbg kind q (f :: r) = kd :: rest -> rest = zar f ++ X := fun kd rest e => by
   have e2 : kind :: (zar f ++ ((f :: r).filter q).flatMap (za5 f)) = kd :: rest := e; injection e2 with _ e2; rw [<- e2, hX]
  refine ⟨GoodF f, fun kd rest e _ l' h => ?_, fun kd rest e _ _ => ?_⟩
  ·rw [he kd rest e, g1, g2]
   exact zlB f l' h
  ·rw [he kd rest e, g2, <- hX]
   exact .inr ⟨_, fun x hx => hl x (zmZ.1 hx).1, rfl⟩
theorem zgk (s : ByteArray) : strOfNums (s.data.toList.map fun b => (b.toNat : Int)) = s := by
 unfold strOfNums; cases s with
 | mk d =>
   congr 1; apply Array.ext'; simp only [List.toList_toArray, zno]; exact (List.map_congr_left (fun b _ => by simp)).trans (List.map_id _)
theorem decStr (te : TypeId) (pe : Value) (d g : Nat) (cur : Array Value) (st : St) (w : World) (h : Dec te pe w d g cur st) (hn : (gUv st).1 < 9223372036854775808) :
 Calls prog 173 #[.pointer (some ⟨d, 0, none⟩)] w (zb0 te pe w d g cur (.string (zb3 st).1) (zb3 st).2) := by
 have hB := ziy te pe d g cur st w h hn; generalize (zb3 st).1 = s at hB ⊢; generalize (zb3 st).2 = dQ at hB ⊢; clear h hn; unfold zjD at hB; obtain ⟨n, hn⟩ := exE s.data.toList.length; rw [hn] at hB; have HN := zmk hn; have HB := zmk hB; clear hn hB; go_enter func173, ntmps173
 go_wp2_with (go_at_call 203; refine HB.out.mono ?_; rintro r w1 ⟨g', off, c, rfl, bB, aa, hD, hf⟩; have iA := run_convert_bytes_arg (P := prog) w1 44 5 underlying44 underlying5 g' off n c (s.data.toList.map fun b => (b.toNat : Int)) (by rw [zmI]; exact HN.out) (fun i hi => by
  rw [aa i _ (zmm (by rw [HN.out]; exact hi))]; rw [<- HN.out] at hi
  simp [List.getD, zmm hi]) 9 underlying9; rw [zgk] at iA; have HD := zmk hD; have HF := zmk hf; clear aa hD hf)
 go_ret; exact ⟨rfl, HD.out, HF.out⟩
def ziE : ByteArray := ⟨#[85, 78, 73, 84]⟩
def ziF : ByteArray := ⟨#[72, 69, 76, 80]⟩
theorem zgj (s : ByteArray) (d : Array UInt8) : (s.toList == d.toList) = true ↔ s = ⟨d⟩ := by
 rw [beq_iff_eq, Lib.toList_data]; constructor
 ·intro h
  cases s; exact znb ByteArray.mk (Array.ext' h)
 ·rintro rfl; rfl
theorem zgi (s : ByteArray) (d : Array UInt8) (h : s ≠ ⟨d⟩) : (s.toList == d.toList) = false := by
 rcases hq : (s.toList == d.toList) with _ | _
 ·rfl
 ·exact absurd ((zgj s d).1 hq) h
def gFld (p : (ByteArray × ByteArray) × St) : (ByteArray × ByteArray) × St :=
 (if (zb3 p.2).1 = ziE then ((zb3 (zb3 p.2).2).1, p.1.2) else if (zb3 p.2).1 = ziF then (p.1.1, (zb3 (zb3 p.2).2).1) else p.1, (zb3 (zb3 p.2).2).2)
def zdz (st : St) : Nat -> (ByteArray × ByteArray) × St
 | 0 => ((⟨#[]⟩, ⟨#[]⟩), st)
 | k + 1 => gFld (zdz st k)
def zi2 (st : St) : St := (gUv (zaD (gUv st).2).2).2
def mtaN (st : St) : Nat := (gUv (zaD (gUv st).2).2).1
def zbd (st : St) : Mta × St :=
 (⟨(gUv st).1, UInt8.ofNat (zaD (gUv st).2).1, (zdz (zi2 st) (mtaN st)).1.1, (zdz (zi2 st) (mtaN st)).1.2⟩, (zdz (zi2 st) (mtaN st)).2)
def zdW (st : St) : Prop := mtaN st <= 4096 /\ ∀ k, k < mtaN st -> (gUv (zdz (zi2 st) k).2).1 < 9223372036854775808 /\ (gUv (zb3 (zdz (zi2 st) k).2).2).1 < 9223372036854775808
def zaM (xs : List UInt8) : Option (List Mta) := zbq 6 zbd xs
theorem gByte_lt (st : St) : (zaD st).1 < 256 := by
 rcases st with _ | _ | ⟨b, r⟩
 ·decide
 ·decide
 ·exact b.toNat_lt
theorem gByte_len {st : St} {l : List UInt8} (h : (zaD st).2 = some l) : ∃ l0, st = some l0 /\ l.length < l0.length := by
 rcases st with _ | _ | ⟨b, r⟩
 ·cases h
 ·cases h
 ·have h : some r = some l := h
  injection h with h; subst h; exact ⟨_, rfl, by simp⟩
theorem zk5 {st : St} {l : List UInt8} (h : (zb3 st).2 = some l) : ∃ l0, st = some l0 /\ l.length <= l0.length := by
 rcases st with _ | l0
 ·have : zb3 none = (⟨#[]⟩, none) := rfl
  rw [this] at h; cases h
 ·exact ⟨l0, rfl, (zi9 l0 (zb3 (some l0)).1 (zb3 (some l0)).2 rfl).2 l h⟩
theorem zjb (st : St) : ∀ (k : Nat) (l : List UInt8), (zdz st k).2 = some l -> ∃ l0, st = some l0 /\ l.length <= l0.length
 | 0, l, h => ⟨l, h, zmw _⟩
 | k + 1, l, h => by
   obtain ⟨l1, h1, e1⟩ := zk5 (st := (zb3 (zdz st k).2).2) h; obtain ⟨l2, h2, e2⟩ := zk5 h1; obtain ⟨l3, h3, e3⟩ := zjb st k l2 h2; exact ⟨l3, h3, by omega⟩
theorem zj9 {l0 l : List UInt8} (h : (zbd (some l0)).2 = some l) : l.length < l0.length := by
 obtain ⟨l1, h1, e1⟩ := zjb _ _ _ h; obtain ⟨l2, h2, e2⟩ := zb7 (st := (zaD (gUv (some l0)).2).2) h1; obtain ⟨l3, h3, e3⟩ := gByte_len h2; obtain ⟨l4, h4, e4⟩ := zb7 (st := some l0) h3; injection h4 with h4; subst h4; omega
def zca (w : World) (base : Nat) (o : Option Nat) (pre : List Mta) (xs : List UInt8) (r : Ending) (w' : World) : Prop :=
 Fr (fun k => some k = o) w w' /\ match zaM xs with
  | some l => ∃ v', r = .returned (.tuple #[v', .nilIface]) /\ w'.ownsRow base 174 4 v' (pre ++ l).length ((pre ++ l).flatMap Mta.c)
  | none => ∃ t a, r = .returned (.tuple #[.slice none 0 0, .iface t a])
theorem zeH {w w' : World} {base : Nat} {o : Option Nat} {pre : List Mta} {xs : List UInt8} {t : TypeId} {a : Value} (hd : zaM xs = none) (hf : Fr (fun k => some k = o) w w') : zca w base o pre xs (.returned (.tuple #[.slice none 0 0, .iface t a])) w' := by
 unfold zca; rw [hd]; exact ⟨hf, _, _, rfl⟩
theorem zhl {w w' : World} {base : Nat} {o : Option Nat} {pre : List Mta} {xs : List UInt8} {l : List Mta} {v : Value} (hd : zaM xs = some l) (hf : Fr (fun k => some k = o) w w') (ho : w'.ownsRow base 174 4 v (pre ++ l).length ((pre ++ l).flatMap Mta.c)) : zca w base o pre xs (.returned (.tuple #[v, .nilIface])) w' := by
 unfold zca; rw [hd]; exact ⟨hf, _, rfl, ho⟩
theorem ziv (te : TypeId) (pe : Value) (dv : Value) (g base : Nat) (cur : Array Value) (pre : List Mta) (xs : List UInt8) (v sv : Value) (w : World) (h : Rec te pe w g cur xs v) (hx : (zaD (some xs)).1 ≠ 6) :
 Calls prog 81 #[dv, v, sv] w (zca w base sv.ownBlock pre xs) := by
 have hd : zaM xs = none := by
  rcases xs with _ | ⟨b, r⟩
  ·rfl
  ·have : ¬ b = 6 := by rintro rfl; exact hx rfl
   simp [zaM, zbq, this]
 unfold zca; rw [hd]; clear hd; have hD := h.dec; obtain ⟨off, c, rfl, _⟩ := h; have hQ := zbG te pe w.heap.size g cur _ _ hD; have dS : ¬ ((zaD (some xs)).1 : Int) = 6 := by omega
 clear hD hx; generalize (zaD (some xs)).1 = x at hQ dS; generalize (zaD (some xs)).2 = st at hQ; go_enter func81, ntmps81; go_wp2_with (first | (go_at_call 160; refine hQ.mono ?_; rintro r w1 ⟨rfl, cr, ai⟩) | (go_at_call 161; refine (zbP _ _).mono ?_; rintro r w2 ⟨t, a, rfl, ar⟩))
 go_ret2; refine ⟨?_, _, _, rfl⟩; have f1 := (((znq (fun k => some k = sv.ownBlock) w).alloc (.cells #[.slice (some ⟨g, off, none⟩) xs.length c, .nilIface] 229)).trans ai (fun k hk e => by omega)); exact f1.trans ar (fun _ _ e => e.elim)
theorem ziw (aj : St -> Prop) (hG : ∀ l, aj (some l) -> zdW (some l) /\ aj (zbd (some l)).2) (te : TypeId) (pe : Value) (dv : Value) (g base : Nat) (cur : Array Value) (pre : List Mta) (rest : List UInt8) (v sv : Value) (w : World) (h : Rec te pe w g cur (6 :: rest) v) (ho : w.ownsRow base 174 4 sv pre.length (pre.flatMap Mta.c)) (hb : g < base /\ 2 < base /\ base <= w.heap.size) (bm : pre.length <= 1073741824) (aZ : aj (some rest)) :
 Calls prog 81 #[dv, v, sv] w (zca w base sv.ownBlock pre (6 :: rest)) := by
 obtain ⟨i0, aD, aA, az, aC⟩ := info_parts info174; have gZ := zmk hG; clear hG; have kv := zmk aZ; clear aZ; have hD := h.dec; obtain ⟨off, c, rfl, _⟩ := h; have hQ := zbG te pe w.heap.size g cur _ _ hD; have e1 : zaD (some (6 :: rest)) = (6, some rest) := rfl; rw [e1] at hQ; have HO := zmk ho; obtain ⟨a', k', rfl⟩ := zaa ho
 have oh : rest.length <= 1099511627776 := by
  obtain ⟨n, off', c', _, _, hn, aQ, _⟩ := hD.open_; have := hn _ rfl; simp at this; omega
 obtain ⟨np, fh⟩ := exE pre.length; have lC := zmk fh; rw [fh] at HO bm ⊢; clear hD e1 ho fh; go_enter func81, ntmps81; go_wp2_with (go_at_call 160; refine hQ.mono ?_; rintro r w1 ⟨rfl, cr, ai⟩; refine Hid.out ?_)
 have F1 : Fr (fun k => some k = (Value.slice a' np k').ownBlock) w w1 := ((znq (fun k => some k = (Value.slice a' np k').ownBlock) w).alloc _).trans ai (fun k hk e => by omega); have O1 : w1.ownsRow base 174 4 (.slice a' np k') np (pre.flatMap Mta.c) := zaj (HO.out.alloc _) ai (fun k hk => by have := zas HO.out hk; omega); have bA := F1.size
 have eM : ∀ k, (Value.slice a' np k').ownBlock = some k -> k < w.heap.size := fun k hk => zas HO.out hk; have cd := zmk F1; have dg := zmk O1; have aT := zmk cr; have ig := zmk eM; clear cr ai hQ F1 O1 eM; refine zmk ?_; go_wp2_with fail
 go_loopw [2] (fun sv wr => ∃ (st : St) (acc : List Mta) (j : Nat), Hid (Dec te pe wr w.heap.size g cur st) /\ Hid (wr.ownsRow base 174 4 sv (np + acc.length) ((pre ++ acc).flatMap Mta.c)) /\ Hid (Fr (fun k => some k = (Value.slice a' np k').ownBlock) w wr) /\ Hid (∀ k, sv.ownBlock = some k -> (some k = (Value.slice a' np k').ownBlock ∨ w.heap.size < k)) /\
  Hid (zad zbd j st acc = zad zbd rest.length (some rest) []) /\ Hid (∀ l, st = some l -> l.length <= j /\ acc.length + l.length <= rest.length) /\ acc.length <= rest.length + 1 /\ Hid (aj st)) (fun _ wr => zix w.heap.size wr)
 case atStart => exact ⟨some rest, [], rest.length, aT, zmk (by simpa using dg.out), cd, zmk (fun k hk => .inl hk.symm), zmk rfl, zmk (fun l hl => by cases hl; simp), by simp, kv⟩
 case round =>
  obtain ⟨st, acc, j, HD, HO, HF, HB, HE, HL, mn, nU⟩ := hrel; obtain ⟨n6, io, c6, p0, p1, cN, aQ, hd, hg, h2⟩ := HD.out.open_; have hE := zg6 te pe _ _ _ _ _ HD.out; obtain ⟨a6, k6, rfl⟩ := zaa HO.out; rcases st with _ | l
  ·clear cN p1
   have aI : zad zbd rest.length (some rest) [] = (acc, none) := by rw [<- HE.out]; unfold zad; rcases j with _ | j <;> rfl
   have HR := zmk (show zaM (6 :: rest) = none from zc2 aI); clear aI; simp only [zjH] at hE; rcases zmH n6 with rfl | om
   ·go_wp2_with (go_at_call 119; refine hE.mono ?_; rintro r w7 ⟨rfl, rfl⟩)
    go_ret2; exact zeH HR.out HF.out
   ·have bV : (0 : Int) < (n6 : Int) := by omega
    go_wp2_with (go_at_call 119; refine hE.mono ?_; rintro r w7 ⟨rfl, rfl⟩)
    go_ret2; exact zeH HR.out HF.out
  ·obtain rfl : n6 = l.length := cN l rfl
   simp only [zjH] at hE; rcases l with _ | ⟨x, r⟩
   ·have aI : zad zbd rest.length (some rest) [] = (acc, some []) := by rw [<- HE.out]; unfold zad; rcases j with _ | j <;> rfl
    have HR := zmk (show zaM (6 :: rest) = some acc from zc1 aI); clear aI cN p1; simp only [znd] at p0; go_wp2_with (go_at_call 119; refine hE.mono ?_; rintro r w7 ⟨rfl, rfl⟩)
    go_ret2; refine zhl HR.out HF.out ?_; have h := HO.out; rw [zml, lC.out]; exact h
   ·obtain ⟨n7, bV⟩ := exE ((x :: r).length)
    have ma : (0 : Int) < (n7 : Int) := by rw [<- bV]; simp
    have gg := HL.out _ rfl; have hM := zbu HD.out; rw [bV] at p0 gg hM; have cS := zl3 te pe _ _ _ _ _ HD.out; obtain ⟨aY, bR⟩ := gZ.out _ nU.out; have eU := zmk bV; obtain ⟨S0, gK⟩ : ∃ S0 : St, some (x :: r) = S0 := ⟨_, rfl⟩; rw [gK] at cS aY bR; have gW := zmk gK; have nW := zmk bR; obtain ⟨hn4, mg⟩ := aY; have HFL := zmk mg
    clear cN p1 bV gK bR mg; obtain ⟨v0, eX⟩ := exE ((gUv S0).1); obtain ⟨S1, hS1⟩ := exE ((gUv S0).2); rw [eX, hS1] at cS
    go_wp2_with (first
     | (go_at_call 119; refine hE.mono ?_; rintro r w7 ⟨rfl, rfl⟩)
     | (go_at_call 171; refine cS.mono ?_; rintro r w8 ⟨rfl, fC, cA⟩; refine Hid.out ?_))
    have D8 := zmk fC; have ic := zbG te pe _ _ _ _ _ fC; obtain ⟨v1, cE⟩ := exE ((zaD S1).1); obtain ⟨S2, hS2⟩ := exE ((zaD S1).2); rw [cE, hS2] at ic; have F8 := zmk cA; clear fC cA cS p0; refine zmk ?_; go_wp2_with (go_at_call 160; refine ic.mono ?_; rintro r w9 ⟨rfl, fe, dY⟩; refine Hid.out ?_)
    have jJ := zcE te pe _ _ _ _ _ fe; obtain ⟨nf, hnf⟩ := exE ((gUv S2).1); obtain ⟨S3, hS3⟩ := exE ((gUv S2).2); have hmn : mtaN S0 = nf := by unfold mtaN; rw [hS1, hS2, hnf]
    have mb : zi2 S0 = S3 := by unfold zi2; rw [hS1, hS2, hS3]
    rw [hmn] at hn4; rw [hmn, mb] at HFL; rw [hnf, hS3, show i64 nf = (nf : Int) by unfold i64 wrap64; omega] at jJ; have F9 := zmk (F8.out.same dY); clear fe dY ic D8 F8; refine zmk ?_; go_wp2_with (go_at_call 172; refine jJ.mono ?_; rintro r cX ⟨rfl, fX, pM⟩; refine Hid.out ?_)
    have F10 := zmk (F9.out.same pM); have D10 := zmk fX; clear fX pM jJ F9; have nM := zmk (znc eX (znc hS1 (znc cE (znc hS2 (znc hnf (znc hS3 (znc hmn mb))))))); have hv1l : v1 < 256 := by rw [<- cE]; exact gByte_lt _
    clear eX hS1 cE hS2 hnf hS3 hmn mb
    have KW : Hid (∀ W, Fr (fun k => k = w.heap.size) wr W -> W.ownsRow base 174 4 (.slice a6 (np + acc.length) k6) (np + acc.length) ((pre ++ acc).flatMap Mta.c) /\ Fr (fun k => some k = (Value.slice a' np k').ownBlock) w W) := zmk (fun W hf => ⟨zaj HO.out hf (fun k hk e => by
     rcases HB.out k hk with h | h
     ·have := ig.out k h.symm; omega
     ·omega), HF.out.trans hf (fun k hk e => by omega)⟩)
    refine zmk ?_; go_wp2_with fail
    go_loopw [12, 13, 14] (fun uv hv vi wq => ∃ k : Nat, k <= nf /\ vi = .int .i64 k /\ uv = .string (zdz S3 k).1.1 /\ hv = .string (zdz S3 k).1.2 /\ Hid (Dec te pe wq w.heap.size g cur (zdz S3 k).2) /\ Hid (Fr (fun k => k = w.heap.size) wr wq)) (fun _ _ vi _ => nf - (intOf vi).toNat)
    case atStart => exact ⟨0, zmv _, rfl, rfl, rfl, D10, F10⟩
    case round =>
     obtain ⟨k, hk, rfl, rfl, rfl, JD, JF⟩ := hrel; by_cases hlt : k < nf
     ·obtain ⟨oe, kJ⟩ := HFL.out k hlt
      obtain ⟨pk, lW⟩ := exE (zdz S3 k); have hnx : zdz S3 (k + 1) = gFld pk := by rw [<- lW]; rfl
      rw [lW] at oe kJ JD; have q1 := decStr te pe _ _ _ _ _ JD.out oe; obtain ⟨nm, hnm⟩ := exE ((zb3 pk.2).1); obtain ⟨T1, gk⟩ := exE ((zb3 pk.2).2); rw [hnm, gk] at q1; rw [gk] at kJ; have HU2 := zmk kJ; obtain ⟨vl, hvl⟩ := exE ((zb3 T1).1); obtain ⟨T2, iF⟩ := exE ((zb3 T1).2)
      have q2 : Hid (∀ W, Dec te pe W w.heap.size g cur T1 -> Calls prog 173 #[.pointer (some ⟨w.heap.size, 0, none⟩)] W (zb0 te pe W w.heap.size g cur (.string vl) T2)) := zmk (fun W hW => by have := decStr te pe _ _ _ _ _ hW HU2.out; rwa [hvl, iF] at this)
      have kj : gFld pk = (if nm = ziE then (vl, pk.1.2) else if nm = ziF then (pk.1.1, vl) else pk.1, T2) := by unfold gFld; rw [hnm, gk, hvl, iF]
      obtain ⟨⟨pu, ph⟩, kC⟩ := pk; have jf := zmk (hnx.trans kj); rw [lW]; clear lW hnx hnm gk hvl iF kj oe kJ; by_cases hb1 : nm = ziE
      ·have e1 : (nm.toList == [85, 78, 73, 84]) = true := (zgj nm #[85, 78, 73, 84]).2 hb1
       have cD := zmk hb1; clear hb1
       go_wp2_with (first
        | (go_at_call 173; refine (q2.out _ qC.out).mono ?_; rintro r w12 ⟨rfl, fc, f9⟩; have qB := zmk fc; have qx := zmk (qy.out.same f9); clear fc f9)
        | (go_at_call 173; refine q1.mono ?_; rintro r iW ⟨rfl, cT, cz⟩; have qC := zmk cT; have qy := zmk (JF.out.same cz); clear cT cz))
       go_roundw
       case rel => exact ⟨k + 1, by omega, by go_num, by rw [jf.out, if_pos cD.out], by rw [jf.out, if_pos cD.out], zmk (by rw [jf.out]; exact qB.out), qx⟩
       case measure => simp [intOf]; omega
      ·have e1 : (nm.toList == [85, 78, 73, 84]) = false := zgi nm #[85, 78, 73, 84] hb1
       have cD := zmk hb1; clear hb1; by_cases hb2 : nm = ziF
       ·have e2 : (nm.toList == [72, 69, 76, 80]) = true := (zgj nm #[72, 69, 76, 80]).2 hb2
        have cM := zmk hb2; clear hb2
        go_wp2_with (first
         | (go_at_call 173; refine (q2.out _ qC.out).mono ?_; rintro r w12 ⟨rfl, fc, f9⟩; have qB := zmk fc; have qx := zmk (qy.out.same f9); clear fc f9)
         | (go_at_call 173; refine q1.mono ?_; rintro r iW ⟨rfl, cT, cz⟩; have qC := zmk cT; have qy := zmk (JF.out.same cz); clear cT cz))
        go_roundw
        case rel => exact ⟨k + 1, by omega, by go_num, by rw [jf.out, znh cD.out, if_pos cM.out], by rw [jf.out, znh cD.out, if_pos cM.out], zmk (by rw [jf.out]; exact qB.out), qx⟩
        case measure => simp [intOf]; omega
       ·have e2 : (nm.toList == [72, 69, 76, 80]) = false := zgi nm #[72, 69, 76, 80] hb2
        have cM := zmk hb2; clear hb2
        go_wp2_with (first
         | (go_at_call 173; refine (q2.out _ qC.out).mono ?_; rintro r w12 ⟨rfl, fc, f9⟩; have qB := zmk fc; have qx := zmk (qy.out.same f9); clear fc f9)
         | (go_at_call 173; refine q1.mono ?_; rintro r iW ⟨rfl, cT, cz⟩; have qC := zmk cT; have qy := zmk (JF.out.same cz); clear cT cz))
        go_roundw
        case rel => exact ⟨k + 1, by omega, by go_num, by rw [jf.out, znh cD.out, znh cM.out], by rw [jf.out, znh cD.out, znh cM.out], zmk (by rw [jf.out]; exact qB.out), qx⟩
        case measure => simp [intOf]; omega
     ·obtain rfl : k = nf := by omega
      obtain ⟨pk, lW⟩ := exE (zdz S3 k); rw [lW] at JD ⊢; obtain ⟨⟨pu, ph⟩, kC⟩ := pk; have HPK := zmk lW; clear lW; simp only []; obtain ⟨OA, FA⟩ := KW.out _ JF.out; have sA := FA.size; have dP := zmk FA; have cR := zmk OA; obtain ⟨q0, q1, q2, q3, q4, q5, q6, q7⟩ := nM.out; have ba : zbd S0 = (⟨v0, UInt8.ofNat v1, pu, ph⟩, kC) := by
       unfold zbd; rw [q0, q1, q2, q6, q7, HPK.out]
      have mL : (UInt8.ofNat v1).toNat = v1 := by simp; omega
      obtain ⟨ty, pd⟩ := exE (UInt8.ofNat v1); rw [pd] at ba mL; subst mL
      have dk : Hid (∀ j', j = j' + 1 -> zad zbd j' kC (acc ++ [⟨v0, ty, pu, ph⟩]) = zad zbd rest.length (some rest) []) := zmk (by
       rintro j' rfl; have h := HE.out; have h2 : zad zbd (j' + 1) (some (x :: r)) acc = zad zbd j' (zbd (some (x :: r))).2 (acc ++ [(zbd (some (x :: r))).1]) := rfl; rw [h2, gW.out, ba] at h
       exact h)
      have bd : Hid (∀ l, kC = some l -> l.length < n7) := zmk (fun l hl => by
       have h := zj9 (l0 := x :: r) (l := l) (by rw [gW.out, ba]; exact hl)
       rw [eU.out] at h; exact h)
      have nV : Hid (aj kC) := zmk (by have h := nW.out; rw [ba] at h; exact h); have gO : Hid (Dec te pe wr w.heap.size g cur kC) := JD; clear OA FA q0 q1 q2 q3 q4 q5 q6 q7 ba pd hE
      go_wp2_with (first
       | (at_builtin; refine Hid.out ?_))
      refine zmk ?_
      refine zaf _ rfl _ _ 169 169 rfl base 174 i0 _ 4 48 underlying169 aD aA az aC rfl (by decide) (.slice a6 (np + acc.length) k6) (np + acc.length) ((pre ++ acc).flatMap Mta.c) rfl (cR.out.alloc _) _ 1 (Mta.c ⟨v0, ty, pu, ph⟩) rfl (zaH underlying169 (znr wr 174 (Mta.c ⟨v0, ty, pu, ph⟩).toArray) rfl (by simp [Mta.c, Value.oneCell'])) (by unfold maxLen; omega) (by omega) (by simp; omega) ?_
      intro v' w2 ac ad ax
      obtain ⟨a9, k9, rfl⟩ := zaa ac
      have aV : ∀ k, (Value.slice a6 (np + acc.length) k6).ownBlock = some k -> base <= k /\ k ≠ w.heap.size := fun k hk => ⟨(cR.out.lt k hk).1, by
       rcases HB.out k hk with h | h
       ·have := ig.out k h.symm; omega
       ·omega⟩
      have ip := ad.size; simp at ip; have fG : Fr (fun k => some k = (Value.slice a6 (np + acc.length) k6).ownBlock) wr w2 := ((znq (fun k => some k = (Value.slice a6 (np + acc.length) k6).ownBlock) wr).alloc _).grown ad (fun k hk => .inl hk.symm)
      have rD : Dec te pe w2 w.heap.size g cur kC := gO.out.fr fG (fun e => (aV _ e.symm).2 rfl) (fun e => by have := (aV _ e.symm).1; omega) (fun e => by have := (aV _ e.symm).1; omega); have rO : w2.ownsRow base 174 4 (.slice a9 (np + acc.length + 1) k9) (np + (acc ++ [(⟨v0, ty, pu, ph⟩ : Mta)]).length) ((pre ++ (acc ++ [(⟨v0, ty, pu, ph⟩ : Mta)])).flatMap Mta.c) := by
       rw [<- zmn, zmT, zml, zmB]; simpa [Nat.add_assoc] using ac
      have rF : Fr (fun k => some k = (Value.slice a' np k').ownBlock) w w2 := dP.out.trans fG (fun k hk e => by
       rcases HB.out k e.symm with h | h
       ·exact h
       ·omega)
      have rB : ∀ k, (Value.slice a9 (np + acc.length + 1) k9).ownBlock = some k -> (some k = (Value.slice a' np k').ownBlock ∨ w.heap.size < k) := fun k hk => by
       rcases ax with h | h
       ·exact HB.out k (h ▸ hk)
       ·rw [h] at hk; injection hk with hk; simp at hk; exact .inr (by omega)
      have rM : zix w.heap.size w2 < n7 + 1 := by
       rcases kC with _ | l9
       ·rw [zdc rD]; omega
       ·rw [zbu rD]; have := bd.out l9 rfl; omega
      have RD := zmk rD; have RO := zmk rO; have RF := zmk rF; have RB := zmk rB; clear rD rO rF rB ac ad ax aV fG; go_wp2; go_roundw
      case rel =>
       obtain ⟨j', rfl⟩ : ∃ j', j = j' + 1 := ⟨j - 1, by have := eU.out; simp at this; omega⟩; refine ⟨kC, acc ++ [⟨v0, ty, pu, ph⟩], j', RD, RO, RF, RB, zmk (dk.out j' rfl), zmk (fun l hl => ?_), by simp; omega, nV⟩; have := bd.out l hl; rw [zml, zmB]; omega
      case measure => rw [hM]; exact rM
theorem zjs (aj : St -> Prop) (hG : ∀ l, aj (some l) -> zdW (some l) /\ aj (zbd (some l)).2) (te : TypeId) (pe : Value) (dv : Value) (g base : Nat) (cur : Array Value) (pre : List Mta) (xs : List UInt8) (v sv : Value) (w : World) (h : Rec te pe w g cur xs v) (ho : w.ownsRow base 174 4 sv pre.length (pre.flatMap Mta.c)) (hb : g < base /\ 2 < base /\ base <= w.heap.size) (bm : pre.length <= 1073741824) (aZ : ∀ r, xs = 6 :: r -> aj (some r)) :
 Calls prog 81 #[dv, v, sv] w (zca w base sv.ownBlock pre xs) := by
 by_cases hx : (zaD (some xs)).1 = 6
 ·rcases xs with _ | ⟨b, rest⟩
  ·exact absurd hx (by decide)
  ·have hb2 : b = 6 := by
    have : b.toNat = (6 : UInt8).toNat := hx; exact UInt8.toNat_inj.1 this
   subst hb2; exact ziw aj hG te pe dv g base cur pre rest v sv w h ho hb bm (aZ _ rfl)
 ·exact ziv te pe dv g base cur pre xs v sv w h hx
theorem zfr (s : ByteArray) (r : List UInt8) (h : s.size < 18446744073709551616) : (gUv (some (zaP s ++ r))).1 = s.size := by
 unfold zaP; rw [zmn, zeJ s.size h]
theorem zgF (s : Mta) (hs : s.wf) (r : List UInt8) : zdW (some (zb4 s ++ r)) /\ zbd (some (zb4 s ++ r)) = (s, some r) := by
 obtain ⟨w1, w2, w3⟩ := hs; obtain ⟨R6, h6⟩ := exE (zaP s.help ++ r); obtain ⟨R5, h5⟩ := exE (zaP ziF ++ R6); obtain ⟨R4, h4⟩ := exE (zaP s.unit ++ R5); obtain ⟨R3, h3⟩ := exE (zaP ziE ++ R4); obtain ⟨R2, h2⟩ := exE (Lib.uvarint 2 ++ R3); have bw : zb4 s ++ r = Lib.uvarint s.ref ++ (s.ty :: R2) := by
  rw [<- h2, <- h3, <- h4, <- h5, <- h6]; unfold zb4 ziE ziF; simp only [zmn, List.cons_append]
 rw [bw]; obtain ⟨S, hS⟩ : ∃ S : St, some (Lib.uvarint s.ref ++ (s.ty :: R2)) = S := ⟨_, rfl⟩; rw [hS]; have a1 : gUv S = (s.ref, some (s.ty :: R2)) := by rw [<- hS]; exact zeJ s.ref w1 _
 have a2 : zaD (gUv S).2 = (s.ty.toNat, some R2) := by rw [a1]; rfl
 have a3 : gUv (zaD (gUv S).2).2 = (2, some R3) := by rw [a2, <- h2]; exact zeJ 2 (by omega) R3
 have n1 : mtaN S = 2 := znb Prod.fst a3; have n2 : zi2 S = some R3 := znb Prod.snd a3; have b1 : zb3 (some R3) = (ziE, some R4) := by rw [<- h3]; exact zdP ziE R4 (by decide)
 have b2 : zb3 (some R4) = (s.unit, some R5) := by rw [<- h4]; exact zdP s.unit R5 (by omega)
 have b3 : zb3 (some R5) = (ziF, some R6) := by rw [<- h5]; exact zdP ziF R6 (by decide)
 have b4 : zb3 (some R6) = (s.help, some r) := by rw [<- h6]; exact zdP s.help r (by omega)
 have f0 : zdz (some R3) 0 = ((⟨#[]⟩, ⟨#[]⟩), some R3) := rfl; have f1 : zdz (some R3) 1 = ((s.unit, ⟨#[]⟩), some R5) := by
  show gFld (zdz (some R3) 0) = _; rw [f0]; unfold gFld; simp only []; rw [b1]; simp only [if_true]; rw [b2]
 have bB : ¬ ziF = ziE := by decide
 have f2 : zdz (some R3) 2 = ((s.unit, s.help), some r) := by
  show gFld (zdz (some R3) 1) = _; rw [f1]; unfold gFld; simp only []; rw [b3]; simp only [znh bB, if_true]; rw [b4]
 refine ⟨⟨by rw [n1]; omega, fun k hk => ?_⟩, ?_⟩
 ·rw [n1] at hk
  rw [n2]; obtain rfl | rfl : k = 0 ∨ k = 1 := by omega
  ·rw [f0]
   show (gUv (some R3)).1 < _ /\ (gUv (zb3 (some R3)).2).1 < _; rw [b1]; show (gUv (some R3)).1 < _ /\ (gUv (some R4)).1 < _; rw [<- h3, zfr _ _ (by decide), <- h4, zfr _ _ (by omega)]; exact ⟨by decide, by omega⟩
  ·rw [f1]
   show (gUv (some R5)).1 < _ /\ (gUv (zb3 (some R5)).2).1 < _; rw [b3]; show (gUv (some R5)).1 < _ /\ (gUv (some R6)).1 < _; rw [<- h5, zfr _ _ (by decide), <- h6, zfr _ _ (by omega)]; exact ⟨by decide, by omega⟩
 ·unfold zbd
  rw [n1, n2, f2, a2, a1]; simp
theorem zlY (s : Mta) : ∃ c r, zb4 s = c :: r := by
 have := Lib.uvarint_pos s.ref; unfold zb4; rcases h : Lib.uvarint s.ref with _ | ⟨c, t⟩
 ·rw [h] at this; simp at this
 ·exact ⟨c, _, rfl⟩
theorem zjr (l : List Mta) (hl : ∀ s ∈ l, s.wf) : zaM (zbp l) = some l := by
 unfold zaM zbp; exact zes 6 zbd zb4 Mta.wf (fun x r hx => (zgF x hx r).2) zlY l hl
def GoodM (st : St) : Prop := st = none ∨ ∃ l : List Mta, (∀ s ∈ l, s.wf) /\ st = some (l.flatMap zb4)
theorem zlA (l : List UInt8) (h : GoodM (some l)) : zdW (some l) /\ GoodM (zbd (some l)).2 := by
 rcases h with h | ⟨l', fP, e⟩
 ·cases h
 ·injection e with e
  subst e; rcases l' with _ | ⟨s, l'⟩
  ·show zdW (some []) /\ GoodM (zbd (some [])).2
   have e0 : mtaN (some []) = 0 := rfl; exact ⟨⟨by rw [e0]; omega, fun k hk => by rw [e0] at hk; omega⟩, .inl rfl⟩
  ·obtain ⟨h1, h2⟩ := zgF s (fP s (by simp)) (l'.flatMap zb4)
   rw [zmz]; exact ⟨h1, .inr ⟨l', fun x hx => fP x (by simp [hx]), by rw [h2]⟩⟩
theorem goodM_rec (l : List Mta) (hl : ∀ s ∈ l, s.wf) (r : List UInt8) (e : zbp l = 6 :: r) : GoodM (some r) := by
 have e2 : 6 :: l.flatMap zb4 = 6 :: r := e; injection e2 with _ e2; exact .inr ⟨l, hl, by rw [e2]⟩
theorem labs_len (l : List Lab) : l.length <= zaE l := by
 induction l with
 | nil => simp
 | cons x l ih =>
   show l.length + 1 <= zbe x + zaE l; have : 1 <= zbe x := by unfold zbe zaB; split <;> omega
   omega
theorem len_any (l : List Lab) (w : World) (hs : ∀ p ∈ l, p.1.size < 16777216 /\ p.2.size < 16777216) (bG : zaE l <= 1099511627776) :
 Calls prog 55 #[.agg #[.string (zau l)]] w fun r w' => r = .returned (.int .i64 l.length) /\ Fr (fun _ => False) w w' := by
 have mR : (zau l).size <= 1099511627776 := by rw [zeP]; exact bG
 have dh := labs_len l; have nj : (zau l).data.toList.drop 0 = zaw (l.drop 0) := by simp [zau]
 have F1 : Fr (fun _ => False) w (w.alloc (.cells #[.string (zau l)] 99)) := (znq _ w).alloc _; have B1 : Blk (w.alloc (.cells #[.string (zau l)] 99)) w.heap.size 99 #[.string (zau l)] := znr w 99 _; generalize hS : zau l = s at *
 have HS := zmk hs; have cd := zmk F1; have cD := zmk B1; have iV := zmk nj; clear hs F1 B1 nj hS; go_enter func55, ntmps55; go_wp2
 go_loopw [3, 4] (fun vc vi wr => ∃ (i k : Nat), vc = .int .i64 k /\ vi = .int .i64 i /\ k <= l.length /\ i <= s.size /\ Hid (s.data.toList.drop i = zaw (l.drop k)) /\ Hid (Fr (fun _ => False) w wr) /\ Hid (Blk wr w.heap.size 99 #[.string s])) (fun _ vi _ => s.size - (intOf vi).toNat)
 case atStart => exact ⟨0, 0, rfl, rfl, zmv _, zmv _, iV, cd, cD⟩
 case round =>
  obtain ⟨i, k, rfl, rfl, hk, hi, HD, HF, HB⟩ := hrel; have c0 : wr.cell? ⟨w.heap.size, 0, none⟩ = some (.string s) := HB.out.cell 0; by_cases hlt : k < l.length
  ·obtain ⟨x, hx⟩ : ∃ x, l[k]? = some x := ⟨_, zmm hlt⟩
   have ej := HS.out x (zms hx); have hD : s.data.toList.drop i = zbA x.1.size ++ (x.1.data.toList ++ (zbA x.2.size ++ (x.2.data.toList ++ zaw (l.drop (k + 1))))) := by
    rw [HD.out, zdr l k x hx]; simp [zcY]
   have q1 := fun W => zdu s i x.1.size _ ej.1 (by omega) hD W; have d1 := zdt hD hi; have h2 := zcs hD; have d2 := zdt h2 d1; have h3 := zcs h2; have e1 : x.1.data.toList.length = x.1.size := by rw [<- znf]
   rw [zbX] at h3 d2; rw [zbX] at h2; rw [e1] at h3 d2; obtain ⟨i1, gC⟩ := exE (i + zaB x.1.size); rw [gC] at h3 d2; simp only [gC] at q1; have q2 := fun W => zdu s (i1 + x.1.size) x.2.size _ ej.2 (by omega) h3 W; have d3 := zdt h3 d2; have h4 := zcs h3; have d4 := zdt h4 d3; have h5 := zcs h4
   have e2 : x.2.data.toList.length = x.2.size := by rw [<- znf]
   rw [zbX, e2] at h5 d4; obtain ⟨i3, nd⟩ := exE (i1 + x.1.size + zaB x.2.size); rw [nd] at h5 d4; simp only [nd] at q2; have fL : 0 < zaB x.1.size := by unfold zaB; split <;> omega
   have ir : i < s.size := by omega
   have hgo : i < i3 + x.2.size := by omega
   have H5 := zmk h5; have HX := zmk hx; generalize x.1.size = n1 at *
   generalize x.2.size = n2 at *
   clear hD d1 h2 h3 d3 h4 h5 e1 e2 hx nd gC ej fL; have q2' : ∀ W, Calls prog 150 #[.string s, .int .i64 ((i1 : Int) + n1)] W fun e w' => e = .returned (.tuple #[.int .i64 n2, .int .i64 (i3 : Nat)]) /\ Fr (fun _ => False) W w' := q2; clear q2
   go_wp2_with (first
    | (go_at_call_of 150 (Value.int .i64 (i : Int)); refine (q1 _).mono ?_; rintro r w1 ⟨rfl, ai⟩; have cM := zmk (HB.out.fr ai (fun e => e)); have c1 := cM.out.cell 0)
    | (go_at_call 150; refine (q2' _).mono ?_; rintro r w2 ⟨rfl, ar⟩; have bE := zmk (cM.out.fr ar (fun e => e))))
   exact ⟨⟨i3 + n2, k + 1, rfl, rfl, hlt, d4, H5, zmk ((HF.out.same ai).same ar), bE⟩, by show s.size - ((i3 : Int) + n2).toNat < s.size - ((i : Int)).toNat; omega⟩
  ·obtain rfl : k = l.length := by omega
   have hD := HD.out; rw [List.drop_length] at hD; have iu : i = s.size := by
    have h := znb List.length hD; rw [List.length_drop, <- znf] at h; simp [zaw] at h; omega
   subst iu; have ir : ¬ ((s.size : Int) < s.size) := by omega
   go_wp2; go_ret; exact ⟨rfl, HF.out⟩
theorem zgX {w w' : World} {e : Nat} {o : Option Nat} {xs : List UInt8} {S : Nat -> Prop} (h : Enc w e o xs) (hf : Fr S w w') (he : ¬ S e) (ho : ∀ k, o = some k -> ¬ S k) : Enc w' e o xs := by
 obtain ⟨v, cs, hb, hs, h0, ab, rfl⟩ := h; exact ⟨v, cs, hb.fr hf he, hs, h0, zaj ab hf ho, rfl⟩
theorem zjh {w : World} {e c : Nat} {o : Option Nat} {xs : List UInt8} {t : TypeId} {cs : Array Value} (h : Enc w e o xs) (hb : Blk w c t cs) (h1 : 5 ≠ t) (h2 : 224 ≠ t) : o ≠ some c /\ e ≠ c := by
 obtain ⟨v, jN, bK, hs, h0, ab, rfl⟩ := h; exact ⟨zak ab hb h1, zns bK hb h2⟩
theorem put_fr {w W W' : World} {e : Nat} {o : Option Nat} {xs ys : List UInt8} (h : Put w e o xs ys W) (hf : Fr (fun _ => False) W W') : Put w e o xs ys W' := by
 obtain ⟨o1, he, ai, ho⟩ := h; exact ⟨o1, zgX he hf (fun e => e) (fun _ _ e => e), ai.trans hf (fun _ _ e => e.elim), ho⟩
theorem zgE {w w' : World} {e b : Nat} {o : Option Nat} {xs ys : List UInt8} {t : TypeId} {cs : Array Value} (h : Put w e o xs ys w') (he : Enc w e o xs) (hb : Blk w b t cs) (h5 : 5 ≠ t) (h4 : 224 ≠ t) : Blk w' b t cs := by
 have nn := zjh he hb h5 h4; obtain ⟨o2, _, ar, _⟩ := h; exact hb.fr ar (fun e => e.elim (fun e => nn.2 e.symm) (fun e => nn.1 e.symm))
theorem put_from {w0 w w' : World} {e : Nat} {o : Option Nat} {xs ys : List UInt8} (h : Put w e o xs ys w') (hf : Fr (fun _ => False) w0 w) : Put w0 e o xs ys w' := by
 obtain ⟨o2, he, ar, ho⟩ := h; exact ⟨o2, he, (hf.mono (fun _ _ e => e.elim)).same ar, ho.imp id (fun ⟨k, h, hk⟩ => ⟨k, h, zm3 hf.size hk⟩)⟩
theorem enc1_any (e c : Nat) (o : Option Nat) (xs : List UInt8) (x : Lab) (W : World) (h : Enc W e o xs) (hc : Blk W c 226 #[.pointer (some ⟨e, 0, none⟩)]) (hl : xs.length <= 274877906944) (h1 : x.1.size <= 1048576) (h2 : x.2.size <= 1048576) :
 Calls prog 201 #[.agg #[.string x.1, .string x.2], .pointer (some ⟨c, 0, none⟩)] W fun r w' => r = .returned (.tuple #[]) /\ Put W e o xs (zbN x) w' /\ (∀ b t cs, Blk W b t cs -> 5 ≠ t -> 224 ≠ t -> Blk w' b t cs) := by
 obtain ⟨a, b⟩ := x; dsimp only at h1 h2; obtain ⟨W1, ib⟩ := exE (W.alloc (.cells #[.string a, .string b] 108)); have F1 : Fr (fun _ => False) W W1 := by rw [<- ib]; exact (znq _ W).alloc _
 have aw : Blk W1 W.heap.size 108 #[.string a, .string b] := by rw [<- ib]; exact znr W 108 _
 have eG := zgX h F1 (fun e => e) (fun _ _ e => e); have ov := zb1 e o xs a W1 eG (by omega) (by omega); have bQ := hc.fr F1 (fun e => e); have k0 := bQ.cell 0; have k1 := aw.cell 0; simp at k0 k1; have oS : ∀ b t cs, Blk W b t cs -> 5 ≠ t -> 224 ≠ t -> Blk W1 b t cs := fun b t cs hb _ _ => hb.fr F1 (fun e => e); have K1 := zmk oS; have cd := zmk F1
 have jY := zmk eG; have HC1 := zmk bQ; have cD := zmk aw; clear oS F1 eG bQ aw h hc; have bA : (zaP a).length <= 1048586 := by
  have := zmA (x := a.size) (by omega); have e : a.data.toList.length = a.size := by rw [<- znf]
  rw [zaP, zml, e]; omega
 go_enter func201, ntmps201
 go_wp2_with (first
  | (go_at_call_of 187 (Value.string a); refine ov.mono ?_; rintro r w1 ⟨rfl, hp1⟩; refine Hid.out ?_))
 obtain ⟨o1, hE2, ai, dK⟩ := hp1; have nn1 := zjh jY.out HC1.out (by decide) (by decide); have nn2 := zjh jY.out cD.out (by decide) (by decide); have iB := HC1.out.fr ai (fun e => e.elim (fun e => nn1.2 e.symm) (fun e => nn1.1 e.symm)); have bi := cD.out.fr ai (fun e => e.elim (fun e => nn2.2 e.symm) (fun e => nn2.1 e.symm))
 have pZ := zb1 e o1 (xs ++ zaP a) b w1 hE2 (by rw [zml]; omega) (by omega); have k2 := iB.cell 0; have k3 := bi.cell 1; simp at k2 k3; have jj := cd.out.size
 have jc : Hid (∀ w2, Put w1 e o1 (xs ++ zaP a) (zaP b) w2 -> Put W e o xs (zaP a ++ zaP b) w2) := zmk (fun w2 h2 => Put.step hE2 ((cd.out.mono (fun _ _ e => e.elim)).same ai) (dK.imp id (fun ⟨k, h, hk⟩ => ⟨k, h, zm3 jj hk⟩)) h2)
 have nT : Hid (∀ b t cs, Blk W b t cs -> 5 ≠ t -> 224 ≠ t -> Blk w1 b t cs) := zmk (fun b t cs hb h5 h4 => by
  have hb1 := K1.out b t cs hb h5 h4; have nn := zjh jY.out hb1 h5 h4
  exact hb1.fr ai (fun e => e.elim (fun e => nn.2 e.symm) (fun e => nn.1 e.symm)))
 have dk := zmk hE2; clear hE2 ai dK nn1 nn2 iB bi k0 k1 ov; refine zmk ?_
 go_wp2_with (first
  | (go_at_call_of 187 (Value.string b); refine pZ.mono ?_; rintro r w2 ⟨rfl, aE⟩))
 go_end0; refine ⟨rfl, jc.out _ aE, fun b t cs hb h5 h4 => ?_⟩; have hb1 := nT.out b t cs hb h5 h4; have nn := zjh dk.out hb1 h5 h4; obtain ⟨o2, _, ar, _⟩ := aE; exact hb1.fr ar (fun e => e.elim (fun e => nn.2 e.symm) (fun e => nn.1 e.symm))
theorem zl0 (x : Lab) (h1 : x.1.size <= 1048576) (h2 : x.2.size <= 1048576) : (zbN x).length <= 2097172 := by
 have l1 := zmA (x := x.1.size) (by omega); have l2 := zmA (x := x.2.size) (by omega); have e1 : x.1.data.toList.length = x.1.size := by rw [<- znf]
 have e2 : x.2.data.toList.length = x.2.size := by rw [<- znf]
 simp only [zbN, zaP, zml, e1, e2]; omega
theorem fm_succ (l : List Lab) (k : Nat) (x : Lab) (hx : l[k]? = some x) : (l.take (k + 1)).flatMap zbN = (l.take k).flatMap zbN ++ zbN x := by
 rw [zmV, hx, zmT]; simp
theorem zg0 : ∀ (l : List Lab), (∀ p ∈ l, p.1.size <= 1048576 /\ p.2.size <= 1048576) -> (l.flatMap zbN).length <= l.length * 2097172
 | [], _ => by simp
 | x :: l, h => by
   have h1 := h x (by simp); have := zl0 x h1.1 h1.2; have := zg0 l (fun p hp => h p (by simp [hp])); rw [zmz, zml, zmC, Nat.add_mul]; omega
theorem zfF (l : List Lab) (hl : l.length <= 4096) (hs : ∀ p ∈ l, p.1.size <= 1048576 /\ p.2.size <= 1048576) : zaE l <= 1099511627776 := by
 have := zdM l hs; have h : l.length * 2097160 <= 4096 * 2097160 := zmx _ hl; omega
theorem zd7 (e : Nat) (o : Option Nat) (xs : List UInt8) (l : List Lab) (w : World) (h : Enc w e o xs) (bh : xs.length <= 1073741824) (hl : l.length <= 4096) (hs : ∀ p ∈ l, p.1.size <= 1048576 /\ p.2.size <= 1048576) :
 Calls prog 115 #[.pointer (some ⟨e, 0, none⟩), .agg #[.string (zau l)]] w (zbZ w e o xs (zbr l)) := by
 have lU : ∀ p ∈ l, p.1.size < 16777216 /\ p.2.size < 16777216 := fun p hp => by have := hs p hp; omega
 have bG := zfF l hl hs; have eg : ∀ args w, (callFunc 201 args).run prog w = .ok (.enter 201 args) w := enters_of func201 (by kernel_rfl) rfl; have hmf : ∀ (fn : Fn) (first aO : Array Value) (w : World), (Instr.makeFunc fn first aO).run prog w = .ok (.func fn first aO) w := fun _ _ _ _ => rfl; have HE := zmk h; have HS := zmk hs; clear h hs
 have hstr := zeP l; have nw := fun W => len_any l W lU bG; have gL := fun J W => ziY l 201 #[.pointer (some ⟨w.heap.size, 0, none⟩)] eg J W lU bG; generalize zau l = s at hstr nw gL ⊢; have HRG := zmk gL; clear gL lU; obtain ⟨n, hn⟩ := exE l.length; rw [hn] at nw hl; have HN := zmk hn; clear hn; go_enter func115, ntmps115
 go_wp2_with fail
 have F1 : Fr (fun _ => False) w ((w.alloc (.cells #[.pointer (some ⟨e, 0, none⟩)] 226)).alloc (.cells #[.string s] 99)) := ((znq _ w).alloc _).alloc _; have aw : Blk ((w.alloc (.cells #[.pointer (some ⟨e, 0, none⟩)] 226)).alloc (.cells #[.string s] 99)) w.heap.size 226 #[.pointer (some ⟨e, 0, none⟩)] := (znr w 226 _).alloc _
 have bi : Blk ((w.alloc (.cells #[.pointer (some ⟨e, 0, none⟩)] 226)).alloc (.cells #[.string s] 99)) (w.heap.size + 1) 99 #[.string s] := zaK w _ 99 _; generalize (w.alloc (.cells #[.pointer (some ⟨e, 0, none⟩)] 226)).alloc (.cells #[.string s] 99) = W1 at F1 aw bi ⊢
 have HC : Hid (∀ W S, Fr S W1 W -> ¬ S w.heap.size -> ¬ S (w.heap.size + 1) -> W.cell? ⟨w.heap.size, 0, none⟩ = some (.pointer (some ⟨e, 0, none⟩)) /\ W.cell? ⟨w.heap.size + 1, 0, none⟩ = some (.string s)) := zmk (fun W S hF h1 h2 => by
  have a1 := (aw.fr hF h1).cell 0; have a2 := (bi.fr hF h2).cell 0; simp at a1 a2
  exact ⟨a1, a2⟩)
 have cd := zmk F1; have cD := zmk aw; have cM := zmk bi; clear F1 aw bi; go_region_held3 (fun w' => w'.cell? ⟨w.heap.size, 0, none⟩ = some (.pointer (some ⟨e, 0, none⟩)) /\ w'.cell? ⟨w.heap.size + 1, 0, none⟩ = some (.string s))
  ((first | exact HC.out _ _ (znq (fun _ => False) W1).drew (fun e => e) (fun e => e) | exact HC.out _ _ ((znq (fun _ => False) W1).drew.same aq) (fun e => e) (fun e => e) | exact hc7.out | go_keep))
  ((first
    | (go_at_call 55; refine (nw _).mono ?_; rintro r5 w5 ⟨rfl, aq⟩)
    | (go_at_call 186; refine (zbk e o xs n (by omega) _ (zgX (zgX HE.out cd.out (fun e => e) (fun _ _ e => e)) ((znq (fun _ => False) W1).drew.same aq) (fun e => e) (fun _ _ e => e)) (by omega)).mono ?_; rintro r7 w7 ⟨rfl, pq⟩; have hc7 := zmk (by
        have qg := zgX (zgX HE.out cd.out (fun e => e) (fun _ _ e => e)) ((znq (fun _ => False) W1).drew.same aq) (fun e => e) (fun _ _ e => e); have a1 := (zgE pq qg (cD.out.fr ((znq (fun _ => False) W1).drew.same aq) (fun e => e)) (by decide) (by decide)).cell 0
        have a2 := (zgE pq qg (cM.out.fr ((znq (fun _ => False) W1).drew.same aq) (fun e => e)) (by decide) (by decide)).cell 0; simp at a1 a2
        exact ⟨a1, a2⟩ : w7.cell? ⟨w.heap.size, 0, none⟩ = some (.pointer (some ⟨e, 0, none⟩)) /\ w7.cell? ⟨w.heap.size + 1, 0, none⟩ = some (.string s)))))
 have F5 : Fr (fun _ => False) w w5 := cd.out.same ((znq (fun _ => False) W1).drew.same aq); have qg := zgX HE.out F5 (fun e => e) (fun _ _ e => e); have hB7 := zgE pq qg (cD.out.fr ((znq (fun _ => False) W1).drew.same aq) (fun e => e)) (by decide) (by decide); have hp := put_from pq F5; obtain ⟨c1, c2⟩ := hc7.out
 have hR := HRG.out (fun k W => Put w e o xs (Lib.uvarint n ++ (l.take k).flatMap zbN) W /\ Blk W w.heap.size 226 #[.pointer (some ⟨e, 0, none⟩)]) w7 (fun k W W' h hf => ⟨put_fr h.1 hf, h.2.fr hf (fun e => e)⟩) ⟨by simpa using hp, hB7⟩ (by
  rintro k x W hx ⟨hp, hb⟩ hb9; have ej := HS.out x (zms hx); obtain ⟨o1, he1, ai, dK⟩ := hp; have ak : (xs ++ (Lib.uvarint n ++ (l.take k).flatMap zbN)).length <= 274877906944 := by
   have l1 := zmA (x := n) (by omega); have l2 := zg0 (l.take k) (fun p hp => HS.out p (zni hp)); have l3 : (l.take k).length <= n := by rw [<- HN.out, zm7]; exact Nat.min_le_right _ _
   have l4 : (l.take k).length * 2097172 <= 4096 * 2097172 := zmx _ (by omega); simp only [zml] at *
   omega
  refine (enc1_any e w.heap.size o1 _ x W he1 hb ak ej.1 ej.2).mono ?_; rintro r w' ⟨rfl, hp', hk⟩; refine ⟨rfl, ⟨?_, hk _ _ _ hb (by decide) (by decide)⟩, hk _ _ _ hb9 (by decide) (by decide)⟩; rw [fm_succ l k x hx, <- zmn]
  exact Put.step he1 ai dK hp')
 clear F5 qg hB7 hp pq aq hc7; go_wp2_with (go_at_call 152; refine hR.mono ?_; rintro r w8 ⟨rfl, hj, _⟩)
 go_end0; refine ⟨rfl, ?_⟩; rw [zmL] at hj; rw [zbr, HN.out]; exact hj
def zhw (s : Ser) : Prop := s.ref < 18446744073709551616 /\ s.labs.length <= 12 /\ (∀ p ∈ s.labs, p.1.size <= 600 /\ p.2.size <= 600) /\ s.labs.Pairwise (fun a b => a.1 ≠ b.1)
def zbT (s : Ser) : List UInt8 := Lib.beBytes 8 s.ref ++ zbr (zaG s.labs)
def zbF (l : List Ser) : List UInt8 := 1 :: l.flatMap zbT
theorem za3 {α : Type} (f : α -> List UInt8) (m : Nat) : ∀ l : List α, (∀ x ∈ l, (f x).length <= m) -> (l.flatMap f).length <= l.length * m
 | [], _ => by simp
 | x :: l, hf => by
   have h1 := za3 f m l (fun y hy => hf y (znk _ hy)); have h2 := hf x (zne ..); rw [zmz, zml, zmC, Nat.add_mul]; omega
theorem zgY (s : ByteArray) (h : s.size < 18446744073709551616) : (zaP s).length <= 10 + s.size := by
 have := zmA h; rw [zaP, zml, <- znf]; omega
theorem zfe (l : List Lab) (hl : l.length <= 12) (hs : ∀ p ∈ l, p.1.size <= 600 /\ p.2.size <= 600) : (zbr l).length <= 14650 := by
 have h0 := zmA (x := l.length) (by omega)
 have h1 := za3 zbN 1220 l (fun p hp => by
  have := hs p hp; have a1 := zgY p.1 (by omega); have a2 := zgY p.2 (by omega)
  rw [zbN, zml]; omega)
 have h2 : l.length * 1220 <= 12 * 1220 := zmx _ hl; rw [zbr, zml]; omega
theorem zhR (s : Ser) (h : zhw s) : (zbT s).length <= 20000 := by
 have hp := (zbW ltL zc9 zcC zcB s.labs).2; have := zfe (zaG s.labs) (by rw [za2]; exact h.2.1) (fun p hm => h.2.2.1 p (hp.mem_iff.mp hm)); rw [zbT, zml, zmu]; omega
theorem zkx (ep : Value) (sv : Value) (P : Nat -> Prop) (v : Value) (xs : List UInt8) (l : List Ser) (w : World) (h : Sl P w sv 2 l.length (l.flatMap sero)) (ab : w.ownsRow 0 5 1 v xs.length (bc xs)) (hl : xs.length <= 536870912)
 (au : l.length <= 12) (aG : ∀ s ∈ l, zhw s) (hP : ∀ g, P g -> g < w.heap.size /\ some g ≠ v.ownBlock) :
 Calls prog 91 #[ep, sv, v] w (zbR w v.ownBlock (xs ++ zbF l)) := by
 obtain ⟨A, c, rfl, ak, aQ, hr⟩ := h; obtain ⟨a', n', k', rfl⟩ := zac ab; obtain ⟨n, hn⟩ := exE l.length; rw [hn] at aQ hr au ⊢; have hE := Enc.made (z := .int .u8 0) ab _ rfl; have hQ := zcm w.heap.size _ xs 1 _ hE (by omega); have e2 : ((1 : UInt8).toNat : Int) = 1 := rfl; rw [e2] at hQ; have HN := zmk hn; have HR := zmk hr; have HP := zmk hP; have HE := zmk hE
 clear hE hr e2 hn ak hP; go_enter func91, ntmps91; go_wp2_with (go_at_call 180; refine hQ.mono ?_; rintro r1 w1 ⟨rfl, R⟩; refine Hid.out ?_)
 have cU := zmk R; clear R hQ; refine zmk ?_; go_wp2_with fail
 have cP : Fr (fun k => some k = (Value.slice a' n' k').ownBlock) w (w.alloc (.cells #[.slice a' n' k', .int .u8 0, .int .u8 0, .int .u8 0, .int .u8 0, .int .u8 0, .int .u8 0, .int .u8 0, .int .u8 0, .int .u8 0, .int .u8 0] 224)) := (znq _ w).alloc _; generalize dZ : w.alloc _ = WB at HE cU cP; have hB : w.heap.size < WB.heap.size := by rw [<- dZ]; simp
 clear dZ; have dF := zmk cP; clear cP; go_loopw [15] (fun i wr => ∃ k : Nat, k <= n /\ i = .int .i64 k /\ Put WB w.heap.size (Value.slice a' n' k').ownBlock xs ([1] ++ (l.take k).flatMap zbT) wr) (fun i _ => n - (intOf i).toNat)
 case atStart => exact ⟨0, zmv _, rfl, by simpa using cU.out⟩
 case round =>
  obtain ⟨k, hk, rfl, R⟩ := hrel; by_cases hlt : k < n
  ·obtain ⟨g, off, rfl, fV, aa⟩ := HR.out (by omega)
   have hg := HP.out g fV; obtain ⟨x, hx⟩ : ∃ x, l[k]? = some x := ⟨_, zmm (by rw [HN.out]; exact hlt)⟩; have eV := aG x (zms hx)
   have dM : Fr (fun k => some k = (Value.slice a' n' k').ownBlock) w wr := dF.out.trans R.fr (fun k hk e => by
    rcases e with e | e
    ·omega
    ·exact e)
   have cc : ∀ j, j < 2 -> ∀ u, (sero x)[j]? = some u -> wr.cell? ⟨g, off + (k * 2 + j), none⟩ = some u := fun j hj u hu => by
    have := aa (k * 2 + j) u (by rw [zbE sero (fun _ => rfl) l k x hx j hj]; exact hu); rw [dM.cell (p := ⟨g, off + (k * 2 + j), none⟩) hg.1 hg.2]; exact this
   have d0 : wr.cell? ⟨g, off + k * 2, none⟩ = some (.int .u64 x.ref) := cc 0 (by omega) _ rfl; have d1 : wr.cell? ⟨g, off + k * 2 + 1, none⟩ = some (.string (zau (zaG x.labs))) := cc 1 (by omega) _ rfl; have bF : ([(1 : UInt8)] ++ (l.take k).flatMap zbT).length <= 1 + k * 20000 := by
    have h1 := za3 zbT 20000 (l.take k) (fun s hs => zhR s (aG s (zni hs))); have h2 : (l.take k).length <= k := znl _ _; have h3 : (l.take k).length * 20000 <= k * 20000 := zmx _ h2; rw [zml, zmB]; omega
   have cy : k * 20000 <= 12 * 20000 := zmx _ (by omega); obtain ⟨Y, hY⟩ := exE ([(1 : UInt8)] ++ (l.take k).flatMap zbT); rw [hY] at bF; rw [hY] at R; have HY := zmk hY; have HX := zmk hx; obtain ⟨st, ba⟩ := exE (zau (zaG x.labs)); rw [ba] at d1; have df := znr wr 127 #[.int .u64 x.ref, .string st]
   have RA := R.alloc (.cells #[.int .u64 x.ref, .string st] 127); have cV := zmk df; have bT := zmk RA; have kE : Y.length <= 240001 := by omega
   have HW := zmk eV
   have ra := zmk (fun (e : Nat) (o : Option Nat) (zs : List UInt8) (W : World) (h : Enc W e o zs) (hz : zs.length <= 1073741824) => by
    have := zd7 e o zs (zaG x.labs) W h hz (by rw [za2]; have := eV.2.1; omega) (fun p hp => by have := eV.2.2.1 p ((zbW ltL zc9 zcC zcB x.labs).2.mem_iff.mp hp); omega); rw [ba] at this
    exact this)
   clear hx dM cc df aa hY R RA bF cy aG eV ba
   go_wp2_with (first
    | (go_at_call 181; refine (zag bT.out (f := 181) (args := #[.pointer (some ⟨w.heap.size, 0, none⟩), .int .u64 x.ref]) (zs := Lib.beBytes 8 x.ref) (fun o2 he => zcn _ o2 _ _ HW.out.1 _ he (by rw [zml]; omega))).mono ?_; rintro rA wA ⟨rfl, R1, K1⟩
       have aw := K1.out _ _ _ (by decide) (by decide) cV.out; have p1 := aw.cell 1; have aW := zmk R1; have bI : (Y ++ Lib.beBytes 8 x.ref).length <= 240009 := by rw [zml, zmu]; omega
       clear R1 K1 aw)
    | (go_at_call 115; refine (zag aW.out (f := 115) (args := #[.pointer (some ⟨w.heap.size, 0, none⟩), .agg #[.string st]]) (zs := zbr (zaG x.labs)) (fun o2 he => ra.out _ o2 _ _ he (by rw [zml]; omega))).mono ?_; rintro rB wB ⟨rfl, R1, K1⟩
       have bX := zmk R1
       clear R1 K1 aW))
   have RE : Put WB w.heap.size (Value.slice a' n' k').ownBlock xs ([1] ++ (l.take (k + 1)).flatMap zbT) wB := by
    rw [zam zbT l k x HX.out, <- zmn, HY.out]; simpa [zbT, zmn] using bX.out
   have cQ := zmk RE; clear RE bX; go_wp2; go_roundw
   case rel => exact ⟨k + 1, by omega, by go_num, cQ.out⟩
   case measure => simp [intOf]; omega
  ·obtain rfl : k = n := by omega
   obtain ⟨oZ, dy, dX, fN⟩ := R; have hG := zd9 _ _ _ _ dy; have HEZ := zmk dy; have HZ := zmk dX; clear dy dX; go_wp2_with (go_at_call 116; refine hG.mono ?_; rintro rr w2 ⟨v2, rfl, rfl, af, bI⟩)
   go_ret; refine ⟨v2, rfl, ?_, dF.out.trans HZ.out (fun k hk e => ?_), ?_⟩
   ·have e1 : l.take k = l := zmt (by rw [HN.out]; exact zmw _)
    rw [e1] at af; simpa [zbF] using af
   ·rcases e with e | e
    ·omega
    ·exact e
   ·rw [bI]
    rcases fN with h | ⟨k2, h, cO⟩
    ·exact .inl h
    ·exact .inr ⟨k2, h, by omega⟩
def zfZ (s : Exm) : Prop := s.ref < 18446744073709551616 /\ -9223372036854775808 <= s.t /\ s.t <= 9223372036854775807 /\ s.v < 18446744073709551616 /\ s.labs.length <= 12 /\ (∀ p ∈ s.labs, p.1.size <= 600 /\ p.2.size <= 600) /\ s.labs.Pairwise (fun a b => a.1 ≠ b.1)
def xRef (f s : Exm) : Int := wrap64 (wrap64 s.ref - wrap64 f.ref)
def xT (f s : Exm) : Int := wrap64 (s.t - f.t)
def zbt (f s : Exm) : List UInt8 := Lib.uvarint (Lib.zigzag (xRef f s)) ++ (Lib.uvarint (Lib.zigzag (xT f s)) ++ (Lib.beBytes 8 s.v ++ zbr (zaG s.labs)))
def zbL (f : Exm) : List UInt8 := Lib.beBytes 8 f.ref ++ Lib.beBytes 8 (u64 f.t)
def encXs : List Exm -> List UInt8
 | [] => []
 | f :: r => zbL f ++ (f :: r).flatMap (zbt f)
theorem zhX (f s : Exm) (h : zfZ s) : (zbt f s).length <= 20000 := by
 have hp := (zbW ltL zc9 zcC zcB s.labs).2; have h0 := zfe (zaG s.labs) (by rw [za2]; exact h.2.2.2.2.1) (fun p hm => h.2.2.2.2.2.1 p (hp.mem_iff.mp hm)); have h1 := zdZ (xRef f s) (zae _).1 (zae _).2; have h2 := zdZ (xT f s) (zae _).1 (zae _).2; simp only [zbt, zml, zmu]; omega
theorem zlW (ep : Value) (sv : Value) (P : Nat -> Prop) (e : Nat) (o : Option Nat) (xs : List UInt8) (f : Exm) (r : List Exm) (w : World) (h : Sl P w sv 4 (r.length + 1) ((f :: r).flatMap exo)) (hE : Enc w e o xs) (hl : xs.length <= 536870913)
 (au : r.length + 1 <= 12) (aG : ∀ s ∈ f :: r, zfZ s) (hP : ∀ g, P g -> g < w.heap.size /\ ¬ (g = e ∨ some g = o)) :
 Calls prog 184 #[ep, sv, .pointer (some ⟨e, 0, none⟩)] w (zbZ w e o xs (encXs (f :: r))) := by
 obtain ⟨A, c, rfl, ak, aQ, hr⟩ := h; obtain ⟨n, hn⟩ := exE (r.length + 1); rw [hn] at aQ hr au ⊢; obtain ⟨g, off, rfl, fV, aa⟩ := hr (by omega); have hg := hP g fV; have HN := zmk hn; have c0 : w.cell? ⟨g, off, none⟩ = some (.int .u64 f.ref) := by simpa using aa 0 _ rfl
 have c1 : w.cell? ⟨g, off + 1, none⟩ = some (.int .i64 f.t) := aa 1 _ rfl; have c2 : w.cell? ⟨g, off + 2, none⟩ = some (.float .f64 f.v) := aa 2 _ rfl; have c3 : w.cell? ⟨g, off + 3, none⟩ = some (.string (zau (zaG f.labs))) := aa 3 _ rfl; obtain ⟨sf, pl⟩ := exE (zau (zaG f.labs)); rw [pl] at c3; have eM : (0 : Int) < (n : Int) := by omega
 have dV := zmk aa; have hsf := zbU
 have hBF := znr w 157 #[.int .u64 f.ref, .int .i64 f.t, .float .f64 f.v, .string sf]; have R0 := Put.refl (hE.alloc (.cells #[.int .u64 f.ref, .int .i64 f.t, .float .f64 f.v, .string sf] 157)); have hEA := hE.alloc (.cells #[.int .u64 f.ref, .int .i64 f.t, .float .f64 f.v, .string sf] 157); have HEA := zmk hEA; have kb := zmk hBF; have nR := zmk R0
 have elt : e < w.heap.size := by obtain ⟨_, _, hb, _⟩ := hE; exact hb.lt
 have HE := zmk hE; have oW := aG f (zne ..); have HW0 := zmk oW; clear hr hn ak aa hBF R0 hEA hE oW pl; go_enter func184, ntmps184
 go_wp2_with (go_at_call 181; refine (zag nR.out (f := 181) (args := #[.pointer (some ⟨e, 0, none⟩), .int .u64 f.ref]) (zs := Lib.beBytes 8 f.ref) (fun o2 he => zcn _ o2 _ _ HW0.out.1 _ he (by rw [zml, znd]; omega))).mono ?_; rintro r1 w1 ⟨rfl, R1, K1⟩; refine Hid.out ?_)
 have aw := K1.out _ _ _ (by decide) (by decide) kb.out; have b0 := aw.cell 0; have b1 := aw.cell 1; simp at b0 b1; have cD := zmk aw; have cU := zmk R1; clear aw R1 K1 c0 c1 c2 c3; refine zmk ?_
 go_wp2_with (go_at_call 182; refine (zag cU.out (f := 182) (args := #[.pointer (some ⟨e, 0, none⟩), .int .i64 f.t]) (zs := Lib.beBytes 8 (u64 f.t)) (fun o2 he => zdm _ o2 _ f.t _ he (by simp [zmu]; omega))).mono ?_; rintro r2 w2 ⟨rfl, R2, K2⟩; refine Hid.out ?_)
 have bi := K2.out _ _ _ (by decide) (by decide) cD.out; have aW := zmk R2; clear bi R2 K2 b0 b1 cD cU; refine zmk ?_; go_wp2_with fail
 have cP : Fr (fun k => k = e ∨ some k = o) w (w.alloc (.cells #[.int .u64 f.ref, .int .i64 f.t, .float .f64 f.v, .string sf] 157)) := (znq _ w).alloc _; have hws : w.heap.size < (w.alloc (.cells #[.int .u64 f.ref, .int .i64 f.t, .float .f64 f.v, .string sf] 157)).heap.size := by simp
 clear nR; generalize dZ : w.alloc (.cells #[.int .u64 f.ref, .int .i64 f.t, .float .f64 f.v, .string sf] 157) = WB at aW HEA kb cP hws; clear dZ; have dF := zmk cP; clear cP; go_loopw [22] (fun i wr => ∃ k : Nat, k <= n /\ i = .int .i64 k /\ Put WB e o xs (zbL f ++ ((f :: r).take k).flatMap (zbt f)) wr) (fun i _ => n - (intOf i).toNat)
 case atStart => exact ⟨0, zmv _, rfl, by simpa [zbL] using aW.out⟩
 case round =>
  obtain ⟨k, hk, rfl, R⟩ := hrel; by_cases hlt : k < n
  ·obtain ⟨x, hx⟩ : ∃ x, (f :: r)[k]? = some x := ⟨_, zmm (by rw [zmC, HN.out]; exact hlt)⟩
   have eV := aG x (zms hx); have dM : Fr (fun k => k = e ∨ some k = o) w wr := dF.out.trans R.fr (fun k hk h => h); have cc : ∀ j, j < 4 -> ∀ u, (exo x)[j]? = some u -> wr.cell? ⟨g, off + (k * 4 + j), none⟩ = some u := fun j hj u hu => by
    rw [dM.cell (p := ⟨g, off + (k * 4 + j), none⟩) hg.1 hg.2]; exact dV.out (k * 4 + j) u (by rw [zdA exo (fun _ => rfl) (f :: r) k x hx j hj]; exact hu)
   have d0 : wr.cell? ⟨g, off + k * 4, none⟩ = some (.int .u64 x.ref) := cc 0 (by omega) _ rfl; have d1 : wr.cell? ⟨g, off + k * 4 + 1, none⟩ = some (.int .i64 x.t) := cc 1 (by omega) _ rfl; have d2 : wr.cell? ⟨g, off + k * 4 + 2, none⟩ = some (.float .f64 x.v) := cc 2 (by omega) _ rfl; have d3 : wr.cell? ⟨g, off + k * 4 + 3, none⟩ = some (.string (zau (zaG x.labs))) := cc 3 (by omega) _ rfl
   have ko := R.blk HEA.out kb.out (by decide) (by decide); have b0 := ko.cell 0; have b1 := ko.cell 1; simp at b0 b1; have hws2 := ko.lt; have bF : (zbL f ++ ((f :: r).take k).flatMap (zbt f)).length <= 16 + k * 20000 := by
    have h1 := za3 (zbt f) 20000 ((f :: r).take k) (fun s hs => zhX f s (aG s (zni hs))); have h2 : ((f :: r).take k).length <= k := znl _ _; have h3 : ((f :: r).take k).length * 20000 <= k * 20000 := zmx _ h2; have h4 : (zbL f).length = 16 := by simp [zbL, zmu]
    rw [zml, h4]; omega
   have cy : k * 20000 <= 12 * 20000 := zmx _ (by omega); obtain ⟨Y, hY⟩ := exE (zbL f ++ ((f :: r).take k).flatMap (zbt f)); rw [hY] at bF; rw [hY] at R; have HY := zmk hY; have HX := zmk hx; obtain ⟨st, ba⟩ := exE (zau (zaG x.labs)); rw [ba] at d3; have df := znr wr 157 #[.int .u64 x.ref, .int .i64 x.t, .float .f64 x.v, .string st]
   have RA := R.alloc (.cells #[.int .u64 x.ref, .int .i64 x.t, .float .f64 x.v, .string st] 157); have dH := zmk (ko.alloc (.cells #[.int .u64 x.ref, .int .i64 x.t, .float .f64 x.v, .string st] 157)); have cV := zmk df; have bT := zmk RA; have kE : Y.length <= 240016 := by omega
   have HW := zmk eV
   have ra := zmk (fun (e : Nat) (o : Option Nat) (zs : List UInt8) (W : World) (h : Enc W e o zs) (hz : zs.length <= 1073741824) => by
    have := zd7 e o zs (zaG x.labs) W h hz (by rw [za2]; have := eV.2.2.2.2.1; omega) (fun p hp => by have := eV.2.2.2.2.2.1 p ((zbW ltL zc9 zcC zcB x.labs).2.mem_iff.mp hp); omega); rw [ba] at this
    exact this)
   obtain ⟨Q1, ee⟩ := exE (Lib.uvarint (Lib.zigzag (xRef f x))); obtain ⟨Q2, de⟩ := exE (Lib.uvarint (Lib.zigzag (xT f x))); have jA := zdZ (xRef f x) (zae _).1 (zae _).2; have jz := zdZ (xT f x) (zae _).1 (zae _).2; rw [ee] at jA; rw [de] at jz; have gX := zmk ee; have eS := zmk de; have hr8 := ziU
   clear hx dM cc df ko hY R RA bF cy aG eV ba ee de dV
   go_wp2_with (first
    | (go_at_call 183; refine (zag bT.out (f := 183) (args := #[.pointer (some ⟨e, 0, none⟩), .int .i64 (xRef f x)]) (zs := Q1) (fun o2 he => by have := zax _ o2 _ (xRef f x) (zae _).1 (zae _).2 _ he (by rw [zml]; omega); rw [gX.out] at this; exact this)).mono ?_; rintro rA wA ⟨rfl, R1, K1⟩
       have aw := K1.out _ _ _ (by decide) (by decide) cV.out; have bi := K1.out _ _ _ (by decide) (by decide) dH.out; have p1 := aw.cell 1; have q1 := bi.cell 1; simp at p1 q1; have dC := zmk aw; have aW := zmk R1; have bI : (Y ++ Q1).length <= 240026 := by rw [zml]; omega
       clear R1 K1 aw bi bT b0 b1)
    | (go_at_call 183; refine (zag aW.out (f := 183) (args := #[.pointer (some ⟨e, 0, none⟩), .int .i64 (xT f x)]) (zs := Q2) (fun o2 he => by have := zax _ o2 _ (xT f x) (zae _).1 (zae _).2 _ he (by rw [zml]; omega); rw [eS.out] at this; exact this)).mono ?_; rintro rB wB ⟨rfl, R1, K1⟩
       have aw := K1.out _ _ _ (by decide) (by decide) dC.out; have p2 := aw.cell 2; simp at p2; have ry := zmk aw; have aS := zmk R1; have eW : (Y ++ Q1 ++ Q2).length <= 240036 := by rw [zml]; omega
       clear R1 K1 aw p1 q1 aW bI dC)
    | (go_at_call 181; refine (zag aS.out (f := 181) (args := #[.pointer (some ⟨e, 0, none⟩), .int .u64 x.v]) (zs := Lib.beBytes 8 x.v) (fun o2 he => zcn _ o2 _ _ HW.out.2.2.2.1 _ he (by rw [zml]; omega))).mono ?_; rintro rC wC ⟨rfl, R1, K1⟩
       have aw := K1.out _ _ _ (by decide) (by decide) ry.out; have p3 := aw.cell 3; simp at p3; have jS := zmk R1; have oX : (Y ++ Q1 ++ Q2 ++ Lib.beBytes 8 x.v).length <= 240044 := by rw [zml, zmu]; omega
       clear R1 K1 aw p2 aS eW ry)
    | (go_at_call 115; refine (zag jS.out (f := 115) (args := #[.pointer (some ⟨e, 0, none⟩), .agg #[.string st]]) (zs := zbr (zaG x.labs)) (fun o2 he => ra.out _ o2 _ _ he (by rw [zml]; omega))).mono ?_; rintro rD wD ⟨rfl, R1, K1⟩
       have bX := zmk R1
       clear R1 K1 jS))
   have RE : Put WB e o xs (zbL f ++ ((f :: r).take (k + 1)).flatMap (zbt f)) wD := by
    rw [zam (zbt f) (f :: r) k x HX.out, <- zmn, HY.out]; unfold zbt; rw [gX.out, eS.out]; simpa [zmn] using bX.out
   have cQ := zmk RE; clear RE bX; go_wp2; go_roundw
   case rel => exact ⟨k + 1, by omega, by go_num, cQ.out⟩
   case measure => simp [intOf]; omega
  ·obtain rfl : k = n := by omega
   go_wp2; go_end0; have e1 : (f :: r).take k = f :: r := zmt (by rw [zmC, HN.out]; exact zmw _); rw [e1] at R; obtain ⟨oZ, dy, dX, fN⟩ := R; refine ⟨rfl, oZ, dy, dF.out.trans dX (fun k hk h => h), ?_⟩; rcases fN with h | ⟨k2, h, cO⟩
   ·exact .inl h
   ·exact .inr ⟨k2, h, by omega⟩
end Go.Proofs.YtbkookiigkckdaaGreatDoor
