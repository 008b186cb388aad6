/- Merged. -/
import Derived.Test.YtbkookiigkckdaaGreatDoorKD15
import Derived.Test.YtbkookiigkckdaaGreatDoorKD16
import Derived.Deep.SlicePairs
set_option linter.unusedVariables false
set_option linter.unusedSimpArgs false
set_option maxRecDepth 100000
set_option maxHeartbeats 8000000
namespace Go.Proofs.YtbkookiigkckdaaGreatDoor
open Go.RowKit Go.Proofs.Tryz
def zeL (f s : Rhs) : Int := wrap64 (wrap64 s.ref - wrap64 f.ref)
def hT (f s : Rhs) : Int := wrap64 (s.t - f.t)
def Rhs.ok (s : Rhs) : Prop := s.ref < 18446744073709551616 /\ -9223372036854775808 <= s.t /\ s.t <= 9223372036854775807 /\ s.h.ok
def zar (f : Rhs) : List UInt8 := Lib.beBytes 8 f.ref ++ Lib.beBytes 8 (u64 f.t)
theorem zeY {e : Nat} {o : Option Nat} {w w1 : World} {xs ys zs : List UInt8} (h : Put w e o xs ys w1) {f : FuncId} {args : Array Value}
 (hc : ∀ o1, Enc w1 e o1 (xs ++ ys) -> (o1 = o ∨ ∃ k, o1 = some k /\ w.heap.size <= k) -> Calls prog f args w1 (zbZ w1 e o1 (xs ++ ys) zs)) : Calls prog f args w1 fun r w2 => r = .returned (.tuple #[]) /\ Put w e o xs (ys ++ zs) w2 /\ Hid (Keeps w1 w2) := by
 obtain ⟨o1, he, hf, ho⟩ := h; exact (hc o1 he ho).mono fun r w2 ⟨hr, h2⟩ => ⟨hr, Put.step he hf ho h2, h2.keeps he⟩
theorem zeN (l : List (Int × Nat)) (n : Nat) (hn : l.length <= n) (hn2 : n <= 60) (h : ∀ p ∈ l, -2147483648 <= p.1 /\ p.1 <= 2147483647 /\ p.2 < 4294967296) : (zbS l).length <= 1210 := by
 have h1 := zbE zaO 20 l (fun p hp => zc5 p (h p hp)); have h2 := zmx (x := l.length) (by omega); have h3 : l.length * 20 <= 60 * 20 := zmu _ (by omega); rw [zbS, zmi]; omega
theorem zkU (l : List Int) (hn : l.length <= 60) (h : ∀ x ∈ l, -9223372036854775808 <= x /\ x <= 9223372036854775807) : (zdr l).length <= 610 := by
 have h1 := zbE zzu 10 l (fun x hx => zbu x (h x hx).1 (h x hx).2); have h2 := zmx (x := l.length) (by omega); have h3 : l.length * 10 <= 60 * 10 := zmu _ (by omega); rw [zdr, zmi]; omega
theorem zio (l : List Nat) (hn : l.length <= 60) : (zc6 l).length <= 610 := by
 have h1 := zbE (Lib.beBytes 8) 8 l (fun x hx => by simp [zmr]); have h2 := zmx (x := l.length) (by omega); have h3 : l.length * 8 <= 60 * 8 := zmu _ (by omega); rw [zc6, zmi]; omega
theorem cus_len (h : Hst) (k : h.ok) : (zcu h).length <= 610 := by
 have := zio h.cus k.few.2.2.2.2.2.2; unfold zcu; split
 ·exact this
 ·exact zms _
theorem zi6 (h : Hst) (k : h.ok) : (zaX h).length <= 5000 := by
 have a1 := zbu h.schema (by have := k.s0; omega) (by have := k.s1; omega); have a2 := zmx k.zc; have a3 := zmx k.cnt; have a4 := zeN h.pos 60 k.few.1 (by omega) k.pos; have a5 := zeN h.neg 60 k.few.2.1 (by omega) k.neg; have a6 := zkU h.ups k.few.2.2.1 k.ups; have a7 := zkU h.downs k.few.2.2.2.1 k.downs; have a8 := cus_len h k
 have a9 : (Lib.beBytes 8 h.thr).length = 8 := by simp [zmr]
 have a10 : (Lib.beBytes 8 h.sum).length = 8 := by simp [zmr]
 simp only [zaX, zmi, zmy]; omega
def za1 (f s : Rhs) : List UInt8 := zzu (zeL f s) ++ (zzu (hT f s) ++ zaX s.h)
theorem zfl (f s : Rhs) (h : s.ok) : (za1 f s).length <= 5020 := by
 have h1 := zbu (zeL f s) (zae _).1 (zae _).2; have h2 := zbu (hT f s) (zae _).1 (zae _).2; have h3 := zi6 s.h h.2.2.2; simp only [za1, zmi]; omega
def za3 (kind : UInt8) (q : Rhs -> Bool) : List Rhs -> List UInt8
 | [] => [kind]
 | f :: r => [kind] ++ (zar f ++ ((f :: r).filter q).flatMap (za1 f))
theorem zi7 (h : Hst) (k : h.ok) : (zaY h).length <= 5000 := by
 have a1 := zbu h.schema (by have := k.s0; omega) (by have := k.s1; omega); have a2 := (show (Lib.beBytes 8 h.zc).length <= 10 by simp [zmr]); have a3 := (show (Lib.beBytes 8 h.cnt).length <= 10 by simp [zmr]); have a4 := zeN h.pos 60 k.few.1 (by omega) k.pos; have a5 := zeN h.neg 60 k.few.2.1 (by omega) k.neg; have a6 := zio h.fups k.few.2.2.2.2.1
 have a7 := zio h.fdowns k.few.2.2.2.2.2.1; have a8 := cus_len h k; have a9 : (Lib.beBytes 8 h.thr).length = 8 := by simp [zmr]
 have a10 : (Lib.beBytes 8 h.sum).length = 8 := by simp [zmr]
 simp only [zaY, zmi, zmy]; omega
def za2 (f s : Rhs) : List UInt8 := zzu (zeL f s) ++ (zzu (hT f s) ++ zaY s.h)
theorem zfm (f s : Rhs) (h : s.ok) : (za2 f s).length <= 5020 := by
 have h1 := zbu (zeL f s) (zae _).1 (zae _).2; have h2 := zbu (hT f s) (zae _).1 (zae _).2; have h3 := zi7 s.h h.2.2.2; simp only [za2, zmi]; omega
def za4 (kind : UInt8) (q : Rhs -> Bool) : List Rhs -> List UInt8
 | [] => [kind]
 | f :: r => [kind] ++ (zar f ++ ((f :: r).filter q).flatMap (za2 f))
theorem zcF : (∀ (_ : True) (ep : Value) (sv : Value) (P : Nat -> Prop) (v : Value) (xs : List UInt8) (lo : List (Rhs × Value)) (w : World) (h : RdHW P w sv lo) (ab : w.ownsRow 0 5 1 v xs.length (bc xs)) (hl : xs.length <= 536870912)
 (au : lo.length <= 12) (aD : ∀ p ∈ lo, p.1.ok) (hP : ∀ g, P g -> g < w.heap.size /\ some g ≠ v.ownBlock),
 Calls prog 99 #[ep, sv, v] w (zbP w v.ownBlock (xs ++ za3 9 (fun _ => true) (lo.map Prod.fst)))) /\ (∀ (_ : True) (ep : Value) (sv : Value) (P : Nat -> Prop) (v : Value) (xs : List UInt8) (lo : List (Rhs × Value)) (w : World) (h : RdHF P w sv lo) (ab : w.ownsRow 0 5 1 v xs.length (bc xs)) (hl : xs.length <= 536870912)
 (au : lo.length <= 12) (aD : ∀ p ∈ lo, p.1.ok) (hP : ∀ g, P g -> g < w.heap.size /\ some g ≠ v.ownBlock),
 Calls prog 100 #[ep, sv, v] w (zbP w v.ownBlock (xs ++ za4 10 (fun _ => true) (lo.map Prod.fst)))) := by
 refine ⟨fun ag ep sv P v xs lo w h ab hl au aD hP => ?_, fun bU ep sv P v xs lo w h ab hl au aD hP => ?_⟩; all_goals
  obtain ⟨h, hin⟩ := h; obtain ⟨A, c, rfl⟩ := h.shape; obtain ⟨a', n', k', rfl⟩ := zab ab; have hE := Enc.made (z := .int .u8 0) ab _ rfl
  first | (guard_hyp ag; have hQ := zck w.heap.size _ xs 9 _ hE (by omega)) | (have hQ := zck w.heap.size _ xs 10 _ hE (by omega))
  first | (guard_hyp ag; have e2 : ((9 : UInt8).toNat : Int) = 9 := rfl) | (have e2 : ((10 : UInt8).toNat : Int) = 10 := rfl)
  rw [e2] at hQ; have cL : Fr (fun k => some k = (Value.slice a' n' k').ownBlock) w (w.alloc (.cells #[.slice a' n' k', .int .u8 0, .int .u8 0, .int .u8 0, .int .u8 0, .int .u8 0, .int .u8 0, .int .u8 0, .int .u8 0, .int .u8 0, .int .u8 0] 224)) := (znl _ w).alloc _; rcases lo with _ | ⟨f, r⟩
  ·clear hE cL e2 h hin aD
   first | (guard_hyp ag; go_enter func99, ntmps99) | (go_enter func100, ntmps100)
   go_wp2_with (first | (go_at_call 180; refine hQ.mono ?_; rintro r1 w1 ⟨rfl, R⟩; obtain ⟨o1, eF, ah, dK⟩ := R; have hG := zd4 _ _ _ _ eF) | (go_at_call 116; refine hG.mono ?_; rintro r w2 ⟨v2, rfl, rfl, af, bd⟩))
   go_ret
   first | (guard_hyp ag; refine ⟨v2, rfl, by simpa [za3] using af, zdl (o1 := o1) ah, ?_⟩) | (refine ⟨v2, rfl, by simpa [za4] using af, zdl (o1 := o1) ah, ?_⟩)
   rw [bd]; rcases dK with h | ⟨k, h, hk⟩
   ·exact .inl h
   ·exact .inr ⟨k, h, by simp at hk; omega⟩
  ·obtain ⟨n, hn⟩ := exE ((f :: r).length)
   rw [hn] at h au ⊢; obtain ⟨LO, eR⟩ := exE (f :: r); have eM : (0 : Int) < (n : Int) := by rw [<- hn]; simp
   have fT : ((n : Int) == 0) = false := by simp; omega
   have nA : f ∈ LO := by rw [<- eR]; exact zna ..
   have fo : LO[0]? = some f := by rw [<- eR]; rfl
   have dL : (f :: r).map Prod.fst = f.1 :: r.map Prod.fst := rfl; have gD : ∀ p ∈ LO, p.1.ok := by rw [<- eR]; exact aD
   first | (guard_hyp ag; have fm : ∀ p ∈ LO, RdW P w p.1.h p.2 := by rw [<- eR]; exact hin) | (have fm : ∀ p ∈ LO, RdF P w p.1.h p.2 := by rw [<- eR]; exact hin)
   rw [eR] at h hn
   first
    | guard_hyp ag
      have gM : za3 9 (fun _ => true) ((f :: r).map Prod.fst) = [9] ++ (zar f.1 ++ LO.flatMap (fun p => za1 f.1 p.1)) := by
       rw [<- eR]; have e1 : ∀ l : List Rhs, l.filter (fun _ => true) = l := fun l => List.filter_eq_self.2 (fun _ _ => rfl); rw [dL, za3, e1, zmw, zmw, List.flatMap_map]
    | have gM : za4 10 (fun _ => true) ((f :: r).map Prod.fst) = [10] ++ (zar f.1 ++ LO.flatMap (fun p => za2 f.1 p.1)) := by
       rw [<- eR]; have e1 : ∀ l : List Rhs, l.filter (fun _ => true) = l := fun l => List.filter_eq_self.2 (fun _ _ => rfl); rw [dL, za4, e1, zmw, zmw, List.flatMap_map]
   rw [gM]; obtain ⟨pH, nh, ng, _⟩ := gD f nA; obtain ⟨g, off, rfl, ga, aa⟩ := h.at (by omega); have hg := hP g ga; obtain ⟨f1, fv⟩ := f; simp only [] at pH nh ng; have c0 : w.cell? ⟨g, off, none⟩ = some (.int .u64 f1.ref) := aa 0 _ (by exact ze2 rhc (fun _ => rfl) LO 0 (f1, fv) fo 0 (by omega))
   have c1 : w.cell? ⟨g, off + 1, none⟩ = some (.int .i64 f1.t) := aa 1 _ (by exact ze2 rhc (fun _ => rfl) LO 0 (f1, fv) fo 1 (by omega)); have c2 : w.cell? ⟨g, off + 2, none⟩ = some fv := aa 2 _ (by exact ze2 rhc (fun _ => rfl) LO 0 (f1, fv) fo 2 (by omega)); obtain ⟨gf, _, qf, _⟩ := fm _ nA; simp only [] at qf; subst qf; have HN := zmh hn; have HP := zmh hP
   have HE := zmh hE; have cS := zmh cL; have dW := zmh aa; have se := zmh fm; have kv := zmh gD; clear hE cL e2 h hin aD gD fm hn dL gM aa eR nA fo hP; generalize dZ : w.alloc (.cells #[.slice a' n' k', .int .u8 0, .int .u8 0, .int .u8 0, .int .u8 0, .int .u8 0, .int .u8 0, .int .u8 0, .int .u8 0, .int .u8 0, .int .u8 0] 224) = WB at hQ HE cS
   have hB : w.heap.size < WB.heap.size := by rw [<- dZ]; simp
   rw [<- dZ] at hQ; have rv := zmh dZ; clear dZ
   first | (guard_hyp ag; go_enter func99, ntmps99) | (go_enter func100, ntmps100)
   go_wp2_with (go_at_call 180; refine hQ.mono ?_; rintro r1 w1 ⟨rfl, R⟩; refine Hid.out ?_)
   rw [rv.out] at R; clear hQ rv
   have gj := zmh (fun (W : World) (hf : Fr (fun k => k = w.heap.size ∨ some k = (Value.slice a' n' k').ownBlock) WB W) => cS.out.trans hf (fun k hk e => by
    rcases e with e | e
    ·omega
    ·exact e))
   have dE := gj.out w1 R.fr; have d0 : w1.cell? ⟨g, off, none⟩ = some (.int .u64 f1.ref) := by rw [dE.cell (p := ⟨g, off, none⟩) hg.1 hg.2]; exact c0
   have d1 : w1.cell? ⟨g, off + 1, none⟩ = some (.int .i64 f1.t) := by rw [dE.cell (p := ⟨g, off + 1, none⟩) hg.1 hg.2]; exact c1
   have d2 : w1.cell? ⟨g, off + 2, none⟩ = some (.pointer (some ⟨gf, 0, none⟩)) := by rw [dE.cell (p := ⟨g, off + 2, none⟩) hg.1 hg.2]; exact c2
   first | (guard_hyp ag; have cR := zmh (R.alloc (.cells #[.int .u64 f1.ref, .int .i64 f1.t, .pointer (some ⟨gf, 0, none⟩)] 290))) | (have cR := zmh (R.alloc (.cells #[.int .u64 f1.ref, .int .i64 f1.t, .pointer (some ⟨gf, 0, none⟩)] 298)))
   first | (guard_hyp ag; have kh := zmh (znm w1 290 #[.int .u64 f1.ref, .int .i64 f1.t, .pointer (some ⟨gf, 0, none⟩)])) | (have kh := zmh (znm w1 298 #[.int .u64 f1.ref, .int .i64 f1.t, .pointer (some ⟨gf, 0, none⟩)]))
   have jq := R.fr.size; clear R dE c0 c1 c2; refine zmh ?_
   go_wp2_with (first
    | (go_at_call 181; refine (zag cR.out (f := 181) (args := #[.pointer (some ⟨w.heap.size, 0, none⟩), .int .u64 f1.ref]) (zs := Lib.beBytes 8 f1.ref) (fun o2 he => zcl _ o2 _ f1.ref pH _ he (by rw [zmi, zmy]; omega))).mono ?_; rintro r2 w2 ⟨rfl, R2, K2⟩
       have bn := K2.out _ _ _ (by decide) (by decide) kh.out; have b1 : w2.cell? ⟨w1.heap.size, 1, none⟩ = some (.int .i64 f1.t) := bn.cell 1; have dg := zmh bn; have bj := zmh R2
       clear bn R2 K2 cR d0 d1 d2)
    | (go_at_call 182; refine (zag bj.out (f := 182) (args := #[.pointer (some ⟨w.heap.size, 0, none⟩), .int .i64 f1.t]) (zs := Lib.beBytes 8 (u64 f1.t)) (fun o2 he => zdj _ o2 _ f1.t _ he (by simp [zmr]; omega))).mono ?_; rintro r3 w3 ⟨rfl, R3, K3⟩
       have bH := zmh (K3.out _ _ _ (by decide) (by decide) dg.out); have bG := zmh R3
       clear R3 K3 bj b1 dg))
   clear kh; generalize hbf : w1.heap.size = bf at bH jq; clear hbf
   first | (guard_hyp ag; go_loopw [29] (fun i wr => ∃ k : Nat, k <= n /\ i = .int .i64 k /\ Hid (Put WB w.heap.size (Value.slice a' n' k').ownBlock xs ([9] ++ zar f1 ++ (LO.take k).flatMap (fun p => za1 f1 p.1)) wr) /\ Hid (Blk wr bf 290 #[.int .u64 f1.ref, .int .i64 f1.t, .pointer (some ⟨gf, 0, none⟩)])) (fun i _ => n - (intOf i).toNat)) | (go_loopw [29] (fun i wr => ∃ k : Nat, k <= n /\ i = .int .i64 k /\ Hid (Put WB w.heap.size (Value.slice a' n' k').ownBlock xs ([10] ++ zar f1 ++ (LO.take k).flatMap (fun p => za2 f1 p.1)) wr) /\ Hid (Blk wr bf 298 #[.int .u64 f1.ref, .int .i64 f1.t, .pointer (some ⟨gf, 0, none⟩)])) (fun i _ => n - (intOf i).toNat))
   case atStart => exact ⟨0, zms _, rfl, zmh (by simpa [zar] using bG.out), bH⟩
   case round =>
    obtain ⟨k, hk, rfl, HR, iy⟩ := hrel; by_cases hlt : k < n
    ·obtain ⟨x, hx⟩ : ∃ x, LO[k]? = some x := ⟨_, zmj (by rw [HN.out]; exact hlt)⟩
     have aF := zmp hx; have dM := gj.out wr HR.out.fr; have cc : ∀ j, j < 3 -> ∀ u, (rhc x)[j]? = some u -> wr.cell? ⟨g, off + (k * 3 + j), none⟩ = some u := fun j hj u hu => by
      rw [dM.cell (p := ⟨g, off + (k * 3 + j), none⟩) hg.1 hg.2]; exact dW.out (k * 3 + j) u (by rw [ze2 rhc (fun _ => rfl) LO k x hx j hj]; exact hu)
     have d0 : wr.cell? ⟨g, off + k * 3, none⟩ = some (.int .u64 x.1.ref) := cc 0 (by omega) _ rfl; have d1 : wr.cell? ⟨g, off + k * 3 + 1, none⟩ = some (.int .i64 x.1.t) := cc 1 (by omega) _ rfl; have d2 : wr.cell? ⟨g, off + k * 3 + 2, none⟩ = some x.2 := cc 2 (by omega) _ rfl; have fO := se.out x aF; have ma := kv.out x aF; obtain ⟨x1, xv⟩ := x; simp only [] at d0 d1 d2 fO ma; have nt := fO
     obtain ⟨gx, _, rfl, _⟩ := nt; have b0 : wr.cell? ⟨bf, 0, none⟩ = some (.int .u64 f1.ref) := iy.out.cell 0; have b1 : wr.cell? ⟨bf, 1, none⟩ = some (.int .i64 f1.t) := iy.out.cell 1; have mz := iy.out.lt
     first
      | guard_hyp ag
        have bI : ([(9 : UInt8)] ++ zar f1 ++ (LO.take k).flatMap (fun p => za1 f1 p.1)).length <= 17 + k * 5020 := by
         have h1 := zaM (fun p : Rhs × Value => za1 f1 p.1) 5020 LO k (fun p hp => zfl f1 p.1 (kv.out p hp)); have h4 : (zar f1).length = 16 := by simp [zar, zmr]
         rw [zmi, zmi, h4, zmy]; omega
      | have bI : ([(10 : UInt8)] ++ zar f1 ++ (LO.take k).flatMap (fun p => za2 f1 p.1)).length <= 17 + k * 5020 := by
         have h1 := zaM (fun p : Rhs × Value => za2 f1 p.1) 5020 LO k (fun p hp => zfm f1 p.1 (kv.out p hp)); have h4 : (zar f1).length = 16 := by simp [zar, zmr]
         rw [zmi, zmi, h4, zmy]; omega
     have ct : k * 5020 <= 12 * 5020 := zmu _ (by omega)
     first | (guard_hyp ag; obtain ⟨Y, hY⟩ := exE ([(9 : UInt8)] ++ zar f1 ++ (LO.take k).flatMap (fun p => za1 f1 p.1))) | (obtain ⟨Y, hY⟩ := exE ([(10 : UInt8)] ++ zar f1 ++ (LO.take k).flatMap (fun p => za2 f1 p.1)))
     rw [hY] at bI HR; have HY := zmh hY; have HX := zmh hx
     first | (guard_hyp ag; have cT := zmh (znm wr 290 #[.int .u64 x1.ref, .int .i64 x1.t, .pointer (some ⟨gx, 0, none⟩)])) | (have cT := zmh (znm wr 298 #[.int .u64 x1.ref, .int .i64 x1.t, .pointer (some ⟨gx, 0, none⟩)]))
     first | (guard_hyp ag; have bV := zmh (HR.out.alloc (.cells #[.int .u64 x1.ref, .int .i64 x1.t, .pointer (some ⟨gx, 0, none⟩)] 290))) | (have bV := zmh (HR.out.alloc (.cells #[.int .u64 x1.ref, .int .i64 x1.t, .pointer (some ⟨gx, 0, none⟩)] 298)))
     first | (guard_hyp ag; have dG := zmh (iy.out.alloc (.cells #[.int .u64 x1.ref, .int .i64 x1.t, .pointer (some ⟨gx, 0, none⟩)] 290))) | (have dG := zmh (iy.out.alloc (.cells #[.int .u64 x1.ref, .int .i64 x1.t, .pointer (some ⟨gx, 0, none⟩)] 298)))
     have kN : Y.length <= 60300 := by omega
     obtain ⟨Q1, ee⟩ := exE (zzu (zeL f1 x1)); obtain ⟨Q2, dc⟩ := exE (zzu (hT f1 x1)); have iG := zbu (zeL f1 x1) (zae _).1 (zae _).2; have iF := zbu (hT f1 x1) (zae _).1 (zae _).2; rw [ee] at iG; rw [dc] at iF; have ie := zmh ee; have eT := zmh dc; have rH := zmh fO; have ru := zmh ma
     clear hx dM cc hY bI ct ee dc aF fO ma HR iy
     first
      | guard_hyp ag
        go_wp2_with (first
         | (go_at_call 183; refine (zag bV.out (f := 183) (args := #[.pointer (some ⟨w.heap.size, 0, none⟩), .int .i64 (zeL f1 x1)]) (zs := Q1) (fun o2 he => by have := zaz _ o2 _ (zeL f1 x1) (zae _).1 (zae _).2 _ he (by rw [zmi]; omega); rw [show Lib.uvarint (Lib.zigzag (zeL f1 x1)) = Q1 from ie.out] at this; exact this)).mono ?_; rintro rA wA ⟨rfl, R1, K1⟩
            have ax := K1.out _ _ _ (by decide) (by decide) cT.out; have bn := K1.out _ _ _ (by decide) (by decide) dG.out; have p1 : wA.cell? ⟨wr.heap.size, 1, none⟩ = some (.int .i64 x1.t) := ax.cell 1; have q1 : wA.cell? ⟨bf, 1, none⟩ = some (.int .i64 f1.t) := bn.cell 1; have dB := zmh ax; have eI := zmh bn; have bj := zmh R1
            have bd : (Y ++ Q1).length <= 60310 := by rw [zmi]; omega
            clear R1 K1 ax bn bV b0 b1 cT dG)
         | (go_at_call 183; refine (zag bj.out (f := 183) (args := #[.pointer (some ⟨w.heap.size, 0, none⟩), .int .i64 (hT f1 x1)]) (zs := Q2) (fun o2 he => by have := zaz _ o2 _ (hT f1 x1) (zae _).1 (zae _).2 _ he (by rw [zmi]; omega); rw [show Lib.uvarint (Lib.zigzag (hT f1 x1)) = Q2 from eT.out] at this; exact this)).mono ?_; rintro rB wB ⟨rfl, R1, K1⟩
            have ax := K1.out _ _ _ (by decide) (by decide) dB.out; have eH := zmh (K1.out _ _ _ (by decide) (by decide) eI.out); have p2 : wB.cell? ⟨wr.heap.size, 2, none⟩ = some (.pointer (some ⟨gx, 0, none⟩)) := ax.cell 2; have bG := zmh R1; have eX : (Y ++ Q1 ++ Q2).length <= 60320 := by rw [zmi]; omega
            have HH := zmh (rH.out.fr (gj.out wB R1.fr) (fun g hg => (HP.out g hg).2))
            clear R1 K1 ax p1 q1 bj bd dB eI)
         | (go_at_call 189; refine (zeY bG.out (f := 189) (args := #[.pointer (some ⟨w.heap.size, 0, none⟩), .pointer (some ⟨gx, 0, none⟩)]) (zs := zaX x1.h) (fun o2 he dJ => zfz P _ o2 _ x1.h _ _ HH.out he (by rw [zmi]; omega) ru.out.2.2.2 (fun g hg => by
             have h1 := HP.out g hg; rintro (rfl | h2)
             ·omega
             ·rcases dJ with h3 | ⟨k, h3, hk⟩
              ·exact h1.2 (h2.trans h3)
              ·rw [h3] at h2; injection h2 with h2; omega))).mono ?_; rintro rD wD ⟨rfl, R1, K1⟩
            have bT := zmh R1; have kg := zmh (K1.out _ _ _ (by decide) (by decide) eH.out)
            clear R1 K1 bG eH))
      | go_wp2_with (first
         | (go_at_call 183; refine (zag bV.out (f := 183) (args := #[.pointer (some ⟨w.heap.size, 0, none⟩), .int .i64 (zeL f1 x1)]) (zs := Q1) (fun o2 he => by have := zaz _ o2 _ (zeL f1 x1) (zae _).1 (zae _).2 _ he (by rw [zmi]; omega); rw [show Lib.uvarint (Lib.zigzag (zeL f1 x1)) = Q1 from ie.out] at this; exact this)).mono ?_; rintro rA wA ⟨rfl, R1, K1⟩
            have ax := K1.out _ _ _ (by decide) (by decide) cT.out; have bn := K1.out _ _ _ (by decide) (by decide) dG.out; have p1 : wA.cell? ⟨wr.heap.size, 1, none⟩ = some (.int .i64 x1.t) := ax.cell 1; have q1 : wA.cell? ⟨bf, 1, none⟩ = some (.int .i64 f1.t) := bn.cell 1; have dB := zmh ax; have eI := zmh bn; have bj := zmh R1
            have bd : (Y ++ Q1).length <= 60310 := by rw [zmi]; omega
            clear R1 K1 ax bn bV b0 b1 cT dG)
         | (go_at_call 183; refine (zag bj.out (f := 183) (args := #[.pointer (some ⟨w.heap.size, 0, none⟩), .int .i64 (hT f1 x1)]) (zs := Q2) (fun o2 he => by have := zaz _ o2 _ (hT f1 x1) (zae _).1 (zae _).2 _ he (by rw [zmi]; omega); rw [show Lib.uvarint (Lib.zigzag (hT f1 x1)) = Q2 from eT.out] at this; exact this)).mono ?_; rintro rB wB ⟨rfl, R1, K1⟩
            have ax := K1.out _ _ _ (by decide) (by decide) dB.out; have eH := zmh (K1.out _ _ _ (by decide) (by decide) eI.out); have p2 : wB.cell? ⟨wr.heap.size, 2, none⟩ = some (.pointer (some ⟨gx, 0, none⟩)) := ax.cell 2; have bG := zmh R1; have eX : (Y ++ Q1 ++ Q2).length <= 60320 := by rw [zmi]; omega
            have HH := zmh (rH.out.fr (gj.out wB R1.fr) (fun g hg => (HP.out g hg).2))
            clear R1 K1 ax p1 q1 bj bd dB eI)
         | (go_at_call 192; refine (zeY bG.out (f := 192) (args := #[.pointer (some ⟨w.heap.size, 0, none⟩), .pointer (some ⟨gx, 0, none⟩)]) (zs := zaY x1.h) (fun o2 he dJ => zfA P _ o2 _ x1.h _ _ HH.out he (by rw [zmi]; omega) ru.out.2.2.2 (fun g hg => by
             have h1 := HP.out g hg; rintro (rfl | h2)
             ·omega
             ·rcases dJ with h3 | ⟨k, h3, hk⟩
              ·exact h1.2 (h2.trans h3)
              ·rw [h3] at h2; injection h2 with h2; omega))).mono ?_; rintro rD wD ⟨rfl, R1, K1⟩
            have bT := zmh R1; have kg := zmh (K1.out _ _ _ (by decide) (by decide) eH.out)
            clear R1 K1 bG eH))
     first
      | guard_hyp ag
        have cM : Hid (Put WB w.heap.size (Value.slice a' n' k').ownBlock xs ([9] ++ zar f1 ++ (LO.take (k + 1)).flatMap (fun p => za1 f1 p.1)) wD) := zmh (by
         rw [zal (fun p : Rhs × Value => za1 f1 p.1) LO k _ HX.out, <- zmk, HY.out]; unfold za1; rw [ie.out, eT.out]
         simpa [zmk] using bT.out)
      | have cM : Hid (Put WB w.heap.size (Value.slice a' n' k').ownBlock xs ([10] ++ zar f1 ++ (LO.take (k + 1)).flatMap (fun p => za2 f1 p.1)) wD) := zmh (by
         rw [zal (fun p : Rhs × Value => za2 f1 p.1) LO k _ HX.out, <- zmk, HY.out]; unfold za2; rw [ie.out, eT.out]
         simpa [zmk] using bT.out)
     clear bT; go_wp2; go_roundw
     case rel => exact ⟨k + 1, by omega, by go_num, cM, kg⟩
     case measure => simp [intOf]; omega
    ·obtain rfl : k = n := by omega
     obtain ⟨oZ, dx, dX, fS⟩ := HR.out; have hG := zd4 _ _ _ _ dx; have HZ := zmh dX; clear dx dX; go_wp2_with (go_at_call 116; refine hG.mono ?_; rintro rr w9 ⟨v2, rfl, rfl, af, bd⟩)
     go_ret; refine ⟨v2, rfl, ?_, gj.out _ HZ.out, ?_⟩
     ·have e1 : LO.take k = LO := zmq (by rw [HN.out]; exact zmt _)
      rw [e1] at af; simpa [zmk] using af
     ·rw [bd]
      rcases fS with h | ⟨k2, h, cI⟩
      ·exact .inl h
      ·exact .inr ⟨k2, h, by omega⟩
theorem zkm : type_of% (zcF.1 trivial) := zcF.1 trivial
theorem zkn : type_of% (zcF.2 trivial) := zcF.2 trivial
def zaV (s : Rhs) : Bool := s.h.schema == -53
theorem Put.grown {w w1 w2 : World} {e : Nat} {o : Option Nat} {xs ys : List UInt8} {base te z n : Nat} {r : Value} {cs : List Value} (R : Put w e o xs ys w1) (ho : w1.ownsRow base te z r n cs) (hb : w.heap.size <= base) (hg : w1.grownBy w2 r.ownBlock) (h1 : te ≠ 224) (h2 : 5 ≠ te) : Put w e o xs ys w2 := by
 obtain ⟨o1, he, hf, hoo⟩ := R; refine ⟨o1, ?_, hf.grown hg (fun k hk => .inr (zm0 hb (ho.lt k hk).1)), hoo⟩; have aq : Fr (fun k => some k = r.ownBlock) w1 w2 := (znl (fun k => some k = r.ownBlock) w1).grown hg (fun k hk => .inl hk.symm); obtain ⟨v, jU, bJ, hs, h0, ab, hv⟩ := he
 exact ⟨v, jU, bJ.fr aq (fun h => zak ho bJ h1 h.symm), hs, h0, zai ab aq (fun g hg h => zb4 ab ho h2 g hg h.symm), hv⟩
theorem zdv {w w' : World} {base e size n : Nat} {v : Value} {xs : List Value} (h : w.ownsRow base e size v n xs) (K : Keeps w w') (h1 : e ≠ 224) (h2 : e ≠ 5) : w'.ownsRow base e size v n xs :=
 ⟨h.1, h.2.imp id fun ⟨g, aK, cur, a1, a2, a3, a4⟩ => ⟨g, aK, cur, a1, a2, K g e cur h1 h2 a3, a4⟩⟩
theorem zdO {α : Type} (q : α -> Bool) (l : List α) (k : Nat) (x : α) (hx : l[k]? = some x) (hq : q x = true) : (l.take (k + 1)).filter q = (l.take k).filter q ++ [x] := by
 rw [zmS, hx, List.filter_append]; simp [hq]
theorem zfj {α : Type} (q : α -> Bool) (l : List α) (k : Nat) (x : α) (hx : l[k]? = some x) (hq : q x = false) : (l.take (k + 1)).filter q = (l.take k).filter q := by
 rw [zmS, hx, List.filter_append]; simp [hq]
theorem ze3 {α : Type} (q : α -> Bool) (l : List α) (k : Nat) : ((l.take k).filter q).length <= k := zm0 (znf _ _) (znh _ _)
theorem usesW_any (P : Nat -> Prop) (w : World) (h : Hst) (v : Value) (hr : RdW P w h v) : Calls prog 188 #[v] w fun r w' => r = .returned (.bool (h.schema == -53)) /\ w = w' := by
 obtain ⟨g, s, rfl, _, hb, _⟩ := hr; have c1 : w.cell? ⟨g, 1, none⟩ = some (.int .i32 h.schema) := hb.cell 1; go_enter func188, ntmps188; go_wp2_with (go_at_call 233; refine (zch _ _).mono ?_; rintro r w' ⟨rfl, rfl⟩)
 go_ret; exact ⟨rfl, rfl⟩
def EncHWEnds (w : World) (o : Option Nat) (ys : List UInt8) (lc : List (Rhs × Value)) (r : Ending) (w' : World) : Prop :=
 ∃ v' cv, r = .returned (.tuple #[v', cv]) /\ w'.ownsRow 0 5 1 v' ys.length (bc ys) /\ w'.ownsRow w.heap.size 290 3 cv lc.length (lc.flatMap rhc) /\ Fr (fun k => some k = o) w w' /\ (v'.ownBlock = o ∨ ∃ k, v'.ownBlock = some k /\ w.heap.size <= k)
theorem usesF_any (P : Nat -> Prop) (w : World) (h : Hst) (v : Value) (hr : RdF P w h v) : Calls prog 191 #[v] w fun r w' => r = .returned (.bool (h.schema == -53)) /\ w = w' := by
 obtain ⟨g, s, rfl, _, hb, _⟩ := hr; have c1 : w.cell? ⟨g, 1, none⟩ = some (.int .i32 h.schema) := hb.cell 1; go_enter func191, ntmps191; go_wp2_with (go_at_call 233; refine (zch _ _).mono ?_; rintro r w' ⟨rfl, rfl⟩)
 go_ret; exact ⟨rfl, rfl⟩
def EncHFEnds (w : World) (o : Option Nat) (ys : List UInt8) (lc : List (Rhs × Value)) (r : Ending) (w' : World) : Prop :=
 ∃ v' cv, r = .returned (.tuple #[v', cv]) /\ w'.ownsRow 0 5 1 v' ys.length (bc ys) /\ w'.ownsRow w.heap.size 298 3 cv lc.length (lc.flatMap rhc) /\ Fr (fun k => some k = o) w w' /\ (v'.ownBlock = o ∨ ∃ k, v'.ownBlock = some k /\ w.heap.size <= k)
theorem zcU : (∀ (_ : True) (ep : Value) (sv : Value) (P : Nat -> Prop) (v : Value) (xs : List UInt8) (lo : List (Rhs × Value)) (w : World) (h : RdHW P w sv lo) (ab : w.ownsRow 0 5 1 v xs.length (bc xs)) (hl : xs.length <= 536870912)
 (au : lo.length <= 12) (aD : ∀ p ∈ lo, p.1.ok) (hP : ∀ g, P g -> g < w.heap.size /\ some g ≠ v.ownBlock) (aA : lo = [] ∨ ∃ p ∈ lo, zaV p.1 = false),
 Calls prog 97 #[ep, sv, v] w (EncHWEnds w v.ownBlock (xs ++ za3 7 (fun s => !zaV s) (lo.map Prod.fst)) (lo.filter fun p => zaV p.1))) /\ (∀ (_ : True) (ep : Value) (sv : Value) (P : Nat -> Prop) (v : Value) (xs : List UInt8) (lo : List (Rhs × Value)) (w : World) (h : RdHF P w sv lo) (ab : w.ownsRow 0 5 1 v xs.length (bc xs)) (hl : xs.length <= 536870912)
 (au : lo.length <= 12) (aD : ∀ p ∈ lo, p.1.ok) (hP : ∀ g, P g -> g < w.heap.size /\ some g ≠ v.ownBlock) (aA : lo = [] ∨ ∃ p ∈ lo, zaV p.1 = false),
 Calls prog 98 #[ep, sv, v] w (EncHFEnds w v.ownBlock (xs ++ za4 8 (fun s => !zaV s) (lo.map Prod.fst)) (lo.filter fun p => zaV p.1))) := by
 refine ⟨fun ag ep sv P v xs lo w h ab hl au aD hP aA => ?_, fun bU ep sv P v xs lo w h ab hl au aD hP aA => ?_⟩; all_goals
  obtain ⟨h, hin⟩ := h; obtain ⟨A, c, rfl⟩ := h.shape; obtain ⟨a', n', k', rfl⟩ := zab ab; have hE := Enc.made (z := .int .u8 0) ab _ rfl
  first | (guard_hyp ag; have hQ := zck w.heap.size _ xs 7 _ hE (by omega)) | (have hQ := zck w.heap.size _ xs 8 _ hE (by omega))
  first | (guard_hyp ag; have e2 : ((7 : UInt8).toNat : Int) = 7 := rfl) | (have e2 : ((8 : UInt8).toNat : Int) = 8 := rfl)
  rw [e2] at hQ; have cL : Fr (fun k => some k = (Value.slice a' n' k').ownBlock) w (w.alloc (.cells #[.slice a' n' k', .int .u8 0, .int .u8 0, .int .u8 0, .int .u8 0, .int .u8 0, .int .u8 0, .int .u8 0, .int .u8 0, .int .u8 0, .int .u8 0] 224)) := (znl _ w).alloc _; rcases lo with _ | ⟨f, r⟩
  ·clear hE cL e2 h hin aD aA
   first | (guard_hyp ag; go_enter func97, ntmps97) | (go_enter func98, ntmps98)
   go_wp2_with (first | (go_at_call 180; refine hQ.mono ?_; rintro r1 w1 ⟨rfl, R⟩; obtain ⟨o1, eF, ah, dK⟩ := R; have hG := zd4 _ _ _ _ eF) | (go_at_call 116; refine hG.mono ?_; rintro r w2 ⟨v2, rfl, rfl, af, bd⟩))
   go_ret2
   first | (guard_hyp ag; refine ⟨v2, _, rfl, by simpa [za3] using af, zmv _ _ _ _, zdl (o1 := o1) ah, ?_⟩) | (refine ⟨v2, _, rfl, by simpa [za4] using af, zmv _ _ _ _, zdl (o1 := o1) ah, ?_⟩)
   rw [bd]; rcases dK with h | ⟨k, h, hk⟩
   ·exact .inl h
   ·exact .inr ⟨k, h, by simp at hk; omega⟩
  ·obtain ⟨n, hn⟩ := exE ((f :: r).length)
   rw [hn] at h au ⊢; obtain ⟨LO, eR⟩ := exE (f :: r); have jv : ∃ p ∈ LO, zaV p.1 = false := by rw [<- eR]; exact aA.resolve_left (by simp)
   have iY := zmh jv; clear aA jv; have eM : (0 : Int) < (n : Int) := by rw [<- hn]; simp
   have fT : ((n : Int) == 0) = false := by simp; omega
   have nA : f ∈ LO := by rw [<- eR]; exact zna ..
   have fo : LO[0]? = some f := by rw [<- eR]; rfl
   have dL : (f :: r).map Prod.fst = f.1 :: r.map Prod.fst := rfl; have gD : ∀ p ∈ LO, p.1.ok := by rw [<- eR]; exact aD
   first | (guard_hyp ag; have fm : ∀ p ∈ LO, RdW P w p.1.h p.2 := by rw [<- eR]; exact hin) | (have fm : ∀ p ∈ LO, RdF P w p.1.h p.2 := by rw [<- eR]; exact hin)
   rw [eR] at h hn
   first
    | guard_hyp ag
      have gM : za3 7 (fun s => !zaV s) ((f :: r).map Prod.fst) = [7] ++ (zar f.1 ++ (LO.filter fun p => !zaV p.1).flatMap (fun p => za1 f.1 p.1)) := by
       rw [<- eR]; have e1 : ∀ l : List (Rhs × Value), ((l.map Prod.fst).filter fun s => !zaV s) = (l.filter fun p => !zaV p.1).map Prod.fst := fun l => by rw [List.filter_map]; rfl
       rw [dL, za3, <- dL, e1, List.flatMap_map]
    | have gM : za4 8 (fun s => !zaV s) ((f :: r).map Prod.fst) = [8] ++ (zar f.1 ++ (LO.filter fun p => !zaV p.1).flatMap (fun p => za2 f.1 p.1)) := by
       rw [<- eR]; have e1 : ∀ l : List (Rhs × Value), ((l.map Prod.fst).filter fun s => !zaV s) = (l.filter fun p => !zaV p.1).map Prod.fst := fun l => by rw [List.filter_map]; rfl
       rw [dL, za4, <- dL, e1, List.flatMap_map]
   rw [gM, eR]; obtain ⟨pH, nh, ng, _⟩ := gD f nA; obtain ⟨g, off, rfl, ga, aa⟩ := h.at (by omega); have hg := hP g ga; obtain ⟨f1, fv⟩ := f; simp only [] at pH nh ng; have c0 : w.cell? ⟨g, off, none⟩ = some (.int .u64 f1.ref) := aa 0 _ (by exact ze2 rhc (fun _ => rfl) LO 0 (f1, fv) fo 0 (by omega))
   have c1 : w.cell? ⟨g, off + 1, none⟩ = some (.int .i64 f1.t) := aa 1 _ (by exact ze2 rhc (fun _ => rfl) LO 0 (f1, fv) fo 1 (by omega)); have c2 : w.cell? ⟨g, off + 2, none⟩ = some fv := aa 2 _ (by exact ze2 rhc (fun _ => rfl) LO 0 (f1, fv) fo 2 (by omega)); obtain ⟨gf, _, qf, _⟩ := fm _ nA; simp only [] at qf; subst qf; have HN := zmh hn; have HP := zmh hP
   have HE := zmh hE; have cS := zmh cL; have dW := zmh aa; have se := zmh fm; have kv := zmh gD; clear hE cL e2 h hin aD gD fm hn dL gM aa eR nA fo hP; generalize dZ : w.alloc (.cells #[.slice a' n' k', .int .u8 0, .int .u8 0, .int .u8 0, .int .u8 0, .int .u8 0, .int .u8 0, .int .u8 0, .int .u8 0, .int .u8 0, .int .u8 0] 224) = WB at hQ HE cS
   have hB : w.heap.size < WB.heap.size := by rw [<- dZ]; simp
   rw [<- dZ] at hQ; have rv := zmh dZ; clear dZ
   first | (guard_hyp ag; go_enter func97, ntmps97) | (go_enter func98, ntmps98)
   go_wp2_with (go_at_call 180; refine hQ.mono ?_; rintro r1 w1 ⟨rfl, R⟩; refine Hid.out ?_)
   rw [rv.out] at R; clear hQ rv
   have gj := zmh (fun (W : World) (hf : Fr (fun k => k = w.heap.size ∨ some k = (Value.slice a' n' k').ownBlock) WB W) => cS.out.trans hf (fun k hk e => by
    rcases e with e | e
    ·omega
    ·exact e))
   have dE := gj.out w1 R.fr; have d0 : w1.cell? ⟨g, off, none⟩ = some (.int .u64 f1.ref) := by rw [dE.cell (p := ⟨g, off, none⟩) hg.1 hg.2]; exact c0
   have d1 : w1.cell? ⟨g, off + 1, none⟩ = some (.int .i64 f1.t) := by rw [dE.cell (p := ⟨g, off + 1, none⟩) hg.1 hg.2]; exact c1
   have d2 : w1.cell? ⟨g, off + 2, none⟩ = some (.pointer (some ⟨gf, 0, none⟩)) := by rw [dE.cell (p := ⟨g, off + 2, none⟩) hg.1 hg.2]; exact c2
   first | (guard_hyp ag; have cR := zmh (R.alloc (.cells #[.int .u64 f1.ref, .int .i64 f1.t, .pointer (some ⟨gf, 0, none⟩)] 290))) | (have cR := zmh (R.alloc (.cells #[.int .u64 f1.ref, .int .i64 f1.t, .pointer (some ⟨gf, 0, none⟩)] 298)))
   first | (guard_hyp ag; have kh := zmh (znm w1 290 #[.int .u64 f1.ref, .int .i64 f1.t, .pointer (some ⟨gf, 0, none⟩)])) | (have kh := zmh (znm w1 298 #[.int .u64 f1.ref, .int .i64 f1.t, .pointer (some ⟨gf, 0, none⟩)]))
   have jq := R.fr.size; clear R dE c0 c1 c2; refine zmh ?_
   go_wp2_with (first
    | (go_at_call 181; refine (zag cR.out (f := 181) (args := #[.pointer (some ⟨w.heap.size, 0, none⟩), .int .u64 f1.ref]) (zs := Lib.beBytes 8 f1.ref) (fun o2 he => zcl _ o2 _ f1.ref pH _ he (by rw [zmi, zmy]; omega))).mono ?_; rintro r2 w2 ⟨rfl, R2, K2⟩
       have bn := K2.out _ _ _ (by decide) (by decide) kh.out; have b1 : w2.cell? ⟨w1.heap.size, 1, none⟩ = some (.int .i64 f1.t) := bn.cell 1; have dg := zmh bn; have bj := zmh R2
       clear bn R2 K2 cR d0 d1 d2)
    | (go_at_call 182; refine (zag bj.out (f := 182) (args := #[.pointer (some ⟨w.heap.size, 0, none⟩), .int .i64 f1.t]) (zs := Lib.beBytes 8 (u64 f1.t)) (fun o2 he => zdj _ o2 _ f1.t _ he (by simp [zmr]; omega))).mono ?_; rintro r3 w3 ⟨rfl, R3, K3⟩
       have bH := zmh (K3.out _ _ _ (by decide) (by decide) dg.out); have bG := zmh R3
       clear R3 K3 bj b1 dg))
   clear kh; have hsz3 : w1.heap.size + 1 <= w3.heap.size := bH.out.lt; generalize hbf : w1.heap.size = bf at bH jq hsz3; clear hbf
   first | (guard_hyp ag; obtain ⟨i0, aC, az, ay, aB⟩ := info_parts zj6) | (obtain ⟨i0, aC, az, ay, aB⟩ := info_parts zj5)
   first | (guard_hyp ag; go_loopw [9, 31] (fun cv i wr => ∃ (k m : Nat), k <= n /\ i = .int .i64 k /\ m <= k /\ Hid (((LO.take k).filter fun p => zaV p.1).length = m) /\ Hid (wr.ownsRow (bf + 1) 290 3 cv m (((LO.take k).filter fun p => zaV p.1).flatMap rhc)) /\ Hid (Put WB w.heap.size (Value.slice a' n' k').ownBlock xs ([7] ++ zar f1 ++ ((LO.take k).filter fun p => !zaV p.1).flatMap (fun p => za1 f1 p.1)) wr) /\ Hid (Blk wr bf 290 #[.int .u64 f1.ref, .int .i64 f1.t, .pointer (some ⟨gf, 0, none⟩)])) (fun _ i _ => n - (intOf i).toNat)) | (go_loopw [9, 31] (fun cv i wr => ∃ (k m : Nat), k <= n /\ i = .int .i64 k /\ m <= k /\ Hid (((LO.take k).filter fun p => zaV p.1).length = m) /\ Hid (wr.ownsRow (bf + 1) 298 3 cv m (((LO.take k).filter fun p => zaV p.1).flatMap rhc)) /\ Hid (Put WB w.heap.size (Value.slice a' n' k').ownBlock xs ([8] ++ zar f1 ++ ((LO.take k).filter fun p => !zaV p.1).flatMap (fun p => za2 f1 p.1)) wr) /\ Hid (Blk wr bf 298 #[.int .u64 f1.ref, .int .i64 f1.t, .pointer (some ⟨gf, 0, none⟩)])) (fun _ i _ => n - (intOf i).toNat))
   case atStart => exact ⟨0, 0, zms _, rfl, zmt _, zmh rfl, zmh (zmv _ _ _ _), zmh (by simpa [zar] using bG.out), bH⟩
   case round =>
    obtain ⟨k, m, hk, rfl, gI, HM, HO, HR, iy⟩ := hrel; by_cases hlt : k < n
    ·obtain ⟨x, hx⟩ : ∃ x, LO[k]? = some x := ⟨_, zmj (by rw [HN.out]; exact hlt)⟩
     have aF := zmp hx; have dM := gj.out wr HR.out.fr; have cc : ∀ j, j < 3 -> ∀ u, (rhc x)[j]? = some u -> wr.cell? ⟨g, off + (k * 3 + j), none⟩ = some u := fun j hj u hu => by
      rw [dM.cell (p := ⟨g, off + (k * 3 + j), none⟩) hg.1 hg.2]; exact dW.out (k * 3 + j) u (by rw [ze2 rhc (fun _ => rfl) LO k x hx j hj]; exact hu)
     have d0 : wr.cell? ⟨g, off + k * 3, none⟩ = some (.int .u64 x.1.ref) := cc 0 (by omega) _ rfl; have d1 : wr.cell? ⟨g, off + k * 3 + 1, none⟩ = some (.int .i64 x.1.t) := cc 1 (by omega) _ rfl; have d2 : wr.cell? ⟨g, off + k * 3 + 2, none⟩ = some x.2 := cc 2 (by omega) _ rfl; have fO := se.out x aF; have ma := kv.out x aF; obtain ⟨x1, xv⟩ := x; simp only [] at d0 d1 d2 fO ma; have nt := fO
     obtain ⟨gx, _, rfl, _⟩ := nt; have b0 : wr.cell? ⟨bf, 0, none⟩ = some (.int .u64 f1.ref) := iy.out.cell 0; have b1 : wr.cell? ⟨bf, 1, none⟩ = some (.int .i64 f1.t) := iy.out.cell 1; have mz := iy.out.lt
     first
      | guard_hyp ag
        have bI : ([(7 : UInt8)] ++ zar f1 ++ ((LO.take k).filter fun p => !zaV p.1).flatMap (fun p => za1 f1 p.1)).length <= 17 + k * 5020 := by
         have h0 := zbE (fun p : Rhs × Value => za1 f1 p.1) 5020 ((LO.take k).filter fun p => !zaV p.1) (fun p hp => zfl f1 p.1 (kv.out p (zne (zmW.1 hp).1))); have h8 := ze3 (fun p : Rhs × Value => !zaV p.1) LO k; have h9 := zmu 5020 h8; have h1 := zm0 h0 h9
         have h4 : (zar f1).length = 16 := by simp [zar, zmr]
         rw [zmi, zmi, h4, zmy]; omega
      | have bI : ([(8 : UInt8)] ++ zar f1 ++ ((LO.take k).filter fun p => !zaV p.1).flatMap (fun p => za2 f1 p.1)).length <= 17 + k * 5020 := by
         have h0 := zbE (fun p : Rhs × Value => za2 f1 p.1) 5020 ((LO.take k).filter fun p => !zaV p.1) (fun p hp => zfm f1 p.1 (kv.out p (zne (zmW.1 hp).1))); have h8 := ze3 (fun p : Rhs × Value => !zaV p.1) LO k; have h9 := zmu 5020 h8; have h1 := zm0 h0 h9
         have h4 : (zar f1).length = 16 := by simp [zar, zmr]
         rw [zmi, zmi, h4, zmy]; omega
     have ct : k * 5020 <= 12 * 5020 := zmu _ (by omega)
     first | (guard_hyp ag; obtain ⟨Y, hY⟩ := exE ([(7 : UInt8)] ++ zar f1 ++ ((LO.take k).filter fun p => !zaV p.1).flatMap (fun p => za1 f1 p.1))) | (obtain ⟨Y, hY⟩ := exE ([(8 : UInt8)] ++ zar f1 ++ ((LO.take k).filter fun p => !zaV p.1).flatMap (fun p => za2 f1 p.1)))
     rw [hY] at bI HR; have HY := zmh hY; have HX := zmh hx
     first | (guard_hyp ag; have cT := zmh (znm wr 290 #[.int .u64 x1.ref, .int .i64 x1.t, .pointer (some ⟨gx, 0, none⟩)])) | (have cT := zmh (znm wr 298 #[.int .u64 x1.ref, .int .i64 x1.t, .pointer (some ⟨gx, 0, none⟩)]))
     first | (guard_hyp ag; have bV := zmh (HR.out.alloc (.cells #[.int .u64 x1.ref, .int .i64 x1.t, .pointer (some ⟨gx, 0, none⟩)] 290))) | (have bV := zmh (HR.out.alloc (.cells #[.int .u64 x1.ref, .int .i64 x1.t, .pointer (some ⟨gx, 0, none⟩)] 298)))
     first | (guard_hyp ag; have dG := zmh (iy.out.alloc (.cells #[.int .u64 x1.ref, .int .i64 x1.t, .pointer (some ⟨gx, 0, none⟩)] 290))) | (have dG := zmh (iy.out.alloc (.cells #[.int .u64 x1.ref, .int .i64 x1.t, .pointer (some ⟨gx, 0, none⟩)] 298)))
     have kN : Y.length <= 60300 := by omega
     first | (guard_hyp ag; have HU := zmh (usesW_any P _ x1.h _ ((fO.fr dM (fun g hg => (HP.out g hg).2)).fr ((znl (fun _ => False) wr).alloc (.cells #[.int .u64 x1.ref, .int .i64 x1.t, .pointer (some ⟨gx, 0, none⟩)] 290)) z_i))) | (have HU := zmh (usesF_any P _ x1.h _ ((fO.fr dM (fun g hg => (HP.out g hg).2)).fr ((znl (fun _ => False) wr).alloc (.cells #[.int .u64 x1.ref, .int .i64 x1.t, .pointer (some ⟨gx, 0, none⟩)] 298)) z_i)))
     obtain ⟨ca, cm, ck, rfl⟩ := zab HO.out; rcases eN : zaV x1 with _ | _
     ·obtain ⟨Q1, ee⟩ := exE (zzu (zeL f1 x1))
      obtain ⟨Q2, dc⟩ := exE (zzu (hT f1 x1)); have iG := zbu (zeL f1 x1) (zae _).1 (zae _).2; have iF := zbu (hT f1 x1) (zae _).1 (zae _).2; rw [ee] at iG; rw [dc] at iF; have ie := zmh ee; have eT := zmh dc; have rH := zmh fO; have hU := HU.out; rw [show (x1.h.schema == -53) = false from eN] at hU
      first | (guard_hyp ag; have de := zmh (HO.out.alloc (.cells #[.int .u64 x1.ref, .int .i64 x1.t, .pointer (some ⟨gx, 0, none⟩)] 290))) | (have de := zmh (HO.out.alloc (.cells #[.int .u64 x1.ref, .int .i64 x1.t, .pointer (some ⟨gx, 0, none⟩)] 298)))
      have ru := zmh ma; clear hx dM cc hY bI ct ee dc aF fO ma HR iy
      first
       | guard_hyp ag
         go_wp2_with (first
          | (go_at_call 188; refine hU.mono ?_; rintro r w' ⟨rfl, rfl⟩)
          | (go_at_call 183; refine (zag bV.out (f := 183) (args := #[.pointer (some ⟨w.heap.size, 0, none⟩), .int .i64 (zeL f1 x1)]) (zs := Q1) (fun o2 he => by have := zaz _ o2 _ (zeL f1 x1) (zae _).1 (zae _).2 _ he (by rw [zmi]; omega); rw [show Lib.uvarint (Lib.zigzag (zeL f1 x1)) = Q1 from ie.out] at this; exact this)).mono ?_; rintro rA wA ⟨rfl, R1, K1⟩
             have ax := K1.out _ _ _ (by decide) (by decide) cT.out; have bn := K1.out _ _ _ (by decide) (by decide) dG.out; have p1 : wA.cell? ⟨wr.heap.size, 1, none⟩ = some (.int .i64 x1.t) := ax.cell 1; have q1 : wA.cell? ⟨bf, 1, none⟩ = some (.int .i64 f1.t) := bn.cell 1; have dB := zmh ax; have eI := zmh bn; have cD := zmh (zdv de.out K1.out (by decide) (by decide))
             have bj := zmh R1; have bd : (Y ++ Q1).length <= 60310 := by rw [zmi]; omega
             clear R1 K1 ax bn bV b0 b1 cT dG hU)
          | (go_at_call 183; refine (zag bj.out (f := 183) (args := #[.pointer (some ⟨w.heap.size, 0, none⟩), .int .i64 (hT f1 x1)]) (zs := Q2) (fun o2 he => by have := zaz _ o2 _ (hT f1 x1) (zae _).1 (zae _).2 _ he (by rw [zmi]; omega); rw [show Lib.uvarint (Lib.zigzag (hT f1 x1)) = Q2 from eT.out] at this; exact this)).mono ?_; rintro rB wB ⟨rfl, R1, K1⟩
             have ax := K1.out _ _ _ (by decide) (by decide) dB.out; have eH := zmh (K1.out _ _ _ (by decide) (by decide) eI.out); have eq := zmh (zdv cD.out K1.out (by decide) (by decide)); have p2 : wB.cell? ⟨wr.heap.size, 2, none⟩ = some (.pointer (some ⟨gx, 0, none⟩)) := ax.cell 2; have bG := zmh R1; have eX : (Y ++ Q1 ++ Q2).length <= 60320 := by rw [zmi]; omega
             have HH := zmh (rH.out.fr (gj.out wB R1.fr) (fun g hg => (HP.out g hg).2))
             clear R1 K1 ax p1 q1 bj bd dB eI)
          | (go_at_call 189; refine (zeY bG.out (f := 189) (args := #[.pointer (some ⟨w.heap.size, 0, none⟩), .pointer (some ⟨gx, 0, none⟩)]) (zs := zaX x1.h) (fun o2 he dJ => zfz P _ o2 _ x1.h _ _ HH.out he (by rw [zmi]; omega) ru.out.2.2.2 (fun g hg => by
              have h1 := HP.out g hg; rintro (rfl | h2)
              ·omega
              ·rcases dJ with h3 | ⟨k, h3, hk⟩
               ·exact h1.2 (h2.trans h3)
               ·rw [h3] at h2; injection h2 with h2; omega))).mono ?_; rintro rD wD ⟨rfl, R1, K1⟩
             have bT := zmh R1; have kg := zmh (K1.out _ _ _ (by decide) (by decide) eH.out); have iZ := zmh (zdv eq.out K1.out (by decide) (by decide))
             clear R1 K1 bG eH))
       | go_wp2_with (first
          | (go_at_call 191; refine hU.mono ?_; rintro r w' ⟨rfl, rfl⟩)
          | (go_at_call 183; refine (zag bV.out (f := 183) (args := #[.pointer (some ⟨w.heap.size, 0, none⟩), .int .i64 (zeL f1 x1)]) (zs := Q1) (fun o2 he => by have := zaz _ o2 _ (zeL f1 x1) (zae _).1 (zae _).2 _ he (by rw [zmi]; omega); rw [show Lib.uvarint (Lib.zigzag (zeL f1 x1)) = Q1 from ie.out] at this; exact this)).mono ?_; rintro rA wA ⟨rfl, R1, K1⟩
             have ax := K1.out _ _ _ (by decide) (by decide) cT.out; have bn := K1.out _ _ _ (by decide) (by decide) dG.out; have p1 : wA.cell? ⟨wr.heap.size, 1, none⟩ = some (.int .i64 x1.t) := ax.cell 1; have q1 : wA.cell? ⟨bf, 1, none⟩ = some (.int .i64 f1.t) := bn.cell 1; have dB := zmh ax; have eI := zmh bn; have cD := zmh (zdv de.out K1.out (by decide) (by decide))
             have bj := zmh R1; have bd : (Y ++ Q1).length <= 60310 := by rw [zmi]; omega
             clear R1 K1 ax bn bV b0 b1 cT dG hU)
          | (go_at_call 183; refine (zag bj.out (f := 183) (args := #[.pointer (some ⟨w.heap.size, 0, none⟩), .int .i64 (hT f1 x1)]) (zs := Q2) (fun o2 he => by have := zaz _ o2 _ (hT f1 x1) (zae _).1 (zae _).2 _ he (by rw [zmi]; omega); rw [show Lib.uvarint (Lib.zigzag (hT f1 x1)) = Q2 from eT.out] at this; exact this)).mono ?_; rintro rB wB ⟨rfl, R1, K1⟩
             have ax := K1.out _ _ _ (by decide) (by decide) dB.out; have eH := zmh (K1.out _ _ _ (by decide) (by decide) eI.out); have eq := zmh (zdv cD.out K1.out (by decide) (by decide)); have p2 : wB.cell? ⟨wr.heap.size, 2, none⟩ = some (.pointer (some ⟨gx, 0, none⟩)) := ax.cell 2; have bG := zmh R1; have eX : (Y ++ Q1 ++ Q2).length <= 60320 := by rw [zmi]; omega
             have HH := zmh (rH.out.fr (gj.out wB R1.fr) (fun g hg => (HP.out g hg).2))
             clear R1 K1 ax p1 q1 bj bd dB eI)
          | (go_at_call 192; refine (zeY bG.out (f := 192) (args := #[.pointer (some ⟨w.heap.size, 0, none⟩), .pointer (some ⟨gx, 0, none⟩)]) (zs := zaY x1.h) (fun o2 he dJ => zfA P _ o2 _ x1.h _ _ HH.out he (by rw [zmi]; omega) ru.out.2.2.2 (fun g hg => by
              have h1 := HP.out g hg; rintro (rfl | h2)
              ·omega
              ·rcases dJ with h3 | ⟨k, h3, hk⟩
               ·exact h1.2 (h2.trans h3)
               ·rw [h3] at h2; injection h2 with h2; omega))).mono ?_; rintro rD wD ⟨rfl, R1, K1⟩
             have bT := zmh R1; have kg := zmh (K1.out _ _ _ (by decide) (by decide) eH.out); have iZ := zmh (zdv eq.out K1.out (by decide) (by decide))
             clear R1 K1 bG eH))
      first
       | guard_hyp ag
         have cM : Hid (Put WB w.heap.size (Value.slice a' n' k').ownBlock xs ([7] ++ zar f1 ++ ((LO.take (k + 1)).filter fun p => !zaV p.1).flatMap (fun p => za1 f1 p.1)) wD) := zmh (by
          rw [zdO (fun p : Rhs × Value => !zaV p.1) LO k _ HX.out (by simp [eN]), zmQ, <- zmk, HY.out, zmw, List.flatMap_nil, zmD]; unfold za1; rw [ie.out, eT.out]
          simpa [zmk] using bT.out)
       | have cM : Hid (Put WB w.heap.size (Value.slice a' n' k').ownBlock xs ([8] ++ zar f1 ++ ((LO.take (k + 1)).filter fun p => !zaV p.1).flatMap (fun p => za2 f1 p.1)) wD) := zmh (by
          rw [zdO (fun p : Rhs × Value => !zaV p.1) LO k _ HX.out (by simp [eN]), zmQ, <- zmk, HY.out, zmw, List.flatMap_nil, zmD]; unfold za2; rw [ie.out, eT.out]
          simpa [zmk] using bT.out)
      clear bT; go_wp2; go_roundw
      case rel => exact ⟨k + 1, m, by omega, by go_num, by omega, zmh (by rw [zfj (fun p : Rhs × Value => zaV p.1) LO k _ HX.out eN]; exact HM.out), zmh (by rw [zfj (fun p : Rhs × Value => zaV p.1) LO k _ HX.out eN]; exact iZ.out), cM, kg⟩
      case measure => simp [intOf]; omega
     ·have hU := HU.out
      rw [show (x1.h.schema == -53) = true from eN] at hU; have aO := HO.out.lt; have im : ∀ j, j < 3 -> ∀ u, (rhc (x1, Value.pointer (some ⟨gx, 0, none⟩)))[j]? = some u -> True := fun _ _ _ _ => trivial; have oG : WB.heap.size <= wr.heap.size := HR.out.fr.size; clear hx dM cc hY bI ct aF fO ma b0 b1 im
      go_wp2_with (first
       | (go_at_call 188; refine hU.mono ?_; rintro r w' ⟨rfl, rfl⟩)
       | (go_at_call 191; refine hU.mono ?_; rintro r w' ⟨rfl, rfl⟩)
       | (at_builtin; refine Hid.out ?_))
      refine zmh ?_
      first | (guard_hyp ag; refine zaf _ rfl _ _ 177 177 rfl (bf + 1) 290 i0 _ 3 24 underlying177 aC az ay aB rfl (by decide) _ m (((LO.take k).filter fun p => zaV p.1).flatMap rhc) rfl ((HO.out.alloc _).alloc _) _ 1 [.int .u64 x1.ref, .int .i64 x1.t, .pointer (some ⟨gx, 0, none⟩)] rfl (zaF underlying177 (zaH wr _ 290 #[.int .u64 x1.ref, .int .i64 x1.t, .pointer (some ⟨gx, 0, none⟩)]) rfl (by simp [Value.oneCell'])) (by unfold maxLen; omega) (by omega) (by simp; omega) ?_) | (refine zaf _ rfl _ _ 182 182 rfl (bf + 1) 298 i0 _ 3 24 underlying182 aC az ay aB rfl (by decide) _ m (((LO.take k).filter fun p => zaV p.1).flatMap rhc) rfl ((HO.out.alloc _).alloc _) _ 1 [.int .u64 x1.ref, .int .i64 x1.t, .pointer (some ⟨gx, 0, none⟩)] rfl (zaF underlying182 (zaH wr _ 298 #[.int .u64 x1.ref, .int .i64 x1.t, .pointer (some ⟨gx, 0, none⟩)]) rfl (by simp [Value.oneCell'])) (by unfold maxLen; omega) (by omega) (by simp; omega) ?_)
      intro v' w2 ac ad av
      first
       | guard_hyp ag
         have cM : Hid (Put WB w.heap.size (Value.slice a' n' k').ownBlock xs ([7] ++ zar f1 ++ ((LO.take (k + 1)).filter fun p => !zaV p.1).flatMap (fun p => za1 f1 p.1)) w2) := zmh (by
          rw [zfj (fun p : Rhs × Value => !zaV p.1) LO k _ HX.out (by simp [eN]), HY.out]
          exact ((HR.out.alloc _).alloc _).grown ((HO.out.alloc _).alloc _) (by omega) ad (by decide) (by decide))
       | have cM : Hid (Put WB w.heap.size (Value.slice a' n' k').ownBlock xs ([8] ++ zar f1 ++ ((LO.take (k + 1)).filter fun p => !zaV p.1).flatMap (fun p => za2 f1 p.1)) w2) := zmh (by
          rw [zfj (fun p : Rhs × Value => !zaV p.1) LO k _ HX.out (by simp [eN]), HY.out]
          exact ((HR.out.alloc _).alloc _).grown ((HO.out.alloc _).alloc _) (by omega) ad (by decide) (by decide))
      have cO := zmh (((iy.out.alloc _).alloc _).grown ad (fun e => by have := (aO bf e.symm).1; omega)); have iZ := zmh ac
      have HM8 : Hid (((LO.take (k + 1)).filter fun p => zaV p.1).length = m + 1) := zmh (by
       rw [zdO (fun p : Rhs × Value => zaV p.1) LO k _ HX.out eN, zmi, HM.out]; rfl)
      first
       | guard_hyp ag
         have HN8 : Hid (w2.ownsRow (bf + 1) 290 3 v' (m + 1) (((LO.take (k + 1)).filter fun p => zaV p.1).flatMap rhc)) := zmh (by
          rw [zdO (fun p : Rhs × Value => zaV p.1) LO k _ HX.out eN, zmQ]
          simpa [rhc] using iZ.out)
       | have HN8 : Hid (w2.ownsRow (bf + 1) 298 3 v' (m + 1) (((LO.take (k + 1)).filter fun p => zaV p.1).flatMap rhc)) := zmh (by
          rw [zdO (fun p : Rhs × Value => zaV p.1) LO k _ HX.out eN, zmQ]
          simpa [rhc] using iZ.out)
      clear ac ad av aO iZ; go_wp2; go_roundw
      case rel => exact ⟨k + 1, m + 1, by omega, by go_num, by omega, HM8, HN8, cM, cO⟩
      case measure => simp [intOf]; omega
    ·obtain rfl : k = n := by omega
     obtain ⟨oZ, dx, dX, fS⟩ := HR.out; have hmk2 : m < k := by
      have h1 := HM.out; have h2 : LO.take k = LO := zmq (by rw [HN.out]; exact zmt _); rw [h2] at h1; have h3 : (LO.filter fun p => zaV p.1).length < LO.length := by
       obtain ⟨p, hp, hq⟩ := iY.out; exact List.length_filter_lt_length_iff_exists.2 ⟨p, hp, by simp [hq]⟩
      rw [HN.out] at h3; omega
     have hnk : ((k : Int) == (m : Int)) = false := by simp; omega
     obtain ⟨ca, ck, rfl⟩ := zaa HO.out; have hG := zd4 _ _ _ _ dx; have HZ := zmh dX; clear dx dX; go_wp2_with (go_at_call 116; refine hG.mono ?_; rintro rr w9 ⟨v2, rfl, rfl, af, bd⟩)
     go_ret2; have e1 : LO.take k = LO := zmq (by rw [HN.out]; exact zmt _); have ho := HO.out; have kY := HM.out; rw [e1] at ho kY; refine ⟨v2, _, rfl, ?_, by rw [kY]; exact zah ho (by omega), gj.out _ HZ.out, ?_⟩
     ·rw [e1] at af
      simpa [zmk] using af
     ·rw [bd]
      rcases fS with h | ⟨k2, h, cI⟩
      ·exact .inl h
      ·exact .inr ⟨k2, h, by omega⟩
theorem zlT : type_of% (zcU.1 trivial) := zcU.1 trivial
theorem zlU : type_of% (zcU.2 trivial) := zcU.2 trivial
end Go.Proofs.YtbkookiigkckdaaGreatDoor
namespace Go.Proofs.YtbkookiigkckdaaGreatDoor
open Go Go.ChangeShapes Go.WideShapes Go.ChangeAt Go.RowKit Go.Proofs.Tryz
section
variable {H : Type} {enc : TypeId × Value -> H} {W : World}
def Old (W : World) (g : Nat) : Prop := g < W.heap.size
abbrev zbr (enc : TypeId × Value -> H) (W : World) (fuel : Nat) (t : TypeId) (cs : List Value) (x : DataW H × List MemPlace) : Prop := DataW.trod enc prog W 0 (fun _ => true) true fuel t cs = some x
theorem flatMem {α : Type} (m : Nat) (f : α -> List Value) : ∀ (l : List α), (∀ x ∈ l, (f x).length = m) -> ∀ (k : Nat) (x : α), l[k]? = some x -> ∀ j, j < m -> (l.flatMap f)[k * m + j]? = (f x)[j]?
 | [], h3, k, x, h, j, hj => by simp at h
 | y :: l, h3, 0, x, h, j, hj => by
   simp at h; subst h; rw [zmw, zm4 (by rw [h3 _ (zna ..)]; omega)]; simp
 | y :: l, h3, k + 1, x, h, j, hj => by
   have e0 := h3 y (zna ..); have e : (k + 1) * m + j - m = k * m + j := by rw [Nat.succ_mul]; omega
   rw [zmw, zm5 (by rw [e0, Nat.succ_mul]; omega), e0, e]; exact flatMem m f l (fun z hz => h3 z (zng _ hz)) k x (by simpa using h) j hj
theorem zgF {α : Type} (m : Nat) (f : α -> List Value) : ∀ (l : List α), (∀ x ∈ l, (f x).length = m) -> (l.flatMap f).length = l.length * m
 | [], _ => by simp
 | y :: l, h3 => by
   rw [zmw, zmi, h3 _ (zna ..), zgF m f l (fun z hz => h3 z (zng _ hz)), zmz, Nat.succ_mul]; omega
theorem zip (g off k : Nat) : (⟨g, off, none⟩ : Addr).add k = ⟨g, off + k, none⟩ := by unfold Addr.add; split <;> simp_all
theorem zca {α : Type} {t e m : Nat} (f : α -> List Value) (Q : α -> Prop) (ht : prog.underlying t = some (.slice e)) (ce : prog.cellsOf e = m) (hm0 : 0 < m) {fuel : Nat} {cs : List Value} {x : DataW H × List MemPlace}
 (h : zbr enc W fuel t cs x) (hR : ∀ (fuel : Nat) (cs : List Value) (x : DataW H × List MemPlace), zbr enc W fuel e cs x -> cs.length = m -> ∃ a, cs = f a /\ Q a) :
 ∃ (A : Option Addr) (len aK : Nat) (l : List α), cs = [.slice A len aK] /\ l.length = len /\ len <= maxLen /\ (∀ a ∈ l, Q a) /\ Sl (Old W) W (.slice A len aK) m l.length (l.flatMap f) := by
 rcases Go.Deep.open_slice ht h with ⟨rfl, _⟩ | ⟨a, len, aK, mm, n, D, Pl, rfl, hb, hl, hmx, hmm, _, hx⟩
 ·exact ⟨none, 0, 0, [], rfl, rfl, zms _, (fun q hq => by cases hq), _, _, rfl, by simp, zmt _, fun h => absurd h (zm1 _)⟩
 ·have hmc : mm = aK := by simpa using hmm
  subst hmc; have hs : ∀ i, i < len -> ∃ q : α, (∀ j, j < m -> W.cell? ((a.add (i * m)).add j) = (f q)[j]?) /\ (f q).length = m /\ Q q := fun i hi => by
   obtain ⟨jU, h1, h2⟩ := hx i (by omega); rw [ce] at h1; obtain ⟨_, ai, aa⟩ := World.cells?_some h1; obtain ⟨q, rfl, hq⟩ := hR _ _ _ h2 ai; exact ⟨q, fun j hj => aa j hj, ai, hq⟩
  rcases zmE len with rfl | hlp
  ·exact ⟨some a, 0, mm, [], rfl, rfl, zms _, (fun q hq => by cases hq), _, _, rfl, by simp, zms _, fun h => absurd h (zm1 _)⟩
  haveI : Inhabited α := ⟨(hs 0 hlp).choose⟩
  obtain ⟨q, hq⟩ := Go.Deep.choose_lt hs; have ai : ((List.range len).map q).length = len := by simp
  have aS : ∀ z ∈ (List.range len).map q, (f z).length = m := fun z hz => by
   obtain ⟨i, hi, rfl⟩ := List.mem_map.mp hz; exact (hq i (List.mem_range.mp hi)).2.1
  refine ⟨some a, len, mm, (List.range len).map q, rfl, ai, by omega, fun z hz => ?_, ?_⟩
  ·obtain ⟨i, hi, rfl⟩ := List.mem_map.mp hz
   exact (hq i (List.mem_range.mp hi)).2.2
  ·rw [ai]
   have ko := zgF m f _ aS; rw [ai] at ko; refine ⟨_, _, rfl, ko, hl, fun h0 => ?_⟩; obtain ⟨c0, l0, _⟩ := hq 0 h0; have c0 := c0 0 hm0; rw [zmj (by omega)] at c0; have jt : a.spot = none := by simpa [Addr.add] using World.cell?_spot c0
   obtain ⟨g, off, sp⟩ := a; obtain rfl : sp = none := jt; rw [zip, zip] at c0; refine ⟨g, off, rfl, zmo W _ c0, fun j u hu => ?_⟩; have hj : j < len * m := by
    rcases zmK j (len * m) with h | h
    ·exact h
    ·rw [zmL (by rw [ko]; exact h)] at hu; cases hu
   have hk : j / m < len := (Nat.div_lt_iff_lt_mul hm0).2 hj; have hr : j % m < m := Nat.mod_lt _ hm0; have dS : ((List.range len).map q)[j / m]? = some (q (j / m)) := by rw [zmR, List.getElem?_range hk]; rfl
   have h2 := flatMem m f _ aS (j / m) _ dS (j % m) hr; have e1 : j / m * m + j % m = j := by rw [Nat.mul_comm]; exact Nat.div_add_mod j m
   rw [e1, hu] at h2; have h3 := (hq (j / m) hk).1 (j % m) hr; rw [zip, zip, <- h2, Nat.add_assoc, e1] at h3; exact h3
theorem zkZ {fs : Array Field} {xs : List (DataW H × List MemPlace)} {n : Nat} {cs : List Value} (hf : ∀ (i : Nat) (f : Field), fs[i]? = some f -> DataW.trod enc prog W 0 (fun _ => true) true n f.type ((cs.drop f.offset).take (prog.cellsOf f.type)) = xs[i]?)
 (hl : xs.length = fs.size) (i : Nat) (f : Field) (hi : fs[i]? = some f) : ∃ y, zbr enc W n f.type ((cs.drop f.offset).take (prog.cellsOf f.type)) y := by
 have : i < xs.length := by rw [hl]; exact (Array.getElem?_eq_some_iff.1 hi).1
 exact ⟨xs[i], (hf i f hi).trans (zmj this)⟩
theorem take_one {cs : List Value} {o : Nat} {v : Value} (h : cs[o]? = some v) : (cs.drop o).take 1 = [v] := by
 rw [List.take_one, List.head?_drop, h]; rfl
theorem zbK {e : TypeId} {fs : Array Field} (ht : prog.underlying e = some (.struct fs)) {fuel : Nat} {cs : List Value} {x : DataW H × List MemPlace} (h : zbr enc W fuel e cs x) :
 ∃ n, (∀ (i : Nat) (f : Field), fs[i]? = some f -> ∃ y, zbr enc W n f.type ((cs.drop f.offset).take (prog.cellsOf f.type)) y) /\
  (∀ (i : Nat) (f : Field) (v : Value), fs[i]? = some f -> prog.cellsOf f.type = 1 -> cs[f.offset]? = some v -> ∃ y, zbr enc W n f.type [v] y) := by
 obtain ⟨xs, n, rfl, rfl, ai, bm, hf⟩ := DataW.trod_struct ht h; refine ⟨n, fun i f hi => zkZ hf bm i f hi, fun i f v hi hc hv => ?_⟩; obtain ⟨y, hy⟩ := zkZ hf bm i f hi; rw [hc, take_one hv] at hy; exact ⟨y, hy⟩
theorem zky : prog.cellsOf 111 = 1 := by kernel_rfl
theorem c2_ : prog.cellsOf 2 = 1 := by kernel_rfl
theorem c5_ : prog.cellsOf 5 = 1 := by kernel_rfl
theorem c21 : prog.cellsOf 21 = 1 := by kernel_rfl
theorem c317 : prog.cellsOf 317 = 1 := by kernel_rfl
theorem c9_ : prog.cellsOf 9 = 1 := by kernel_rfl
theorem c31 : prog.cellsOf 31 = 1 := by kernel_rfl
theorem c148 : prog.cellsOf 148 = 1 := by kernel_rfl
theorem c188 : prog.cellsOf 188 = 1 := by kernel_rfl
theorem c189 : prog.cellsOf 189 = 1 := by kernel_rfl
theorem c190 : prog.cellsOf 190 = 1 := by kernel_rfl
theorem zc2 {n : Nat} {v : Value} {y : DataW H × List MemPlace} (h : zbr enc W n 111 [v] y) : ∃ k : Nat, v = .int .u64 k /\ k < 18446744073709551616 := by
 obtain ⟨z, e, _, hw⟩ := DataW.trod_int underlying111 h; injection e with e _; simp only [Lit.wf, Bool.and_eq_true, decide_eq_true_eq] at hw; have h0 : (0 : Int) <= z /\ z <= 18446744073709551615 := hw; exact ⟨z.toNat, by rw [e, Int.toNat_of_nonneg h0.1], by omega⟩
theorem zhn {n : Nat} {v : Value} {y : DataW H × List MemPlace} (h : zbr enc W n 2 [v] y) : ∃ z : Int, v = .int .i64 z /\ -9223372036854775808 <= z /\ z <= 9223372036854775807 := by
 obtain ⟨z, e, _, hw⟩ := DataW.trod_int underlying2 h; injection e with e _; simp only [Lit.wf, Bool.and_eq_true, decide_eq_true_eq] at hw; have h0 : (-9223372036854775808 : Int) <= z /\ z <= 9223372036854775807 := hw; exact ⟨z, e, h0⟩
theorem rd_i32 {n : Nat} {v : Value} {y : DataW H × List MemPlace} (h : zbr enc W n 21 [v] y) : ∃ z : Int, v = .int .i32 z /\ -2147483648 <= z /\ z <= 2147483647 := by
 obtain ⟨z, e, _, hw⟩ := DataW.trod_int underlying21 h; injection e with e _; simp only [Lit.wf, Bool.and_eq_true, decide_eq_true_eq] at hw; have h0 : (-2147483648 : Int) <= z /\ z <= 2147483647 := hw; exact ⟨z, e, h0⟩
theorem rd_u32 {n : Nat} {v : Value} {y : DataW H × List MemPlace} (h : zbr enc W n 317 [v] y) : ∃ k : Nat, v = .int .u32 k /\ k < 4294967296 := by
 obtain ⟨z, e, _, hw⟩ := DataW.trod_int underlying317 h; injection e with e _; simp only [Lit.wf, Bool.and_eq_true, decide_eq_true_eq] at hw; have h0 : (0 : Int) <= z /\ z <= 4294967295 := hw; exact ⟨z.toNat, by rw [e, Int.toNat_of_nonneg h0.1], by omega⟩
theorem rd_u8 {n : Nat} {v : Value} {y : DataW H × List MemPlace} (h : zbr enc W n 5 [v] y) : ∃ c : UInt8, v = .int .u8 c.toNat := by
 obtain ⟨z, e, _, hw⟩ := DataW.trod_int underlying5 h; injection e with e _; have h0 := u8_wf hw; exact ⟨Lib.byteOf z, by rw [e, Lib.byteOf_toNat h0]⟩
theorem zkH {n : Nat} {v : Value} {y : DataW H × List MemPlace} (h : zbr enc W n 9 [v] y) : ∃ s : ByteArray, v = .string s /\ s.size <= maxLen := by
 obtain ⟨s, e, _, hw⟩ := DataW.trod_string underlying9 h; injection e with e _; exact ⟨s, e, hw⟩
theorem zlo {cs : List Value} (h : cs.length = 2) : ∃ a b, cs = [a, b] := by
 match cs, h with
 | [a, b], _ => exact ⟨a, b, rfl⟩
theorem list3 {cs : List Value} (h : cs.length = 3) : ∃ a b c, cs = [a, b, c] := by
 match cs, h with
 | [a, b, c], _ => exact ⟨a, b, c, rfl⟩
theorem list4 {cs : List Value} (h : cs.length = 4) : ∃ a b c d, cs = [a, b, c, d] := by
 match cs, h with
 | [a, b, c, d], _ => exact ⟨a, b, c, d, rfl⟩
theorem in_labs {n : Nat} {v : Value} {y : DataW H × List MemPlace} (h : zbr enc W n 31 [v] y) : ∃ l : List Lab, l.length <= maxLen /\ (∀ p ∈ l, p.1.size <= maxLen /\ p.2.size <= maxLen) /\ Sl (Old W) W v 2 l.length (l.flatMap zaK) := by
 obtain ⟨A, len, aK, l, e, hl, hm, hq, hs⟩ := zca zaK (fun p => p.1.size <= maxLen /\ p.2.size <= maxLen) underlying31 (m := 2) (by kernel_rfl) (by decide) h (fun fuel cs x hx ai => by
  obtain ⟨a, b, rfl⟩ := zlo ai; obtain ⟨n, _, hf⟩ := zbK underlying40 hx; obtain ⟨y0, h0⟩ := hf 0 _ a rfl c9_ rfl; obtain ⟨y1, h1⟩ := hf 1 _ b rfl c9_ rfl; obtain ⟨s0, rfl, w0⟩ := zkH h0; obtain ⟨s1, rfl, w1⟩ := zkH h1
  exact ⟨(s0, s1), rfl, w0, w1⟩)
 injection e with e _; subst e; exact ⟨l, by omega, hq, hs⟩
theorem in_ivs {n : Nat} {v : Value} {y : DataW H × List MemPlace} (h : zbr enc W n 148 [v] y) : ∃ l : List (Int × Int), l.length <= maxLen /\ (∀ p ∈ l, (-9223372036854775808 <= p.1 /\ p.1 <= 9223372036854775807) /\ -9223372036854775808 <= p.2 /\ p.2 <= 9223372036854775807) /\ Sl (Old W) W v 2 l.length (l.flatMap ivc) := by
 obtain ⟨A, len, aK, l, e, hl, hm, hq, hs⟩ := zca ivc (fun p => (-9223372036854775808 <= p.1 /\ p.1 <= 9223372036854775807) /\ -9223372036854775808 <= p.2 /\ p.2 <= 9223372036854775807) underlying148 (m := 2) (by kernel_rfl) (by decide) h (fun fuel cs x hx ai => by
  obtain ⟨a, b, rfl⟩ := zlo ai; obtain ⟨n, _, hf⟩ := zbK underlying281 hx; obtain ⟨y0, h0⟩ := hf 0 _ a rfl c2_ rfl; obtain ⟨y1, h1⟩ := hf 1 _ b rfl c2_ rfl; obtain ⟨s0, rfl, w0⟩ := zhn h0; obtain ⟨s1, rfl, w1⟩ := zhn h1
  exact ⟨(s0, s1), rfl, w0, w1⟩)
 injection e with e _; subst e; exact ⟨l, by omega, hq, hs⟩
theorem zkV {n : Nat} {v : Value} {y : DataW H × List MemPlace} (h : zbr enc W n 188 [v] y) : ∃ l : List (Int × Nat), l.length <= maxLen /\ (∀ p ∈ l, -2147483648 <= p.1 /\ p.1 <= 2147483647 /\ p.2 < 4294967296) /\ Sl (Old W) W v 2 l.length (l.flatMap spc) := by
 obtain ⟨A, len, aK, l, e, hl, hm, hq, hs⟩ := zca spc (fun p => -2147483648 <= p.1 /\ p.1 <= 2147483647 /\ p.2 < 4294967296) underlying188 (m := 2) (by kernel_rfl) (by decide) h (fun fuel cs x hx ai => by
  obtain ⟨a, b, rfl⟩ := zlo ai; obtain ⟨n, _, hf⟩ := zbK underlying319 hx; obtain ⟨y0, h0⟩ := hf 0 _ a rfl c21 rfl; obtain ⟨y1, h1⟩ := hf 1 _ b rfl c317 rfl; obtain ⟨s0, rfl, w0⟩ := rd_i32 h0; obtain ⟨s1, rfl, w1⟩ := rd_u32 h1
  exact ⟨(s0, s1), rfl, w0.1, w0.2, w1⟩)
 injection e with e _; subst e; exact ⟨l, by omega, hq, hs⟩
theorem in_ints {n : Nat} {v : Value} {y : DataW H × List MemPlace} (h : zbr enc W n 189 [v] y) : ∃ l : List Int, l.length <= maxLen /\ (∀ p ∈ l, -9223372036854775808 <= p /\ p <= 9223372036854775807) /\ Sl (Old W) W v 1 l.length (l.flatMap i1) := by
 obtain ⟨A, len, aK, l, e, hl, hm, hq, hs⟩ := zca i1 (fun p => -9223372036854775808 <= p /\ p <= 9223372036854775807) underlying189 c2_ (by decide) h (fun fuel cs x hx ai => by
  match cs, ai with
  | [a], _ =>
    obtain ⟨z, rfl, w⟩ := zhn hx
    exact ⟨z, rfl, w⟩)
 injection e with e _; subst e; exact ⟨l, by omega, hq, hs⟩
theorem zj9 {n : Nat} {v : Value} {y : DataW H × List MemPlace} (h : zbr enc W n 190 [v] y) : ∃ l : List Nat, l.length <= maxLen /\ (∀ p ∈ l, p < 18446744073709551616) /\ Sl (Old W) W v 1 l.length (l.flatMap u1) := by
 obtain ⟨A, len, aK, l, e, hl, hm, hq, hs⟩ := zca u1 (fun p => p < 18446744073709551616) underlying190 zky (by decide) h (fun fuel cs x hx ai => by
  match cs, ai with
  | [a], _ =>
    obtain ⟨z, rfl, w⟩ := zc2 hx
    exact ⟨z, rfl, w⟩)
 injection e with e _; subst e; exact ⟨l, by omega, hq, hs⟩
theorem in_series {n : Nat} {v : Value} {y : DataW H × List MemPlace} (h : zbr enc W n 46 [v] y) : ∃ lv : List (Ser × Value), lv.length <= maxLen /\ (∀ p ∈ lv, p.1.ref < 18446744073709551616 /\ p.1.labs.length <= maxLen /\ ∀ q ∈ p.1.labs, q.1.size <= maxLen /\ q.2.size <= maxLen) /\ SlR (Old W) W v lv := by
 obtain ⟨A, len, aK, l, e, hl, hm, hq, hs⟩ := zca zfP (fun p => (p.1.ref < 18446744073709551616 /\ p.1.labs.length <= maxLen /\ ∀ q ∈ p.1.labs, q.1.size <= maxLen /\ q.2.size <= maxLen) /\ Sl (Old W) W p.2 2 p.1.labs.length (p.1.labs.flatMap zaK)) underlying46 (m := 2) (by kernel_rfl) (by decide) h (fun fuel cs x hx ai => by
  obtain ⟨a, b, rfl⟩ := zlo ai; obtain ⟨n, _, hf⟩ := zbK underlying130 hx; obtain ⟨y0, h0⟩ := hf 0 _ a rfl zky rfl; obtain ⟨y1, h1⟩ := hf 1 _ b rfl c31 rfl; obtain ⟨k, rfl, w0⟩ := zc2 h0; obtain ⟨l, w1, w2, w3⟩ := in_labs h1
  exact ⟨(⟨k, l⟩, b), rfl, ⟨w0, w1, w2⟩, w3⟩)
 injection e with e _; subst e; exact ⟨l, by omega, fun p hp => (hq p hp).1, hs, fun p hp => (hq p hp).2⟩
theorem zlp {n : Nat} {v : Value} {y : DataW H × List MemPlace} (h : zbr enc W n 47 [v] y) : ∃ l : List Smp, l.length <= maxLen /\ (∀ p ∈ l, p.wf) /\ Sl (Old W) W v 3 l.length (l.flatMap Smp.a) := by
 obtain ⟨A, len, aK, l, e, hl, hm, hq, hs⟩ := zca Smp.a Smp.wf underlying47 (m := 3) (by kernel_rfl) (by decide) h (fun fuel cs x hx ai => by
  obtain ⟨a, b, c, rfl⟩ := list3 ai; obtain ⟨n, _, hf⟩ := zbK underlying113 hx; obtain ⟨y0, h0⟩ := hf 0 _ a rfl zky rfl; obtain ⟨y1, h1⟩ := hf 1 _ b rfl c2_ rfl; obtain ⟨y2, h2⟩ := hf 2 _ c rfl zky rfl; obtain ⟨k, rfl, w0⟩ := zc2 h0; obtain ⟨z, rfl, w1⟩ := zhn h1; obtain ⟨q, rfl, w2⟩ := zc2 h2
  exact ⟨⟨k, z, q⟩, rfl, w0, w1.1, w1.2, w2⟩)
 injection e with e _; subst e; exact ⟨l, by omega, hq, hs⟩
theorem in_stones {n : Nat} {v : Value} {y : DataW H × List MemPlace} (h : zbr enc W n 48 [v] y) : ∃ lv : List (Ston × Value), lv.length <= maxLen /\ (∀ p ∈ lv, p.1.ref < 18446744073709551616 /\ p.1.ivs.length <= maxLen /\ ∀ q ∈ p.1.ivs, (-9223372036854775808 <= q.1 /\ q.1 <= 9223372036854775807) /\ -9223372036854775808 <= q.2 /\ q.2 <= 9223372036854775807) /\ SlS (Old W) W v lv := by
 obtain ⟨A, len, aK, l, e, hl, hm, hq, hs⟩ := zca stc (fun p => (p.1.ref < 18446744073709551616 /\ p.1.ivs.length <= maxLen /\ ∀ q ∈ p.1.ivs, (-9223372036854775808 <= q.1 /\ q.1 <= 9223372036854775807) /\ -9223372036854775808 <= q.2 /\ q.2 <= 9223372036854775807) /\ Sl (Old W) W p.2 2 p.1.ivs.length (p.1.ivs.flatMap ivc)) underlying48 (m := 2) (by kernel_rfl) (by decide) h (fun fuel cs x hx ai => by
  obtain ⟨a, b, rfl⟩ := zlo ai; obtain ⟨n, _, hf⟩ := zbK underlying151 hx; obtain ⟨y0, h0⟩ := hf 0 _ a rfl zky rfl; obtain ⟨y1, h1⟩ := hf 1 _ b rfl c148 rfl; obtain ⟨k, rfl, w0⟩ := zc2 h0; obtain ⟨l, w1, w2, w3⟩ := in_ivs h1
  exact ⟨(⟨k, l⟩, b), rfl, ⟨w0, w1, w2⟩, w3⟩)
 injection e with e _; subst e; exact ⟨l, by omega, fun p hp => (hq p hp).1, hs, fun p hp => (hq p hp).2⟩
theorem ziT {n : Nat} {v : Value} {y : DataW H × List MemPlace} (h : zbr enc W n 49 [v] y) : ∃ lv : List (Exm × Value), lv.length <= maxLen /\ (∀ p ∈ lv, (p.1.ref < 18446744073709551616 /\ -9223372036854775808 <= p.1.t /\ p.1.t <= 9223372036854775807 /\ p.1.v < 18446744073709551616) /\ p.1.labs.length <= maxLen /\ ∀ q ∈ p.1.labs, q.1.size <= maxLen /\ q.2.size <= maxLen) /\ SlX (Old W) W v lv := by
 obtain ⟨A, len, aK, l, e, hl, hm, hq, hs⟩ := zca exc (fun p => ((p.1.ref < 18446744073709551616 /\ -9223372036854775808 <= p.1.t /\ p.1.t <= 9223372036854775807 /\ p.1.v < 18446744073709551616) /\ p.1.labs.length <= maxLen /\ ∀ q ∈ p.1.labs, q.1.size <= maxLen /\ q.2.size <= maxLen) /\ Sl (Old W) W p.2 2 p.1.labs.length (p.1.labs.flatMap zaK)) underlying49 (m := 4) (by kernel_rfl) (by decide) h (fun fuel cs x hx ai => by
  obtain ⟨a, b, c, d, rfl⟩ := list4 ai; obtain ⟨n, _, hf⟩ := zbK underlying159 hx; obtain ⟨y0, h0⟩ := hf 0 _ a rfl zky rfl; obtain ⟨y1, h1⟩ := hf 1 _ b rfl c2_ rfl; obtain ⟨y2, h2⟩ := hf 2 _ c rfl zky rfl; obtain ⟨y3, h3⟩ := hf 3 _ d rfl c31 rfl; obtain ⟨k, rfl, w0⟩ := zc2 h0; obtain ⟨z, rfl, w1⟩ := zhn h1; obtain ⟨q, rfl, w2⟩ := zc2 h2; obtain ⟨l, w3, w4, w5⟩ := in_labs h3
  exact ⟨(⟨k, z, q, l⟩, d), rfl, ⟨⟨w0, w1.1, w1.2, w2⟩, w3, w4⟩, w5⟩)
 injection e with e _; subst e; exact ⟨l, by omega, fun p hp => (hq p hp).1, hs, fun p hp => (hq p hp).2⟩
theorem zka {n : Nat} {v : Value} {y : DataW H × List MemPlace} (h : zbr enc W n 50 [v] y) : ∃ l : List Mta, l.length <= maxLen /\ (∀ p ∈ l, p.ref < 18446744073709551616 /\ p.unit.size <= maxLen /\ p.help.size <= maxLen) /\ Sl (Old W) W v 4 l.length (l.flatMap Mta.c) := by
 obtain ⟨A, len, aK, l, e, hl, hm, hq, hs⟩ := zca Mta.c (fun p => p.ref < 18446744073709551616 /\ p.unit.size <= maxLen /\ p.help.size <= maxLen) underlying50 (m := 4) (by kernel_rfl) (by decide) h (fun fuel cs x hx ai => by
  obtain ⟨a, b, c, d, rfl⟩ := list4 ai; obtain ⟨n, _, hf⟩ := zbK underlying176 hx; obtain ⟨y0, h0⟩ := hf 0 _ a rfl zky rfl; obtain ⟨y1, h1⟩ := hf 1 _ b rfl c5_ rfl; obtain ⟨y2, h2⟩ := hf 2 _ c rfl c9_ rfl; obtain ⟨y3, h3⟩ := hf 3 _ d rfl c9_ rfl; obtain ⟨k, rfl, w0⟩ := zc2 h0; obtain ⟨z, rfl⟩ := rd_u8 h1; obtain ⟨s, rfl, w2⟩ := zkH h2; obtain ⟨t, rfl, w3⟩ := zkH h3
  exact ⟨⟨k, z, s, t⟩, rfl, w0, w2, w3⟩)
 injection e with e _; subst e; exact ⟨l, by omega, hq, hs⟩
theorem zlq {n : Nat} {v : Value} {y : DataW H × List MemPlace} (h : zbr enc W n 51 [v] y) : ∃ l : List Mrk, l.length <= maxLen /\ (∀ p ∈ l, p.wf) /\ Sl (Old W) W v 2 l.length (l.flatMap Mrk.c) := by
 obtain ⟨A, len, aK, l, e, hl, hm, hq, hs⟩ := zca Mrk.c Mrk.wf underlying51 (m := 2) (by kernel_rfl) (by decide) h (fun fuel cs x hx ai => by
  obtain ⟨a, b, rfl⟩ := zlo ai; obtain ⟨n, _, hf⟩ := zbK underlying168 hx; obtain ⟨y0, h0⟩ := hf 0 _ a rfl zky rfl; obtain ⟨y1, h1⟩ := hf 1 _ b rfl zky rfl; obtain ⟨k, rfl, w0⟩ := zc2 h0; obtain ⟨z, rfl, w1⟩ := zc2 h1
  exact ⟨⟨k, z⟩, rfl, w0, w1⟩)
 injection e with e _; subst e; exact ⟨l, by omega, hq, hs⟩
structure Hst.wide (h : Hst) : Prop where
 few : h.few maxLen
 s0 : -2147483648 <= h.schema
 s1 : h.schema <= 2147483647
 thr : h.thr < 18446744073709551616
 sum : h.sum < 18446744073709551616
 zc : h.zc < 18446744073709551616
 cnt : h.cnt < 18446744073709551616
 pos : ∀ p ∈ h.pos, -2147483648 <= p.1 /\ p.1 <= 2147483647 /\ p.2 < 4294967296
 neg : ∀ p ∈ h.neg, -2147483648 <= p.1 /\ p.1 <= 2147483647 /\ p.2 < 4294967296
 ups : ∀ x ∈ h.ups, -9223372036854775808 <= x /\ x <= 9223372036854775807
 downs : ∀ x ∈ h.downs, -9223372036854775808 <= x /\ x <= 9223372036854775807
 fups : ∀ x ∈ h.fups, x < 18446744073709551616
 fdowns : ∀ x ∈ h.fdowns, x < 18446744073709551616
 cus : ∀ x ∈ h.cus, x < 18446744073709551616
theorem Hst.wide.ok {h : Hst} (k : h.wide) (hf : h.few 60) : h.ok := ⟨hf, k.s0, k.s1, k.thr, k.sum, k.zc, k.cnt, k.pos, k.neg, k.ups, k.downs, k.fups, k.fdowns, k.cus⟩
theorem in_hist {n : Nat} {cs : List Value} {y : DataW H × List MemPlace} (h : zbr enc W n 192 cs y) (ai : cs.length = 13) : ∃ (x : Hst) (s : Hsl), cs = hic x s /\ x.wide /\ SlHs (Old W) W x s := by
 obtain ⟨n, _, hf⟩ := zbK underlying192 h
 match cs, ai with
 | [a0, a1, a2, a3, a4, a5, a6, a7, a8, a9, a10, a11, a12], _ =>
   obtain ⟨y0, h0⟩ := hf 0 _ a0 rfl c5_ rfl; obtain ⟨y1, h1⟩ := hf 1 _ a1 rfl c21 rfl; obtain ⟨y2, h2⟩ := hf 2 _ a2 rfl zky rfl; obtain ⟨y3, h3⟩ := hf 3 _ a3 rfl zky rfl; obtain ⟨y4, h4⟩ := hf 4 _ a4 rfl zky rfl; obtain ⟨y5, h5⟩ := hf 5 _ a5 rfl zky rfl; obtain ⟨y6, h6⟩ := hf 6 _ a6 rfl c188 rfl; obtain ⟨y7, h7⟩ := hf 7 _ a7 rfl c188 rfl; obtain ⟨y8, h8⟩ := hf 8 _ a8 rfl c189 rfl
   obtain ⟨y9, h9⟩ := hf 9 _ a9 rfl c189 rfl; obtain ⟨y10, h10⟩ := hf 10 _ a10 rfl c190 rfl; obtain ⟨y11, lI⟩ := hf 11 _ a11 rfl c190 rfl; obtain ⟨y12, h12⟩ := hf 12 _ a12 rfl c190 rfl; obtain ⟨k0, rfl⟩ := rd_u8 h0; obtain ⟨k1, rfl, w1⟩ := rd_i32 h1; obtain ⟨k2, rfl, w2⟩ := zc2 h2; obtain ⟨k3, rfl, w3⟩ := zc2 h3; obtain ⟨k4, rfl, w4⟩ := zc2 h4; obtain ⟨k5, rfl, w5⟩ := zc2 h5
   obtain ⟨l6, m6, w6, s6⟩ := zkV h6; obtain ⟨l7, m7, w7, s7⟩ := zkV h7; obtain ⟨l8, m8, w8, s8⟩ := in_ints h8; obtain ⟨l9, m9, w9, s9⟩ := in_ints h9; obtain ⟨pw, m10, cU, iz⟩ := zj9 h10; obtain ⟨l11, m11, je, pm⟩ := zj9 lI; obtain ⟨l12, m12, w12, pl⟩ := zj9 h12
   exact ⟨⟨k0, k1, k2, k3, k4, k5, l6, l7, l8, l9, pw, l11, l12⟩, ⟨a6, a7, a8, a9, a10, a11, a12⟩, rfl, ⟨⟨m6, m7, m8, m9, m10, m11, m12⟩, w1.1, w1.2, w2, w3, w4, w5, w6, w7, w8, w9, cU, je, w12⟩, s6, s7, s8, s9, iz, pm, pl⟩
theorem zh8 {n : Nat} {v : Value} {y : DataW H × List MemPlace} (h : zbr enc W n 52 [v] y) : ∃ lv : List (Rhs × Hsl), lv.length <= maxLen /\ (∀ p ∈ lv, (p.1.ref < 18446744073709551616 /\ -9223372036854775808 <= p.1.t /\ p.1.t <= 9223372036854775807) /\ p.1.h.wide) /\ SlH (Old W) W v lv := by
 obtain ⟨A, len, aK, l, e, hl, hm, hq, hs⟩ := zca hsc (fun p => ((p.1.ref < 18446744073709551616 /\ -9223372036854775808 <= p.1.t /\ p.1.t <= 9223372036854775807) /\ p.1.h.wide) /\ SlHs (Old W) W p.1.h p.2) underlying52 (m := 15) (by kernel_rfl) (by decide) h (fun fuel cs x hx ai => by
  obtain ⟨n, hg, hf⟩ := zbK underlying194 hx
  match cs, ai with
  | a :: b :: r, ai =>
    obtain ⟨y0, h0⟩ := hf 0 _ a rfl zky rfl; obtain ⟨y1, h1⟩ := hf 1 _ b rfl c2_ rfl; obtain ⟨y2, h2⟩ := hg 2 _ rfl; have hr : r.length = 13 := by simpa using ai
    have h2 : zbr enc W n 192 (((a :: b :: r).drop 2).take (prog.cellsOf 192)) y2 := h2; rw [show prog.cellsOf 192 = 13 by kernel_rfl] at h2; have hd : ((a :: b :: r).drop 2).take 13 = r := by rw [List.drop_succ_cons, List.drop_succ_cons, List.drop_zero, zmq (by omega)]
    have h3 : zbr enc W n 192 r y2 := by rw [<- hd]; exact h2
    obtain ⟨k, rfl, w0⟩ := zc2 h0; obtain ⟨z, rfl, w1⟩ := zhn h1; obtain ⟨x, s, rfl, w2, w3⟩ := in_hist h3 hr
    exact ⟨(⟨k, z, x⟩, s), rfl, ⟨⟨w0, w1⟩, w2⟩, w3⟩)
 injection e with e _; subst e; exact ⟨l, by omega, fun p hp => (hq p hp).1, hs, fun p hp => (hq p hp).2⟩
end
end Go.Proofs.YtbkookiigkckdaaGreatDoor
