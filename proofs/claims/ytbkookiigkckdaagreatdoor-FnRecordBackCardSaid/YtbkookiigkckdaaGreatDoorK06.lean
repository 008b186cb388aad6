/- Texts of this seat, merged and shortened. -/
import Derived.Test.YtbkookiigkckdaaGreatDoorK05
set_option linter.unusedVariables false
set_option linter.unusedSimpArgs false
set_option maxRecDepth 100000
set_option maxHeartbeats 8000000
namespace Go.Proofs.YtbkookiigkckdaaGreatDoor
open Go.RowKit Go.Proofs.Tryz
structure Mta where
 ref : Nat
 ty : UInt8
 unit : ByteArray
 help : ByteArray
def Mta.wf (s : Mta) : Prop := s.ref < 18446744073709551616 /\ s.unit.size <= 4096 /\ s.help.size <= 4096
def Mta.c (s : Mta) : List Value := [.int .u64 s.ref, .int .u8 s.ty.toNat, .string s.unit, .string s.help]
theorem info174 : (prog.info? 174).map (fun i => (i.zero, i.size, i.bytes)) = some (some (.agg #[.int .u64 0, .int .u8 0, .string ⟨#[]⟩, .string ⟨#[]⟩]), 4, 48) := by kernel_rfl
theorem zdB {α : Type} (f : α -> List Value) (h3 : ∀ x, (f x).length = 4) : ∀ (l : List α) (k : Nat) (x : α), l[k]? = some x -> ∀ j, j < 4 -> (l.flatMap f)[k * 4 + j]? = (f x)[j]?
 | [], k, x, h, j, hj => by simp at h
 | y :: l, 0, x, h, j, hj => by
   simp at h; subst h; rw [zl1, zmz (by rw [h3]; omega)]; simp
 | y :: l, k + 1, x, h, j, hj => by
   rw [zl1, zmA (by rw [h3]; omega), h3, show (k + 1) * 4 + j - 4 = k * 4 + j by omega]; exact zdB f h3 l k x (by simpa using h) j hj
def zgS (w : World) (l : List Mta) (r : Ending) (w' : World) : Prop :=
 ∃ v, r = .returned v /\ w'.ownsRow w.heap.size 174 4 v l.length (l.flatMap Mta.c) /\ Fr (fun _ => False) w w'
theorem zec (P : Nat -> Prop) (v : Value) (l : List Mta) (w : World) (h : Sl P w v 4 l.length (l.flatMap Mta.c)) (hl : l.length <= 1099511627776) :
 Calls prog 82 #[v] w (zgS w l) := by
 obtain ⟨A, c, rfl, ai, aR, hr⟩ := h; obtain ⟨n, hn⟩ := exE l.length; rw [hn] at hr aR hl ⊢; have HN := zlM hn; have HR := zlM hr; obtain ⟨i0, aB, ay, ax, aA⟩ := info_parts info174; clear hn hr ai; go_enter func82, ntmps82; go_wp2
 go_loopw [2, 7] (fun v i wr => ∃ k : Nat, k <= n /\ i = .int .i64 k /\ wr.ownsRow w.heap.size 174 4 v k ((l.take k).flatMap Mta.c) /\ Fr (fun _ => False) w wr) (fun _ i _ => n - (intOf i).toNat)
 case atStart => exact ⟨0, zlX _, rfl, zl0 _ _ _ _, zmR _ _⟩
 case round =>
  obtain ⟨k, hk, rfl, ab, hf⟩ := hrel; by_cases hlt : k < n
  ·obtain ⟨g, off, rfl, _, aa⟩ := HR.out (by omega)
   obtain ⟨x, hx⟩ : ∃ x, l[k]? = some x := ⟨_, zlO (by rw [HN.out]; exact hlt)⟩; have cc : ∀ j, j < 4 -> ∀ u, (Mta.c x)[j]? = some u -> wr.cell? ⟨g, off + (k * 4 + j), none⟩ = some u := fun j hj u hu => by
    have := aa (k * 4 + j) u (by rw [zdB Mta.c (fun _ => rfl) l k x hx j hj]; exact hu); rw [hf.cell (p := ⟨g, off + (k * 4 + j), none⟩) (zlT w _ this) (fun e => e)]; exact this
   have c0 : wr.cell? ⟨g, off + k * 4, none⟩ = some (.int .u64 x.ref) := cc 0 (by omega) _ rfl; have c1 : wr.cell? ⟨g, off + k * 4 + 1, none⟩ = some (.int .u8 x.ty.toNat) := cc 1 (by omega) _ rfl; have c2 : wr.cell? ⟨g, off + k * 4 + 2, none⟩ = some (.string x.unit) := cc 2 (by omega) _ rfl; have c3 : wr.cell? ⟨g, off + k * 4 + 3, none⟩ = some (.string x.help) := cc 3 (by omega) _ rfl
   have HC := zlM aa; have HO := zlM ab; have HX := zlM hx; obtain ⟨a', n', k', rfl⟩ := zab ab; clear aa cc ab hx; go_wp2_with (at_builtin; refine Hid.out ?_)
   refine zlM ?_
   refine zae _ rfl _ _ 169 169 rfl w.heap.size 174 i0 _ 4 48 underlying169 aB ay ax aA rfl (by decide) _ k ((l.take k).flatMap Mta.c) rfl ((HO.out.alloc _).alloc _) _ 1 (Mta.c x) rfl (zaF underlying169 (zaL wr _ 174 (Mta.c x).toArray) rfl (by simp [Mta.c, Value.oneCell'])) (by unfold maxLen; omega) (by omega) (by first | omega | (simp; omega) | (have := hf.size; simp; omega)) ?_
   intro v' w2 ac ad aw
   have af : w2.ownsRow w.heap.size 174 4 v' (k + 1) ((l.take (k + 1)).flatMap Mta.c) := by rw [zam Mta.c l k x HX.out]; exact ac
   have ar : Fr (fun _ => False) w w2 := ((hf.alloc _).alloc _).grown ad (fun g hg => .inr (((HO.out.lt g hg)).1)); have cL := zlM af; have bx := zlM ar; clear ac ad af ar hf c0 c1 c2 c3 aw
   go_wp2; go_roundw
   case rel => exact ⟨k + 1, by omega, by go_num, cL.out, bx.out⟩
   case measure => simp [intOf]; omega
  ·go_wp2
   go_ret; obtain rfl : k = n := by omega
   refine ⟨_, rfl, ?_, hf⟩; rw [<- HN.out] at ab ⊢; rw [zmd] at ab; exact ab
theorem zbF {α : Type} (f : α -> List UInt8) (m : Nat) : ∀ l : List α, (∀ x ∈ l, (f x).length <= m) -> (l.flatMap f).length <= l.length * m
 | [], _ => by simp
 | x :: l, hf => by
   have h1 := zbF f m l (fun y hy => hf y (zmL _ hy)); have h2 := hf x (zmF ..); rw [zl1, zlN, zl4, Nat.add_mul]; omega
def zca (s : Mta) : List UInt8 := Lib.uvarint s.ref ++ (s.ty :: (Lib.uvarint 2 ++ (zaM ⟨#[85, 78, 73, 84]⟩ ++ (zaM s.unit ++ (zaM ⟨#[72, 69, 76, 80]⟩ ++ zaM s.help)))))
def zbL (l : List Mta) : List UInt8 := 6 :: l.flatMap zca
theorem zcD (s : ByteArray) (h : s.size < 18446744073709551616) : (zaM s).length <= 10 + s.size := by
 have := zl2 h; rw [zaM, zlN, <- zmG]; omega
theorem zhC (s : Mta) (h : s.wf) : (zca s).length <= 8300 := by
 obtain ⟨h0, h1, h2⟩ := h; have a0 := zl2 h0; have a1 := zl2 (x := 2) (by omega); have a2 := zcD ⟨#[85, 78, 73, 84]⟩ (by decide); have a3 := zcD s.unit (by omega); have a4 := zcD ⟨#[72, 69, 76, 80]⟩ (by decide); have a5 := zcD s.help (by omega); have e1 : (⟨#[85, 78, 73, 84]⟩ : ByteArray).size = 4 := rfl
 have e2 : (⟨#[72, 69, 76, 80]⟩ : ByteArray).size = 4 := rfl; simp only [zca, zlN, zl4]; omega
theorem ziT (ep : Value) (sv : Value) (P : Nat -> Prop) (v : Value) (xs : List UInt8) (l : List Mta) (w : World) (h : Sl P w sv 4 l.length (l.flatMap Mta.c)) (ab : w.ownsRow 0 5 1 v xs.length (bc xs)) (hl : xs.length <= 1073741824)
 (au : l.length <= 1048576) (aF : ∀ s ∈ l, s.wf) (hP : ∀ g, P g -> g < w.heap.size /\ some g ≠ v.ownBlock) :
 Calls prog 96 #[ep, sv, v] w (zbT w v.ownBlock (xs ++ zbL l)) := by
 obtain ⟨A, c, rfl, ai, aR, hr⟩ := h; obtain ⟨a', n', k', rfl⟩ := zab ab; obtain ⟨n, hn⟩ := exE l.length; rw [hn] at aR hr au ⊢; have hE := Enc.made (z := .int .u8 0) ab _ rfl; have hQ := zcs w.heap.size _ xs 6 _ hE (by omega); have e2 : ((6 : UInt8).toNat : Int) = 6 := rfl; rw [e2] at hQ; have HN := zlM hn; have HR := zlM hr; have HP := zlM hP; have HE := zlM hE
 clear hE hr e2 hn ai hP; go_enter func96, ntmps96; go_wp2_with (go_at_call 180; refine hQ.mono ?_; rintro r1 w1 ⟨rfl, R⟩; refine Hid.out ?_)
 have cY := zlM R; clear R hQ; refine zlM ?_; go_wp2_with fail
 have cS : Fr (fun k => some k = (Value.slice a' n' k').ownBlock) w (w.alloc (.cells #[.slice a' n' k', .int .u8 0, .int .u8 0, .int .u8 0, .int .u8 0, .int .u8 0, .int .u8 0, .int .u8 0, .int .u8 0, .int .u8 0, .int .u8 0] 224)) := (zmR _ w).alloc _; generalize eh : w.alloc _ = WB at HE cY cS; have hB : w.heap.size < WB.heap.size := by rw [<- eh]; simp
 clear eh; have dJ := zlM cS; clear cS; go_loopw [15] (fun i wr => ∃ k : Nat, k <= n /\ i = .int .i64 k /\ Put WB w.heap.size (Value.slice a' n' k').ownBlock xs ([6] ++ (l.take k).flatMap zca) wr) (fun i _ => n - (intOf i).toNat)
 case atStart => exact ⟨0, zlX _, rfl, by simpa using cY.out⟩
 case round =>
  obtain ⟨k, hk, rfl, R⟩ := hrel; by_cases hlt : k < n
  ·obtain ⟨g, off, rfl, fX, aa⟩ := HR.out (by omega)
   have hg := HP.out g fX; obtain ⟨x, hx⟩ : ∃ x, l[k]? = some x := ⟨_, zlO (by rw [HN.out]; exact hlt)⟩; have eX := aF x (zlU hx)
   have dP : Fr (fun k => some k = (Value.slice a' n' k').ownBlock) w wr := dJ.out.trans R.fr (fun k hk e => by
    rcases e with e | e
    ·omega
    ·exact e)
   have cc : ∀ j, j < 4 -> ∀ u, (Mta.c x)[j]? = some u -> wr.cell? ⟨g, off + (k * 4 + j), none⟩ = some u := fun j hj u hu => by
    have := aa (k * 4 + j) u (by rw [zdB Mta.c (fun _ => rfl) l k x hx j hj]; exact hu); rw [dP.cell (p := ⟨g, off + (k * 4 + j), none⟩) hg.1 hg.2]; exact this
   have d0 : wr.cell? ⟨g, off + k * 4, none⟩ = some (.int .u64 x.ref) := cc 0 (by omega) _ rfl; have d1 : wr.cell? ⟨g, off + k * 4 + 1, none⟩ = some (.int .u8 x.ty.toNat) := cc 1 (by omega) _ rfl; have d2 : wr.cell? ⟨g, off + k * 4 + 2, none⟩ = some (.string x.unit) := cc 2 (by omega) _ rfl; have d3 : wr.cell? ⟨g, off + k * 4 + 3, none⟩ = some (.string x.help) := cc 3 (by omega) _ rfl
   have bE : ([(6 : UInt8)] ++ (l.take k).flatMap zca).length <= 1 + k * 8300 := by
    have h1 := zbF zca 8300 (l.take k) (fun s hs => zhC s (aF s (zmJ hs))); have h2 : (l.take k).length <= k := zmM _ _; have h3 : (l.take k).length * 8300 <= k * 8300 := zlZ _ h2; rw [zlN, zl3]; omega
   have cC : k * 8300 <= 1048576 * 8300 := zlZ _ (by omega); obtain ⟨h0, h1, h2⟩ := eX; have u0 := zl2 h0; have u1 := zl2 (x := 2) (by omega); have u2 := zcD ⟨#[85, 78, 73, 84]⟩ (by decide); have u3 := zcD x.unit (by omega); have u4 := zcD ⟨#[72, 69, 76, 80]⟩ (by decide)
   have z1 : (⟨#[85, 78, 73, 84]⟩ : ByteArray).size = 4 := rfl; have z2 : (⟨#[72, 69, 76, 80]⟩ : ByteArray).size = 4 := rfl; obtain ⟨Y, hY⟩ := exE ([(6 : UInt8)] ++ (l.take k).flatMap zca); rw [hY] at bE; rw [hY] at R; have HY := zlM hY; have HX := zlM hx; have dj := zmS wr 174 #[.int .u64 x.ref, .int .u8 x.ty.toNat, .string x.unit, .string x.help]
   have RA := R.alloc (.cells #[.int .u64 x.ref, .int .u8 x.ty.toNat, .string x.unit, .string x.help] 174); have cZ := zlM dj; have bU := zlM RA; have kD : Y.length <= 8703182849 := by omega
   have HU := zlM (zmD u0 (zmD u1 (zmD u2 (zmD u3 (zmD u4 (zmD z1 z2)))))); have HW := zlM (zmD h0 (zmD h1 h2)); clear hx dP cc dj aa hY R RA bE cC h0 h1 h2 u0 u1 u2 u3 u4 z1 z2 aF
   go_wp2_with (first
    | (go_at_call 185; refine (zaf bU.out (f := 185) (args := #[.pointer (some ⟨w.heap.size, 0, none⟩), .int .u64 x.ref]) (zs := Lib.uvarint x.ref) (fun o2 he => zcN _ o2 _ _ HW.out.1 _ he (by rw [zlN]; omega))).mono ?_; rintro rA wA ⟨rfl, R1, K1⟩
       have av := K1.out _ _ _ (by decide) (by decide) cZ.out; have p1 := av.cell 1; have cI := zlM av; have bd := zlM R1; have bz : (Y ++ Lib.uvarint x.ref).length <= 8703182859 := by have := HU.out.1; rw [zlN]; omega
       clear R1 K1 av)
    | (go_at_call 180; refine (zaf bd.out (f := 180) (args := #[.pointer (some ⟨w.heap.size, 0, none⟩), .int .u8 x.ty.toNat]) (zs := [x.ty]) (fun o2 he => zcs _ o2 _ _ _ he (by rw [zlN]; omega))).mono ?_; rintro rB wB ⟨rfl, R1, K1⟩
       have av := K1.out _ _ _ (by decide) (by decide) cI.out; have dm := zlM av; have bC := zlM R1; have dn : (Y ++ Lib.uvarint x.ref ++ [x.ty]).length <= 8703182860 := by rw [zlN]; simp only [zl3]; omega
       clear R1 K1 av cI bd)
    | (go_at_call 186; refine (zaf bC.out (f := 186) (args := #[.pointer (some ⟨w.heap.size, 0, none⟩), .int .i64 2]) (zs := Lib.uvarint 2) (fun o2 he => za9 _ o2 _ 2 (by omega) _ he (by rw [zlN]; omega))).mono ?_; rintro rC wC ⟨rfl, R1, K1⟩
       have av := K1.out _ _ _ (by decide) (by decide) dm.out; have bI := zlM av; have jR := zlM R1; have pd : (Y ++ Lib.uvarint x.ref ++ [x.ty] ++ Lib.uvarint 2).length <= 8703182870 := by have := HU.out.2.1; rw [zlN]; omega
       clear R1 K1 av dm bC)
    | (go_at_call 187; refine (zaf jR.out (f := 187) (args := #[.pointer (some ⟨w.heap.size, 0, none⟩), .string ⟨#[85, 78, 73, 84]⟩]) (zs := zaM ⟨#[85, 78, 73, 84]⟩) (fun o2 he => zb8 _ o2 _ _ _ he (by rw [zlN]; omega) (by have := HU.out.2.2.2.2.2.1; omega))).mono ?_; rintro rD wD ⟨rfl, R1, K1⟩
       have av := K1.out _ _ _ (by decide) (by decide) bI.out; have p2 := av.cell 2; have rY := zlM av; have je := zlM R1; have hv5 : (Y ++ Lib.uvarint x.ref ++ [x.ty] ++ Lib.uvarint 2 ++ zaM ⟨#[85, 78, 73, 84]⟩).length <= 8703182884 := by have := HU.out.2.2.1; have := HU.out.2.2.2.2.2.1; rw [zlN]; omega
       clear R1 K1 av bI jR)
    | (go_at_call 187; refine (zaf je.out (f := 187) (args := #[.pointer (some ⟨w.heap.size, 0, none⟩), .string x.unit]) (zs := zaM x.unit) (fun o2 he => zb8 _ o2 _ _ _ he (by rw [zlN]; omega) (by have := HW.out.2.1; omega))).mono ?_; rintro rE wE ⟨rfl, R1, K1⟩
       have av := K1.out _ _ _ (by decide) (by decide) rY.out; have cA := zlM av; have iU := zlM R1; have hv6 : (Y ++ Lib.uvarint x.ref ++ [x.ty] ++ Lib.uvarint 2 ++ zaM ⟨#[85, 78, 73, 84]⟩ ++ zaM x.unit).length <= 8703186990 := by have := HU.out.2.2.2.1; have := HW.out.2.1; rw [zlN]; omega
       clear R1 K1 av rY je)
    | (go_at_call 187; refine (zaf iU.out (f := 187) (args := #[.pointer (some ⟨w.heap.size, 0, none⟩), .string ⟨#[72, 69, 76, 80]⟩]) (zs := zaM ⟨#[72, 69, 76, 80]⟩) (fun o2 he => zb8 _ o2 _ _ _ he (by rw [zlN]; omega) (by have := HU.out.2.2.2.2.2.2; omega))).mono ?_; rintro rF wF ⟨rfl, R1, K1⟩
       have av := K1.out _ _ _ (by decide) (by decide) cA.out; have p3 := av.cell 3; have oJ := zlM R1; have hv7 : (Y ++ Lib.uvarint x.ref ++ [x.ty] ++ Lib.uvarint 2 ++ zaM ⟨#[85, 78, 73, 84]⟩ ++ zaM x.unit ++ zaM ⟨#[72, 69, 76, 80]⟩).length <= 8703187004 := by have := HU.out.2.2.2.2.1; have := HU.out.2.2.2.2.2.2; rw [zlN]; omega
       clear R1 K1 av cA iU)
    | (go_at_call 187; refine (zaf oJ.out (f := 187) (args := #[.pointer (some ⟨w.heap.size, 0, none⟩), .string x.help]) (zs := zaM x.help) (fun o2 he => zb8 _ o2 _ _ _ he (by rw [zlN]; omega) (by have := HW.out.2.2; omega))).mono ?_; rintro rG wG ⟨rfl, R1, K1⟩
       have bY := zlM R1
       clear R1 K1 oJ))
   have RE : Put WB w.heap.size (Value.slice a' n' k').ownBlock xs ([6] ++ (l.take (k + 1)).flatMap zca) wG := by
    rw [zal zca l k x HX.out, <- zlP, HY.out]; simpa [zca, zlP] using bY.out
   have cT := zlM RE; clear RE bY; go_wp2; go_roundw
   case rel => exact ⟨k + 1, by omega, by go_num, cT.out⟩
   case measure => simp [intOf]; omega
  ·obtain rfl : k = n := by omega
   obtain ⟨oZ, dD, ee, fP⟩ := R; have hG := zd7 _ _ _ _ dD; have HEZ := zlM dD; have HZ := zlM ee; clear dD ee; go_wp2_with (go_at_call 116; refine hG.mono ?_; rintro rr w2 ⟨v2, rfl, rfl, af, bz⟩)
   go_ret; refine ⟨v2, rfl, ?_, dJ.out.trans HZ.out (fun k hk e => ?_), ?_⟩
   ·have e1 : l.take k = l := zlV (by rw [HN.out]; exact zlY _)
    rw [e1] at af; simpa [zbL] using af
   ·rcases e with e | e
    ·omega
    ·exact e
   ·rw [bz]
    rcases fP with h | ⟨k2, h, cR⟩
    ·exact .inl h
    ·exact .inr ⟨k2, h, by omega⟩
structure Exm where
 ref : Nat
 t : Int
 v : Nat
 labs : List Lab
def exc (p : Exm × Value) : List Value := [.int .u64 p.1.ref, .int .i64 p.1.t, .int .u64 p.1.v, p.2]
def SlX (P : Nat -> Prop) (w : World) (v : Value) (lv : List (Exm × Value)) : Prop :=
 Sl P w v 4 lv.length (lv.flatMap exc) /\ ∀ p ∈ lv, Sl P w p.2 2 p.1.labs.length (p.1.labs.flatMap zaI)
theorem SlX.fr {P S : Nat -> Prop} {w w' : World} {v : Value} {lv : List (Exm × Value)} (h : SlX P w v lv) (hf : Fr S w w') (hs : ∀ g, P g -> ¬ S g) : SlX P w' v lv :=
 ⟨h.1.fr hf hs, fun p hp => (h.2 p hp).fr hf hs⟩
def exo (x : Exm) : List Value := [.int .u64 x.ref, .int .i64 x.t, .float .f64 x.v, .string (zat (zaE x.labs))]
theorem info157 : (prog.info? 157).map (fun i => (i.zero, i.size, i.bytes)) = some (some (.agg #[.int .u64 0, .int .i64 0, .float .f64 0, .string ⟨#[]⟩]), 4, 40) := by kernel_rfl
def zfI (w : World) (l : List Exm) (r : Ending) (w' : World) : Prop :=
 ∃ v, r = .returned v /\ w'.ownsRow w.heap.size 157 4 v l.length (l.flatMap exo) /\ Fr (fun _ => False) w w'
theorem zd1 (P : Nat -> Prop) (v : Value) (lv : List (Exm × Value)) (w : World) (h : SlX P w v lv) (hl : lv.length <= 1099511627776) (aQ : ∀ p ∈ lv, LabOk p.1.labs 12 600) :
 Calls prog 78 #[v] w (zfI w (lv.map Prod.fst)) := by
 have mixed : prog.follows .mixedOrders = true := by kernel_rfl
 obtain ⟨⟨A, c, rfl, ai, aR, hr⟩, co⟩ := h; obtain ⟨n, hn⟩ := exE lv.length; rw [hn] at hr aR hl ⊢; have HN := zlM hn; have HR := zlM hr; have HI := zlM co
 have gr := zlM aQ; obtain ⟨i0, aB, ay, ax, aA⟩ := info_parts info157; clear hn hr ai co aQ; go_enter func78, ntmps78; go_wp2; go_loopw [2, 7] (fun v i wr => ∃ k : Nat, k <= n /\ i = .int .i64 k /\ Hid (wr.ownsRow w.heap.size 157 4 v k (((lv.map Prod.fst).take k).flatMap exo)) /\ Hid (Fr (fun _ => False) w wr)) (fun _ i _ => n - (intOf i).toNat)
 case atStart => exact ⟨0, zlX _, rfl, zlM (zl0 _ _ _ _), zlM (zmR _ _)⟩
 case round =>
  obtain ⟨k, hk, rfl, HO, HF⟩ := hrel; by_cases hlt : k < n
  ·obtain ⟨g, off, rfl, _, aa⟩ := HR.out (by omega)
   obtain ⟨x, hx⟩ : ∃ x, lv[k]? = some x := ⟨_, zlO (by rw [HN.out]; exact hlt)⟩; have cc : ∀ j, j < 4 -> ∀ u, (exc x)[j]? = some u -> wr.cell? ⟨g, off + (k * 4 + j), none⟩ = some u := fun j hj u hu => by
    have := aa (k * 4 + j) u (by rw [zdB exc (fun _ => rfl) lv k x hx j hj]; exact hu); rw [HF.out.cell (p := ⟨g, off + (k * 4 + j), none⟩) (zlT w _ this) (fun e => e)]; exact this
   have c0 : wr.cell? ⟨g, off + k * 4, none⟩ = some (.int .u64 x.1.ref) := cc 0 (by omega) _ rfl; have c1 : wr.cell? ⟨g, off + k * 4 + 1, none⟩ = some (.int .i64 x.1.t) := cc 1 (by omega) _ rfl; have c2 : wr.cell? ⟨g, off + k * 4 + 2, none⟩ = some (.int .u64 x.1.v) := cc 2 (by omega) _ rfl; have c3 : wr.cell? ⟨g, off + k * 4 + 3, none⟩ = some x.2 := cc 3 (by omega) _ rfl
   have aH := zlU hx; have aX := HI.out x aH; have bA := gr.out x aH; have dM : (lv.map Prod.fst)[k]? = some x.1 := by rw [zmm, hx]; rfl
   obtain ⟨⟨ref, t, vv, labs⟩, iv⟩ := x; simp only [] at c0 c1 c2 c3 aX bA dM; have jC : ∃ A m c, iv = .slice A m c := let ⟨A, c, h, _⟩ := aX; ⟨A, _, c, h⟩
   obtain ⟨Ai, mi, ci, rfl⟩ := jC; have HX := zlM dM; obtain ⟨a', n', k', rfl⟩ := zab HO.out; clear aa cc hx aH dM; go_wp2_with fail
   have cj := zmS wr 159 #[.int .u64 ref, .int .i64 t, .int .u64 vv, .slice Ai mi ci]; have s0 := cj.cell 0; have s1 := cj.cell 1; have s2 := cj.cell 2; have s3 := cj.cell 3; simp only [zl7, zl5, zl6] at s0 s1 s2 s3; have bF := HF.out.size; have dt := zlM cj
   have hC := made_ok P (.slice Ai mi ci) labs (wr.alloc (.cells #[.int .u64 ref, .int .i64 t, .int .u64 vv, .slice Ai mi ci] 159)).drew (aX.fr (HF.out.alloc _).drew (fun _ _ e => e)) bA; obtain ⟨st, aZ⟩ := exE (zat (zaE labs)); rw [aZ] at hC; have jd := zlM aZ; clear cj aX aZ bA
   have pb : (wr.alloc (.cells #[.int .u64 ref, .int .i64 t, .int .u64 vv, .slice Ai mi ci] 159)).drew.heap.size = wr.heap.size + 1 := by simp
   go_region_held3 (fun w' => w'.cell? ⟨wr.heap.size, 0, none⟩ = some (.int .u64 ref) /\ w'.cell? ⟨wr.heap.size, 1, none⟩ = some (.int .i64 t) /\ w'.cell? ⟨wr.heap.size, 2, none⟩ = some (.int .u64 vv) /\ w'.cell? ⟨wr.heap.size, 3, none⟩ = some (.slice Ai mi ci))
    ((first | (go_split_ands; refine ⟨?_, ?_, ?_, ?_⟩ <;> first | exact ej.out.cell 0 | exact ej.out.cell 1 | exact ej.out.cell 2 | exact ej.out.cell 3) | (go_split_ands; refine ⟨?_, ?_, ?_, ?_⟩ <;> first | exact (cK.out.alloc _).cell 0 | exact (cK.out.alloc _).cell 1 | exact (cK.out.alloc _).cell 2 | exact (cK.out.alloc _).cell 3) | (go_split_ands; refine ⟨?_, ?_, ?_, ?_⟩ <;> first | exact cK.out.cell 0 | exact cK.out.cell 1 | exact cK.out.cell 2 | exact cK.out.cell 3) | go_keep))
    ((first
      | (go_at_call 167; refine (ze3 _ _).mono ?_; rintro r w' ⟨rfl, rfl⟩)
      | (go_at_call 54; refine hC.mono ?_; rintro r5 w5 ⟨rfl, aq⟩; have cK := zlM (dt.out.drew.fr aq (fun e => e)); have F5 := zlM (((zmR (fun _ => False) wr).alloc (.cells #[.int .u64 ref, .int .i64 t, .int .u64 vv, .slice Ai mi ci] 159)).drew.same aq); have O5 := zlM (zai HO.out F5.out (fun _ _ e => e)); have lM := F5.out.size)
      | (refine zas _ (by rfl) _ _ 152 152 (by rfl) w.heap.size 157 i0 _ 4 40 underlying152 aB ay ax aA rfl (by decide) (.slice a' n' k') k (((lv.map Prod.fst).take k).flatMap exo) (by rfl) (O5.out.alloc _) _ 1 [.int .u64 ref, .int .i64 t, .float .f64 vv, .string st] (by rfl) (zaF underlying152 (zmS w5 157 #[.int .u64 ref, .int .i64 t, .float .f64 vv, .string st]) rfl (by simp [Value.oneCell'])) (by unfold maxLen; omega) (by omega) (by simp; omega) ?_; intro v' w2 ac ad aw; have ej := zlM ((cK.out.alloc (.cells #[.int .u64 ref, .int .i64 t, .float .f64 vv, .string st] 157)).grown ad (fun e => zmw _ (zar HO.out e.symm))))))
   have NO : Hid (w2.ownsRow w.heap.size 157 4 v' (k + 1) (((lv.map Prod.fst).take (k + 1)).flatMap exo)) := zlM (by
    rw [zam exo _ k _ HX.out]; unfold exo; rw [jd.out]
    exact ac)
   have NF : Hid (Fr (fun _ => False) w w2) := zlM (((HF.out.same F5.out).alloc _).grown ad (fun g hg => .inr ((HO.out.lt g hg).1))); clear ac ad aw c0 c1 c2 c3 s0 s1 s2 s3 hC aq ej O5; go_wp2; go_roundw
   case rel => exact ⟨k + 1, by omega, by go_num, NO, NF⟩
   case measure => simp [intOf]; omega
  ·go_wp2
   go_ret; obtain rfl : k = n := by omega
   have h := HO.out; have e : (lv.map Prod.fst).take k = lv.map Prod.fst := zlV (by rw [zma, HN.out]; exact zlY _); rw [e] at h; refine ⟨_, rfl, ?_, HF.out⟩; rw [zma, HN.out]; exact h
structure ExD where
 ref : Nat
 t : Int
 v : Nat
 labs : List Lab
def exd (x : ExD) : List Value := [.int .u64 x.ref, .int .i64 x.t, .float .f64 x.v, .string (zat x.labs)]
def zaU (br : Nat) (bt : Int) (st : St) : ExD × St :=
 (⟨u64 ((br : Int) + u64 (zaH st).1), wrap64 (bt + (zaH (zaH st).2).1), (zac (zaH (zaH st).2).2).1, (zfR (zac (zaH (zaH st).2).2).2).1⟩, (zfR (zac (zaH (zaH st).2).2).2).2)
def zep (st : St) : Prop := zfl (zac (zaH (zaH st).2).2).2
def zbO (rest : List UInt8) : Option (List ExD) :=
 if rest = [] then some [] else match zaj (zaU (zac (some rest)).1 (zav (zac (some rest)).2).1) rest.length (zav (zac (some rest)).2).2 [] with
  | (l, some _) => some l
  | (_, none) => none
def zbE (xs : List UInt8) : Option (List ExD) :=
 match xs with
 | [] => none
 | b :: rest => if b = 4 then zbO rest else none
theorem zj3 {br : Nat} {bt : Int} {l0 l : List UInt8} (h : (zaU br bt (some l0)).2 = some l) : l.length < l0.length := by
 obtain ⟨l1, h1, e1⟩ := zkw h; obtain ⟨l2, h2, e2⟩ := zbJ (st := (zaH (zaH (some l0)).2).2) h1; obtain ⟨l3, h3, e3⟩ := zcc (st := (zaH (some l0)).2) h2; obtain ⟨l4, h4, e4⟩ := zcc (st := some l0) h3; injection h4 with h4; subst h4; omega
def zeF (S : Nat -> Prop) (w : World) (base : Nat) (pre : List ExD) (et : Option (List ExD)) (r : Ending) (w' : World) : Prop :=
 Fr S w w' /\ match et with
  | some l => ∃ v', r = .returned (.tuple #[v', .nilIface]) /\ w'.ownsRow base 157 4 v' (pre ++ l).length ((pre ++ l).flatMap exd)
  | none => ∃ t a, r = .returned (.tuple #[.slice none 0 0, .iface t a])
theorem zdT {S : Nat -> Prop} {w w' : World} {base : Nat} {pre : List ExD} {et : Option (List ExD)} {t : TypeId} {a : Value} (hd : et = none) (hf : Fr S w w') : zeF S w base pre et (.returned (.tuple #[.slice none 0 0, .iface t a])) w' := by
 unfold zeF; rw [hd]; exact ⟨hf, _, _, rfl⟩
theorem zeL {S : Nat -> Prop} {w w' : World} {base : Nat} {pre : List ExD} {et : Option (List ExD)} {l : List ExD} {v : Value} (hd : et = some l) (hf : Fr S w w') (ho : w'.ownsRow base 157 4 v (pre ++ l).length ((pre ++ l).flatMap exd)) : zeF S w base pre et (.returned (.tuple #[v, .nilIface])) w' := by
 unfold zeF; rw [hd]; exact ⟨hf, _, rfl, ho⟩
theorem back_S2 {w w' : World} {o : Option Nat} {b0 d d2 : Nat} (h : Fr (fun k => some k = o ∨ k = d2 ∨ zdx w b0 d k) w w') (k : Nat) (hk : k < w.heap.size) (hs : DS w' b0 d d2 k) : some k = o ∨ k = d2 ∨ zdx w b0 d k := by
 rcases Classical.em (some k = o ∨ k = d2 ∨ zdx w b0 d k) with hy | hn
 ·exact hy
 ·rcases hs with rfl | rfl | ⟨hb, cs, hc⟩
  ·exact .inr (.inl rfl)
  ·exact .inr (.inr (.inl rfl))
  ·exact .inr (.inr (.inr ⟨hb, cs, (h.block k hk hn).symm.trans hc⟩))
theorem zlB {br : Nat} {bt : Int} {rest s : List UInt8} {dU : St} {l : List ExD} (h0 : rest ≠ []) (h1 : (zac (some rest)).1 = br) (h2 : (zav (zac (some rest)).2) = (bt, dU)) (h : zaj (zaU br bt) rest.length dU [] = (l, some s)) : zbO rest = some l := by
 unfold zbO; rw [zmI h0, h1, h2]; simp only []; rw [h]
theorem zlC {br : Nat} {bt : Int} {rest : List UInt8} {dU : St} {l : List ExD} (h0 : rest ≠ []) (h1 : (zac (some rest)).1 = br) (h2 : (zav (zac (some rest)).2) = (bt, dU)) (h : zaj (zaU br bt) rest.length dU [] = (l, none)) : zbO rest = none := by
 unfold zbO; rw [zmI h0, h1, h2]; simp only []; rw [h]
theorem ziR (te : TypeId) (pe : Value) (b0 d d2 g base : Nat) (cur : Array Value) (pre : List ExD) (sv : Value) (w : World) (hD : Dec te pe w d2 g cur (some [])) (ho : w.ownsRow base 157 4 sv pre.length (pre.flatMap exd)) :
 Calls prog 170 #[.pointer (some ⟨d, 0, none⟩), .pointer (some ⟨d2, 0, none⟩), sv] w (zeF (fun k => some k = sv.ownBlock ∨ k = d2 ∨ zdx w b0 d k) w base pre (zbO [])) := by
 have hL := ze7 te pe _ _ _ _ _ hD; have HO := zlM ho; obtain ⟨a', n', k', rfl⟩ := zab ho; clear ho hD; go_enter func170, ntmps170; go_wp2_with (go_at_call 118; refine hL.mono ?_; rintro r w2 ⟨n, rfl, hn, _, rfl⟩; have fQ := hn _ rfl; subst fQ)
 go_ret2; exact zeL (l := []) rfl (zmR _ w) (by rw [zl8]; exact HO.out)
theorem zj4 (te : TypeId) (pe : Value) (b0 d d2 g base : Nat) (cur : Array Value) (pre : List ExD) (rest : List UInt8) (bD : rest ≠ []) (sv : Value) (w : World) (hD : Dec te pe w d2 g cur (some rest)) (ho : w.ownsRow base 157 4 sv pre.length (pre.flatMap exd)) (hb : 2 < base /\ base <= w.heap.size) (bj : pre.length <= 1073741824)
 (al : St -> Prop) (hG : ∀ l, al (some l) -> zep (some l) /\ al (zaU (zac (some rest)).1 (zav (zac (some rest)).2).1 (some l)).2) (aY : al (zav (zac (some rest)).2).2)
 (lb : List Lab) (ob : ByteArray) (hB : Bld w b0 d lb ob) (fD : b0 <= w.heap.size /\ 2 < b0 /\ b0 <= d) :
 Calls prog 170 #[.pointer (some ⟨d, 0, none⟩), .pointer (some ⟨d2, 0, none⟩), sv] w (zeF (fun k => some k = sv.ownBlock ∨ k = d2 ∨ zdx w b0 d k) w base pre (zbO rest)) := by
 have mixed : prog.follows .mixedOrders = true := by kernel_rfl
 obtain ⟨i0, aB, ay, ax, aA⟩ := info_parts info157; have hL := ze7 te pe _ _ _ _ _ hD; have cV := zcE te pe _ _ _ _ _ hD; have ox : rest.length <= 1099511627776 := by
  obtain ⟨n, off', c', _, _, hn, aR, _⟩ := hD.open_; have := hn _ rfl; omega
 obtain ⟨cs0, iH, kZ, hlt2⟩ := zcd hD; obtain ⟨br, bL⟩ := exE ((zac (some rest)).1); obtain ⟨T1, gm⟩ := exE ((zac (some rest)).2); obtain ⟨bt, kY⟩ := exE ((zav T1).1); obtain ⟨T2, iK⟩ := exE ((zav T1).2); rw [bL, gm] at cV; rw [bL, gm, kY] at hG; rw [gm, iK] at aY; have fO : zav (zac (some rest)).2 = (bt, T2) := by rw [gm]; exact Prod.ext kY iK
 have iW := zlM bD; have oq := zlM bL; have fz := zlM fO; have ib := zlM hG; have kt := zlM aY; have HO := zlM ho; have hod : ∀ k, sv.ownBlock = some k -> k ≠ d2 := fun k hk e => zak ho iH (by decide) (by rw [hk, e]); obtain ⟨a', k', rfl⟩ := zaa ho; obtain ⟨np, fj⟩ := exE pre.length; have lC := zlM fj; rw [fj] at HO bj hod ⊢
 have HOD := zlM hod; have HB0 := zlM hB; have hdw : d < w.heap.size := let ⟨_, _, h, _⟩ := hB; h.lt
 have hd2w : d2 < w.heap.size := iH.lt; have eU : Hid (∀ W, Dec te pe W d2 g cur T1 -> Calls prog 164 #[.pointer (some ⟨d2, 0, none⟩)] W (zb6 te pe W d2 g cur (.int .i64 bt) T2)) := zlM (fun W hW => by have := zie te pe _ _ _ _ _ hW; rwa [kY, iK] at this); have HBD0 := zlM iH
 have hr1 : ((rest.length : Int) == 0) = false := by have := List.length_pos_iff.2 bD; simp; omega
 clear hD ho fj hB bD bL fO hG aY kY iK gm hod iH kZ; go_enter func170, ntmps170
 go_wp2_with (first
  | (go_at_call 118; refine hL.mono ?_; rintro r w0 ⟨n, rfl, hn, _, rfl⟩; have fQ : n = rest.length := hn _ rfl; subst fQ)
  | (go_at_call 162; refine cV.mono ?_; rintro r w1 ⟨rfl, cX, cD⟩; have rP := zlM cX; have rH := zlM cD; clear cX cD)
  | (go_at_call 164; refine (eU.out _ rP.out).mono ?_; rintro r w2 ⟨rfl, fe, fa⟩; have oO := zlM fe; have ku := zlM (rH.out.same fa); clear fe fa))
 have F1 : Fr (fun k => some k = (Value.slice a' np k').ownBlock ∨ k = d2 ∨ zdx w b0 d k) w w2 := ku.out.mono (fun _ _ e => .inr (.inl e)); have O1 : w2.ownsRow base 157 4 (.slice a' np k') np (pre.flatMap exd) := zai HO.out ku.out (fun k hk => HOD.out k hk); have B1 : Bld w2 b0 d lb ob := zhG HB0.out HBD0.out ku.out; have bw := F1.size
 have eP : ∀ k, (Value.slice a' np k').ownBlock = some k -> k < w.heap.size := fun k hk => zar HO.out hk; have cd := zlM F1; have dk := zlM O1; have cI := zlM B1; have hN := zlM eP; clear F1 O1 eP B1 cV hL
 go_loopw [2] (fun sv wr => ∃ (st : St) (acc : List ExD) (j : Nat), Hid (Dec te pe wr d2 g cur st) /\ Hid (wr.ownsRow base 157 4 sv (np + acc.length) ((pre ++ acc).flatMap exd)) /\ Hid (Fr (fun k => some k = (Value.slice a' np k').ownBlock ∨ k = d2 ∨ zdx w b0 d k) w wr) /\ Hid (∀ k, sv.ownBlock = some k -> (some k = (Value.slice a' np k').ownBlock ∨ w.heap.size <= k)) /\
  Hid (zaj (zaU br bt) j st acc = zaj (zaU br bt) rest.length T2 []) /\ Hid (∀ l, st = some l -> l.length <= j /\ acc.length + l.length <= rest.length) /\ acc.length <= rest.length + 1 /\ Hid (al st) /\ Hid (∃ lb ob, Bld wr b0 d lb ob)) (fun _ wr => zic d2 wr)
 case atStart => exact ⟨T2, [], rest.length, oO, zlM (by simpa using dk.out), cd, zlM (fun k hk => .inl hk.symm), zlM rfl, zlM (fun l hl => by
  have h : (zac (zac (some rest)).2).2 = T2 := zmC Prod.snd fz.out; obtain ⟨l1, h1, e1⟩ := zbJ (st := (zac (some rest)).2) (h.trans hl); obtain ⟨l2, h2, e2⟩ := zbJ (st := some rest) h1; injection h2 with h2; subst h2
  simp; omega), by simp, kt, zlM ⟨_, _, cI.out⟩⟩
 case round =>
  obtain ⟨st, acc, j, HD, HO, HF, HB, HE, HL, mj, nZ, mE⟩ := hrel; obtain ⟨n6, iw, c6, p0, p1, cQ, aR, hd, hg, h2⟩ := HD.out.open_; have hE := zgO te pe _ _ _ _ _ HD.out; obtain ⟨a6, k6, rfl⟩ := zaa HO.out; rcases st with _ | l
  ·clear cQ p1
   have aJ : zaj (zaU br bt) rest.length T2 [] = (acc, none) := by rw [<- HE.out]; unfold zaj; rcases j with _ | j <;> rfl
   have HR := zlM (zlC iW.out oq.out fz.out aJ); clear aJ; simp only [zjj] at hE; rcases zl9 n6 with rfl | oz
   ·go_wp2_with (go_at_call 119; refine hE.mono ?_; rintro r w7 ⟨rfl, rfl⟩)
    go_ret2; exact zdT HR.out HF.out
   ·have bW : (0 : Int) < (n6 : Int) := by omega
    go_wp2_with (go_at_call 119; refine hE.mono ?_; rintro r w7 ⟨rfl, rfl⟩)
    go_ret2; exact zdT HR.out HF.out
  ·obtain rfl : n6 = l.length := cQ l rfl
   simp only [zjj] at hE; rcases l with _ | ⟨x, r⟩
   ·have aJ : zaj (zaU br bt) rest.length T2 [] = (acc, some []) := by rw [<- HE.out]; unfold zaj; rcases j with _ | j <;> rfl
    have HR := zlM (zlB iW.out oq.out fz.out aJ); clear aJ cQ p1; simp only [zmE] at p0; go_wp2_with (go_at_call 119; refine hE.mono ?_; rintro r w7 ⟨rfl, rfl⟩)
    go_ret2; refine zeL HR.out HF.out ?_; have h := HO.out; rw [zlN, lC.out]; exact h
   ·obtain ⟨n7, bW⟩ := exE ((x :: r).length)
    have lY : (0 : Int) < (n7 : Int) := by rw [<- bW]; simp
    have gj := HL.out _ rfl; have hM := zbr HD.out; rw [bW] at p0 gj hM; obtain ⟨aW, bR⟩ := ib.out _ nZ.out; have eW := zlM bW; obtain ⟨S0, gM⟩ : ∃ S0 : St, some (x :: r) = S0 := ⟨_, rfl⟩; have nC := HD.out; rw [gM] at aW bR nC; have gZ := zlM gM; have o8 := zlM bR; have cV := zcS te pe _ _ _ _ _ nC; obtain ⟨v0, eY⟩ := exE ((zaH S0).1)
    obtain ⟨S1, hS1⟩ := exE ((zaH S0).2); obtain ⟨v1, bT⟩ := exE ((zaH S1).1); obtain ⟨S2, hS2⟩ := exE ((zaH S1).2); obtain ⟨v2, bz⟩ := exE ((zac S2).1); obtain ⟨S3, hS3⟩ := exE ((zac S2).2); rw [eY, hS1] at cV
    have HV2 : Hid (∀ W, Dec te pe W d2 g cur S1 -> Calls prog 165 #[.pointer (some ⟨d2, 0, none⟩)] W (zb6 te pe W d2 g cur (.int .i64 v1) S2)) := zlM (fun W hW => by have := zcS te pe _ _ _ _ _ hW; rwa [bT, hS2] at this)
    have HV3 : Hid (∀ W, Dec te pe W d2 g cur S2 -> Calls prog 162 #[.pointer (some ⟨d2, 0, none⟩)] W (zb6 te pe W d2 g cur (.int .u64 v2) S3)) := zlM (fun W hW => by have := zcE te pe _ _ _ _ _ hW; rwa [bz, hS3] at this); unfold zep at aW; rw [hS1, hS2, hS3] at aW; have gg := zlM aW
    have nQ := zlM (zmD eY (zmD hS1 (zmD bT (zmD hS2 (zmD bz hS3))))); obtain ⟨cs8, fq, _, _⟩ := zcd HD.out; have kc := zlM fq; clear cQ p1 bW gM bR aW eY hS1 bT hS2 bz hS3 fq nC; have ow := HF.out.size
    go_wp2_with (first
     | (go_at_call 119; refine hE.mono ?_; rintro r w7 ⟨rfl, rfl⟩)
     | (go_at_call 162; refine (HV3.out _ oO.out).mono ?_; rintro r w8 ⟨rfl, qo, pR⟩; have HDc := zlM qo; have HFc := zlM (ku.out.same pR); clear qo pR; refine Hid.out ?_)
     | (go_at_call 165; refine (HV2.out _ rP.out).mono ?_; rintro r w8 ⟨rfl, fe, fa⟩; have oO := zlM fe; have ku := zlM (rH.out.same fa); clear fe fa)
     | (go_at_call 165; refine cV.mono ?_; rintro r w8 ⟨rfl, cX, cD⟩; have rP := zlM cX; have rH := zlM cD; clear cX cD))
    obtain ⟨lb8, ob8, cj⟩ := mE.out; have iO := zhG cj kc.out HFc.out; have hs8 := HFc.out.size; obtain ⟨LN, lj⟩ := exE ((gUv S3).1); obtain ⟨S4, hS4⟩ := exE ((gUv S3).2); have iD := gg.out; unfold zfl zfR at iD; rw [lj, hS4] at iD
    have hX := zdC te pe b0 d d2 g cur lb8 ob8 S3 w8 iO HDc.out (by omega) (by omega) (by omega) LN S4 (Prod.ext lj hS4) iD.1 iD.2.1 iD.2.2 (zeJ S4); have pK : zfR S3 = zba S4 LN := by unfold zfR; rw [lj, hS4]
    rw [<- pK] at hX; obtain ⟨ll, dp⟩ := exE ((zfR S3).1); obtain ⟨S5, iL⟩ := exE ((zfR S3).2); rw [dp, iL] at hX; obtain ⟨bO, gy⟩ := exE (zat ll); have hbn : ∀ k, (Value.slice a6 (np + acc.length) k6).ownBlock = some k -> k ≠ d2 := fun k hk e => zak HO.out kc.out (by decide) (by rw [hk, e])
    have O8 : w8.ownsRow base 157 4 (.slice a6 (np + acc.length) k6) (np + acc.length) ((pre ++ acc).flatMap exd) := zai HO.out HFc.out (fun k hk e => hbn k hk e); have F8 : Fr (fun k => some k = (Value.slice a' np k').ownBlock ∨ k = d2 ∨ zdx w b0 d k) w w8 := HF.out.trans HFc.out (fun k hk e => .inr (.inl e)); have mF := zlM (show ∃ cs, Blk w8 d 119 cs from let ⟨_, _, h, _⟩ := iO; ⟨_, h⟩)
    rw [gy] at hX; have HX := zlM hX; have iV := zlM O8; have jV := zlM F8; have HBN := zlM hbn; have jd := zlM (zmD dp (zmD iL gy)); have hr6 := zhj; clear hX O8 F8 dp iL gy pK iD lj hS4 iO cj cV p0 hbn; refine zlM ?_
    go_wp2_with (go_at_call 117; refine HX.out.mono ?_; rintro r w9 ⟨rfl, ff, ef, iO⟩; have qI := zlM ff; have nN := zlM ef; have qM := zlM iO; clear ff ef iO)
    obtain ⟨cs9, fp⟩ := mF.out; have hs9 := nN.out.size; have O9 : w9.ownsRow base 157 4 (.slice a6 (np + acc.length) k6) (np + acc.length) ((pre ++ acc).flatMap exd) := own_DS iV.out (by decide) (by decide) fp (fun k hk => HBN.out k hk) nN.out
    have F9 : Fr (fun k => some k = (Value.slice a' np k').ownBlock ∨ k = d2 ∨ zdx w b0 d k) w w9 := jV.out.trans nN.out (fun k hk e => back_S2 jV.out k hk e); have cU := zlM O9; have dS := zlM F9; obtain ⟨q0, q1, q2, q3, q4, q5⟩ := nQ.out; obtain ⟨q6, q7, q8⟩ := jd.out
    have aZ : zaU br bt S0 = (⟨u64 ((br : Int) + u64 v0), wrap64 (bt + v1), v2, ll⟩, S5) := by unfold zaU; rw [q1, q0, q3, q2, q5, q4, q6, q7]
    obtain ⟨y0, ek⟩ := exE (u64 ((br : Int) + u64 v0)); obtain ⟨y1, dZ⟩ := exE (wrap64 (bt + v1)); rw [ek, dZ] at aZ; have hw0 : IntKind.u64.wrap ((br : Int) + IntKind.u64.wrap v0) = (y0 : Int) := by rw [<- ek, IntKind.wrap_u64, IntKind.wrap_u64]; unfold u64; omega
    have kF : IntKind.i64.wrap (bt + v1) = y1 := by rw [<- dZ, IntKind.wrap_i64]; unfold wrap64; omega
    have dr : Hid (∀ j', j = j' + 1 -> zaj (zaU br bt) j' S5 (acc ++ [⟨y0, y1, v2, ll⟩]) = zaj (zaU br bt) rest.length T2 []) := zlM (by
     rintro j' rfl; have h := HE.out; have h2 : zaj (zaU br bt) (j' + 1) (some (x :: r)) acc = zaj (zaU br bt) j' (zaU br bt (some (x :: r))).2 (acc ++ [(zaU br bt (some (x :: r))).1]) := rfl; rw [h2, gZ.out, aZ] at h
     exact h)
    have b8 : Hid (∀ l, S5 = some l -> l.length < n7) := zlM (fun l hl => by
     have h := zj3 (br := br) (bt := bt) (l0 := x :: r) (l := l) (by rw [gZ.out, aZ]; exact hl)
     rw [eW.out] at h; exact h)
    have o6 : Hid (al S5) := zlM (by have h := o8.out; rw [aZ] at h; exact h); have rb := zlM q8; clear O9 F9 q0 q1 q2 q3 q4 q5 q6 q7 q8 aZ hE fp ek dZ; have KB9 := zlM (zmS w9 99 #[.string bO]); have s0 : (w9.alloc (.cells #[.string bO] 99)).drew.cell? ⟨w9.heap.size, 0, none⟩ = some (.string bO) := KB9.out.cell 0
    go_region_held3 (fun w' => w'.cell? ⟨w9.heap.size, 0, none⟩ = some (.string bO))
     ((first | exact ej.out.cell 0 | exact (KB9.out.drew.alloc _).cell 0 | exact KB9.out.drew.cell 0 | exact s0 | go_keep))
     ((first
       | (refine zas _ (by rfl) _ _ 152 152 (by rfl) base 157 i0 _ 4 40 underlying152 aB ay ax aA rfl (by decide) (.slice a6 (np + acc.length) k6) (np + acc.length) ((pre ++ acc).flatMap exd) (by rfl) ((cU.out.alloc _).alloc _).drew _ 1 [.int .u64 y0, .int .i64 y1, .float .f64 v2, .string bO] (by rfl) (zaF underlying152 (zaL w9 (.cells #[.string bO] 99) 157 #[.int .u64 y0, .int .i64 y1, .float .f64 v2, .string bO]).drew rfl (by simp [Value.oneCell'])) (by unfold maxLen; omega) (by omega) (by simp; omega) ?_; intro v' w2 ac ad aw; have ej := zlM ((KB9.out.alloc (.cells #[.int .u64 y0, .int .i64 y1, .float .f64 v2, .string bO] 157)).drew.grown ad (fun e => zmw _ (zar cU.out e.symm))))))
    obtain ⟨a9, k9, rfl⟩ := zaa ac; have aU : ∀ k, (Value.slice a6 (np + acc.length) k6).ownBlock = some k -> base <= k /\ k ≠ d2 := fun k hk => ⟨(cU.out.lt k hk).1, HBN.out k hk⟩; have iy := ad.size; simp at iy
    have fG : Fr (fun k => some k = (Value.slice a6 (np + acc.length) k6).ownBlock) w9 w2 := ((((zmR (fun k => some k = (Value.slice a6 (np + acc.length) k6).ownBlock) w9).alloc _).alloc _).drew).grown ad (fun k hk => .inl hk.symm); obtain ⟨qx, iI, fS, _⟩ := zcd qI.out
    have rD : Dec te pe w2 d2 g cur S5 := qI.out.fr fG (fun e => (aU _ e.symm).2 rfl) (fun e => zak cU.out fS (by decide) e.symm) (fun e => by have := (aU _ e.symm).1; omega); have oU : Bld w2 b0 d ll bO := by
     have h2 := qM.out; obtain ⟨_, _, lf, _⟩ := h2; exact qM.out.fr fG (fun e => zak cU.out lf (by decide) e.symm) (fun g' _ hc e => by obtain ⟨cs, hc⟩ := hc; exact zak cU.out hc (by decide) e.symm)
    have rO : w2.ownsRow base 157 4 (.slice a9 (np + acc.length + 1) k9) (np + (acc ++ [(⟨y0, y1, v2, ll⟩ : ExD)]).length) ((pre ++ (acc ++ [(⟨y0, y1, v2, ll⟩ : ExD)])).flatMap exd) := by
     rw [<- zlP, zml, zlN, zl3]; simpa [exd, rb.out, Nat.add_assoc] using ac
    have rF : Fr (fun k => some k = (Value.slice a' np k').ownBlock ∨ k = d2 ∨ zdx w b0 d k) w w2 := dS.out.trans fG (fun k hk e => by
     rcases HB.out k e.symm with h | h
     ·exact .inl h
     ·omega)
    have rB : ∀ k, (Value.slice a9 (np + acc.length + 1) k9).ownBlock = some k -> (some k = (Value.slice a' np k').ownBlock ∨ w.heap.size <= k) := fun k hk => by
     rcases aw with h | h
     ·exact HB.out k (h ▸ hk)
     ·rw [h] at hk; injection hk with hk; simp at hk; exact .inr (by omega)
    have rM : zic d2 w2 < n7 + 1 := by
     rcases S5 with _ | l9
     ·rw [zc8 rD]; omega
     ·rw [zbr rD]; have := b8.out l9 rfl; omega
    have RD := zlM rD; have RO := zlM rO; have RF := zlM rF; have RB := zlM rB; have RBL : Hid (∃ lb ob, Bld w2 b0 d lb ob) := zlM ⟨_, _, oU⟩; clear rD rO rF rB oU ac ad aw aU fG iI fS s0 ej; go_wp2; go_roundw
    case rel =>
     obtain ⟨j', rfl⟩ : ∃ j', j = j' + 1 := ⟨j - 1, by have := eW.out; simp at this; omega⟩; refine ⟨S5, acc ++ [⟨y0, y1, v2, ll⟩], j', RD, RO, RF, RB, zlM (dr.out j' rfl), zlM (fun l hl => ?_), by simp; omega, o6, RBL⟩; have := b8.out l hl; rw [zlN, zl3]; omega
    case measure => rw [hM]; exact rM
theorem zhw (te : TypeId) (pe : Value) (b0 d d2 g base : Nat) (cur : Array Value) (pre : List ExD) (rest : List UInt8) (sv : Value) (w : World) (hD : Dec te pe w d2 g cur (some rest)) (ho : w.ownsRow base 157 4 sv pre.length (pre.flatMap exd)) (hb : 2 < base /\ base <= w.heap.size) (bj : pre.length <= 1073741824)
 (al : St -> Prop) (hG : ∀ l, al (some l) -> zep (some l) /\ al (zaU (zac (some rest)).1 (zav (zac (some rest)).2).1 (some l)).2) (aY : rest ≠ [] -> al (zav (zac (some rest)).2).2)
 (lb : List Lab) (ob : ByteArray) (hB : Bld w b0 d lb ob) (fD : b0 <= w.heap.size /\ 2 < b0 /\ b0 <= d) :
 Calls prog 170 #[.pointer (some ⟨d, 0, none⟩), .pointer (some ⟨d2, 0, none⟩), sv] w (zeF (fun k => some k = sv.ownBlock ∨ k = d2 ∨ zdx w b0 d k) w base pre (zbO rest)) := by
 by_cases h : rest = []
 ·subst h
  exact ziR te pe b0 d d2 g base cur pre sv w hD ho
 ·exact zj4 te pe b0 d d2 g base cur pre rest h sv w hD ho hb bj al hG (aY h) lb ob hB fD
theorem zki (te : TypeId) (pe : Value) (b0 d g base : Nat) (cur : Array Value) (pre : List ExD) (xs : List UInt8) (v sv : Value) (w : World) (h : Rec te pe w g cur xs v) (ho : w.ownsRow base 157 4 sv pre.length (pre.flatMap exd)) (hb : 2 < base /\ base <= w.heap.size) (bj : pre.length <= 1073741824)
 (al : St -> Prop) (hG : ∀ rest, xs = 4 :: rest -> ∀ l, al (some l) -> zep (some l) /\ al (zaU (zac (some rest)).1 (zav (zac (some rest)).2).1 (some l)).2) (aY : ∀ rest, xs = 4 :: rest -> rest ≠ [] -> al (zav (zac (some rest)).2).2)
 (lb : List Lab) (ob : ByteArray) (hB : Bld w b0 d lb ob) (fD : b0 <= w.heap.size /\ 2 < b0 /\ b0 <= d) :
 Calls prog 77 #[.pointer (some ⟨d, 0, none⟩), v, sv] w (zeF (fun k => some k = sv.ownBlock ∨ zdx w b0 d k) w base pre (zbE xs)) := by
 have hD := h.dec; obtain ⟨off, c, rfl, _⟩ := h; have hQ := zbt te pe w.heap.size g cur _ _ hD; have HO := zlM ho; have HB := zlM hB; have hdw : d < w.heap.size := let ⟨_, _, h, _⟩ := hB; h.lt
 have ff := zlM hD; have HG := zlM hG; have kt := zlM aY; obtain ⟨a', n', k', rfl⟩ := zab ho; clear hD ho hB hG aY; by_cases hx : (zaC (some xs)).1 = 4
 ·rcases xs with _ | ⟨b, rest⟩
  ·exact absurd hx (by decide)
  ·have hb2 : b = 4 := by
    have : b.toNat = (4 : UInt8).toNat := hx; exact UInt8.toNat_inj.1 this
   subst hb2; have e1 : zaC (some (4 :: rest)) = (4, some rest) := rfl; rw [e1] at hQ; have jF : zbE (4 :: rest) = zbO rest := rfl; rw [jF]; obtain ⟨n, hn⟩ := exE ((4 :: rest).length); have dL := zlM (zmS w 229 #[.slice (some ⟨g, off, none⟩) (4 :: rest).length c, .nilIface]); rw [hn] at hQ dL ⊢
   have dS : Hid (Fr (fun _ => False) w (w.alloc (.cells #[.slice (some ⟨g, off, none⟩) n c, .nilIface] 229))) := zlM ((zmR _ w).alloc _); clear hx e1 jF; rcases hdx : zbO rest with _ | l
   ·have HDX := zlM hdx
    clear hdx; go_enter func77, ntmps77
    go_wp2_with (first
     | (go_at_call 160; refine hQ.mono ?_; rintro r w1 ⟨rfl, cX, cD⟩
        have B1 := (HB.out.fr dS.out (fun e => e) (fun _ _ _ e => e)).fr cD (by omega) (fun k hk hc e => by
         obtain ⟨cs, hc⟩ := hc; subst e
         exact zmT hc dL.out (by decide) rfl)
        have O1 : w1.ownsRow base 157 4 (.slice a' n' k') pre.length (pre.flatMap exd) := zai (HO.out.alloc _) cD (fun k hk => by have := zar HO.out hk; omega); have bw := cD.size; simp at bw; have hX := zhw te pe b0 d w.heap.size g base cur pre rest (.slice a' n' k') w1 cX O1 (by omega) bj al (HG.out rest rfl) (kt.out rest rfl) lb ob B1 (by omega); rw [HDX.out] at hX
        have HX := zlM hX; have kv := zlM cD
        clear hX B1 O1 cX cD)
     | (go_at_call 170; refine HX.out.mono ?_; rintro r w2 ⟨fY, t, a, rfl⟩))
    go_ret2
    have rI : Fr (fun k => some k = (Value.slice a' n' k').ownBlock ∨ zdx w b0 d k) w w2 := ((((zmR (fun k => some k = (Value.slice a' n' k').ownBlock ∨ zdx w b0 d k) w).alloc _).trans kv.out (fun k hk e => by omega))).trans fY (fun k hk e => by
     rcases e with e | e | e | ⟨e, cs, hc⟩
     ·exact .inl e
     ·omega
     ·exact .inr (.inl e)
     ·rcases Classical.em (zdx w b0 d k) with hy | hn
      ·exact .inr hy
      ·refine .inr (.inr ⟨e, cs, ?_⟩)
       have h1 := (dS.out.block k hk (fun e => e)); have h2 := kv.out.block k (by simp; omega) (by omega)
       exact (h1.symm.trans h2.symm).trans hc)
    exact zdT rfl rI
   ·have HDX := zlM hdx
    clear hdx; go_enter func77, ntmps77
    go_wp2_with (first
     | (go_at_call 160; refine hQ.mono ?_; rintro r w1 ⟨rfl, cX, cD⟩
        have B1 := (HB.out.fr dS.out (fun e => e) (fun _ _ _ e => e)).fr cD (by omega) (fun k hk hc e => by
         obtain ⟨cs, hc⟩ := hc; subst e
         exact zmT hc dL.out (by decide) rfl)
        have O1 : w1.ownsRow base 157 4 (.slice a' n' k') pre.length (pre.flatMap exd) := zai (HO.out.alloc _) cD (fun k hk => by have := zar HO.out hk; omega); have bw := cD.size; simp at bw; have hX := zhw te pe b0 d w.heap.size g base cur pre rest (.slice a' n' k') w1 cX O1 (by omega) bj al (HG.out rest rfl) (kt.out rest rfl) lb ob B1 (by omega); rw [HDX.out] at hX
        have HX := zlM hX; have kv := zlM cD
        clear hX B1 O1 cX cD)
     | (go_at_call 170; refine HX.out.mono ?_; rintro r w2 ⟨fY, v', rfl, fi⟩))
    go_ret2
    have rI : Fr (fun k => some k = (Value.slice a' n' k').ownBlock ∨ zdx w b0 d k) w w2 := ((((zmR (fun k => some k = (Value.slice a' n' k').ownBlock ∨ zdx w b0 d k) w).alloc _).trans kv.out (fun k hk e => by omega))).trans fY (fun k hk e => by
     rcases e with e | e | e | ⟨e, cs, hc⟩
     ·exact .inl e
     ·omega
     ·exact .inr (.inl e)
     ·rcases Classical.em (zdx w b0 d k) with hy | hn
      ·exact .inr hy
      ·refine .inr (.inr ⟨e, cs, ?_⟩)
       have h1 := (dS.out.block k hk (fun e => e)); have h2 := kv.out.block k (by simp; omega) (by omega)
       exact (h1.symm.trans h2.symm).trans hc)
    exact zeL rfl rI fi
 ·have hd : zbE xs = none := by
   rcases xs with _ | ⟨b, r⟩
   ·rfl
   ·have : ¬ b = 4 := by rintro rfl; exact hx rfl
    simp [zbE, this]
  rw [hd]; have dW : ¬ ((zaC (some xs)).1 : Int) = 4 := by omega
  clear hx hd; generalize (zaC (some xs)).1 = x at hQ dW; generalize (zaC (some xs)).2 = st at hQ; go_enter func77, ntmps77; go_wp2_with (first | (go_at_call 160; refine hQ.mono ?_; rintro r w1 ⟨rfl, cz, ag⟩) | (go_at_call 161; refine (zbR _ _).mono ?_; rintro r w2 ⟨t, a, rfl, ar⟩))
  go_ret2; have f1 := (((zmR (fun k => some k = (Value.slice a' n' k').ownBlock ∨ zdx w b0 d k) w).alloc (.cells #[.slice (some ⟨g, off, none⟩) xs.length c, .nilIface] 229)).trans ag (fun k hk e => by omega)); exact zdT rfl (f1.trans ar (fun _ _ e => e.elim))
theorem labs_len (l : List Lab) : l.length <= zaB l := by
 induction l with
 | nil => simp
 | cons x l ih =>
   show l.length + 1 <= za7 x + zaB l; have : 1 <= za7 x := by unfold za7 zaz; split <;> omega
   omega
theorem len_any (l : List Lab) (w : World) (hs : ∀ p ∈ l, p.1.size < 16777216 /\ p.2.size < 16777216) (bF : zaB l <= 1099511627776) :
 Calls prog 55 #[.agg #[.string (zat l)]] w fun r w' => r = .returned (.int .i64 l.length) /\ Fr (fun _ => False) w w' := by
 have mT : (zat l).size <= 1099511627776 := by rw [zeI]; exact bF
 have dp := labs_len l; have nq : (zat l).data.toList.drop 0 = zaw (l.drop 0) := by simp [zat]
 have F1 : Fr (fun _ => False) w (w.alloc (.cells #[.string (zat l)] 99)) := (zmR _ w).alloc _; have B1 : Blk (w.alloc (.cells #[.string (zat l)] 99)) w.heap.size 99 #[.string (zat l)] := zmS w 99 _; generalize hS : zat l = s at *
 have HS := zlM hs; have cd := zlM F1; have cI := zlM B1; have ir := zlM nq; clear hs F1 B1 nq hS; go_enter func55, ntmps55; go_wp2
 go_loopw [3, 4] (fun vc vi wr => ∃ (i k : Nat), vc = .int .i64 k /\ vi = .int .i64 i /\ k <= l.length /\ i <= s.size /\ Hid (s.data.toList.drop i = zaw (l.drop k)) /\ Hid (Fr (fun _ => False) w wr) /\ Hid (Blk wr w.heap.size 99 #[.string s])) (fun _ vi _ => s.size - (intOf vi).toNat)
 case atStart => exact ⟨0, 0, rfl, rfl, zlX _, zlX _, ir, cd, cI⟩
 case round =>
  obtain ⟨i, k, rfl, rfl, hk, hi, HD, HF, HB⟩ := hrel; have c0 : wr.cell? ⟨w.heap.size, 0, none⟩ = some (.string s) := HB.out.cell 0; by_cases hlt : k < l.length
  ·obtain ⟨x, hx⟩ : ∃ x, l[k]? = some x := ⟨_, zlO hlt⟩
   have el := HS.out x (zlU hx); have hD : s.data.toList.drop i = zbx x.1.size ++ (x.1.data.toList ++ (zbx x.2.size ++ (x.2.data.toList ++ zaw (l.drop (k + 1))))) := by
    rw [HD.out, zdr l k x hx]; simp [zcV]
   have q1 := fun W => zdv s i x.1.size _ el.1 (by omega) hD W; have d1 := zdu hD hi; have h2 := zcw hD; have d2 := zdu h2 d1; have h3 := zcw h2; have e1 : x.1.data.toList.length = x.1.size := by rw [<- zmG]
   rw [zb1] at h3 d2; rw [zb1] at h2; rw [e1] at h3 d2; obtain ⟨i1, gD⟩ := exE (i + zaz x.1.size); rw [gD] at h3 d2; simp only [gD] at q1; have q2 := fun W => zdv s (i1 + x.1.size) x.2.size _ el.2 (by omega) h3 W; have d3 := zdu h3 d2; have h4 := zcw h3; have d4 := zdu h4 d3; have h5 := zcw h4
   have e2 : x.2.data.toList.length = x.2.size := by rw [<- zmG]
   rw [zb1, e2] at h5 d4; obtain ⟨i3, ni⟩ := exE (i1 + x.1.size + zaz x.2.size); rw [ni] at h5 d4; simp only [ni] at q2; have fN : 0 < zaz x.1.size := by unfold zaz; split <;> omega
   have iA : i < s.size := by omega
   have hgo : i < i3 + x.2.size := by omega
   have H5 := zlM h5; have HX := zlM hx; generalize x.1.size = n1 at *
   generalize x.2.size = n2 at *
   clear hD d1 h2 h3 d3 h4 h5 e1 e2 hx ni gD el fN; have q2' : ∀ W, Calls prog 150 #[.string s, .int .i64 ((i1 : Int) + n1)] W fun e w' => e = .returned (.tuple #[.int .i64 n2, .int .i64 (i3 : Nat)]) /\ Fr (fun _ => False) W w' := q2; clear q2
   go_wp2_with (first
    | (go_at_call_of 150 (Value.int .i64 (i : Int)); refine (q1 _).mono ?_; rintro r w1 ⟨rfl, ag⟩; have dm := zlM (HB.out.fr ag (fun e => e)); have c1 := dm.out.cell 0)
    | (go_at_call 150; refine (q2' _).mono ?_; rintro r w2 ⟨rfl, ar⟩; have bI := zlM (dm.out.fr ar (fun e => e))))
   exact ⟨⟨i3 + n2, k + 1, rfl, rfl, hlt, d4, H5, zlM ((HF.out.same ag).same ar), bI⟩, by show s.size - ((i3 : Int) + n2).toNat < s.size - ((i : Int)).toNat; omega⟩
  ·obtain rfl : k = l.length := by omega
   have hD := HD.out; rw [List.drop_length] at hD; have iC : i = s.size := by
    have h := zmC List.length hD; rw [List.length_drop, <- zmG] at h; simp [zaw] at h; omega
   subst iC; have iA : ¬ ((s.size : Int) < s.size) := by omega
   go_wp2; go_ret; exact ⟨rfl, HF.out⟩
theorem zgF {w w' : World} {e : Nat} {o : Option Nat} {xs : List UInt8} {S : Nat -> Prop} (h : Enc w e o xs) (hf : Fr S w w') (he : ¬ S e) (ho : ∀ k, o = some k -> ¬ S k) : Enc w' e o xs := by
 obtain ⟨v, cs, hb, hs, h0, ab, rfl⟩ := h; exact ⟨v, cs, hb.fr hf he, hs, h0, zai ab hf ho, rfl⟩
theorem ziS {w : World} {e c : Nat} {o : Option Nat} {xs : List UInt8} {t : TypeId} {cs : Array Value} (h : Enc w e o xs) (hb : Blk w c t cs) (h1 : 5 ≠ t) (h2 : 224 ≠ t) : o ≠ some c /\ e ≠ c := by
 obtain ⟨v, jM, bK, hs, h0, ab, rfl⟩ := h; exact ⟨zak ab hb h1, zmT bK hb h2⟩
theorem put_fr {w W W' : World} {e : Nat} {o : Option Nat} {xs ys : List UInt8} (h : Put w e o xs ys W) (hf : Fr (fun _ => False) W W') : Put w e o xs ys W' := by
 obtain ⟨o1, he, ag, ho⟩ := h; exact ⟨o1, zgF he hf (fun e => e) (fun _ _ e => e), ag.trans hf (fun _ _ e => e.elim), ho⟩
theorem zgj {w w' : World} {e b : Nat} {o : Option Nat} {xs ys : List UInt8} {t : TypeId} {cs : Array Value} (h : Put w e o xs ys w') (he : Enc w e o xs) (hb : Blk w b t cs) (h5 : 5 ≠ t) (h4 : 224 ≠ t) : Blk w' b t cs := by
 have nn := ziS he hb h5 h4; obtain ⟨o2, _, ar, _⟩ := h; exact hb.fr ar (fun e => e.elim (fun e => nn.2 e.symm) (fun e => nn.1 e.symm))
theorem put_from {w0 w w' : World} {e : Nat} {o : Option Nat} {xs ys : List UInt8} (h : Put w e o xs ys w') (hf : Fr (fun _ => False) w0 w) : Put w0 e o xs ys w' := by
 obtain ⟨o2, he, ar, ho⟩ := h; exact ⟨o2, he, (hf.mono (fun _ _ e => e.elim)).same ar, ho.imp id (fun ⟨k, h, hk⟩ => ⟨k, h, zmv hf.size hk⟩)⟩
theorem enc1_any (e c : Nat) (o : Option Nat) (xs : List UInt8) (x : Lab) (W : World) (h : Enc W e o xs) (hc : Blk W c 226 #[.pointer (some ⟨e, 0, none⟩)]) (hl : xs.length <= 274877906944) (h1 : x.1.size <= 1048576) (h2 : x.2.size <= 1048576) :
 Calls prog 201 #[.agg #[.string x.1, .string x.2], .pointer (some ⟨c, 0, none⟩)] W fun r w' => r = .returned (.tuple #[]) /\ Put W e o xs (zbN x) w' /\ (∀ b t cs, Blk W b t cs -> 5 ≠ t -> 224 ≠ t -> Blk w' b t cs) := by
 obtain ⟨a, b⟩ := x; dsimp only at h1 h2; obtain ⟨W1, ik⟩ := exE (W.alloc (.cells #[.string a, .string b] 108)); have F1 : Fr (fun _ => False) W W1 := by rw [<- ik]; exact (zmR _ W).alloc _
 have av : Blk W1 W.heap.size 108 #[.string a, .string b] := by rw [<- ik]; exact zmS W 108 _
 have eJ := zgF h F1 (fun e => e) (fun _ _ e => e); have oF := zb8 e o xs a W1 eJ (by omega) (by omega); have bQ := hc.fr F1 (fun e => e); have k0 := bQ.cell 0; have k1 := av.cell 0; simp at k0 k1; have pa : ∀ b t cs, Blk W b t cs -> 5 ≠ t -> 224 ≠ t -> Blk W1 b t cs := fun b t cs hb _ _ => hb.fr F1 (fun e => e); have K1 := zlM pa; have cd := zlM F1
 have jY := zlM eJ; have HC1 := zlM bQ; have cI := zlM av; clear pa F1 eJ bQ av h hc; have bw : (zaM a).length <= 1048586 := by
  have := zl2 (x := a.size) (by omega); have e : a.data.toList.length = a.size := by rw [<- zmG]
  rw [zaM, zlN, e]; omega
 go_enter func201, ntmps201
 go_wp2_with (first
  | (go_at_call_of 187 (Value.string a); refine oF.mono ?_; rintro r w1 ⟨rfl, hp1⟩; refine Hid.out ?_))
 obtain ⟨o1, hE2, ag, dN⟩ := hp1; have nn1 := ziS jY.out HC1.out (by decide) (by decide); have nn2 := ziS jY.out cI.out (by decide) (by decide); have iG := HC1.out.fr ag (fun e => e.elim (fun e => nn1.2 e.symm) (fun e => nn1.1 e.symm)); have bh := cI.out.fr ag (fun e => e.elim (fun e => nn2.2 e.symm) (fun e => nn2.1 e.symm))
 have qg := zb8 e o1 (xs ++ zaM a) b w1 hE2 (by rw [zlN]; omega) (by omega); have k2 := iG.cell 0; have k3 := bh.cell 1; simp at k2 k3; have jk := cd.out.size
 have jd : Hid (∀ w2, Put w1 e o1 (xs ++ zaM a) (zaM b) w2 -> Put W e o xs (zaM a ++ zaM b) w2) := zlM (fun w2 h2 => Put.step hE2 ((cd.out.mono (fun _ _ e => e.elim)).same ag) (dN.imp id (fun ⟨k, h, hk⟩ => ⟨k, h, zmv jk hk⟩)) h2)
 have nY : Hid (∀ b t cs, Blk W b t cs -> 5 ≠ t -> 224 ≠ t -> Blk w1 b t cs) := zlM (fun b t cs hb h5 h4 => by
  have hb1 := K1.out b t cs hb h5 h4; have nn := ziS jY.out hb1 h5 h4
  exact hb1.fr ag (fun e => e.elim (fun e => nn.2 e.symm) (fun e => nn.1 e.symm)))
 have dr := zlM hE2; clear hE2 ag dN nn1 nn2 iG bh k0 k1 oF; refine zlM ?_
 go_wp2_with (first
  | (go_at_call_of 187 (Value.string b); refine qg.mono ?_; rintro r w2 ⟨rfl, aG⟩))
 go_end0; refine ⟨rfl, jd.out _ aG, fun b t cs hb h5 h4 => ?_⟩; have hb1 := nY.out b t cs hb h5 h4; have nn := ziS dr.out hb1 h5 h4; obtain ⟨o2, _, ar, _⟩ := aG; exact hb1.fr ar (fun e => e.elim (fun e => nn.2 e.symm) (fun e => nn.1 e.symm))
theorem zlt (x : Lab) (h1 : x.1.size <= 1048576) (h2 : x.2.size <= 1048576) : (zbN x).length <= 2097172 := by
 have l1 := zl2 (x := x.1.size) (by omega); have l2 := zl2 (x := x.2.size) (by omega); have e1 : x.1.data.toList.length = x.1.size := by rw [<- zmG]
 have e2 : x.2.data.toList.length = x.2.size := by rw [<- zmG]
 simp only [zbN, zaM, zlN, e1, e2]; omega
theorem fm_succ (l : List Lab) (k : Nat) (x : Lab) (hx : l[k]? = some x) : (l.take (k + 1)).flatMap zbN = (l.take k).flatMap zbN ++ zbN x := by
 rw [zmn, hx, zml]; simp
theorem zgI : ∀ (l : List Lab), (∀ p ∈ l, p.1.size <= 1048576 /\ p.2.size <= 1048576) -> (l.flatMap zbN).length <= l.length * 2097172
 | [], _ => by simp
 | x :: l, h => by
   have h1 := h x (by simp); have := zlt x h1.1 h1.2; have := zgI l (fun p hp => h p (by simp [hp])); rw [zl1, zlN, zl4, Nat.add_mul]; omega
theorem zfq (l : List Lab) (hl : l.length <= 4096) (hs : ∀ p ∈ l, p.1.size <= 1048576 /\ p.2.size <= 1048576) : zaB l <= 1099511627776 := by
 have := zdM l hs; have h : l.length * 2097160 <= 4096 * 2097160 := zlZ _ hl; omega
theorem zd5 (e : Nat) (o : Option Nat) (xs : List UInt8) (l : List Lab) (w : World) (h : Enc w e o xs) (bg : xs.length <= 1073741824) (hl : l.length <= 4096) (hs : ∀ p ∈ l, p.1.size <= 1048576 /\ p.2.size <= 1048576) :
 Calls prog 115 #[.pointer (some ⟨e, 0, none⟩), .agg #[.string (zat l)]] w (zb5 w e o xs (zbj l)) := by
 have lS : ∀ p ∈ l, p.1.size < 16777216 /\ p.2.size < 16777216 := fun p hp => by have := hs p hp; omega
 have bF := zfq l hl hs; have eg : ∀ args w, (callFunc 201 args).run prog w = .ok (.enter 201 args) w := enters_of func201 (by kernel_rfl) rfl; have hmf : ∀ (fn : Fn) (first aP : Array Value) (w : World), (Instr.makeFunc fn first aP).run prog w = .ok (.func fn first aP) w := fun _ _ _ _ => rfl; have HE := zlM h; have HS := zlM hs; clear h hs
 have hstr := zeI l; have nz := fun W => len_any l W lS bF; have gO := fun J W => ziz l 201 #[.pointer (some ⟨w.heap.size, 0, none⟩)] eg J W lS bF; generalize zat l = s at hstr nz gO ⊢; have HRG := zlM gO; clear gO lS; obtain ⟨n, hn⟩ := exE l.length; rw [hn] at nz hl; have HN := zlM hn; clear hn; go_enter func115, ntmps115
 go_wp2_with fail
 have F1 : Fr (fun _ => False) w ((w.alloc (.cells #[.pointer (some ⟨e, 0, none⟩)] 226)).alloc (.cells #[.string s] 99)) := ((zmR _ w).alloc _).alloc _; have av : Blk ((w.alloc (.cells #[.pointer (some ⟨e, 0, none⟩)] 226)).alloc (.cells #[.string s] 99)) w.heap.size 226 #[.pointer (some ⟨e, 0, none⟩)] := (zmS w 226 _).alloc _
 have bh : Blk ((w.alloc (.cells #[.pointer (some ⟨e, 0, none⟩)] 226)).alloc (.cells #[.string s] 99)) (w.heap.size + 1) 99 #[.string s] := zaL w _ 99 _; generalize (w.alloc (.cells #[.pointer (some ⟨e, 0, none⟩)] 226)).alloc (.cells #[.string s] 99) = W1 at F1 av bh ⊢
 have HC : Hid (∀ W S, Fr S W1 W -> ¬ S w.heap.size -> ¬ S (w.heap.size + 1) -> W.cell? ⟨w.heap.size, 0, none⟩ = some (.pointer (some ⟨e, 0, none⟩)) /\ W.cell? ⟨w.heap.size + 1, 0, none⟩ = some (.string s)) := zlM (fun W S hF h1 h2 => by
  have a1 := (av.fr hF h1).cell 0; have a2 := (bh.fr hF h2).cell 0; simp at a1 a2
  exact ⟨a1, a2⟩)
 have cd := zlM F1; have cI := zlM av; have dm := zlM bh; clear F1 av bh; go_region_held3 (fun w' => w'.cell? ⟨w.heap.size, 0, none⟩ = some (.pointer (some ⟨e, 0, none⟩)) /\ w'.cell? ⟨w.heap.size + 1, 0, none⟩ = some (.string s))
  ((first | exact HC.out _ _ (zmR (fun _ => False) W1).drew (fun e => e) (fun e => e) | exact HC.out _ _ ((zmR (fun _ => False) W1).drew.same aq) (fun e => e) (fun e => e) | exact hc7.out | go_keep))
  ((first
    | (go_at_call 55; refine (nz _).mono ?_; rintro r5 w5 ⟨rfl, aq⟩)
    | (go_at_call 186; refine (za9 e o xs n (by omega) _ (zgF (zgF HE.out cd.out (fun e => e) (fun _ _ e => e)) ((zmR (fun _ => False) W1).drew.same aq) (fun e => e) (fun _ _ e => e)) (by omega)).mono ?_; rintro r7 w7 ⟨rfl, pA⟩; have hc7 := zlM (by
        have qn := zgF (zgF HE.out cd.out (fun e => e) (fun _ _ e => e)) ((zmR (fun _ => False) W1).drew.same aq) (fun e => e) (fun _ _ e => e); have a1 := (zgj pA qn (cI.out.fr ((zmR (fun _ => False) W1).drew.same aq) (fun e => e)) (by decide) (by decide)).cell 0
        have a2 := (zgj pA qn (dm.out.fr ((zmR (fun _ => False) W1).drew.same aq) (fun e => e)) (by decide) (by decide)).cell 0; simp at a1 a2
        exact ⟨a1, a2⟩ : w7.cell? ⟨w.heap.size, 0, none⟩ = some (.pointer (some ⟨e, 0, none⟩)) /\ w7.cell? ⟨w.heap.size + 1, 0, none⟩ = some (.string s)))))
 have F5 : Fr (fun _ => False) w w5 := cd.out.same ((zmR (fun _ => False) W1).drew.same aq); have qn := zgF HE.out F5 (fun e => e) (fun _ _ e => e); have hB7 := zgj pA qn (cI.out.fr ((zmR (fun _ => False) W1).drew.same aq) (fun e => e)) (by decide) (by decide); have hp := put_from pA F5; obtain ⟨c1, c2⟩ := hc7.out
 have hR := HRG.out (fun k W => Put w e o xs (Lib.uvarint n ++ (l.take k).flatMap zbN) W /\ Blk W w.heap.size 226 #[.pointer (some ⟨e, 0, none⟩)]) w7 (fun k W W' h hf => ⟨put_fr h.1 hf, h.2.fr hf (fun e => e)⟩) ⟨by simpa using hp, hB7⟩ (by
  rintro k x W hx ⟨hp, hb⟩ hb9; have el := HS.out x (zlU hx); obtain ⟨o1, he1, ag, dN⟩ := hp; have ai : (xs ++ (Lib.uvarint n ++ (l.take k).flatMap zbN)).length <= 274877906944 := by
   have l1 := zl2 (x := n) (by omega); have l2 := zgI (l.take k) (fun p hp => HS.out p (zmJ hp)); have l3 : (l.take k).length <= n := by rw [<- HN.out, zmy]; exact Nat.min_le_right _ _
   have l4 : (l.take k).length * 2097172 <= 4096 * 2097172 := zlZ _ (by omega); simp only [zlN] at *
   omega
  refine (enc1_any e w.heap.size o1 _ x W he1 hb ai el.1 el.2).mono ?_; rintro r w' ⟨rfl, hp', hk⟩; refine ⟨rfl, ⟨?_, hk _ _ _ hb (by decide) (by decide)⟩, hk _ _ _ hb9 (by decide) (by decide)⟩; rw [fm_succ l k x hx, <- zlP]
  exact Put.step he1 ag dN hp')
 clear F5 qn hB7 hp pA aq hc7; go_wp2_with (go_at_call 152; refine hR.mono ?_; rintro r w8 ⟨rfl, hj, _⟩)
 go_end0; refine ⟨rfl, ?_⟩; rw [zmd] at hj; rw [zbj, HN.out]; exact hj
end Go.Proofs.YtbkookiigkckdaaGreatDoor
