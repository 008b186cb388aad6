/- Texts of this seat, merged and shortened. -/
import Derived.Test.YtbkookiigkckdaaGreatDoorKC05
set_option linter.unusedVariables false
set_option linter.unusedSimpArgs false
set_option maxRecDepth 100000
set_option maxHeartbeats 8000000
namespace Go.Proofs.YtbkookiigkckdaaGreatDoor
open Go.RowKit Go.Proofs.Tryz
structure Mta where
 ref : Nat
 ty : UInt8
 unit : ByteArray
 help : ByteArray
def Mta.wf (s : Mta) : Prop := s.ref < 18446744073709551616 /\ s.unit.size <= 4096 /\ s.help.size <= 4096
def Mta.c (s : Mta) : List Value := [.int .u64 s.ref, .int .u8 s.ty.toNat, .string s.unit, .string s.help]
theorem info174 : (prog.info? 174).map (fun i => (i.zero, i.size, i.bytes)) = some (some (.agg #[.int .u64 0, .int .u8 0, .string ⟨#[]⟩, .string ⟨#[]⟩]), 4, 48) := by kernel_rfl
theorem zdA {α : Type} (f : α -> List Value) (h3 : ∀ x, (f x).length = 4) : ∀ (l : List α) (k : Nat) (x : α), l[k]? = some x -> ∀ j, j < 4 -> (l.flatMap f)[k * 4 + j]? = (f x)[j]?
 | [], k, x, h, j, hj => by simp at h
 | y :: l, 0, x, h, j, hj => by
   simp at h; subst h; rw [zmz, zm8 (by rw [h3]; omega)]; simp
 | y :: l, k + 1, x, h, j, hj => by
   rw [zmz, zm9 (by rw [h3]; omega), h3, show (k + 1) * 4 + j - 4 = k * 4 + j by omega]; exact zdA f h3 l k x (by simpa using h) j hj
def zg9 (w : World) (l : List Mta) (r : Ending) (w' : World) : Prop :=
 ∃ v, r = .returned v /\ w'.ownsRow w.heap.size 174 4 v l.length (l.flatMap Mta.c) /\ Fr (fun _ => False) w w'
theorem zei (P : Nat -> Prop) (v : Value) (l : List Mta) (w : World) (h : Sl P w v 4 l.length (l.flatMap Mta.c)) (hl : l.length <= 1099511627776) :
 Calls prog 82 #[v] w (zg9 w l) := by
 obtain ⟨A, c, rfl, ak, aQ, hr⟩ := h; obtain ⟨n, hn⟩ := exE l.length; rw [hn] at hr aQ hl ⊢; have HN := zmk hn; have HR := zmk hr; obtain ⟨i0, aD, aA, az, aC⟩ := info_parts info174; clear hn hr ak; go_enter func82, ntmps82; go_wp2
 go_loopw [2, 7] (fun v i wr => ∃ k : Nat, k <= n /\ i = .int .i64 k /\ wr.ownsRow w.heap.size 174 4 v k ((l.take k).flatMap Mta.c) /\ Fr (fun _ => False) w wr) (fun _ i _ => n - (intOf i).toNat)
 case atStart => exact ⟨0, zmv _, rfl, zmy _ _ _ _, znq _ _⟩
 case round =>
  obtain ⟨k, hk, rfl, ab, hf⟩ := hrel; by_cases hlt : k < n
  ·obtain ⟨g, off, rfl, _, aa⟩ := HR.out (by omega)
   obtain ⟨x, hx⟩ : ∃ x, l[k]? = some x := ⟨_, zmm (by rw [HN.out]; exact hlt)⟩; have cc : ∀ j, j < 4 -> ∀ u, (Mta.c x)[j]? = some u -> wr.cell? ⟨g, off + (k * 4 + j), none⟩ = some u := fun j hj u hu => by
    have := aa (k * 4 + j) u (by rw [zdA Mta.c (fun _ => rfl) l k x hx j hj]; exact hu); rw [hf.cell (p := ⟨g, off + (k * 4 + j), none⟩) (zmr w _ this) (fun e => e)]; exact this
   have c0 : wr.cell? ⟨g, off + k * 4, none⟩ = some (.int .u64 x.ref) := cc 0 (by omega) _ rfl; have c1 : wr.cell? ⟨g, off + k * 4 + 1, none⟩ = some (.int .u8 x.ty.toNat) := cc 1 (by omega) _ rfl; have c2 : wr.cell? ⟨g, off + k * 4 + 2, none⟩ = some (.string x.unit) := cc 2 (by omega) _ rfl; have c3 : wr.cell? ⟨g, off + k * 4 + 3, none⟩ = some (.string x.help) := cc 3 (by omega) _ rfl
   have HC := zmk aa; have HO := zmk ab; have HX := zmk hx; obtain ⟨a', n', k', rfl⟩ := zac ab; clear aa cc ab hx; go_wp2_with (at_builtin; refine Hid.out ?_)
   refine zmk ?_
   refine zaf _ rfl _ _ 169 169 rfl w.heap.size 174 i0 _ 4 48 underlying169 aD aA az aC rfl (by decide) _ k ((l.take k).flatMap Mta.c) rfl ((HO.out.alloc _).alloc _) _ 1 (Mta.c x) rfl (zaH underlying169 (zaK wr _ 174 (Mta.c x).toArray) rfl (by simp [Mta.c, Value.oneCell'])) (by unfold maxLen; omega) (by omega) (by first | omega | (simp; omega) | (have := hf.size; simp; omega)) ?_
   intro v' w2 ac ad ax
   have af : w2.ownsRow w.heap.size 174 4 v' (k + 1) ((l.take (k + 1)).flatMap Mta.c) := by rw [zan Mta.c l k x HX.out]; exact ac
   have ar : Fr (fun _ => False) w w2 := ((hf.alloc _).alloc _).grown ad (fun g hg => .inr (((HO.out.lt g hg)).1)); have cH := zmk af; have bg := zmk ar; clear ac ad af ar hf c0 c1 c2 c3 ax
   go_wp2; go_roundw
   case rel => exact ⟨k + 1, by omega, by go_num, cH.out, bg.out⟩
   case measure => simp [intOf]; omega
  ·go_wp2
   go_ret; obtain rfl : k = n := by omega
   refine ⟨_, rfl, ?_, hf⟩; rw [<- HN.out] at ab ⊢; rw [zmL] at ab; exact ab
theorem zbH {α : Type} (f : α -> List UInt8) (m : Nat) : ∀ l : List α, (∀ x ∈ l, (f x).length <= m) -> (l.flatMap f).length <= l.length * m
 | [], _ => by simp
 | x :: l, hf => by
   have h1 := zbH f m l (fun y hy => hf y (znk _ hy)); have h2 := hf x (zne ..); rw [zmz, zml, zmC, Nat.add_mul]; omega
def zb4 (s : Mta) : List UInt8 := Lib.uvarint s.ref ++ (s.ty :: (Lib.uvarint 2 ++ (zaP ⟨#[85, 78, 73, 84]⟩ ++ (zaP s.unit ++ (zaP ⟨#[72, 69, 76, 80]⟩ ++ zaP s.help)))))
def zbp (l : List Mta) : List UInt8 := 6 :: l.flatMap zb4
theorem zcD (s : ByteArray) (h : s.size < 18446744073709551616) : (zaP s).length <= 10 + s.size := by
 have := zmA h; rw [zaP, zml, <- znf]; omega
theorem zhU (s : Mta) (h : s.wf) : (zb4 s).length <= 8300 := by
 obtain ⟨h0, h1, h2⟩ := h; have a0 := zmA h0; have a1 := zmA (x := 2) (by omega); have a2 := zcD ⟨#[85, 78, 73, 84]⟩ (by decide); have a3 := zcD s.unit (by omega); have a4 := zcD ⟨#[72, 69, 76, 80]⟩ (by decide); have a5 := zcD s.help (by omega); have e1 : (⟨#[85, 78, 73, 84]⟩ : ByteArray).size = 4 := rfl
 have e2 : (⟨#[72, 69, 76, 80]⟩ : ByteArray).size = 4 := rfl; simp only [zb4, zml, zmC]; omega
theorem zji (ep : Value) (sv : Value) (P : Nat -> Prop) (v : Value) (xs : List UInt8) (l : List Mta) (w : World) (h : Sl P w sv 4 l.length (l.flatMap Mta.c)) (ab : w.ownsRow 0 5 1 v xs.length (bc xs)) (hl : xs.length <= 1073741824)
 (au : l.length <= 1048576) (aG : ∀ s ∈ l, s.wf) (hP : ∀ g, P g -> g < w.heap.size /\ some g ≠ v.ownBlock) :
 Calls prog 96 #[ep, sv, v] w (zbR w v.ownBlock (xs ++ zbp l)) := by
 obtain ⟨A, c, rfl, ak, aQ, hr⟩ := h; obtain ⟨a', n', k', rfl⟩ := zac ab; obtain ⟨n, hn⟩ := exE l.length; rw [hn] at aQ hr au ⊢; have hE := Enc.made (z := .int .u8 0) ab _ rfl; have hQ := zcm w.heap.size _ xs 6 _ hE (by omega); have e2 : ((6 : UInt8).toNat : Int) = 6 := rfl; rw [e2] at hQ; have HN := zmk hn; have HR := zmk hr; have HP := zmk hP; have HE := zmk hE
 clear hE hr e2 hn ak hP; go_enter func96, ntmps96; go_wp2_with (go_at_call 180; refine hQ.mono ?_; rintro r1 w1 ⟨rfl, R⟩; refine Hid.out ?_)
 have cU := zmk R; clear R hQ; refine zmk ?_; go_wp2_with fail
 have cP : Fr (fun k => some k = (Value.slice a' n' k').ownBlock) w (w.alloc (.cells #[.slice a' n' k', .int .u8 0, .int .u8 0, .int .u8 0, .int .u8 0, .int .u8 0, .int .u8 0, .int .u8 0, .int .u8 0, .int .u8 0, .int .u8 0] 224)) := (znq _ w).alloc _; generalize dZ : w.alloc _ = WB at HE cU cP; have hB : w.heap.size < WB.heap.size := by rw [<- dZ]; simp
 clear dZ; have dF := zmk cP; clear cP; go_loopw [15] (fun i wr => ∃ k : Nat, k <= n /\ i = .int .i64 k /\ Put WB w.heap.size (Value.slice a' n' k').ownBlock xs ([6] ++ (l.take k).flatMap zb4) wr) (fun i _ => n - (intOf i).toNat)
 case atStart => exact ⟨0, zmv _, rfl, by simpa using cU.out⟩
 case round =>
  obtain ⟨k, hk, rfl, R⟩ := hrel; by_cases hlt : k < n
  ·obtain ⟨g, off, rfl, fV, aa⟩ := HR.out (by omega)
   have hg := HP.out g fV; obtain ⟨x, hx⟩ : ∃ x, l[k]? = some x := ⟨_, zmm (by rw [HN.out]; exact hlt)⟩; have eV := aG x (zms hx)
   have dM : Fr (fun k => some k = (Value.slice a' n' k').ownBlock) w wr := dF.out.trans R.fr (fun k hk e => by
    rcases e with e | e
    ·omega
    ·exact e)
   have cc : ∀ j, j < 4 -> ∀ u, (Mta.c x)[j]? = some u -> wr.cell? ⟨g, off + (k * 4 + j), none⟩ = some u := fun j hj u hu => by
    have := aa (k * 4 + j) u (by rw [zdA Mta.c (fun _ => rfl) l k x hx j hj]; exact hu); rw [dM.cell (p := ⟨g, off + (k * 4 + j), none⟩) hg.1 hg.2]; exact this
   have d0 : wr.cell? ⟨g, off + k * 4, none⟩ = some (.int .u64 x.ref) := cc 0 (by omega) _ rfl; have d1 : wr.cell? ⟨g, off + k * 4 + 1, none⟩ = some (.int .u8 x.ty.toNat) := cc 1 (by omega) _ rfl; have d2 : wr.cell? ⟨g, off + k * 4 + 2, none⟩ = some (.string x.unit) := cc 2 (by omega) _ rfl; have d3 : wr.cell? ⟨g, off + k * 4 + 3, none⟩ = some (.string x.help) := cc 3 (by omega) _ rfl
   have bF : ([(6 : UInt8)] ++ (l.take k).flatMap zb4).length <= 1 + k * 8300 := by
    have h1 := zbH zb4 8300 (l.take k) (fun s hs => zhU s (aG s (zni hs))); have h2 : (l.take k).length <= k := znl _ _; have h3 : (l.take k).length * 8300 <= k * 8300 := zmx _ h2; rw [zml, zmB]; omega
   have cy : k * 8300 <= 1048576 * 8300 := zmx _ (by omega); obtain ⟨h0, h1, h2⟩ := eV; have u0 := zmA h0; have u1 := zmA (x := 2) (by omega); have u2 := zcD ⟨#[85, 78, 73, 84]⟩ (by decide); have u3 := zcD x.unit (by omega); have u4 := zcD ⟨#[72, 69, 76, 80]⟩ (by decide)
   have z1 : (⟨#[85, 78, 73, 84]⟩ : ByteArray).size = 4 := rfl; have z2 : (⟨#[72, 69, 76, 80]⟩ : ByteArray).size = 4 := rfl; obtain ⟨Y, hY⟩ := exE ([(6 : UInt8)] ++ (l.take k).flatMap zb4); rw [hY] at bF; rw [hY] at R; have HY := zmk hY; have HX := zmk hx; have df := znr wr 174 #[.int .u64 x.ref, .int .u8 x.ty.toNat, .string x.unit, .string x.help]
   have RA := R.alloc (.cells #[.int .u64 x.ref, .int .u8 x.ty.toNat, .string x.unit, .string x.help] 174); have cV := zmk df; have bT := zmk RA; have kE : Y.length <= 8703182849 := by omega
   have HU := zmk (znc u0 (znc u1 (znc u2 (znc u3 (znc u4 (znc z1 z2)))))); have HW := zmk (znc h0 (znc h1 h2)); clear hx dM cc df aa hY R RA bF cy h0 h1 h2 u0 u1 u2 u3 u4 z1 z2 aG
   go_wp2_with (first
    | (go_at_call 185; refine (zag bT.out (f := 185) (args := #[.pointer (some ⟨w.heap.size, 0, none⟩), .int .u64 x.ref]) (zs := Lib.uvarint x.ref) (fun o2 he => zcS _ o2 _ _ HW.out.1 _ he (by rw [zml]; omega))).mono ?_; rintro rA wA ⟨rfl, R1, K1⟩
       have aw := K1.out _ _ _ (by decide) (by decide) cV.out; have p1 := aw.cell 1; have cD := zmk aw; have aW := zmk R1; have bI : (Y ++ Lib.uvarint x.ref).length <= 8703182859 := by have := HU.out.1; rw [zml]; omega
       clear R1 K1 aw)
    | (go_at_call 180; refine (zag aW.out (f := 180) (args := #[.pointer (some ⟨w.heap.size, 0, none⟩), .int .u8 x.ty.toNat]) (zs := [x.ty]) (fun o2 he => zcm _ o2 _ _ _ he (by rw [zml]; omega))).mono ?_; rintro rB wB ⟨rfl, R1, K1⟩
       have aw := K1.out _ _ _ (by decide) (by decide) cD.out; have cM := zmk aw; have aS := zmk R1; have eW : (Y ++ Lib.uvarint x.ref ++ [x.ty]).length <= 8703182860 := by rw [zml]; simp only [zmB]; omega
       clear R1 K1 aw cD aW)
    | (go_at_call 186; refine (zag aS.out (f := 186) (args := #[.pointer (some ⟨w.heap.size, 0, none⟩), .int .i64 2]) (zs := Lib.uvarint 2) (fun o2 he => zbk _ o2 _ 2 (by omega) _ he (by rw [zml]; omega))).mono ?_; rintro rC wC ⟨rfl, R1, K1⟩
       have aw := K1.out _ _ _ (by decide) (by decide) cM.out; have bE := zmk aw; have jS := zmk R1; have oX : (Y ++ Lib.uvarint x.ref ++ [x.ty] ++ Lib.uvarint 2).length <= 8703182870 := by have := HU.out.2.1; rw [zml]; omega
       clear R1 K1 aw cM aS)
    | (go_at_call 187; refine (zag jS.out (f := 187) (args := #[.pointer (some ⟨w.heap.size, 0, none⟩), .string ⟨#[85, 78, 73, 84]⟩]) (zs := zaP ⟨#[85, 78, 73, 84]⟩) (fun o2 he => zb1 _ o2 _ _ _ he (by rw [zml]; omega) (by have := HU.out.2.2.2.2.2.1; omega))).mono ?_; rintro rD wD ⟨rfl, R1, K1⟩
       have aw := K1.out _ _ _ (by decide) (by decide) bE.out; have p2 := aw.cell 2; have rP := zmk aw; have ks := zmk R1; have hv5 : (Y ++ Lib.uvarint x.ref ++ [x.ty] ++ Lib.uvarint 2 ++ zaP ⟨#[85, 78, 73, 84]⟩).length <= 8703182884 := by have := HU.out.2.2.1; have := HU.out.2.2.2.2.2.1; rw [zml]; omega
       clear R1 K1 aw bE jS)
    | (go_at_call 187; refine (zag ks.out (f := 187) (args := #[.pointer (some ⟨w.heap.size, 0, none⟩), .string x.unit]) (zs := zaP x.unit) (fun o2 he => zb1 _ o2 _ _ _ he (by rw [zml]; omega) (by have := HW.out.2.1; omega))).mono ?_; rintro rE wE ⟨rfl, R1, K1⟩
       have aw := K1.out _ _ _ (by decide) (by decide) rP.out; have cu := zmk aw; have jd := zmk R1; have hv6 : (Y ++ Lib.uvarint x.ref ++ [x.ty] ++ Lib.uvarint 2 ++ zaP ⟨#[85, 78, 73, 84]⟩ ++ zaP x.unit).length <= 8703186990 := by have := HU.out.2.2.2.1; have := HW.out.2.1; rw [zml]; omega
       clear R1 K1 aw rP ks)
    | (go_at_call 187; refine (zag jd.out (f := 187) (args := #[.pointer (some ⟨w.heap.size, 0, none⟩), .string ⟨#[72, 69, 76, 80]⟩]) (zs := zaP ⟨#[72, 69, 76, 80]⟩) (fun o2 he => zb1 _ o2 _ _ _ he (by rw [zml]; omega) (by have := HU.out.2.2.2.2.2.2; omega))).mono ?_; rintro rF wF ⟨rfl, R1, K1⟩
       have aw := K1.out _ _ _ (by decide) (by decide) cu.out; have p3 := aw.cell 3; have oz := zmk R1; have hv7 : (Y ++ Lib.uvarint x.ref ++ [x.ty] ++ Lib.uvarint 2 ++ zaP ⟨#[85, 78, 73, 84]⟩ ++ zaP x.unit ++ zaP ⟨#[72, 69, 76, 80]⟩).length <= 8703187004 := by have := HU.out.2.2.2.2.1; have := HU.out.2.2.2.2.2.2; rw [zml]; omega
       clear R1 K1 aw cu jd)
    | (go_at_call 187; refine (zag oz.out (f := 187) (args := #[.pointer (some ⟨w.heap.size, 0, none⟩), .string x.help]) (zs := zaP x.help) (fun o2 he => zb1 _ o2 _ _ _ he (by rw [zml]; omega) (by have := HW.out.2.2; omega))).mono ?_; rintro rG wG ⟨rfl, R1, K1⟩
       have bX := zmk R1
       clear R1 K1 oz))
   have RE : Put WB w.heap.size (Value.slice a' n' k').ownBlock xs ([6] ++ (l.take (k + 1)).flatMap zb4) wG := by
    rw [zam zb4 l k x HX.out, <- zmn, HY.out]; simpa [zb4, zmn] using bX.out
   have cQ := zmk RE; clear RE bX; go_wp2; go_roundw
   case rel => exact ⟨k + 1, by omega, by go_num, cQ.out⟩
   case measure => simp [intOf]; omega
  ·obtain rfl : k = n := by omega
   obtain ⟨oZ, dy, dX, fN⟩ := R; have hG := zd9 _ _ _ _ dy; have HEZ := zmk dy; have HZ := zmk dX; clear dy dX; go_wp2_with (go_at_call 116; refine hG.mono ?_; rintro rr w2 ⟨v2, rfl, rfl, af, bI⟩)
   go_ret; refine ⟨v2, rfl, ?_, dF.out.trans HZ.out (fun k hk e => ?_), ?_⟩
   ·have e1 : l.take k = l := zmt (by rw [HN.out]; exact zmw _)
    rw [e1] at af; simpa [zbp] using af
   ·rcases e with e | e
    ·omega
    ·exact e
   ·rw [bI]
    rcases fN with h | ⟨k2, h, cO⟩
    ·exact .inl h
    ·exact .inr ⟨k2, h, by omega⟩
structure Exm where
 ref : Nat
 t : Int
 v : Nat
 labs : List Lab
def exc (p : Exm × Value) : List Value := [.int .u64 p.1.ref, .int .i64 p.1.t, .int .u64 p.1.v, p.2]
def SlX (P : Nat -> Prop) (w : World) (v : Value) (lv : List (Exm × Value)) : Prop :=
 Sl P w v 4 lv.length (lv.flatMap exc) /\ ∀ p ∈ lv, Sl P w p.2 2 p.1.labs.length (p.1.labs.flatMap zaJ)
theorem SlX.fr {P S : Nat -> Prop} {w w' : World} {v : Value} {lv : List (Exm × Value)} (h : SlX P w v lv) (hf : Fr S w w') (hs : ∀ g, P g -> ¬ S g) : SlX P w' v lv :=
 ⟨h.1.fr hf hs, fun p hp => (h.2 p hp).fr hf hs⟩
def exo (x : Exm) : List Value := [.int .u64 x.ref, .int .i64 x.t, .float .f64 x.v, .string (zau (zaG x.labs))]
theorem info157 : (prog.info? 157).map (fun i => (i.zero, i.size, i.bytes)) = some (some (.agg #[.int .u64 0, .int .i64 0, .float .f64 0, .string ⟨#[]⟩]), 4, 40) := by kernel_rfl
def zfY (w : World) (l : List Exm) (r : Ending) (w' : World) : Prop :=
 ∃ v, r = .returned v /\ w'.ownsRow w.heap.size 157 4 v l.length (l.flatMap exo) /\ Fr (fun _ => False) w w'
theorem zd3 (P : Nat -> Prop) (v : Value) (lv : List (Exm × Value)) (w : World) (h : SlX P w v lv) (hl : lv.length <= 1099511627776) (aP : ∀ p ∈ lv, LabOk p.1.labs 12 600) :
 Calls prog 78 #[v] w (zfY w (lv.map Prod.fst)) := by
 have mixed : prog.follows .mixedOrders = true := by kernel_rfl
 obtain ⟨⟨A, c, rfl, ak, aQ, hr⟩, cl⟩ := h; obtain ⟨n, hn⟩ := exE lv.length; rw [hn] at hr aQ hl ⊢; have HN := zmk hn; have HR := zmk hr; have HI := zmk cl
 have gq := zmk aP; obtain ⟨i0, aD, aA, az, aC⟩ := info_parts info157; clear hn hr ak cl aP; go_enter func78, ntmps78; go_wp2; go_loopw [2, 7] (fun v i wr => ∃ k : Nat, k <= n /\ i = .int .i64 k /\ Hid (wr.ownsRow w.heap.size 157 4 v k (((lv.map Prod.fst).take k).flatMap exo)) /\ Hid (Fr (fun _ => False) w wr)) (fun _ i _ => n - (intOf i).toNat)
 case atStart => exact ⟨0, zmv _, rfl, zmk (zmy _ _ _ _), zmk (znq _ _)⟩
 case round =>
  obtain ⟨k, hk, rfl, HO, HF⟩ := hrel; by_cases hlt : k < n
  ·obtain ⟨g, off, rfl, _, aa⟩ := HR.out (by omega)
   obtain ⟨x, hx⟩ : ∃ x, lv[k]? = some x := ⟨_, zmm (by rw [HN.out]; exact hlt)⟩; have cc : ∀ j, j < 4 -> ∀ u, (exc x)[j]? = some u -> wr.cell? ⟨g, off + (k * 4 + j), none⟩ = some u := fun j hj u hu => by
    have := aa (k * 4 + j) u (by rw [zdA exc (fun _ => rfl) lv k x hx j hj]; exact hu); rw [HF.out.cell (p := ⟨g, off + (k * 4 + j), none⟩) (zmr w _ this) (fun e => e)]; exact this
   have c0 : wr.cell? ⟨g, off + k * 4, none⟩ = some (.int .u64 x.1.ref) := cc 0 (by omega) _ rfl; have c1 : wr.cell? ⟨g, off + k * 4 + 1, none⟩ = some (.int .i64 x.1.t) := cc 1 (by omega) _ rfl; have c2 : wr.cell? ⟨g, off + k * 4 + 2, none⟩ = some (.int .u64 x.1.v) := cc 2 (by omega) _ rfl; have c3 : wr.cell? ⟨g, off + k * 4 + 3, none⟩ = some x.2 := cc 3 (by omega) _ rfl
   have aH := zms hx; have b8 := HI.out x aH; have bC := gq.out x aH; have dJ : (lv.map Prod.fst)[k]? = some x.1 := by rw [zmU, hx]; rfl
   obtain ⟨⟨ref, t, vv, labs⟩, iv⟩ := x; simp only [] at c0 c1 c2 c3 b8 bC dJ; have jD : ∃ A m c, iv = .slice A m c := let ⟨A, c, h, _⟩ := b8; ⟨A, _, c, h⟩
   obtain ⟨Ai, mi, ci, rfl⟩ := jD; have HX := zmk dJ; obtain ⟨a', n', k', rfl⟩ := zac HO.out; clear aa cc hx aH dJ; go_wp2_with fail
   have ch := znr wr 159 #[.int .u64 ref, .int .i64 t, .int .u64 vv, .slice Ai mi ci]; have s0 := ch.cell 0; have s1 := ch.cell 1; have s2 := ch.cell 2; have s3 := ch.cell 3; simp only [zmF, zmD, zmE] at s0 s1 s2 s3; have bG := HF.out.size; have dn := zmk ch
   have hC := made_ok P (.slice Ai mi ci) labs (wr.alloc (.cells #[.int .u64 ref, .int .i64 t, .int .u64 vv, .slice Ai mi ci] 159)).drew (b8.fr (HF.out.alloc _).drew (fun _ _ e => e)) bC; obtain ⟨st, ba⟩ := exE (zau (zaG labs)); rw [ba] at hC; have jc := zmk ba; clear ch b8 ba bC
   have oV : (wr.alloc (.cells #[.int .u64 ref, .int .i64 t, .int .u64 vv, .slice Ai mi ci] 159)).drew.heap.size = wr.heap.size + 1 := by simp
   go_region_held3 (fun w' => w'.cell? ⟨wr.heap.size, 0, none⟩ = some (.int .u64 ref) /\ w'.cell? ⟨wr.heap.size, 1, none⟩ = some (.int .i64 t) /\ w'.cell? ⟨wr.heap.size, 2, none⟩ = some (.int .u64 vv) /\ w'.cell? ⟨wr.heap.size, 3, none⟩ = some (.slice Ai mi ci))
    ((first | (go_split_ands; refine ⟨?_, ?_, ?_, ?_⟩ <;> first | exact ef.out.cell 0 | exact ef.out.cell 1 | exact ef.out.cell 2 | exact ef.out.cell 3) | (go_split_ands; refine ⟨?_, ?_, ?_, ?_⟩ <;> first | exact (cG.out.alloc _).cell 0 | exact (cG.out.alloc _).cell 1 | exact (cG.out.alloc _).cell 2 | exact (cG.out.alloc _).cell 3) | (go_split_ands; refine ⟨?_, ?_, ?_, ?_⟩ <;> first | exact cG.out.cell 0 | exact cG.out.cell 1 | exact cG.out.cell 2 | exact cG.out.cell 3) | go_keep))
    ((first
      | (go_at_call 167; refine (zfb _ _).mono ?_; rintro r w' ⟨rfl, rfl⟩)
      | (go_at_call 54; refine hC.mono ?_; rintro r5 w5 ⟨rfl, aq⟩; have cG := zmk (dn.out.drew.fr aq (fun e => e)); have F5 := zmk (((znq (fun _ => False) wr).alloc (.cells #[.int .u64 ref, .int .i64 t, .int .u64 vv, .slice Ai mi ci] 159)).drew.same aq); have O5 := zmk (zaj HO.out F5.out (fun _ _ e => e)); have lO := F5.out.size)
      | (refine zat _ (by rfl) _ _ 152 152 (by rfl) w.heap.size 157 i0 _ 4 40 underlying152 aD aA az aC rfl (by decide) (.slice a' n' k') k (((lv.map Prod.fst).take k).flatMap exo) (by rfl) (O5.out.alloc _) _ 1 [.int .u64 ref, .int .i64 t, .float .f64 vv, .string st] (by rfl) (zaH underlying152 (znr w5 157 #[.int .u64 ref, .int .i64 t, .float .f64 vv, .string st]) rfl (by simp [Value.oneCell'])) (by unfold maxLen; omega) (by omega) (by simp; omega) ?_; intro v' w2 ac ad ax; have ef := zmk ((cG.out.alloc (.cells #[.int .u64 ref, .int .i64 t, .float .f64 vv, .string st] 157)).grown ad (fun e => zm4 _ (zas HO.out e.symm))))))
   have NO : Hid (w2.ownsRow w.heap.size 157 4 v' (k + 1) (((lv.map Prod.fst).take (k + 1)).flatMap exo)) := zmk (by
    rw [zan exo _ k _ HX.out]; unfold exo; rw [jc.out]
    exact ac)
   have NF : Hid (Fr (fun _ => False) w w2) := zmk (((HF.out.same F5.out).alloc _).grown ad (fun g hg => .inr ((HO.out.lt g hg).1))); clear ac ad ax c0 c1 c2 c3 s0 s1 s2 s3 hC aq ef O5; go_wp2; go_roundw
   case rel => exact ⟨k + 1, by omega, by go_num, NO, NF⟩
   case measure => simp [intOf]; omega
  ·go_wp2
   go_ret; obtain rfl : k = n := by omega
   have h := HO.out; have e : (lv.map Prod.fst).take k = lv.map Prod.fst := zmt (by rw [zmI, HN.out]; exact zmw _); rw [e] at h; refine ⟨_, rfl, ?_, HF.out⟩; rw [zmI, HN.out]; exact h
structure ExD where
 ref : Nat
 t : Int
 v : Nat
 labs : List Lab
def exd (x : ExD) : List Value := [.int .u64 x.ref, .int .i64 x.t, .float .f64 x.v, .string (zau x.labs)]
def zaR (br : Nat) (bt : Int) (st : St) : ExD × St :=
 (⟨u64 ((br : Int) + u64 (zaI st).1), wrap64 (bt + (zaI (zaI st).2).1), (zab (zaI (zaI st).2).2).1, (zfo (zab (zaI (zaI st).2).2).2).1⟩, (zfo (zab (zaI (zaI st).2).2).2).2)
def zdF (st : St) : Prop := zev (zab (zaI (zaI st).2).2).2
def zbm (rest : List UInt8) : Option (List ExD) :=
 if rest = [] then some [] else match zad (zaR (zab (some rest)).1 (zao (zab (some rest)).2).1) rest.length (zao (zab (some rest)).2).2 [] with
  | (l, some _) => some l
  | (_, none) => none
def zbl (xs : List UInt8) : Option (List ExD) :=
 match xs with
 | [] => none
 | b :: rest => if b = 4 then zbm rest else none
theorem zkv {br : Nat} {bt : Int} {l0 l : List UInt8} (h : (zaR br bt (some l0)).2 = some l) : l.length < l0.length := by
 obtain ⟨l1, h1, e1⟩ := zkZ h; obtain ⟨l2, h2, e2⟩ := zbK (st := (zaI (zaI (some l0)).2).2) h1; obtain ⟨l3, h3, e3⟩ := zb7 (st := (zaI (some l0)).2) h2; obtain ⟨l4, h4, e4⟩ := zb7 (st := some l0) h3; injection h4 with h4; subst h4; omega
def zeL (S : Nat -> Prop) (w : World) (base : Nat) (pre : List ExD) (er : Option (List ExD)) (r : Ending) (w' : World) : Prop :=
 Fr S w w' /\ match er with
  | some l => ∃ v', r = .returned (.tuple #[v', .nilIface]) /\ w'.ownsRow base 157 4 v' (pre ++ l).length ((pre ++ l).flatMap exd)
  | none => ∃ t a, r = .returned (.tuple #[.slice none 0 0, .iface t a])
theorem zdT {S : Nat -> Prop} {w w' : World} {base : Nat} {pre : List ExD} {er : Option (List ExD)} {t : TypeId} {a : Value} (hd : er = none) (hf : Fr S w w') : zeL S w base pre er (.returned (.tuple #[.slice none 0 0, .iface t a])) w' := by
 unfold zeL; rw [hd]; exact ⟨hf, _, _, rfl⟩
theorem zeT {S : Nat -> Prop} {w w' : World} {base : Nat} {pre : List ExD} {er : Option (List ExD)} {l : List ExD} {v : Value} (hd : er = some l) (hf : Fr S w w') (ho : w'.ownsRow base 157 4 v (pre ++ l).length ((pre ++ l).flatMap exd)) : zeL S w base pre er (.returned (.tuple #[v, .nilIface])) w' := by
 unfold zeL; rw [hd]; exact ⟨hf, _, rfl, ho⟩
theorem back_S2 {w w' : World} {o : Option Nat} {b0 d d2 : Nat} (h : Fr (fun k => some k = o ∨ k = d2 ∨ zdv w b0 d k) w w') (k : Nat) (hk : k < w.heap.size) (hs : DS w' b0 d d2 k) : some k = o ∨ k = d2 ∨ zdv w b0 d k := by
 rcases Classical.em (some k = o ∨ k = d2 ∨ zdv w b0 d k) with hy | hn
 ·exact hy
 ·rcases hs with rfl | rfl | ⟨hb, cs, hc⟩
  ·exact .inr (.inl rfl)
  ·exact .inr (.inr (.inl rfl))
  ·exact .inr (.inr (.inr ⟨hb, cs, (h.block k hk hn).symm.trans hc⟩))
theorem zl9 {br : Nat} {bt : Int} {rest s : List UInt8} {dQ : St} {l : List ExD} (h0 : rest ≠ []) (h1 : (zab (some rest)).1 = br) (h2 : (zao (zab (some rest)).2) = (bt, dQ)) (h : zad (zaR br bt) rest.length dQ [] = (l, some s)) : zbm rest = some l := by
 unfold zbm; rw [znh h0, h1, h2]; simp only []; rw [h]
theorem zma {br : Nat} {bt : Int} {rest : List UInt8} {dQ : St} {l : List ExD} (h0 : rest ≠ []) (h1 : (zab (some rest)).1 = br) (h2 : (zao (zab (some rest)).2) = (bt, dQ)) (h : zad (zaR br bt) rest.length dQ [] = (l, none)) : zbm rest = none := by
 unfold zbm; rw [znh h0, h1, h2]; simp only []; rw [h]
theorem zjg (te : TypeId) (pe : Value) (b0 d d2 g base : Nat) (cur : Array Value) (pre : List ExD) (sv : Value) (w : World) (hD : Dec te pe w d2 g cur (some [])) (ho : w.ownsRow base 157 4 sv pre.length (pre.flatMap exd)) :
 Calls prog 170 #[.pointer (some ⟨d, 0, none⟩), .pointer (some ⟨d2, 0, none⟩), sv] w (zeL (fun k => some k = sv.ownBlock ∨ k = d2 ∨ zdv w b0 d k) w base pre (zbm [])) := by
 have hL := zff te pe _ _ _ _ _ hD; have HO := zmk ho; obtain ⟨a', n', k', rfl⟩ := zac ho; clear ho hD; go_enter func170, ntmps170; go_wp2_with (go_at_call 118; refine hL.mono ?_; rintro r w2 ⟨n, rfl, hn, _, rfl⟩; have fO := hn _ rfl; subst fO)
 go_ret2; exact zeT (l := []) rfl (znq _ w) (by rw [zmG]; exact HO.out)
theorem zkw (te : TypeId) (pe : Value) (b0 d d2 g base : Nat) (cur : Array Value) (pre : List ExD) (rest : List UInt8) (bB : rest ≠ []) (sv : Value) (w : World) (hD : Dec te pe w d2 g cur (some rest)) (ho : w.ownsRow base 157 4 sv pre.length (pre.flatMap exd)) (hb : 2 < base /\ base <= w.heap.size) (bm : pre.length <= 1073741824)
 (aj : St -> Prop) (hG : ∀ l, aj (some l) -> zdF (some l) /\ aj (zaR (zab (some rest)).1 (zao (zab (some rest)).2).1 (some l)).2) (aZ : aj (zao (zab (some rest)).2).2)
 (lb : List Lab) (ob : ByteArray) (hB : Bld w b0 d lb ob) (fB : b0 <= w.heap.size /\ 2 < b0 /\ b0 <= d) :
 Calls prog 170 #[.pointer (some ⟨d, 0, none⟩), .pointer (some ⟨d2, 0, none⟩), sv] w (zeL (fun k => some k = sv.ownBlock ∨ k = d2 ∨ zdv w b0 d k) w base pre (zbm rest)) := by
 have mixed : prog.follows .mixedOrders = true := by kernel_rfl
 obtain ⟨i0, aD, aA, az, aC⟩ := info_parts info157; have hL := zff te pe _ _ _ _ _ hD; have cS := zcF te pe _ _ _ _ _ hD; have oh : rest.length <= 1099511627776 := by
  obtain ⟨n, off', c', _, _, hn, aQ, _⟩ := hD.open_; have := hn _ rfl; omega
 obtain ⟨cs0, iC, kZ, hlt2⟩ := zb8 hD; obtain ⟨br, bL⟩ := exE ((zab (some rest)).1); obtain ⟨T1, gk⟩ := exE ((zab (some rest)).2); obtain ⟨bt, kY⟩ := exE ((zao T1).1); obtain ⟨T2, iF⟩ := exE ((zao T1).2); rw [bL, gk] at cS; rw [bL, gk, kY] at hG; rw [gk, iF] at aZ; have fM : zao (zab (some rest)).2 = (bt, T2) := by rw [gk]; exact Prod.ext kY iF
 have iQ := zmk bB; have oa := zmk bL; have gn := zmk fM; have gZ := zmk hG; have kv := zmk aZ; have HO := zmk ho; have hod : ∀ k, sv.ownBlock = some k -> k ≠ d2 := fun k hk e => zak ho iC (by decide) (by rw [hk, e]); obtain ⟨a', k', rfl⟩ := zaa ho; obtain ⟨np, fh⟩ := exE pre.length; have lC := zmk fh; rw [fh] at HO bm hod ⊢
 have HOD := zmk hod; have HB0 := zmk hB; have hdw : d < w.heap.size := let ⟨_, _, h, _⟩ := hB; h.lt
 have hd2w : d2 < w.heap.size := iC.lt; have eS : Hid (∀ W, Dec te pe W d2 g cur T1 -> Calls prog 164 #[.pointer (some ⟨d2, 0, none⟩)] W (zb0 te pe W d2 g cur (.int .i64 bt) T2)) := zmk (fun W hW => by have := ziz te pe _ _ _ _ _ hW; rwa [kY, iF] at this); have HBD0 := zmk iC
 have hr1 : ((rest.length : Int) == 0) = false := by have := List.length_pos_iff.2 bB; simp; omega
 clear hD ho fh hB bB bL fM hG aZ kY iF gk hod iC kZ; go_enter func170, ntmps170
 go_wp2_with (first
  | (go_at_call 118; refine hL.mono ?_; rintro r w0 ⟨n, rfl, hn, _, rfl⟩; have fO : n = rest.length := hn _ rfl; subst fO)
  | (go_at_call 162; refine cS.mono ?_; rintro r w1 ⟨rfl, cT, cz⟩; have rv := zmk cT; have ro := zmk cz; clear cT cz)
  | (go_at_call 164; refine (eS.out _ rv.out).mono ?_; rintro r w2 ⟨rfl, fc, f9⟩; have oF := zmk fc; have kw := zmk (ro.out.same f9); clear fc f9))
 have F1 : Fr (fun k => some k = (Value.slice a' np k').ownBlock ∨ k = d2 ∨ zdv w b0 d k) w w2 := kw.out.mono (fun _ _ e => .inr (.inl e)); have O1 : w2.ownsRow base 157 4 (.slice a' np k') np (pre.flatMap exd) := zaj HO.out kw.out (fun k hk => HOD.out k hk); have B1 : Bld w2 b0 d lb ob := zhY HB0.out HBD0.out kw.out; have bA := F1.size
 have eM : ∀ k, (Value.slice a' np k').ownBlock = some k -> k < w.heap.size := fun k hk => zas HO.out hk; have cd := zmk F1; have dg := zmk O1; have cD := zmk B1; have ig := zmk eM; clear F1 O1 eM B1 cS hL
 go_loopw [2] (fun sv wr => ∃ (st : St) (acc : List ExD) (j : Nat), Hid (Dec te pe wr d2 g cur st) /\ Hid (wr.ownsRow base 157 4 sv (np + acc.length) ((pre ++ acc).flatMap exd)) /\ Hid (Fr (fun k => some k = (Value.slice a' np k').ownBlock ∨ k = d2 ∨ zdv w b0 d k) w wr) /\ Hid (∀ k, sv.ownBlock = some k -> (some k = (Value.slice a' np k').ownBlock ∨ w.heap.size <= k)) /\
  Hid (zad (zaR br bt) j st acc = zad (zaR br bt) rest.length T2 []) /\ Hid (∀ l, st = some l -> l.length <= j /\ acc.length + l.length <= rest.length) /\ acc.length <= rest.length + 1 /\ Hid (aj st) /\ Hid (∃ lb ob, Bld wr b0 d lb ob)) (fun _ wr => zix d2 wr)
 case atStart => exact ⟨T2, [], rest.length, oF, zmk (by simpa using dg.out), cd, zmk (fun k hk => .inl hk.symm), zmk rfl, zmk (fun l hl => by
  have h : (zab (zab (some rest)).2).2 = T2 := znb Prod.snd gn.out; obtain ⟨l1, h1, e1⟩ := zbK (st := (zab (some rest)).2) (h.trans hl); obtain ⟨l2, h2, e2⟩ := zbK (st := some rest) h1; injection h2 with h2; subst h2
  simp; omega), by simp, kv, zmk ⟨_, _, cD.out⟩⟩
 case round =>
  obtain ⟨st, acc, j, HD, HO, HF, HB, HE, HL, mn, nU, mD⟩ := hrel; obtain ⟨n6, io, c6, p0, p1, cN, aQ, hd, hg, h2⟩ := HD.out.open_; have hE := zg6 te pe _ _ _ _ _ HD.out; obtain ⟨a6, k6, rfl⟩ := zaa HO.out; rcases st with _ | l
  ·clear cN p1
   have aI : zad (zaR br bt) rest.length T2 [] = (acc, none) := by rw [<- HE.out]; unfold zad; rcases j with _ | j <;> rfl
   have HR := zmk (zma iQ.out oa.out gn.out aI); clear aI; simp only [zjH] at hE; rcases zmH n6 with rfl | om
   ·go_wp2_with (go_at_call 119; refine hE.mono ?_; rintro r w7 ⟨rfl, rfl⟩)
    go_ret2; exact zdT HR.out HF.out
   ·have bV : (0 : Int) < (n6 : Int) := by omega
    go_wp2_with (go_at_call 119; refine hE.mono ?_; rintro r w7 ⟨rfl, rfl⟩)
    go_ret2; exact zdT HR.out HF.out
  ·obtain rfl : n6 = l.length := cN l rfl
   simp only [zjH] at hE; rcases l with _ | ⟨x, r⟩
   ·have aI : zad (zaR br bt) rest.length T2 [] = (acc, some []) := by rw [<- HE.out]; unfold zad; rcases j with _ | j <;> rfl
    have HR := zmk (zl9 iQ.out oa.out gn.out aI); clear aI cN p1; simp only [znd] at p0; go_wp2_with (go_at_call 119; refine hE.mono ?_; rintro r w7 ⟨rfl, rfl⟩)
    go_ret2; refine zeT HR.out HF.out ?_; have h := HO.out; rw [zml, lC.out]; exact h
   ·obtain ⟨n7, bV⟩ := exE ((x :: r).length)
    have ma : (0 : Int) < (n7 : Int) := by rw [<- bV]; simp
    have gg := HL.out _ rfl; have hM := zbu HD.out; rw [bV] at p0 gg hM; obtain ⟨aY, bR⟩ := gZ.out _ nU.out; have eU := zmk bV; obtain ⟨S0, gK⟩ : ∃ S0 : St, some (x :: r) = S0 := ⟨_, rfl⟩; have nz := HD.out; rw [gK] at aY bR nz; have gW := zmk gK; have nW := zmk bR; have cS := zdC te pe _ _ _ _ _ nz; obtain ⟨v0, eX⟩ := exE ((zaI S0).1)
    obtain ⟨S1, hS1⟩ := exE ((zaI S0).2); obtain ⟨v1, cE⟩ := exE ((zaI S1).1); obtain ⟨S2, hS2⟩ := exE ((zaI S1).2); obtain ⟨v2, bI⟩ := exE ((zab S2).1); obtain ⟨S3, hS3⟩ := exE ((zab S2).2); rw [eX, hS1] at cS
    have HV2 : Hid (∀ W, Dec te pe W d2 g cur S1 -> Calls prog 165 #[.pointer (some ⟨d2, 0, none⟩)] W (zb0 te pe W d2 g cur (.int .i64 v1) S2)) := zmk (fun W hW => by have := zdC te pe _ _ _ _ _ hW; rwa [cE, hS2] at this)
    have HV3 : Hid (∀ W, Dec te pe W d2 g cur S2 -> Calls prog 162 #[.pointer (some ⟨d2, 0, none⟩)] W (zb0 te pe W d2 g cur (.int .u64 v2) S3)) := zmk (fun W hW => by have := zcF te pe _ _ _ _ _ hW; rwa [bI, hS3] at this); unfold zdF at aY; rw [hS1, hS2, hS3] at aY; have ik := zmk aY
    have nM := zmk (znc eX (znc hS1 (znc cE (znc hS2 (znc bI hS3))))); obtain ⟨cs8, fo, _, _⟩ := zb8 HD.out; have kc := zmk fo; clear cN p1 bV gK bR aY eX hS1 cE hS2 bI hS3 fo nz; have og := HF.out.size
    go_wp2_with (first
     | (go_at_call 119; refine hE.mono ?_; rintro r w7 ⟨rfl, rfl⟩)
     | (go_at_call 162; refine (HV3.out _ oF.out).mono ?_; rintro r w8 ⟨rfl, qh, pL⟩; have HDc := zmk qh; have HFc := zmk (kw.out.same pL); clear qh pL; refine Hid.out ?_)
     | (go_at_call 165; refine (HV2.out _ rv.out).mono ?_; rintro r w8 ⟨rfl, fc, f9⟩; have oF := zmk fc; have kw := zmk (ro.out.same f9); clear fc f9)
     | (go_at_call 165; refine cS.mono ?_; rintro r w8 ⟨rfl, cT, cz⟩; have rv := zmk cT; have ro := zmk cz; clear cT cz))
    obtain ⟨lb8, ob8, ch⟩ := mD.out; have iJ := zhY ch kc.out HFc.out; have hs8 := HFc.out.size; obtain ⟨LN, lj⟩ := exE ((gUv S3).1); obtain ⟨S4, hS4⟩ := exE ((gUv S3).2); have iy := ik.out; unfold zev zfo at iy; rw [lj, hS4] at iy
    have hX := zdB te pe b0 d d2 g cur lb8 ob8 S3 w8 iJ HDc.out (by omega) (by omega) (by omega) LN S4 (Prod.ext lj hS4) iy.1 iy.2.1 iy.2.2 (zeQ S4); have pE : zfo S3 = za6 S4 LN := by unfold zfo; rw [lj, hS4]
    rw [<- pE] at hX; obtain ⟨ll, dh⟩ := exE ((zfo S3).1); obtain ⟨S5, iG⟩ := exE ((zfo S3).2); rw [dh, iG] at hX; obtain ⟨bO, gv⟩ := exE (zau ll); have hbn : ∀ k, (Value.slice a6 (np + acc.length) k6).ownBlock = some k -> k ≠ d2 := fun k hk e => zak HO.out kc.out (by decide) (by rw [hk, e])
    have O8 : w8.ownsRow base 157 4 (.slice a6 (np + acc.length) k6) (np + acc.length) ((pre ++ acc).flatMap exd) := zaj HO.out HFc.out (fun k hk e => hbn k hk e); have F8 : Fr (fun k => some k = (Value.slice a' np k').ownBlock ∨ k = d2 ∨ zdv w b0 d k) w w8 := HF.out.trans HFc.out (fun k hk e => .inr (.inl e)); have mE := zmk (show ∃ cs, Blk w8 d 119 cs from let ⟨_, _, h, _⟩ := iJ; ⟨_, h⟩)
    rw [gv] at hX; have HX := zmk hX; have iP := zmk O8; have jV := zmk F8; have HBN := zmk hbn; have jc := zmk (znc dh (znc iG gv)); have hr6 := ziV; clear hX O8 F8 dh iG gv pE iy lj hS4 iJ ch cS p0 hbn; refine zmk ?_
    go_wp2_with (go_at_call 117; refine HX.out.mono ?_; rintro r w9 ⟨rfl, fe, dY, iJ⟩; have qz := zmk fe; have nJ := zmk dY; have qD := zmk iJ; clear fe dY iJ)
    obtain ⟨cs9, fm⟩ := mE.out; have hs9 := nJ.out.size; have O9 : w9.ownsRow base 157 4 (.slice a6 (np + acc.length) k6) (np + acc.length) ((pre ++ acc).flatMap exd) := own_DS iP.out (by decide) (by decide) fm (fun k hk => HBN.out k hk) nJ.out
    have F9 : Fr (fun k => some k = (Value.slice a' np k').ownBlock ∨ k = d2 ∨ zdv w b0 d k) w w9 := jV.out.trans nJ.out (fun k hk e => back_S2 jV.out k hk e); have cR := zmk O9; have dP := zmk F9; obtain ⟨q0, q1, q2, q3, q4, q5⟩ := nM.out; obtain ⟨q6, q7, q8⟩ := jc.out
    have ba : zaR br bt S0 = (⟨u64 ((br : Int) + u64 v0), wrap64 (bt + v1), v2, ll⟩, S5) := by unfold zaR; rw [q1, q0, q3, q2, q5, q4, q6, q7]
    obtain ⟨y0, ei⟩ := exE (u64 ((br : Int) + u64 v0)); obtain ⟨y1, dW⟩ := exE (wrap64 (bt + v1)); rw [ei, dW] at ba; have hw0 : IntKind.u64.wrap ((br : Int) + IntKind.u64.wrap v0) = (y0 : Int) := by rw [<- ei, IntKind.wrap_u64, IntKind.wrap_u64]; unfold u64; omega
    have kG : IntKind.i64.wrap (bt + v1) = y1 := by rw [<- dW, IntKind.wrap_i64]; unfold wrap64; omega
    have dk : Hid (∀ j', j = j' + 1 -> zad (zaR br bt) j' S5 (acc ++ [⟨y0, y1, v2, ll⟩]) = zad (zaR br bt) rest.length T2 []) := zmk (by
     rintro j' rfl; have h := HE.out; have h2 : zad (zaR br bt) (j' + 1) (some (x :: r)) acc = zad (zaR br bt) j' (zaR br bt (some (x :: r))).2 (acc ++ [(zaR br bt (some (x :: r))).1]) := rfl; rw [h2, gW.out, ba] at h
     exact h)
    have bd : Hid (∀ l, S5 = some l -> l.length < n7) := zmk (fun l hl => by
     have h := zkv (br := br) (bt := bt) (l0 := x :: r) (l := l) (by rw [gW.out, ba]; exact hl)
     rw [eU.out] at h; exact h)
    have nV : Hid (aj S5) := zmk (by have h := nW.out; rw [ba] at h; exact h); have HQ8 := zmk q8; clear O9 F9 q0 q1 q2 q3 q4 q5 q6 q7 q8 ba hE fm ei dW; have KB9 := zmk (znr w9 99 #[.string bO]); have s0 : (w9.alloc (.cells #[.string bO] 99)).drew.cell? ⟨w9.heap.size, 0, none⟩ = some (.string bO) := KB9.out.cell 0
    go_region_held3 (fun w' => w'.cell? ⟨w9.heap.size, 0, none⟩ = some (.string bO))
     ((first | exact ef.out.cell 0 | exact (KB9.out.drew.alloc _).cell 0 | exact KB9.out.drew.cell 0 | exact s0 | go_keep))
     ((first
       | (refine zat _ (by rfl) _ _ 152 152 (by rfl) base 157 i0 _ 4 40 underlying152 aD aA az aC rfl (by decide) (.slice a6 (np + acc.length) k6) (np + acc.length) ((pre ++ acc).flatMap exd) (by rfl) ((cR.out.alloc _).alloc _).drew _ 1 [.int .u64 y0, .int .i64 y1, .float .f64 v2, .string bO] (by rfl) (zaH underlying152 (zaK w9 (.cells #[.string bO] 99) 157 #[.int .u64 y0, .int .i64 y1, .float .f64 v2, .string bO]).drew rfl (by simp [Value.oneCell'])) (by unfold maxLen; omega) (by omega) (by simp; omega) ?_; intro v' w2 ac ad ax; have ef := zmk ((KB9.out.alloc (.cells #[.int .u64 y0, .int .i64 y1, .float .f64 v2, .string bO] 157)).drew.grown ad (fun e => zm4 _ (zas cR.out e.symm))))))
    obtain ⟨a9, k9, rfl⟩ := zaa ac; have aV : ∀ k, (Value.slice a6 (np + acc.length) k6).ownBlock = some k -> base <= k /\ k ≠ d2 := fun k hk => ⟨(cR.out.lt k hk).1, HBN.out k hk⟩; have ip := ad.size; simp at ip
    have fG : Fr (fun k => some k = (Value.slice a6 (np + acc.length) k6).ownBlock) w9 w2 := ((((znq (fun k => some k = (Value.slice a6 (np + acc.length) k6).ownBlock) w9).alloc _).alloc _).drew).grown ad (fun k hk => .inl hk.symm); obtain ⟨qo, iD, fQ, _⟩ := zb8 qz.out
    have rD : Dec te pe w2 d2 g cur S5 := qz.out.fr fG (fun e => (aV _ e.symm).2 rfl) (fun e => zak cR.out fQ (by decide) e.symm) (fun e => by have := (aV _ e.symm).1; omega); have oN : Bld w2 b0 d ll bO := by
     have h2 := qD.out; obtain ⟨_, _, lf, _⟩ := h2; exact qD.out.fr fG (fun e => zak cR.out lf (by decide) e.symm) (fun g' _ hc e => by obtain ⟨cs, hc⟩ := hc; exact zak cR.out hc (by decide) e.symm)
    have rO : w2.ownsRow base 157 4 (.slice a9 (np + acc.length + 1) k9) (np + (acc ++ [(⟨y0, y1, v2, ll⟩ : ExD)]).length) ((pre ++ (acc ++ [(⟨y0, y1, v2, ll⟩ : ExD)])).flatMap exd) := by
     rw [<- zmn, zmT, zml, zmB]; simpa [exd, HQ8.out, Nat.add_assoc] using ac
    have rF : Fr (fun k => some k = (Value.slice a' np k').ownBlock ∨ k = d2 ∨ zdv w b0 d k) w w2 := dP.out.trans fG (fun k hk e => by
     rcases HB.out k e.symm with h | h
     ·exact .inl h
     ·omega)
    have rB : ∀ k, (Value.slice a9 (np + acc.length + 1) k9).ownBlock = some k -> (some k = (Value.slice a' np k').ownBlock ∨ w.heap.size <= k) := fun k hk => by
     rcases ax with h | h
     ·exact HB.out k (h ▸ hk)
     ·rw [h] at hk; injection hk with hk; simp at hk; exact .inr (by omega)
    have rM : zix d2 w2 < n7 + 1 := by
     rcases S5 with _ | l9
     ·rw [zdc rD]; omega
     ·rw [zbu rD]; have := bd.out l9 rfl; omega
    have RD := zmk rD; have RO := zmk rO; have RF := zmk rF; have RB := zmk rB; have RBL : Hid (∃ lb ob, Bld w2 b0 d lb ob) := zmk ⟨_, _, oN⟩; clear rD rO rF rB oN ac ad ax aV fG iD fQ s0 ef; go_wp2; go_roundw
    case rel =>
     obtain ⟨j', rfl⟩ : ∃ j', j = j' + 1 := ⟨j - 1, by have := eU.out; simp at this; omega⟩; refine ⟨S5, acc ++ [⟨y0, y1, v2, ll⟩], j', RD, RO, RF, RB, zmk (dk.out j' rfl), zmk (fun l hl => ?_), by simp; omega, nV, RBL⟩; have := bd.out l hl; rw [zml, zmB]; omega
    case measure => rw [hM]; exact rM
theorem zhO (te : TypeId) (pe : Value) (b0 d d2 g base : Nat) (cur : Array Value) (pre : List ExD) (rest : List UInt8) (sv : Value) (w : World) (hD : Dec te pe w d2 g cur (some rest)) (ho : w.ownsRow base 157 4 sv pre.length (pre.flatMap exd)) (hb : 2 < base /\ base <= w.heap.size) (bm : pre.length <= 1073741824)
 (aj : St -> Prop) (hG : ∀ l, aj (some l) -> zdF (some l) /\ aj (zaR (zab (some rest)).1 (zao (zab (some rest)).2).1 (some l)).2) (aZ : rest ≠ [] -> aj (zao (zab (some rest)).2).2)
 (lb : List Lab) (ob : ByteArray) (hB : Bld w b0 d lb ob) (fB : b0 <= w.heap.size /\ 2 < b0 /\ b0 <= d) :
 Calls prog 170 #[.pointer (some ⟨d, 0, none⟩), .pointer (some ⟨d2, 0, none⟩), sv] w (zeL (fun k => some k = sv.ownBlock ∨ k = d2 ∨ zdv w b0 d k) w base pre (zbm rest)) := by
 by_cases h : rest = []
 ·subst h
  exact zjg te pe b0 d d2 g base cur pre sv w hD ho
 ·exact zkw te pe b0 d d2 g base cur pre rest h sv w hD ho hb bm aj hG (aZ h) lb ob hB fB
theorem zkK (te : TypeId) (pe : Value) (b0 d g base : Nat) (cur : Array Value) (pre : List ExD) (xs : List UInt8) (v sv : Value) (w : World) (h : Rec te pe w g cur xs v) (ho : w.ownsRow base 157 4 sv pre.length (pre.flatMap exd)) (hb : 2 < base /\ base <= w.heap.size) (bm : pre.length <= 1073741824)
 (aj : St -> Prop) (hG : ∀ rest, xs = 4 :: rest -> ∀ l, aj (some l) -> zdF (some l) /\ aj (zaR (zab (some rest)).1 (zao (zab (some rest)).2).1 (some l)).2) (aZ : ∀ rest, xs = 4 :: rest -> rest ≠ [] -> aj (zao (zab (some rest)).2).2)
 (lb : List Lab) (ob : ByteArray) (hB : Bld w b0 d lb ob) (fB : b0 <= w.heap.size /\ 2 < b0 /\ b0 <= d) :
 Calls prog 77 #[.pointer (some ⟨d, 0, none⟩), v, sv] w (zeL (fun k => some k = sv.ownBlock ∨ zdv w b0 d k) w base pre (zbl xs)) := by
 have hD := h.dec; obtain ⟨off, c, rfl, _⟩ := h; have hQ := zbG te pe w.heap.size g cur _ _ hD; have HO := zmk ho; have HB := zmk hB; have hdw : d < w.heap.size := let ⟨_, _, h, _⟩ := hB; h.lt
 have fe := zmk hD; have HG := zmk hG; have kv := zmk aZ; obtain ⟨a', n', k', rfl⟩ := zac ho; clear hD ho hB hG aZ; by_cases hx : (zaD (some xs)).1 = 4
 ·rcases xs with _ | ⟨b, rest⟩
  ·exact absurd hx (by decide)
  ·have hb2 : b = 4 := by
    have : b.toNat = (4 : UInt8).toNat := hx; exact UInt8.toNat_inj.1 this
   subst hb2; have e1 : zaD (some (4 :: rest)) = (4, some rest) := rfl; rw [e1] at hQ; have jG : zbl (4 :: rest) = zbm rest := rfl; rw [jG]; obtain ⟨n, hn⟩ := exE ((4 :: rest).length); have dH := zmk (znr w 229 #[.slice (some ⟨g, off, none⟩) (4 :: rest).length c, .nilIface]); rw [hn] at hQ dH ⊢
   have dP : Hid (Fr (fun _ => False) w (w.alloc (.cells #[.slice (some ⟨g, off, none⟩) n c, .nilIface] 229))) := zmk ((znq _ w).alloc _); clear hx e1 jG; rcases hdx : zbm rest with _ | l
   ·have HDX := zmk hdx
    clear hdx; go_enter func77, ntmps77
    go_wp2_with (first
     | (go_at_call 160; refine hQ.mono ?_; rintro r w1 ⟨rfl, cT, cz⟩
        have B1 := (HB.out.fr dP.out (fun e => e) (fun _ _ _ e => e)).fr cz (by omega) (fun k hk hc e => by
         obtain ⟨cs, hc⟩ := hc; subst e
         exact zns hc dH.out (by decide) rfl)
        have O1 : w1.ownsRow base 157 4 (.slice a' n' k') pre.length (pre.flatMap exd) := zaj (HO.out.alloc _) cz (fun k hk => by have := zas HO.out hk; omega); have bA := cz.size; simp at bA; have hX := zhO te pe b0 d w.heap.size g base cur pre rest (.slice a' n' k') w1 cT O1 (by omega) bm aj (HG.out rest rfl) (kv.out rest rfl) lb ob B1 (by omega); rw [HDX.out] at hX
        have HX := zmk hX; have ky := zmk cz
        clear hX B1 O1 cT cz)
     | (go_at_call 170; refine HX.out.mono ?_; rintro r w2 ⟨fW, t, a, rfl⟩))
    go_ret2
    have rq : Fr (fun k => some k = (Value.slice a' n' k').ownBlock ∨ zdv w b0 d k) w w2 := ((((znq (fun k => some k = (Value.slice a' n' k').ownBlock ∨ zdv w b0 d k) w).alloc _).trans ky.out (fun k hk e => by omega))).trans fW (fun k hk e => by
     rcases e with e | e | e | ⟨e, cs, hc⟩
     ·exact .inl e
     ·omega
     ·exact .inr (.inl e)
     ·rcases Classical.em (zdv w b0 d k) with hy | hn
      ·exact .inr hy
      ·refine .inr (.inr ⟨e, cs, ?_⟩)
       have h1 := (dP.out.block k hk (fun e => e)); have h2 := ky.out.block k (by simp; omega) (by omega)
       exact (h1.symm.trans h2.symm).trans hc)
    exact zdT rfl rq
   ·have HDX := zmk hdx
    clear hdx; go_enter func77, ntmps77
    go_wp2_with (first
     | (go_at_call 160; refine hQ.mono ?_; rintro r w1 ⟨rfl, cT, cz⟩
        have B1 := (HB.out.fr dP.out (fun e => e) (fun _ _ _ e => e)).fr cz (by omega) (fun k hk hc e => by
         obtain ⟨cs, hc⟩ := hc; subst e
         exact zns hc dH.out (by decide) rfl)
        have O1 : w1.ownsRow base 157 4 (.slice a' n' k') pre.length (pre.flatMap exd) := zaj (HO.out.alloc _) cz (fun k hk => by have := zas HO.out hk; omega); have bA := cz.size; simp at bA; have hX := zhO te pe b0 d w.heap.size g base cur pre rest (.slice a' n' k') w1 cT O1 (by omega) bm aj (HG.out rest rfl) (kv.out rest rfl) lb ob B1 (by omega); rw [HDX.out] at hX
        have HX := zmk hX; have ky := zmk cz
        clear hX B1 O1 cT cz)
     | (go_at_call 170; refine HX.out.mono ?_; rintro r w2 ⟨fW, v', rfl, fg⟩))
    go_ret2
    have rq : Fr (fun k => some k = (Value.slice a' n' k').ownBlock ∨ zdv w b0 d k) w w2 := ((((znq (fun k => some k = (Value.slice a' n' k').ownBlock ∨ zdv w b0 d k) w).alloc _).trans ky.out (fun k hk e => by omega))).trans fW (fun k hk e => by
     rcases e with e | e | e | ⟨e, cs, hc⟩
     ·exact .inl e
     ·omega
     ·exact .inr (.inl e)
     ·rcases Classical.em (zdv w b0 d k) with hy | hn
      ·exact .inr hy
      ·refine .inr (.inr ⟨e, cs, ?_⟩)
       have h1 := (dP.out.block k hk (fun e => e)); have h2 := ky.out.block k (by simp; omega) (by omega)
       exact (h1.symm.trans h2.symm).trans hc)
    exact zeT rfl rq fg
 ·have hd : zbl xs = none := by
   rcases xs with _ | ⟨b, r⟩
   ·rfl
   ·have : ¬ b = 4 := by rintro rfl; exact hx rfl
    simp [zbl, this]
  rw [hd]; have dS : ¬ ((zaD (some xs)).1 : Int) = 4 := by omega
  clear hx hd; generalize (zaD (some xs)).1 = x at hQ dS; generalize (zaD (some xs)).2 = st at hQ; go_enter func77, ntmps77; go_wp2_with (first | (go_at_call 160; refine hQ.mono ?_; rintro r w1 ⟨rfl, cr, ai⟩) | (go_at_call 161; refine (zbP _ _).mono ?_; rintro r w2 ⟨t, a, rfl, ar⟩))
  go_ret2; have f1 := (((znq (fun k => some k = (Value.slice a' n' k').ownBlock ∨ zdv w b0 d k) w).alloc (.cells #[.slice (some ⟨g, off, none⟩) xs.length c, .nilIface] 229)).trans ai (fun k hk e => by omega)); exact zdT rfl (f1.trans ar (fun _ _ e => e.elim))
end Go.Proofs.YtbkookiigkckdaaGreatDoor
