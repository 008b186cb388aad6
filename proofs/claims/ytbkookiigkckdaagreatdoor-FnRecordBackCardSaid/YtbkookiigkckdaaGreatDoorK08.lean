/- Texts of this seat, merged and shortened. -/
import Derived.Test.YtbkookiigkckdaaGreatDoorK07
set_option linter.unusedVariables false
set_option linter.unusedSimpArgs false
set_option maxRecDepth 100000
set_option maxHeartbeats 8000000
namespace Go.Proofs.YtbkookiigkckdaaGreatDoor
open Go.RowKit Go.Proofs.Tryz
theorem zdE (b : Nat) (w : World) : Calls prog 73 #[.float .f64 b] w fun r w' => r = .returned (.int .u64 b) /\ w = w' := by
 have h := ziw; go_enter func73, ntmps73; go_wp2_with fail
 go_ret; exact ⟨rfl, rfl⟩
theorem info113 : (prog.info? 113).map (fun i => (i.zero, i.size, i.bytes)) = some (some (.agg #[.int .u64 0, .int .i64 0, .int .u64 0]), 3, 24) := by kernel_rfl
def ReadEnds (w : World) (bb bp bo : Nat) (xs : List UInt8) (r : Ending) (w' : World) : Prop :=
 r = .returned (.tuple #[]) /\ Fr (fun k => k = bb ∨ k = bp ∨ k = bo) w w' /\ Blk w' bo 4 #[.bool (zan xs).isSome] /\
  ∃ lv, Blk w' bp 54 #[.slice none 0 0, lv, .slice none 0 0, .slice none 0 0, .slice none 0 0, .slice none 0 0, .slice none 0 0] /\ w'.ownsRow w.heap.size 113 3 lv ((zan xs).getD []).length (((zan xs).getD []).flatMap Smp.a)
theorem zf4 (br : Nat) (bt : Int) : ∀ (k : Nat) (st : St) (acc : List Smp), (zbi br bt k st acc).1.length <= acc.length + k
 | 0, st, acc => by simp [zbi]
 | k + 1, none, acc => by simp [zbi]
 | k + 1, some [], acc => by simp [zbi]
 | k + 1, some (c :: r), acc => by
   have h := zf4 br bt k (zbI br bt (some (c :: r))).2 (acc ++ [(zbI br bt (some (c :: r))).1]); rw [zlN, zl3] at h; show (zbi br bt k (zbI br bt (some (c :: r))).2 (acc ++ [(zbI br bt (some (c :: r))).1])).1.length <= _; omega
theorem zg9 (xs : List UInt8) : ((zan xs).getD []).length <= xs.length := by
 rcases xs with _ | ⟨b, rest⟩
 ·simp [zan]
 ·unfold zan
  simp only []; split
  ·split
   ·simp
   ·have h := zf4 (zac (some rest)).1 (zav (zac (some rest)).2).1 rest.length (zav (zac (some rest)).2).2 []
    split
    ·rename_i l' _ e
     rw [e] at h; simp at h ⊢; omega
    ·simp
  ·simp
theorem Rec.fr {te : TypeId} {pe : Value} {w w' : World} {g : Nat} {cur : Array Value} {xs : List UInt8} {v : Value} {S : Nat -> Prop} (h : Rec te pe w g cur xs v) (hf : Fr S w w') (hg : ¬ S g) (h2 : ¬ S 2) : Rec te pe w' g cur xs v := by
 obtain ⟨off, c, rfl, pP, hl, hm, hr, hE⟩ := h; refine ⟨off, c, rfl, pP.fr hf hg, hl, hm, hr, ?_⟩; rw [hf.cell (p := ⟨2, 0, none⟩) (zlT w _ hE) h2]; exact hE
theorem zhR {W w5 w6 : World} {b t : Nat} {cs : Array Value} {v5 : Value} {n : Nat} {xs : List Value} (h : Blk W b t cs) (aq : Fr (fun _ => False) W.drew w5) (ho : w5.ownsRow W.drew.heap.size 137 3 v5 n xs) (aS : Fr (fun k => some k = v5.ownBlock) w5 w6) : Blk w6 b t cs :=
 (h.drew.fr aq (fun e => e)).fr aS (fun e => by have h1 := (ho.lt b e.symm).1; have h2 : b < W.heap.size := h.lt; exact zmw _ (zmb h2 h1))
theorem zj2 {W w2 wr : World} {b t : Nat} {cs : Array Value} {v : Value} {n : Nat} {xs : List Value} {base : Nat} {o : Obj} (h : Blk W b t cs) (hg : ((W.alloc o).drew).grownBy w2 v.ownBlock) (bD : v.ownBlock ≠ some b) : Blk w2 b t cs :=
 ((h.alloc o).drew).grown hg (fun e => bD e.symm)
theorem zcb {w : World} {base base' : Nat} {e e' : TypeId} {size oQ n n' : Nat} {v v' : Value} {xs xs' : List Value} (h : w.ownsRow base e size v n xs) (h' : w.ownsRow base' e' oQ v' n' xs') (bD : e ≠ e') : ∀ g, v.ownBlock = some g -> v'.ownBlock ≠ some g := by
 intro g hg; rcases h.2 with ⟨rfl, _⟩ | ⟨g', aP, cur, rfl, _, hh, _⟩
 ·simp [Value.ownBlock] at hg
 ·have : g' = g := by simpa [Value.ownBlock] using hg
  subst this; exact zak (t := e) h' hh (Ne.symm bD)
theorem zf7 {w w' : World} {base : Nat} {o : Option Nat} {xs : List UInt8} {r : Ending} (h : zbg w base o xs r w') :
 ∃ v' e, r = .returned (.tuple #[v', e]) /\ w'.ownsRow base 137 3 v' ((zan xs).getD []).length (((zan xs).getD []).flatMap Smp.b) /\ Fr (fun k => some k = o) w w' /\ ((e = .nilIface /\ (zan xs).isSome = true) ∨ (∃ t a, e = .iface t a /\ (zan xs).isSome = false)) := by
 unfold zbg at h; rcases hd : zan xs with _ | l
 ·rw [hd] at h
  obtain ⟨hf, t, a, rfl⟩ := h; exact ⟨_, _, rfl, zl0 _ _ _ _, hf, .inr ⟨_, _, rfl, rfl⟩⟩
 ·rw [hd] at h
  obtain ⟨hf, v', rfl, ho⟩ := h; exact ⟨_, _, rfl, ho, hf, .inl ⟨rfl, rfl⟩⟩
theorem zhP (te : TypeId) (pe : Value) (bb bk bq bp bo : Nat) (P : Nat -> Prop) (q0 q1 q2 q3 q4 q5 q6 v : Value) (xs : List UInt8) (w : World) (hb : Blk w bb 44 #[v]) (hv : Sl P w v 1 xs.length (bc xs)) (hk : Blk w bk 3 #[.int .i64 2]) (hq : Blk w bq 54 #[q0, q1, q2, q3, q4, q5, q6]) (hs : Sl P w q1 3 0 [])
 (hp : Blk w bp 54 #[.slice none 0 0, .slice none 0 0, .slice none 0 0, .slice none 0 0, .slice none 0 0, .slice none 0 0, .slice none 0 0]) (ho : Blk w bo 4 #[.bool false]) (hE : w.cell? ⟨2, 0, none⟩ = some (.iface te pe)) (bg : xs.length <= 1073741824)
 (dX : ∀ g, P g -> g ≠ bb) (dy : bp ≠ bq) (h2 : bb ≠ 2 /\ bp ≠ 2 /\ bo ≠ 2) :
 Calls prog 66 #[.pointer (some ⟨bb, 0, none⟩), .pointer (some ⟨bk, 0, none⟩), .pointer (some ⟨bq, 0, none⟩), .pointer (some ⟨bp, 0, none⟩), .pointer (some ⟨bo, 0, none⟩)] w (ReadEnds w bb bp bo xs) := by
 obtain ⟨i0, aB, ay, ax, aA⟩ := info_parts zfd; have HB := zlM hb; have HV := zlM hv; have HK := zlM hk; have HQ := zlM hq; have HS := zlM hs; have HP := zlM hp; have HO := zlM ho; have HE := zlM hE; have kr := zlM dX; have bT : ∃ A m c, v = .slice A m c := let ⟨A, c, h, _⟩ := hv; ⟨A, _, c, h⟩
 obtain ⟨A, m, c, rfl⟩ := bT; clear hb hv hk hq hs hp ho hE dX; go_enter func66, ntmps66; go_wp2_with (first | (go_at_call 67; refine (zdz _ _).mono ?_; rintro r w1 ⟨v1, rfl, ⟨a, rfl⟩, ag⟩; refine Hid.out ?_))
 have av := ((HB.out.fr ag (fun e => e)).alloc (.cells #[.slice (some a) 0 0, .string ⟨#[]⟩, .slice none 0 0] 119)).alloc (.cells #[] 5); have b1 := av.cell 0; simp at b1; clear av; refine zlM ?_; go_wp2_with (at_builtin; refine Hid.out ?_)
 have er := zmQ (base := w.heap.size) (e := 5) (size := 1) (w1.alloc (.cells #[.slice (some a) 0 0, .string ⟨#[]⟩, .slice none 0 0] 119)) #[] 0 (by have := ag.size; simp; omega) (zlX _) rfl; have dC : Fr (fun _ => False) w ((w1.alloc (.cells #[.slice (some a) 0 0, .string ⟨#[]⟩, .slice none 0 0] 119)).alloc (.cells #[] 5)) := (ag.alloc _).alloc _; have bw := ag.size
 refine zlM ?_; have kV : (w1.alloc (.cells #[.slice (some a) 0 0, .string ⟨#[]⟩, .slice none 0 0] 119)).heap.size = w1.heap.size + 1 := by simp
 rw [kV] at er; clear b1; generalize World.alloc _ (Obj.cells #[] 5) = WA at er dC ⊢; have hsA := dC.size; have cO := zde underlying44 (HV.out.fr dC (fun _ _ e => e)) (zfx xs)
 refine zae _ rfl _ _ 44 44 rfl w.heap.size 5 i0 (.int .u8 0) 1 1 underlying44 aB ay ax aA rfl (by decide) (.slice (some ⟨w1.heap.size + 1, 0, none⟩) 0 0) 0 [] rfl er (.slice A m c) xs.length (bc xs) rfl cO (by unfold maxLen; omega) (by omega) (by omega) ?_; intro v' w2 ac ad aw
 rw [zmh, zmo] at ac; obtain ⟨a2, k2, rfl⟩ := zaa ac; have eN : ∀ k, (Value.slice (some ⟨w1.heap.size + 1, 0, none⟩) 0 0).ownBlock = some k -> w.heap.size <= k := fun k hk => by
  have hk : w1.heap.size + 1 = k := zmB hk; omega
 have F2 : Fr (fun _ => False) w w2 := dC.grown ad (fun k hk => .inr (eN k hk)); have dx : ∃ g2 aM, a2 = some ⟨g2, 0, none⟩ /\ w.heap.size <= g2 /\ Blk w2 g2 5 aM /\ xs.length <= k2 /\ k2 <= maxLen /\ aM.toList.take xs.length = bc xs := by
  rcases ac.2 with ⟨h, _⟩ | ⟨g2, aP, aM, h, h1, h3, h4, h5, _, h6⟩
  ·rw [h] at aw
   rcases aw with aw | aw <;> exact absurd aw (by simp [Value.ownBlock])
  ·injection h with e1 e2 e3
   subst e3; exact ⟨g2, aM, e1, h1, h3, h4, h5, by simpa using h6⟩
 have cr : ∀ k, (Value.slice a2 xs.length k2).ownBlock = some k -> w.heap.size <= k := fun k hk => (ac.lt k hk).1; have lB := HB.out.lt; have gB := HB.out.fr F2 (fun e => e); have y0 := gB.cell 0; have y1 := gB.frozen 0; simp at y0
 have F3 : Fr (fun k => k = bb) w (w2.setCell ⟨bb, 0, none⟩ (.slice a2 xs.length k2)) := (F2.mono (S' := fun k => k = bb) (fun _ _ e => e.elim)).setCell (p := ⟨bb, 0, none⟩) (.inl rfl) _; have O3 : (w2.setCell ⟨bb, 0, none⟩ (.slice a2 xs.length k2)).ownsRow w.heap.size 5 1 (.slice a2 xs.length k2) xs.length (bc xs) := zai ac (Fr.put_ w2 bb 0 _) (fun k hk e => by have := cr k hk; omega)
 have B3 : Blk (w2.setCell ⟨bb, 0, none⟩ (.slice a2 xs.length k2)) bb 44 #[.slice a2 xs.length k2] := by simpa using gB.set_ 0 (.slice a2 xs.length k2)
 have K3 := (HK.out.fr F3 (fun e => zmT HK.out HB.out (by decide) e)).cell 0; have Q3 := HQ.out.fr F3 (fun e => zmT HQ.out HB.out (by decide) e); have P3 := HP.out.fr F3 (fun e => zmT HP.out HB.out (by decide) e); have O4 := HO.out.fr F3 (fun e => zmT HO.out HB.out (by decide) e)
 have E3 : (w2.setCell ⟨bb, 0, none⟩ (.slice a2 xs.length k2)).cell? ⟨2, 0, none⟩ = some (.iface te pe) := by
  rw [F3.cell (p := ⟨2, 0, none⟩) (zlT w _ HE.out) (fun e => h2.1 e.symm)]; exact HE.out
 simp at K3; have bH := zlM F3; have es := zlM O3; have bI := zlM B3; have c8 := zlM Q3; have eO := zlM P3; have dq := zlM O4; have dK := zlM E3; have o9 := zlM cr; obtain ⟨g2, aM, rfl, eo, ct, cR, dz, dw⟩ := dx
 have R3 : Rec te pe (w2.setCell ⟨bb, 0, none⟩ (.slice (some ⟨g2, 0, none⟩) xs.length k2)) g2 aM xs (.slice (some ⟨g2, 0, none⟩) xs.length k2) := by
  refine ⟨0, k2, rfl, ct.far (p := ⟨bb, 0, none⟩) (by show g2 ≠ bb; omega) _, cR, ⟨by simp [maxLen] at dz; omega, by omega⟩, fun j u hu => ?_, E3⟩; rw [zmh, <- Array.getElem?_toList]; have hj : j < xs.length := by
   rcases zmf j xs.length with h | h
   ·exact h
   ·rw [zmg (by rw [zdF]; exact h)] at hu; cases hu
  rw [<- dw, List.getElem?_take_of_lt hj] at hu; exact hu
 have bC := zlM R3; have kU := ct.lt; clear R3 dz dw ct; clear F2 F3 O3 B3 Q3 P3 O4 E3 gB eN cr ac ad aw cO er dC ag; go_wp2_with fail
 generalize w2.setCell ⟨bb, 0, none⟩ (.slice (some ⟨g2, 0, none⟩) xs.length k2) = W3 at bH es bI c8 eO dq dK bC ⊢; have f9 := bC.out; have gl : g2 < W3.heap.size := let ⟨_, _, _, h, _⟩ := f9; h.lt
 have jc : 2 < W3.heap.size := zlT W3 _ dK.out; clear f9; have hS3 : Sl P W3.drew q1 3 ([] : List Smp).length (([] : List Smp).flatMap Smp.a) := by
  obtain ⟨A, c, rfl, h1, h2, _⟩ := HS.out; exact ⟨A, c, rfl, rfl, h2, fun h => absurd h (by simp)⟩
 have eH := zew P q1 [] W3.drew hS3 (by simp); have eZ : ∃ A m c, q1 = .slice A m c := let ⟨A, c, h, _⟩ := HS.out; ⟨A, _, c, h⟩
 obtain ⟨Aq, mq, cq, rfl⟩ := eZ; have x0 := bI.out.cell 0; have x1 := c8.out.cell 1; have ky : W3.drew.cell? ⟨bb, 0, none⟩ = some (.slice (some ⟨g2, 0, none⟩) xs.length k2) := x0; have ji : W3.drew.cell? ⟨bq, 1, none⟩ = some (.slice Aq mq cq) := x1; simp at x0 x1; clear y0 y1 K3
 go_region_held3 (fun w' => w'.cell? ⟨bb, 0, none⟩ = some (.slice (some ⟨g2, 0, none⟩) xs.length k2) /\ w'.cell? ⟨bq, 1, none⟩ = some (.slice Aq mq cq))
  ((first | (go_split_ands; refine ⟨?_, ?_⟩ <;> first | exact (bI.out.drew.fr aq (fun e => e)).cell 0 | exact (c8.out.drew.fr aq (fun e => e)).cell 1) | (go_split_ands; refine ⟨?_, ?_⟩ <;> first | exact KB.out.cell 0 | exact KQ.out.cell 1) | go_keep))
  ((first
    | (go_at_call 72; refine eH.mono ?_; rintro r5 w5 ⟨v5, rfl, am, aq⟩)
    | (go_at_call 71; refine (zha te pe _ g2 W3.drew.heap.size aM xs _ v5 w5 (bC.out.fr (w := W3) (((zmR (fun _ => False) W3).drew).same aq) (fun e => e) (fun e => e)) am ⟨gl, jc, aq.size⟩).mono ?_; rintro r6 w6 eI; obtain ⟨v6, e6, rfl, aO, aS, cn⟩ := zf7 eI; clear eI; have KB := zlM (zhR bI.out aq am aS); have KQ := zlM (zhR c8.out aq am aS))))
 have T6 : Fr (fun k => k = bb) w w6 := ((bH.out.trans (((zmR (fun _ => False) W3).drew).same aq) (fun _ _ e => e.elim)).trans aS (fun k hk e => by
  have h1 := (am.lt k e.symm).1; have h2 := bH.out.size
  simp at h1; omega))
 have P6 := zhR eO.out aq am aS; have O6 := zhR dq.out aq am aS; have kC : w.heap.size <= W3.drew.heap.size := bH.out.size; have V6 := zah aO kC; have kq := zlM T6; have jf := zlM P6; have gq := zlM O6; have fy := zlM V6; have ks := zlM cn; have kJ := aq.size; have kI := aS.size
 have gL : ∀ k, v6.ownBlock = some k -> k < w6.heap.size := fun k hk => zar aO hk; clear x0 x1 ky ji eH T6 P6 O6 V6 cn am aq aO aS KB KQ es bI c8 eO dq dK bC bH; obtain ⟨l, hl⟩ := exE ((zan xs).getD []); rw [hl] at fy; have mB := zlM hl; clear hl; obtain ⟨a6, k6, rfl⟩ := zaa fy.out; go_wp2_with fail
 obtain ⟨n, hn⟩ := exE l.length; have HN := zlM hn; rw [hn] at fy gL ⊢; clear hn; obtain ⟨i1, gD, ek, dZ, fI⟩ := info_parts info113
 go_loopw [81] (fun i wr => ∃ (k : Nat) (lv : Value), k <= n /\ i = .int .i64 k /\ Hid (Fr (fun j => j = bb ∨ j = bp) w wr) /\ Hid (wr.ownsRow w.heap.size 137 3 (.slice a6 n k6) n (l.flatMap Smp.b)) /\ Hid (Blk wr bo 4 #[.bool false]) /\
  Hid (Blk wr bp 54 #[.slice none 0 0, lv, .slice none 0 0, .slice none 0 0, .slice none 0 0, .slice none 0 0, .slice none 0 0]) /\ Hid (wr.ownsRow w.heap.size 113 3 lv k ((l.take k).flatMap Smp.a))) (fun i _ => n - (intOf i).toNat)
 case atStart => exact ⟨0, _, zlX _, rfl, zlM (Fr.mono kq.out (fun _ _ e => Or.inl e)), fy, gq, jf, zlM (zl0 _ _ _ _)⟩
 case round =>
  obtain ⟨k, lv, hk, rfl, RF, RV, RO, RP, RL⟩ := hrel; by_cases hlt : k < n
  ·obtain ⟨A7, c7, e7, _, _, jt⟩ := zmU RV.out
   injection e7 with e7 _ nF; subst e7 nF; obtain ⟨g7, bi, rfl, _, bG⟩ := jt (by omega); obtain ⟨x, hx⟩ : ∃ x, l[k]? = some x := ⟨_, zlO (by rw [HN.out]; exact hlt)⟩; have cc : ∀ j, j < 3 -> ∀ u, (Smp.b x)[j]? = some u -> wr.cell? ⟨g7, bi + (k * 3 + j), none⟩ = some u := fun j hj u hu =>
    bG (k * 3 + j) u (by rw [ze4 Smp.b (fun _ => rfl) l k x hx j hj]; exact hu)
   have c0 : wr.cell? ⟨g7, bi + k * 3, none⟩ = some (.int .u64 x.ref) := cc 0 (by omega) _ rfl; have c1 : wr.cell? ⟨g7, bi + k * 3 + 1, none⟩ = some (.int .i64 x.t) := cc 1 (by omega) _ rfl; have c2 : wr.cell? ⟨g7, bi + k * 3 + 2, none⟩ = some (.float .f64 x.v) := cc 2 (by omega) _ rfl; have pw := zbA
   have HX := zlM hx; obtain ⟨aL, kL, rfl⟩ := zaa RL.out; clear bG jt cc hx; go_wp2_with fail
   have cj := zmS wr 137 #[.int .u64 x.ref, .int .i64 x.t, .float .f64 x.v]; have s0 := cj.cell 0; have s1 := cj.cell 1; have s2 := cj.cell 2; have fc := RP.out.alloc (.cells #[.int .u64 x.ref, .int .i64 x.t, .float .f64 x.v] 137); have s3 := fc.cell 1; simp only [zl7, zl5, zl6] at s0 s1 s2 s3; have lP := RP.out.lt
   have bF := RF.out.size; have kS : k < 1099511627776 := by have h1 := zg9 xs; rw [mB.out, HN.out] at h1; omega
   have dt := zlM cj; have mA := zlM fc; have hbpl := RP.out.lt; have s4 : ∀ o : Obj, ((wr.alloc (.cells #[.int .u64 x.ref, .int .i64 x.t, .float .f64 x.v] 137)).drew.alloc o).cell? ⟨bp, 1, none⟩ = some (.slice aL k kL) := fun o => by
    have h := (fc.drew.alloc o).cell 1; simp only [zl7, zl5, zl6] at h; exact h
   clear cj fc; refine zaV (fun w' => w'.cell? ⟨bp, 1, none⟩ = some (.slice aL k kL) /\ w'.cell? ⟨wr.heap.size, 0, none⟩ = some (.int .u64 x.ref) /\ w'.cell? ⟨wr.heap.size, 1, none⟩ = some (.int .i64 x.t) /\ w'.cell? ⟨wr.heap.size, 2, none⟩ = some (.float .f64 x.v)) 11 (by kernel_rfl) ⟨s3, s0, s1, s2⟩ ?_; intro hS; refine wpT 0 (.pointer (some ⟨bp, 1, none⟩)) rfl (by intro w; go_simp) hS ?_
   try simp only [Act.put, zlQ, zlR, zlS]
   refine wpL 1 [11, 13] (.slice aL k kL) rfl (by rintro w ⟨h1, h2, h3, h4⟩; go_simp) hS ?_; try simp only [Act.put, zlQ, zlR, zlS]
   refine wpT 2 (.pointer (some ⟨wr.heap.size, 0, none⟩)) rfl (by intro w; go_simp) hS ?_; try simp only [Act.put, zlQ, zlR, zlS]
   refine wpL 3 [9, 10, 11, 13] (.int .u64 x.ref) rfl (by rintro w ⟨h1, h2, h3, h4⟩; go_simp) hS ?_; try simp only [Act.put, zlQ, zlR, zlS]
   refine wpT 4 (.pointer (some ⟨wr.heap.size, 1, none⟩)) rfl (by intro w; go_simp) hS ?_; try simp only [Act.put, zlQ, zlR, zlS]
   refine wpL 5 [9, 10, 11, 13] (.int .i64 x.t) rfl (by rintro w ⟨h1, h2, h3, h4⟩; go_simp) hS ?_; try simp only [Act.put, zlQ, zlR, zlS]
   refine wpT 6 (.pointer (some ⟨wr.heap.size, 2, none⟩)) rfl (by intro w; go_simp) hS ?_; try simp only [Act.put, zlQ, zlR, zlS]
   refine wpL 7 [8, 9, 10, 11, 13] (.float .f64 x.v) rfl (by rintro w ⟨h1, h2, h3, h4⟩; go_simp) hS ?_; try simp only [Act.put, zlQ, zlR, zlS]
   refine zap 8 (by kernel_rfl) rfl (by rfl) (fun K hK => ?_); go_simp; go_at_call 73
   refine (zdE _ _).mono ?_; rintro r w' ⟨rfl, rfl⟩; refine hK.out _ _ hS ?_; clear hK K; try simp only [Act.put, zlQ, zlR, zlS]
   refine wpT 9 (.agg #[.int .u64 x.ref, .int .i64 x.t, .int .u64 x.v]) rfl (by intro w; go_simp) hS ?_; try simp only [Act.put, zlQ, zlR, zlS]
   refine zap 10 (by kernel_rfl) rfl (by rfl) (fun K hK => ?_); go_simp; refine hK.out _ _ ⟨(mA.out.alloc _).drew.cell 1, (dt.out.alloc _).drew.cell 0, (dt.out.alloc _).drew.cell 1, (dt.out.alloc _).drew.cell 2⟩ ?_; clear hK K; try simp only [Act.put, zlQ, zlR, zlS]
   refine zaA 11 (by kernel_rfl) rfl (by kernel_rfl) (by rfl) (fun K hK => ?_)
   refine zay _ _ _ 47 47 (by rfl) w.heap.size 113 i1 _ 3 24 underlying47 gD ek dZ fI rfl (by decide) (.slice aL k kL) k ((l.take k).flatMap Smp.a) (by rfl) ((RL.out.alloc _).alloc _).drew _ 1 (Smp.a x) (by rfl) (zaF underlying47 (zaL wr _ 113 (Smp.a x).toArray).drew rfl (by simp [Smp.a, Value.oneCell'])) (by unfold maxLen; omega) (by omega) (by simp; omega) ?_
   intro v' w2 ac ad aw
   obtain ⟨a9, k9, rfl⟩ := zaa ac; have dQ := zlM (zj2 (wr := wr) (n := k) (xs := []) (base := 0) mA.out ad (zak RL.out RP.out (by decide))); have p9 := dQ.out.cell 1; have z9 := dQ.out.frozen 1; simp at p9; refine hK.out _ _ ?_; clear hK K hS; try simp only [Act.put, zlQ, zlR, zlS]
   refine zaA 12 (by kernel_rfl) rfl (by kernel_rfl) (by rfl) (fun K hK => ?_); go_simp; refine hK.out _ _ ?_; clear hK K; refine zaA 13 (by kernel_rfl) rfl (by kernel_rfl) (by rfl) (fun K hK => ?_); go_simp; refine hK.out _ _ ?_; clear hK K; refine zbQ (by kernel_rfl) ?_ _; all_goals
    have db : Blk (w2.setCell ⟨bp, 1, none⟩ (.slice a9 (k + 1) k9)) bp 54 #[.slice none 0 0, .slice a9 (k + 1) k9, .slice none 0 0, .slice none 0 0, .slice none 0 0, .slice none 0 0, .slice none 0 0] := by simpa using dQ.out.set_ 1 (.slice a9 (k + 1) k9)
    have aT : Blk (w2.setCell ⟨bp, 1, none⟩ (.slice a9 (k + 1) k9)) bo 4 #[.bool false] := (((RO.out.alloc (.cells #[.int .u64 x.ref, .int .i64 x.t, .float .f64 x.v] 137)).alloc _).drew.grown ad (Ne.symm (zak RL.out RO.out (by decide)))).far (p := ⟨bp, 1, none⟩) (zmT RO.out RP.out (by decide)) _
    have cE : (w2.setCell ⟨bp, 1, none⟩ (.slice a9 (k + 1) k9)).ownsRow w.heap.size 113 3 (.slice a9 (k + 1) k9) (k + 1) ((l.take (k + 1)).flatMap Smp.a) := by
     rw [zam Smp.a l k x HX.out]; exact zai ac (Fr.put_ w2 bp 1 _) (fun g hg e => zak ac dQ.out (by decide) (by rw [hg, e]))
    have fG : Fr (fun j => some j = (Value.slice aL k kL).ownBlock ∨ j = bp) wr (w2.setCell ⟨bp, 1, none⟩ (.slice a9 (k + 1) k9)) :=
     (((((zmR (fun j => some j = (Value.slice aL k kL).ownBlock ∨ j = bp) wr).alloc (.cells #[.int .u64 x.ref, .int .i64 x.t, .float .f64 x.v] 137)).alloc _).drew).grown ad (fun g hg => .inl (.inl hg.symm))).setCell (p := ⟨bp, 1, none⟩) (.inl (.inr rfl)) _
    have du := zai RV.out fG (fun g hg e => by
     rcases e with e | e
     ·exact zcb RV.out RL.out (by decide) g hg e.symm
     ·exact zak RV.out RP.out (by decide) (by rw [hg, e]))
    have bM : Fr (fun j => j = bb ∨ j = bp) w (w2.setCell ⟨bp, 1, none⟩ (.slice a9 (k + 1) k9)) := RF.out.trans fG (fun j hj e => by
     rcases e with e | e
     ·have := (RL.out.lt j e.symm).1; omega
     ·exact .inr e)
    have NP := zlM db; have NO := zlM aT; have NL := zlM cE; have NV := zlM du; have NF := zlM bM; clear db aT cE du bM fG ac ad aw p9 z9 c0 c1 c2 s0 s1 s2 s3 s4; go_wp2; go_roundw
    case rel => exact ⟨k + 1, _, by omega, by go_num, NF, NV, NO, NP, NL⟩
    case measure => simp [intOf]; omega
  ·obtain rfl : k = n := by omega
   have o0 := RO.out.cell 0; have o1 := RO.out.frozen 0; simp at o0; have W1 : Blk (wr.setCell ⟨bo, 0, none⟩ (.bool (zan xs).isSome)) bo 4 #[.bool (zan xs).isSome] := by simpa using RO.out.set_ 0 (.bool (zan xs).isSome)
   have W2 := RP.out.far (p := ⟨bo, 0, none⟩) (zmT RP.out RO.out (by decide)) (.bool (zan xs).isSome); have ga := zai RL.out (Fr.put_ wr bo 0 (.bool (zan xs).isSome)) (fun g hg e => zak RL.out RO.out (by decide) (by rw [hg, e]))
   have W4 : Fr (fun k => k = bb ∨ k = bp ∨ k = bo) w (wr.setCell ⟨bo, 0, none⟩ (.bool (zan xs).isSome)) := (Fr.mono (S' := fun k => k = bb ∨ k = bp ∨ k = bo) RF.out (fun _ _ e => e.elim (fun h => Or.inl h) (fun h => Or.inr (Or.inl h)))).setCell (p := ⟨bo, 0, none⟩) (.inl (.inr (.inr rfl))) _; rcases ks.out with ⟨rfl, aD⟩ | ⟨t, ae, rfl, aD⟩; all_goals
    rw [aD] at W1 W2 ga W4; have ik := zlM W1; have jH := zlM W2; have eS := zlM ga; have hW4 := zlM W4; clear W1 W2 ga W4; go_wp2_with fail
    go_end0; refine ⟨rfl, hW4.out, by rw [aD]; exact ik.out, lv, jH.out, ?_⟩; have e1 : l.take k = l := zlV (by rw [HN.out]; exact zlY _); have h3 := eS.out; rw [e1] at h3; rw [mB.out, HN.out]; exact h3
theorem bld_new {w w1 : World} {gb : Nat} (ho : w1.ownsRow w.heap.size 108 2 (.slice (some ⟨gb, 0, none⟩) 0 0) 0 []) :
 Bld ((w1.alloc (.cells #[.slice (some ⟨gb, 0, none⟩) 0 0, .string ⟨#[]⟩, .slice none 0 0] 119)).alloc (.cells #[] 5)) w.heap.size w1.heap.size [] ⟨#[]⟩ :=
 ⟨_, _, (zmS w1 119 _).alloc _, (ho.alloc _).alloc _⟩
def OwnR (base : Nat) (w : World) (v : Value) (lo : List (Ser × Value)) : Prop :=
 w.ownsRow base 130 2 v lo.length (lo.flatMap zim) /\ ∀ p ∈ lo, w.ownsRow base 40 2 p.2 p.1.labs.length (p.1.labs.flatMap zaI)
theorem OwnR.nil (base : Nat) (w : World) : OwnR base w (.slice none 0 0) [] := ⟨zl0 _ _ _ _, fun p hp => by cases hp⟩
theorem OwnR.fr {S : Nat -> Prop} {base : Nat} {w w' : World} {v : Value} {lo : List (Ser × Value)} (h : OwnR base w v lo) (hf : Fr S w w') (hs : ∀ k, base <= k -> k < w.heap.size -> ¬ S k) : OwnR base w' v lo :=
 ⟨zai h.1 hf (fun g hg => hs g (h.1.lt g hg).1 (zar h.1 hg)), fun p hp => zai (h.2 p hp) hf (fun g hg => hs g ((h.2 p hp).lt g hg).1 (zar (h.2 p hp) hg))⟩
theorem OwnR.mono {base base' : Nat} {w : World} {v : Value} {lo : List (Ser × Value)} (h : OwnR base w v lo) (hb : base' <= base) : OwnR base' w v lo :=
 ⟨zah h.1 hb, fun p hp => zah (h.2 p hp) hb⟩
theorem OwnR.sl {base : Nat} {w : World} {v : Value} {lo : List (Ser × Value)} (h : OwnR base w v lo) : SlR (fun g => base <= g /\ g < w.heap.size) w v lo :=
 ⟨(zmU h.1).mono (fun g hg => ⟨(h.1.lt g hg).1, zar h.1 hg⟩), fun p hp => (zmU (h.2 p hp)).mono (fun g hg => ⟨((h.2 p hp).lt g hg).1, zar (h.2 p hp) hg⟩)⟩
theorem OwnR.push {base : Nat} {w w2 : World} {v v' : Value} {lo : List (Ser × Value)} {p : Ser × Value} (h : OwnR base w v lo) (hp : w.ownsRow base 40 2 p.2 p.1.labs.length (p.1.labs.flatMap zaI)) (hg : w.grownBy w2 v.ownBlock)
 (ho : w2.ownsRow base 130 2 v' (lo.length + 1) (lo.flatMap zim ++ zim p)) : OwnR base w2 v' (lo ++ [p]) := by
 have hf : Fr (fun k => some k = v.ownBlock) w w2 := (zmR (fun k => some k = v.ownBlock) w).grown hg (fun k hk => .inl hk.symm); refine ⟨by simpa using ho, fun q hq => ?_⟩; rcases zms.1 hq with hq | hq
 ·exact zai (h.2 q hq) hf (fun g jD e => zcb (h.2 q hq) h.1 (by decide) g jD e.symm)
 ·rw [zmt] at hq
  subst hq; exact zai hp hf (fun g jD e => zcb hp h.1 (by decide) g jD e.symm)
theorem OwnR.off {base : Nat} {w w' : World} {v : Value} {lo : List (Ser × Value)} {d t : Nat} {cs : Array Value} (h : OwnR base w v lo) (hb : Blk w d t cs) (h1 : 130 ≠ t) (h2 : 40 ≠ t) (hf : Fr (fun k => k = d) w w') : OwnR base w' v lo :=
 ⟨zai h.1 hf (fun g hg e => zak h.1 hb h1 (by rw [hg, e])), fun p hp => zai (h.2 p hp) hf (fun g hg e => zak (h.2 p hp) hb h2 (by rw [hg, e]))⟩
def spc (p : Int × Nat) : List Value := [.int .i32 p.1, .int .u32 p.2]
def i1 (x : Int) : List Value := [.int .i64 x]
def u1 (x : Nat) : List Value := [.int .u64 x]
def f1 (x : Nat) : List Value := [.float .f64 x]
theorem zgr : (prog.info? 361).map (fun i => (i.zero, i.size, i.bytes)) = some (some (.agg #[.int .i32 0, .int .u32 0]), 2, 8) := by kernel_rfl
theorem info319 : (prog.info? 319).map (fun i => (i.zero, i.size, i.bytes)) = some (some (.agg #[.int .i32 0, .int .u32 0]), 2, 8) := by kernel_rfl
theorem zgs : (prog.info? 135).map (fun i => (i.zero, i.size, i.bytes)) = some (some (.float .f64 0), 1, 8) := by kernel_rfl
theorem info111 : (prog.info? 111).map (fun i => (i.zero, i.size, i.bytes)) = some (some (.int .u64 0), 1, 8) := by kernel_rfl
theorem info2 : (prog.info? 2).map (fun i => (i.zero, i.size, i.bytes)) = some (some (.int .i64 0), 1, 8) := by kernel_rfl
theorem ziP {α : Type} (f : α -> List Value) (h1 : ∀ x, (f x).length = 1) : ∀ (l : List α) (k : Nat) (x : α), l[k]? = some x -> (l.flatMap f)[k]? = (f x)[0]?
 | [], k, x, h => by simp at h
 | y :: l, 0, x, h => by
   simp at h; subst h; rw [zl1, zmz (by rw [h1]; omega)]
 | y :: l, k + 1, x, h => by
   rw [zl1, zmA (by rw [h1]; omega), h1, Nat.add_sub_cancel]; exact ziP f h1 l k x (by simpa using h)
def zij (t : TypeId) (size : Nat) (w : World) (n : Nat) (cs : List Value) (r : Ending) (w' : World) : Prop :=
 ∃ v, r = .returned v /\ w'.ownsRow w.heap.size t size v n cs /\ Fr (fun _ => False) w w'
theorem zir (P : Nat -> Prop) (v : Value) (l : List (Int × Nat)) (w : World) (h : Sl P w v 2 l.length (l.flatMap spc)) (hl : l.length <= 1099511627776) :
 Calls prog 235 #[v] w (zij 361 2 w l.length (l.flatMap spc)) := by
 obtain ⟨A, c, rfl, ai, aR, hr⟩ := h; obtain ⟨n, hn⟩ := exE l.length; rw [hn] at hr aR hl ⊢; have HN := zlM hn; have HR := zlM hr; obtain ⟨i0, aB, ay, ax, aA⟩ := info_parts zgr; clear hn hr ai; go_enter func235, ntmps235; go_wp2
 go_loopw [3, 8] (fun v i wr => ∃ k : Nat, k <= n /\ i = .int .i64 k /\ wr.ownsRow w.heap.size 361 2 v k ((l.take k).flatMap spc) /\ Fr (fun _ => False) w wr) (fun _ i _ => n - (intOf i).toNat)
 case atStart => exact ⟨0, zlX _, rfl, zl0 _ _ _ _, zmR _ _⟩
 case round =>
  obtain ⟨k, hk, rfl, ab, hf⟩ := hrel; by_cases hlt : k < n
  ·obtain ⟨g, off, rfl, _, aa⟩ := HR.out (by omega)
   obtain ⟨x, hx⟩ : ∃ x, l[k]? = some x := ⟨_, zlO (by rw [HN.out]; exact hlt)⟩; have cc : ∀ j, j < 2 -> ∀ u, (spc x)[j]? = some u -> wr.cell? ⟨g, off + (k * 2 + j), none⟩ = some u := fun j hj u hu => by
    have := aa (k * 2 + j) u (by rw [zbB spc (fun _ => rfl) l k x hx j hj]; exact hu); rw [hf.cell (p := ⟨g, off + (k * 2 + j), none⟩) (zlT w _ this) (fun e => e)]; exact this
   have c0 : wr.cell? ⟨g, off + k * 2, none⟩ = some (.int .i32 x.1) := cc 0 (by omega) _ rfl; have c1 : wr.cell? ⟨g, off + k * 2 + 1, none⟩ = some (.int .u32 x.2) := cc 1 (by omega) _ rfl; have HC := zlM aa; have HO := zlM ab; have HX := zlM hx; obtain ⟨a', n', k', rfl⟩ := zab ab; clear aa cc ab hx; go_wp2_with (at_builtin; refine Hid.out ?_)
   refine zlM ?_; refine zae _ rfl _ _ 285 285 rfl w.heap.size 361 i0 _ 2 8 underlying285 aB ay ax aA rfl (by decide) _ k ((l.take k).flatMap spc) rfl ((HO.out.alloc _).alloc _) _ 1 (spc x) rfl (zaF underlying285 (zaL wr _ 361 (spc x).toArray) rfl (by simp [spc, Value.oneCell'])) (by unfold maxLen; omega) (by omega) (by have := hf.size; simp; omega) ?_
   intro v' w2 ac ad aw
   have af : w2.ownsRow w.heap.size 361 2 v' (k + 1) ((l.take (k + 1)).flatMap spc) := by rw [zam spc l k x HX.out]; exact ac
   have ar : Fr (fun _ => False) w w2 := ((hf.alloc _).alloc _).grown ad (fun g hg => .inr (((HO.out.lt g hg)).1)); have cL := zlM af; have bx := zlM ar; clear ac ad af ar hf c0 c1 aw
   go_wp2; go_roundw
   case rel => exact ⟨k + 1, by omega, by go_num, cL.out, bx.out⟩
   case measure => simp [intOf]; omega
  ·go_wp2
   go_ret; obtain rfl : k = n := by omega
   refine ⟨_, rfl, ?_, hf⟩; rw [<- HN.out] at ab ⊢; rw [zmd] at ab; exact ab
theorem zfX (P : Nat -> Prop) (v : Value) (l : List (Int × Nat)) (w : World) (h : Sl P w v 2 l.length (l.flatMap spc)) (hl : l.length <= 1099511627776) :
 Calls prog 237 #[v] w (zij 319 2 w l.length (l.flatMap spc)) := by
 obtain ⟨A, c, rfl, ai, aR, hr⟩ := h; obtain ⟨n, hn⟩ := exE l.length; rw [hn] at hr aR hl ⊢; have HN := zlM hn; have HR := zlM hr; obtain ⟨i0, aB, ay, ax, aA⟩ := info_parts info319; clear hn hr ai; go_enter func237, ntmps237; go_wp2
 go_loopw [3, 8] (fun v i wr => ∃ k : Nat, k <= n /\ i = .int .i64 k /\ wr.ownsRow w.heap.size 319 2 v k ((l.take k).flatMap spc) /\ Fr (fun _ => False) w wr) (fun _ i _ => n - (intOf i).toNat)
 case atStart => exact ⟨0, zlX _, rfl, zl0 _ _ _ _, zmR _ _⟩
 case round =>
  obtain ⟨k, hk, rfl, ab, hf⟩ := hrel; by_cases hlt : k < n
  ·obtain ⟨g, off, rfl, _, aa⟩ := HR.out (by omega)
   obtain ⟨x, hx⟩ : ∃ x, l[k]? = some x := ⟨_, zlO (by rw [HN.out]; exact hlt)⟩; have cc : ∀ j, j < 2 -> ∀ u, (spc x)[j]? = some u -> wr.cell? ⟨g, off + (k * 2 + j), none⟩ = some u := fun j hj u hu => by
    have := aa (k * 2 + j) u (by rw [zbB spc (fun _ => rfl) l k x hx j hj]; exact hu); rw [hf.cell (p := ⟨g, off + (k * 2 + j), none⟩) (zlT w _ this) (fun e => e)]; exact this
   have c0 : wr.cell? ⟨g, off + k * 2, none⟩ = some (.int .i32 x.1) := cc 0 (by omega) _ rfl; have c1 : wr.cell? ⟨g, off + k * 2 + 1, none⟩ = some (.int .u32 x.2) := cc 1 (by omega) _ rfl; have HC := zlM aa; have HO := zlM ab; have HX := zlM hx; obtain ⟨a', n', k', rfl⟩ := zab ab; clear aa cc ab hx; go_wp2_with (at_builtin; refine Hid.out ?_)
   refine zlM ?_; refine zae _ rfl _ _ 188 188 rfl w.heap.size 319 i0 _ 2 8 underlying188 aB ay ax aA rfl (by decide) _ k ((l.take k).flatMap spc) rfl ((HO.out.alloc _).alloc _) _ 1 (spc x) rfl (zaF underlying188 (zaL wr _ 319 (spc x).toArray) rfl (by simp [spc, Value.oneCell'])) (by unfold maxLen; omega) (by omega) (by have := hf.size; simp; omega) ?_
   intro v' w2 ac ad aw
   have af : w2.ownsRow w.heap.size 319 2 v' (k + 1) ((l.take (k + 1)).flatMap spc) := by rw [zam spc l k x HX.out]; exact ac
   have ar : Fr (fun _ => False) w w2 := ((hf.alloc _).alloc _).grown ad (fun g hg => .inr (((HO.out.lt g hg)).1)); have cL := zlM af; have bx := zlM ar; clear ac ad af ar hf c0 c1 aw
   go_wp2; go_roundw
   case rel => exact ⟨k + 1, by omega, by go_num, cL.out, bx.out⟩
   case measure => simp [intOf]; omega
  ·go_wp2
   go_ret; obtain rfl : k = n := by omega
   refine ⟨_, rfl, ?_, hf⟩; rw [<- HN.out] at ab ⊢; rw [zmd] at ab; exact ab
theorem zff (P : Nat -> Prop) (v : Value) (l : List Nat) (w : World) (h : Sl P w v 1 l.length (l.flatMap u1)) (hl : l.length <= 1099511627776) :
 Calls prog 236 #[v] w (zij 135 1 w l.length (l.flatMap f1)) := by
 obtain ⟨A, c, rfl, ai, aR, hr⟩ := h; obtain ⟨n, hn⟩ := exE l.length; rw [hn] at hr aR hl ⊢; have HN := zlM hn; have HR := zlM hr; obtain ⟨i0, aB, ay, ax, aA⟩ := info_parts zgs; clear hn hr ai; go_enter func236, ntmps236; go_wp2
 go_loopw [3, 8] (fun v i wr => ∃ k : Nat, k <= n /\ i = .int .i64 k /\ wr.ownsRow w.heap.size 135 1 v k ((l.take k).flatMap f1) /\ Fr (fun _ => False) w wr) (fun _ i _ => n - (intOf i).toNat)
 case atStart => exact ⟨0, zlX _, rfl, zl0 _ _ _ _, zmR _ _⟩
 case round =>
  obtain ⟨k, hk, rfl, ab, hf⟩ := hrel; by_cases hlt : k < n
  ·obtain ⟨g, off, rfl, _, aa⟩ := HR.out (by omega)
   obtain ⟨x, hx⟩ : ∃ x, l[k]? = some x := ⟨_, zlO (by rw [HN.out]; exact hlt)⟩; have c0 : wr.cell? ⟨g, off + k, none⟩ = some (.int .u64 x) := by
    have := aa k (.int .u64 x) (by rw [ziP u1 (fun _ => rfl) l k x hx]; rfl); rw [hf.cell (p := ⟨g, off + k, none⟩) (zlT w _ this) (fun e => e)]; exact this
   have HC := zlM aa; have HO := zlM ab; have HX := zlM hx; obtain ⟨a', n', k', rfl⟩ := zab ab; clear aa ab hx
   go_wp2_with (first
    | (go_at_call 167; refine (ze3 _ _).mono ?_; rintro r w' ⟨rfl, rfl⟩)
    | (at_builtin; refine Hid.out ?_))
   refine zlM ?_; refine zae _ rfl _ _ 286 286 rfl w.heap.size 135 i0 _ 1 8 underlying286 aB ay ax aA rfl (by decide) _ k ((l.take k).flatMap f1) rfl (HO.out.alloc _) _ 1 (f1 x) rfl (zaF underlying286 (zmS wr 135 (f1 x).toArray) rfl (by simp [f1, Value.oneCell'])) (by unfold maxLen; omega) (by omega) (by have := hf.size; simp; omega) ?_
   intro v' w2 ac ad aw
   have af : w2.ownsRow w.heap.size 135 1 v' (k + 1) ((l.take (k + 1)).flatMap f1) := by rw [zam f1 l k x HX.out]; exact ac
   have ar : Fr (fun _ => False) w w2 := (hf.alloc _).grown ad (fun g hg => .inr (((HO.out.lt g hg)).1)); have cL := zlM af; have bx := zlM ar; clear ac ad af ar hf c0 aw
   go_wp2; go_roundw
   case rel => exact ⟨k + 1, by omega, by go_num, cL.out, bx.out⟩
   case measure => simp [intOf]; omega
  ·go_wp2
   go_ret; obtain rfl : k = n := by omega
   refine ⟨_, rfl, ?_, hf⟩; rw [<- HN.out] at ab ⊢; rw [zmd] at ab; exact ab
theorem zdU (P : Nat -> Prop) (v : Value) (l : List Nat) (w : World) (h : Sl P w v 1 l.length (l.flatMap f1)) (hl : l.length <= 1099511627776) :
 Calls prog 238 #[v] w (zij 111 1 w l.length (l.flatMap u1)) := by
 obtain ⟨A, c, rfl, ai, aR, hr⟩ := h; obtain ⟨n, hn⟩ := exE l.length; rw [hn] at hr aR hl ⊢; have HN := zlM hn; have HR := zlM hr; obtain ⟨i0, aB, ay, ax, aA⟩ := info_parts info111; clear hn hr ai; go_enter func238, ntmps238; go_wp2
 go_loopw [3, 8] (fun v i wr => ∃ k : Nat, k <= n /\ i = .int .i64 k /\ wr.ownsRow w.heap.size 111 1 v k ((l.take k).flatMap u1) /\ Fr (fun _ => False) w wr) (fun _ i _ => n - (intOf i).toNat)
 case atStart => exact ⟨0, zlX _, rfl, zl0 _ _ _ _, zmR _ _⟩
 case round =>
  obtain ⟨k, hk, rfl, ab, hf⟩ := hrel; by_cases hlt : k < n
  ·obtain ⟨g, off, rfl, _, aa⟩ := HR.out (by omega)
   obtain ⟨x, hx⟩ : ∃ x, l[k]? = some x := ⟨_, zlO (by rw [HN.out]; exact hlt)⟩; have c0 : wr.cell? ⟨g, off + k, none⟩ = some (.float .f64 x) := by
    have := aa k (.float .f64 x) (by rw [ziP f1 (fun _ => rfl) l k x hx]; rfl); rw [hf.cell (p := ⟨g, off + k, none⟩) (zlT w _ this) (fun e => e)]; exact this
   have HC := zlM aa; have HO := zlM ab; have HX := zlM hx; obtain ⟨a', n', k', rfl⟩ := zab ab; clear aa ab hx
   go_wp2_with (first
    | (go_at_call 73; refine (zdE _ _).mono ?_; rintro r w' ⟨rfl, rfl⟩)
    | (at_builtin; refine Hid.out ?_))
   refine zlM ?_; refine zae _ rfl _ _ 190 190 rfl w.heap.size 111 i0 _ 1 8 underlying190 aB ay ax aA rfl (by decide) _ k ((l.take k).flatMap u1) rfl (HO.out.alloc _) _ 1 (u1 x) rfl (zaF underlying190 (zmS wr 111 (u1 x).toArray) rfl (by simp [u1, Value.oneCell'])) (by unfold maxLen; omega) (by omega) (by have := hf.size; simp; omega) ?_
   intro v' w2 ac ad aw
   have af : w2.ownsRow w.heap.size 111 1 v' (k + 1) ((l.take (k + 1)).flatMap u1) := by rw [zam u1 l k x HX.out]; exact ac
   have ar : Fr (fun _ => False) w w2 := (hf.alloc _).grown ad (fun g hg => .inr (((HO.out.lt g hg)).1)); have cL := zlM af; have bx := zlM ar; clear ac ad af ar hf c0 aw
   go_wp2; go_roundw
   case rel => exact ⟨k + 1, by omega, by go_num, cL.out, bx.out⟩
   case measure => simp [intOf]; omega
  ·go_wp2
   go_ret; obtain rfl : k = n := by omega
   refine ⟨_, rfl, ?_, hf⟩; rw [<- HN.out] at ab ⊢; rw [zmd] at ab; exact ab
end Go.Proofs.YtbkookiigkckdaaGreatDoor
