/- Texts of this seat, merged and shortened. -/
import Derived.Test.YtbkookiigkckdaaGreatDoorKC04
set_option linter.unusedVariables false
set_option linter.unusedSimpArgs false
set_option maxRecDepth 100000
set_option maxHeartbeats 8000000
namespace Go.Proofs.YtbkookiigkckdaaGreatDoor
open Go.RowKit Go.Proofs.Tryz
theorem zdD (b : Nat) (w : World) : Calls prog 73 #[.float .f64 b] w fun r w' => r = .returned (.int .u64 b) /\ w = w' := by
 have h := ziU; go_enter func73, ntmps73; go_wp2_with fail
 go_ret; exact ⟨rfl, rfl⟩
theorem info113 : (prog.info? 113).map (fun i => (i.zero, i.size, i.bytes)) = some (some (.agg #[.int .u64 0, .int .i64 0, .int .u64 0]), 3, 24) := by kernel_rfl
def ReadEnds (w : World) (bb bp bo : Nat) (xs : List UInt8) (r : Ending) (w' : World) : Prop :=
 r = .returned (.tuple #[]) /\ Fr (fun k => k = bb ∨ k = bp ∨ k = bo) w w' /\ Blk w' bo 4 #[.bool (zal xs).isSome] /\
  ∃ lv, Blk w' bp 54 #[.slice none 0 0, lv, .slice none 0 0, .slice none 0 0, .slice none 0 0, .slice none 0 0, .slice none 0 0] /\ w'.ownsRow w.heap.size 113 3 lv ((zal xs).getD []).length (((zal xs).getD []).flatMap Smp.a)
theorem zgo (br : Nat) (bt : Int) : ∀ (k : Nat) (st : St) (acc : List Smp), (zbb br bt k st acc).1.length <= acc.length + k
 | 0, st, acc => by simp [zbb]
 | k + 1, none, acc => by simp [zbb]
 | k + 1, some [], acc => by simp [zbb]
 | k + 1, some (c :: r), acc => by
   have h := zgo br bt k (zba br bt (some (c :: r))).2 (acc ++ [(zba br bt (some (c :: r))).1]); rw [zml, zmB] at h; show (zbb br bt k (zba br bt (some (c :: r))).2 (acc ++ [(zba br bt (some (c :: r))).1])).1.length <= _; omega
theorem zhs (xs : List UInt8) : ((zal xs).getD []).length <= xs.length := by
 rcases xs with _ | ⟨b, rest⟩
 ·simp [zal]
 ·unfold zal
  simp only []; split
  ·split
   ·simp
   ·have h := zgo (zab (some rest)).1 (zao (zab (some rest)).2).1 rest.length (zao (zab (some rest)).2).2 []
    split
    ·rename_i l' _ e
     rw [e] at h; simp at h ⊢; omega
    ·simp
  ·simp
theorem Rec.fr {te : TypeId} {pe : Value} {w w' : World} {g : Nat} {cur : Array Value} {xs : List UInt8} {v : Value} {S : Nat -> Prop} (h : Rec te pe w g cur xs v) (hf : Fr S w w') (hg : ¬ S g) (h2 : ¬ S 2) : Rec te pe w' g cur xs v := by
 obtain ⟨off, c, rfl, pJ, hl, hm, hr, hE⟩ := h; refine ⟨off, c, rfl, pJ.fr hf hg, hl, hm, hr, ?_⟩; rw [hf.cell (p := ⟨2, 0, none⟩) (zmr w _ hE) h2]; exact hE
theorem zh9 {W w5 w6 : World} {b t : Nat} {cs : Array Value} {v5 : Value} {n : Nat} {xs : List Value} (h : Blk W b t cs) (aq : Fr (fun _ => False) W.drew w5) (ho : w5.ownsRow W.drew.heap.size 137 3 v5 n xs) (aR : Fr (fun k => some k = v5.ownBlock) w5 w6) : Blk w6 b t cs :=
 (h.drew.fr aq (fun e => e)).fr aR (fun e => by have h1 := (ho.lt b e.symm).1; have h2 : b < W.heap.size := h.lt; exact zm4 _ (zmJ h2 h1))
theorem zku {W w2 wr : World} {b t : Nat} {cs : Array Value} {v : Value} {n : Nat} {xs : List Value} {base : Nat} {o : Obj} (h : Blk W b t cs) (hg : ((W.alloc o).drew).grownBy w2 v.ownBlock) (bB : v.ownBlock ≠ some b) : Blk w2 b t cs :=
 ((h.alloc o).drew).grown hg (fun e => bB e.symm)
theorem zb6 {w : World} {base base' : Nat} {e e' : TypeId} {size oJ n n' : Nat} {v v' : Value} {xs xs' : List Value} (h : w.ownsRow base e size v n xs) (h' : w.ownsRow base' e' oJ v' n' xs') (bB : e ≠ e') : ∀ g, v.ownBlock = some g -> v'.ownBlock ≠ some g := by
 intro g hg; rcases h.2 with ⟨rfl, _⟩ | ⟨g', aO, cur, rfl, _, hh, _⟩
 ·simp [Value.ownBlock] at hg
 ·have : g' = g := by simpa [Value.ownBlock] using hg
  subst this; exact zak (t := e) h' hh (Ne.symm bB)
theorem zgr {w w' : World} {base : Nat} {o : Option Nat} {xs : List UInt8} {r : Ending} (h : zbn w base o xs r w') :
 ∃ v' e, r = .returned (.tuple #[v', e]) /\ w'.ownsRow base 137 3 v' ((zal xs).getD []).length (((zal xs).getD []).flatMap Smp.b) /\ Fr (fun k => some k = o) w w' /\ ((e = .nilIface /\ (zal xs).isSome = true) ∨ (∃ t a, e = .iface t a /\ (zal xs).isSome = false)) := by
 unfold zbn at h; rcases hd : zal xs with _ | l
 ·rw [hd] at h
  obtain ⟨hf, t, a, rfl⟩ := h; exact ⟨_, _, rfl, zmy _ _ _ _, hf, .inr ⟨_, _, rfl, rfl⟩⟩
 ·rw [hd] at h
  obtain ⟨hf, v', rfl, ho⟩ := h; exact ⟨_, _, rfl, ho, hf, .inl ⟨rfl, rfl⟩⟩
theorem zh7 (te : TypeId) (pe : Value) (bb bk bq bp bo : Nat) (P : Nat -> Prop) (q0 q1 q2 q3 q4 q5 q6 v : Value) (xs : List UInt8) (w : World) (hb : Blk w bb 44 #[v]) (hv : Sl P w v 1 xs.length (bc xs)) (hk : Blk w bk 3 #[.int .i64 2]) (hq : Blk w bq 54 #[q0, q1, q2, q3, q4, q5, q6]) (hs : Sl P w q1 3 0 [])
 (hp : Blk w bp 54 #[.slice none 0 0, .slice none 0 0, .slice none 0 0, .slice none 0 0, .slice none 0 0, .slice none 0 0, .slice none 0 0]) (ho : Blk w bo 4 #[.bool false]) (hE : w.cell? ⟨2, 0, none⟩ = some (.iface te pe)) (bh : xs.length <= 1073741824)
 (dU : ∀ g, P g -> g ≠ bb) (dt : bp ≠ bq) (h2 : bb ≠ 2 /\ bp ≠ 2 /\ bo ≠ 2) :
 Calls prog 66 #[.pointer (some ⟨bb, 0, none⟩), .pointer (some ⟨bk, 0, none⟩), .pointer (some ⟨bq, 0, none⟩), .pointer (some ⟨bp, 0, none⟩), .pointer (some ⟨bo, 0, none⟩)] w (ReadEnds w bb bp bo xs) := by
 obtain ⟨i0, aD, aA, az, aC⟩ := info_parts zfp; have HB := zmk hb; have HV := zmk hv; have HK := zmk hk; have HQ := zmk hq; have HS := zmk hs; have HP := zmk hp; have HO := zmk ho; have HE := zmk hE; have kt := zmk dU; have cE : ∃ A m c, v = .slice A m c := let ⟨A, c, h, _⟩ := hv; ⟨A, _, c, h⟩
 obtain ⟨A, m, c, rfl⟩ := cE; clear hb hv hk hq hs hp ho hE dU; go_enter func66, ntmps66; go_wp2_with (first | (go_at_call 67; refine (zdx _ _).mono ?_; rintro r w1 ⟨v1, rfl, ⟨a, rfl⟩, ai⟩; refine Hid.out ?_))
 have aw := ((HB.out.fr ai (fun e => e)).alloc (.cells #[.slice (some a) 0 0, .string ⟨#[]⟩, .slice none 0 0] 119)).alloc (.cells #[] 5); have b1 := aw.cell 0; simp at b1; clear aw; refine zmk ?_; go_wp2_with (at_builtin; refine Hid.out ?_)
 have eo := znp (base := w.heap.size) (e := 5) (size := 1) (w1.alloc (.cells #[.slice (some a) 0 0, .string ⟨#[]⟩, .slice none 0 0] 119)) #[] 0 (by have := ai.size; simp; omega) (zmv _) rfl; have dx : Fr (fun _ => False) w ((w1.alloc (.cells #[.slice (some a) 0 0, .string ⟨#[]⟩, .slice none 0 0] 119)).alloc (.cells #[] 5)) := (ai.alloc _).alloc _; have bA := ai.size
 refine zmk ?_; have kV : (w1.alloc (.cells #[.slice (some a) 0 0, .string ⟨#[]⟩, .slice none 0 0] 119)).heap.size = w1.heap.size + 1 := by simp
 rw [kV] at eo; clear b1; generalize World.alloc _ (Obj.cells #[] 5) = WA at eo dx ⊢; have hsA := dx.size; have cK := zdh underlying44 (HV.out.fr dx (fun _ _ e => e)) (zfN xs)
 refine zaf _ rfl _ _ 44 44 rfl w.heap.size 5 i0 (.int .u8 0) 1 1 underlying44 aD aA az aC rfl (by decide) (.slice (some ⟨w1.heap.size + 1, 0, none⟩) 0 0) 0 [] rfl eo (.slice A m c) xs.length (bc xs) rfl cK (by unfold maxLen; omega) (by omega) (by omega) ?_; intro v' w2 ac ad ax
 rw [zmP, zmW] at ac; obtain ⟨a2, k2, rfl⟩ := zaa ac; have eK : ∀ k, (Value.slice (some ⟨w1.heap.size + 1, 0, none⟩) 0 0).ownBlock = some k -> w.heap.size <= k := fun k hk => by
  have hk : w1.heap.size + 1 = k := zna hk; omega
 have F2 : Fr (fun _ => False) w w2 := dx.grown ad (fun k hk => .inr (eK k hk)); have dr : ∃ g2 aK, a2 = some ⟨g2, 0, none⟩ /\ w.heap.size <= g2 /\ Blk w2 g2 5 aK /\ xs.length <= k2 /\ k2 <= maxLen /\ aK.toList.take xs.length = bc xs := by
  rcases ac.2 with ⟨h, _⟩ | ⟨g2, aO, aK, h, h1, h3, h4, h5, _, h6⟩
  ·rw [h] at ax
   rcases ax with ax | ax <;> exact absurd ax (by simp [Value.ownBlock])
  ·injection h with e1 e2 e3
   subst e3; exact ⟨g2, aK, e1, h1, h3, h4, h5, by simpa using h6⟩
 have cn : ∀ k, (Value.slice a2 xs.length k2).ownBlock = some k -> w.heap.size <= k := fun k hk => (ac.lt k hk).1; have lB := HB.out.lt; have gB := HB.out.fr F2 (fun e => e); have y0 := gB.cell 0; have y1 := gB.frozen 0; simp at y0
 have F3 : Fr (fun k => k = bb) w (w2.setCell ⟨bb, 0, none⟩ (.slice a2 xs.length k2)) := (F2.mono (S' := fun k => k = bb) (fun _ _ e => e.elim)).setCell (p := ⟨bb, 0, none⟩) (.inl rfl) _; have O3 : (w2.setCell ⟨bb, 0, none⟩ (.slice a2 xs.length k2)).ownsRow w.heap.size 5 1 (.slice a2 xs.length k2) xs.length (bc xs) := zaj ac (Fr.put_ w2 bb 0 _) (fun k hk e => by have := cn k hk; omega)
 have B3 : Blk (w2.setCell ⟨bb, 0, none⟩ (.slice a2 xs.length k2)) bb 44 #[.slice a2 xs.length k2] := by simpa using gB.set_ 0 (.slice a2 xs.length k2)
 have K3 := (HK.out.fr F3 (fun e => zns HK.out HB.out (by decide) e)).cell 0; have Q3 := HQ.out.fr F3 (fun e => zns HQ.out HB.out (by decide) e); have P3 := HP.out.fr F3 (fun e => zns HP.out HB.out (by decide) e); have O4 := HO.out.fr F3 (fun e => zns HO.out HB.out (by decide) e)
 have E3 : (w2.setCell ⟨bb, 0, none⟩ (.slice a2 xs.length k2)).cell? ⟨2, 0, none⟩ = some (.iface te pe) := by
  rw [F3.cell (p := ⟨2, 0, none⟩) (zmr w _ HE.out) (fun e => h2.1 e.symm)]; exact HE.out
 simp at K3; have bx := zmk F3; have eq := zmk O3; have bE := zmk B3; have bZ := zmk Q3; have eL := zmk P3; have dj := zmk O4; have dG := zmk E3; have nX := zmk cn; obtain ⟨g2, aK, rfl, el, co, cO, du, dq⟩ := dr
 have R3 : Rec te pe (w2.setCell ⟨bb, 0, none⟩ (.slice (some ⟨g2, 0, none⟩) xs.length k2)) g2 aK xs (.slice (some ⟨g2, 0, none⟩) xs.length k2) := by
  refine ⟨0, k2, rfl, co.far (p := ⟨bb, 0, none⟩) (by show g2 ≠ bb; omega) _, cO, ⟨by simp [maxLen] at du; omega, by omega⟩, fun j u hu => ?_, E3⟩; rw [zmP, <- Array.getElem?_toList]; have hj : j < xs.length := by
   rcases zmN j xs.length with h | h
   ·exact h
   ·rw [zmO (by rw [zdE]; exact h)] at hu; cases hu
  rw [<- dq, List.getElem?_take_of_lt hj] at hu; exact hu
 have aS := zmk R3; have kU := co.lt; clear R3 du dq co; clear F2 F3 O3 B3 Q3 P3 O4 E3 gB eK cn ac ad ax cK eo dx ai; go_wp2_with fail
 generalize w2.setCell ⟨bb, 0, none⟩ (.slice (some ⟨g2, 0, none⟩) xs.length k2) = W3 at bx eq bE bZ eL dj dG aS ⊢; have eZ := aS.out; have gi : g2 < W3.heap.size := let ⟨_, _, _, h, _⟩ := eZ; h.lt
 have ja : 2 < W3.heap.size := zmr W3 _ dG.out; clear eZ; have hS3 : Sl P W3.drew q1 3 ([] : List Smp).length (([] : List Smp).flatMap Smp.a) := by
  obtain ⟨A, c, rfl, h1, h2, _⟩ := HS.out; exact ⟨A, c, rfl, rfl, h2, fun h => absurd h (by simp)⟩
 have eE := zeE P q1 [] W3.drew hS3 (by simp); have eY : ∃ A m c, q1 = .slice A m c := let ⟨A, c, h, _⟩ := HS.out; ⟨A, _, c, h⟩
 obtain ⟨Aq, mq, cq, rfl⟩ := eY; have x0 := bE.out.cell 0; have x1 := bZ.out.cell 1; have kA : W3.drew.cell? ⟨bb, 0, none⟩ = some (.slice (some ⟨g2, 0, none⟩) xs.length k2) := x0; have jh : W3.drew.cell? ⟨bq, 1, none⟩ = some (.slice Aq mq cq) := x1; simp at x0 x1; clear y0 y1 K3
 go_region_held3 (fun w' => w'.cell? ⟨bb, 0, none⟩ = some (.slice (some ⟨g2, 0, none⟩) xs.length k2) /\ w'.cell? ⟨bq, 1, none⟩ = some (.slice Aq mq cq))
  ((first | (go_split_ands; refine ⟨?_, ?_⟩ <;> first | exact (bE.out.drew.fr aq (fun e => e)).cell 0 | exact (bZ.out.drew.fr aq (fun e => e)).cell 1) | (go_split_ands; refine ⟨?_, ?_⟩ <;> first | exact KB.out.cell 0 | exact KQ.out.cell 1) | go_keep))
  ((first
    | (go_at_call 72; refine eE.mono ?_; rintro r5 w5 ⟨v5, rfl, am, aq⟩)
    | (go_at_call 71; refine (zht te pe _ g2 W3.drew.heap.size aK xs _ v5 w5 (aS.out.fr (w := W3) (((znq (fun _ => False) W3).drew).same aq) (fun e => e) (fun e => e)) am ⟨gi, ja, aq.size⟩).mono ?_; rintro r6 w6 eF; obtain ⟨v6, e6, rfl, aM, aR, cj⟩ := zgr eF; clear eF; have KB := zmk (zh9 bE.out aq am aR); have KQ := zmk (zh9 bZ.out aq am aR))))
 have T6 : Fr (fun k => k = bb) w w6 := ((bx.out.trans (((znq (fun _ => False) W3).drew).same aq) (fun _ _ e => e.elim)).trans aR (fun k hk e => by
  have h1 := (am.lt k e.symm).1; have h2 := bx.out.size
  simp at h1; omega))
 have P6 := zh9 eL.out aq am aR; have O6 := zh9 dj.out aq am aR; have kD : w.heap.size <= W3.drew.heap.size := bx.out.size; have V6 := zai aM kD; have kr := zmk T6; have je := zmk P6; have gp := zmk O6; have fw := zmk V6; have ku := zmk cj; have kM := aq.size; have kK := aR.size
 have gJ : ∀ k, v6.ownBlock = some k -> k < w6.heap.size := fun k hk => zas aM hk; clear x0 x1 kA jh eE T6 P6 O6 V6 cj am aq aM aR KB KQ eq bE bZ eL dj dG aS bx; obtain ⟨l, hl⟩ := exE ((zal xs).getD []); rw [hl] at fw; have mB := zmk hl; clear hl; obtain ⟨a6, k6, rfl⟩ := zaa fw.out; go_wp2_with fail
 obtain ⟨n, hn⟩ := exE l.length; have HN := zmk hn; rw [hn] at fw gJ ⊢; clear hn; obtain ⟨i1, gC, ei, dW, fF⟩ := info_parts info113
 go_loopw [81] (fun i wr => ∃ (k : Nat) (lv : Value), k <= n /\ i = .int .i64 k /\ Hid (Fr (fun j => j = bb ∨ j = bp) w wr) /\ Hid (wr.ownsRow w.heap.size 137 3 (.slice a6 n k6) n (l.flatMap Smp.b)) /\ Hid (Blk wr bo 4 #[.bool false]) /\
  Hid (Blk wr bp 54 #[.slice none 0 0, lv, .slice none 0 0, .slice none 0 0, .slice none 0 0, .slice none 0 0, .slice none 0 0]) /\ Hid (wr.ownsRow w.heap.size 113 3 lv k ((l.take k).flatMap Smp.a))) (fun i _ => n - (intOf i).toNat)
 case atStart => exact ⟨0, _, zmv _, rfl, zmk (Fr.mono kr.out (fun _ _ e => Or.inl e)), fw, gp, je, zmk (zmy _ _ _ _)⟩
 case round =>
  obtain ⟨k, lv, hk, rfl, RF, RV, RO, RP, RL⟩ := hrel; by_cases hlt : k < n
  ·obtain ⟨A7, c7, e7, _, _, js⟩ := znt RV.out
   injection e7 with e7 _ nB; subst e7 nB; obtain ⟨g7, bj, rfl, _, bH⟩ := js (by omega); obtain ⟨x, hx⟩ : ∃ x, l[k]? = some x := ⟨_, zmm (by rw [HN.out]; exact hlt)⟩; have cc : ∀ j, j < 3 -> ∀ u, (Smp.b x)[j]? = some u -> wr.cell? ⟨g7, bj + (k * 3 + j), none⟩ = some u := fun j hj u hu =>
    bH (k * 3 + j) u (by rw [zfc Smp.b (fun _ => rfl) l k x hx j hj]; exact hu)
   have c0 : wr.cell? ⟨g7, bj + k * 3, none⟩ = some (.int .u64 x.ref) := cc 0 (by omega) _ rfl; have c1 : wr.cell? ⟨g7, bj + k * 3 + 1, none⟩ = some (.int .i64 x.t) := cc 1 (by omega) _ rfl; have c2 : wr.cell? ⟨g7, bj + k * 3 + 2, none⟩ = some (.float .f64 x.v) := cc 2 (by omega) _ rfl; have hsf := zbU
   have HX := zmk hx; obtain ⟨aL, kL, rfl⟩ := zaa RL.out; clear bH js cc hx; go_wp2_with fail
   have ch := znr wr 137 #[.int .u64 x.ref, .int .i64 x.t, .float .f64 x.v]; have s0 := ch.cell 0; have s1 := ch.cell 1; have s2 := ch.cell 2; have fb := RP.out.alloc (.cells #[.int .u64 x.ref, .int .i64 x.t, .float .f64 x.v] 137); have s3 := fb.cell 1; simp only [zmF, zmD, zmE] at s0 s1 s2 s3; have lP := RP.out.lt
   have bG := RF.out.size; have kS : k < 1099511627776 := by have h1 := zhs xs; rw [mB.out, HN.out] at h1; omega
   have dn := zmk ch; have mA := zmk fb; have hbpl := RP.out.lt; have s4 : ∀ o : Obj, ((wr.alloc (.cells #[.int .u64 x.ref, .int .i64 x.t, .float .f64 x.v] 137)).drew.alloc o).cell? ⟨bp, 1, none⟩ = some (.slice aL k kL) := fun o => by
    have h := (fb.drew.alloc o).cell 1; simp only [zmF, zmD, zmE] at h; exact h
   clear ch fb; refine zaT (fun w' => w'.cell? ⟨bp, 1, none⟩ = some (.slice aL k kL) /\ w'.cell? ⟨wr.heap.size, 0, none⟩ = some (.int .u64 x.ref) /\ w'.cell? ⟨wr.heap.size, 1, none⟩ = some (.int .i64 x.t) /\ w'.cell? ⟨wr.heap.size, 2, none⟩ = some (.float .f64 x.v)) 11 (by kernel_rfl) ⟨s3, s0, s1, s2⟩ ?_; intro hS; refine wpT 0 (.pointer (some ⟨bp, 1, none⟩)) rfl (by intro w; go_simp) hS ?_
   try simp only [Act.put, zmo, zmp, zmq]
   refine wpL 1 [11, 13] (.slice aL k kL) rfl (by rintro w ⟨h1, h2, h3, h4⟩; go_simp) hS ?_; try simp only [Act.put, zmo, zmp, zmq]
   refine wpT 2 (.pointer (some ⟨wr.heap.size, 0, none⟩)) rfl (by intro w; go_simp) hS ?_; try simp only [Act.put, zmo, zmp, zmq]
   refine wpL 3 [9, 10, 11, 13] (.int .u64 x.ref) rfl (by rintro w ⟨h1, h2, h3, h4⟩; go_simp) hS ?_; try simp only [Act.put, zmo, zmp, zmq]
   refine wpT 4 (.pointer (some ⟨wr.heap.size, 1, none⟩)) rfl (by intro w; go_simp) hS ?_; try simp only [Act.put, zmo, zmp, zmq]
   refine wpL 5 [9, 10, 11, 13] (.int .i64 x.t) rfl (by rintro w ⟨h1, h2, h3, h4⟩; go_simp) hS ?_; try simp only [Act.put, zmo, zmp, zmq]
   refine wpT 6 (.pointer (some ⟨wr.heap.size, 2, none⟩)) rfl (by intro w; go_simp) hS ?_; try simp only [Act.put, zmo, zmp, zmq]
   refine wpL 7 [8, 9, 10, 11, 13] (.float .f64 x.v) rfl (by rintro w ⟨h1, h2, h3, h4⟩; go_simp) hS ?_; try simp only [Act.put, zmo, zmp, zmq]
   refine zaq 8 (by kernel_rfl) rfl (by rfl) (fun K hK => ?_); go_simp; go_at_call 73
   refine (zdD _ _).mono ?_; rintro r w' ⟨rfl, rfl⟩; refine hK.out _ _ hS ?_; clear hK K; try simp only [Act.put, zmo, zmp, zmq]
   refine wpT 9 (.agg #[.int .u64 x.ref, .int .i64 x.t, .int .u64 x.v]) rfl (by intro w; go_simp) hS ?_; try simp only [Act.put, zmo, zmp, zmq]
   refine zaq 10 (by kernel_rfl) rfl (by rfl) (fun K hK => ?_); go_simp; refine hK.out _ _ ⟨(mA.out.alloc _).drew.cell 1, (dn.out.alloc _).drew.cell 0, (dn.out.alloc _).drew.cell 1, (dn.out.alloc _).drew.cell 2⟩ ?_; clear hK K; try simp only [Act.put, zmo, zmp, zmq]
   refine zay 11 (by kernel_rfl) rfl (by kernel_rfl) (by rfl) (fun K hK => ?_)
   refine zaA _ _ _ 47 47 (by rfl) w.heap.size 113 i1 _ 3 24 underlying47 gC ei dW fF rfl (by decide) (.slice aL k kL) k ((l.take k).flatMap Smp.a) (by rfl) ((RL.out.alloc _).alloc _).drew _ 1 (Smp.a x) (by rfl) (zaH underlying47 (zaK wr _ 113 (Smp.a x).toArray).drew rfl (by simp [Smp.a, Value.oneCell'])) (by unfold maxLen; omega) (by omega) (by simp; omega) ?_
   intro v' w2 ac ad ax
   obtain ⟨a9, k9, rfl⟩ := zaa ac; have dN := zmk (zku (wr := wr) (n := k) (xs := []) (base := 0) mA.out ad (zak RL.out RP.out (by decide))); have p9 := dN.out.cell 1; have z9 := dN.out.frozen 1; simp at p9; refine hK.out _ _ ?_; clear hK K hS; try simp only [Act.put, zmo, zmp, zmq]
   refine zay 12 (by kernel_rfl) rfl (by kernel_rfl) (by rfl) (fun K hK => ?_); go_simp; refine hK.out _ _ ?_; clear hK K; refine zay 13 (by kernel_rfl) rfl (by kernel_rfl) (by rfl) (fun K hK => ?_); go_simp; refine hK.out _ _ ?_; clear hK K; refine zbC (by kernel_rfl) ?_ _; all_goals
    have cY : Blk (w2.setCell ⟨bp, 1, none⟩ (.slice a9 (k + 1) k9)) bp 54 #[.slice none 0 0, .slice a9 (k + 1) k9, .slice none 0 0, .slice none 0 0, .slice none 0 0, .slice none 0 0, .slice none 0 0] := by simpa using dN.out.set_ 1 (.slice a9 (k + 1) k9)
    have aU : Blk (w2.setCell ⟨bp, 1, none⟩ (.slice a9 (k + 1) k9)) bo 4 #[.bool false] := (((RO.out.alloc (.cells #[.int .u64 x.ref, .int .i64 x.t, .float .f64 x.v] 137)).alloc _).drew.grown ad (Ne.symm (zak RL.out RO.out (by decide)))).far (p := ⟨bp, 1, none⟩) (zns RO.out RP.out (by decide)) _
    have cC : (w2.setCell ⟨bp, 1, none⟩ (.slice a9 (k + 1) k9)).ownsRow w.heap.size 113 3 (.slice a9 (k + 1) k9) (k + 1) ((l.take (k + 1)).flatMap Smp.a) := by
     rw [zan Smp.a l k x HX.out]; exact zaj ac (Fr.put_ w2 bp 1 _) (fun g hg e => zak ac dN.out (by decide) (by rw [hg, e]))
    have fG : Fr (fun j => some j = (Value.slice aL k kL).ownBlock ∨ j = bp) wr (w2.setCell ⟨bp, 1, none⟩ (.slice a9 (k + 1) k9)) :=
     (((((znq (fun j => some j = (Value.slice aL k kL).ownBlock ∨ j = bp) wr).alloc (.cells #[.int .u64 x.ref, .int .i64 x.t, .float .f64 x.v] 137)).alloc _).drew).grown ad (fun g hg => .inl (.inl hg.symm))).setCell (p := ⟨bp, 1, none⟩) (.inl (.inr rfl)) _
    have dp := zaj RV.out fG (fun g hg e => by
     rcases e with e | e
     ·exact zb6 RV.out RL.out (by decide) g hg e.symm
     ·exact zak RV.out RP.out (by decide) (by rw [hg, e]))
    have bM : Fr (fun j => j = bb ∨ j = bp) w (w2.setCell ⟨bp, 1, none⟩ (.slice a9 (k + 1) k9)) := RF.out.trans fG (fun j hj e => by
     rcases e with e | e
     ·have := (RL.out.lt j e.symm).1; omega
     ·exact .inr e)
    have NP := zmk cY; have NO := zmk aU; have NL := zmk cC; have NV := zmk dp; have NF := zmk bM; clear cY aU cC dp bM fG ac ad ax p9 z9 c0 c1 c2 s0 s1 s2 s3 s4; go_wp2; go_roundw
    case rel => exact ⟨k + 1, _, by omega, by go_num, NF, NV, NO, NP, NL⟩
    case measure => simp [intOf]; omega
  ·obtain rfl : k = n := by omega
   have o0 := RO.out.cell 0; have o1 := RO.out.frozen 0; simp at o0; have W1 : Blk (wr.setCell ⟨bo, 0, none⟩ (.bool (zal xs).isSome)) bo 4 #[.bool (zal xs).isSome] := by simpa using RO.out.set_ 0 (.bool (zal xs).isSome)
   have W2 := RP.out.far (p := ⟨bo, 0, none⟩) (zns RP.out RO.out (by decide)) (.bool (zal xs).isSome); have fZ := zaj RL.out (Fr.put_ wr bo 0 (.bool (zal xs).isSome)) (fun g hg e => zak RL.out RO.out (by decide) (by rw [hg, e]))
   have W4 : Fr (fun k => k = bb ∨ k = bp ∨ k = bo) w (wr.setCell ⟨bo, 0, none⟩ (.bool (zal xs).isSome)) := (Fr.mono (S' := fun k => k = bb ∨ k = bp ∨ k = bo) RF.out (fun _ _ e => e.elim (fun h => Or.inl h) (fun h => Or.inr (Or.inl h)))).setCell (p := ⟨bo, 0, none⟩) (.inl (.inr (.inr rfl))) _; rcases ku.out with ⟨rfl, aB⟩ | ⟨t, ae, rfl, aB⟩; all_goals
    rw [aB] at W1 W2 fZ W4; have ib := zmk W1; have jI := zmk W2; have eQ := zmk fZ; have hW4 := zmk W4; clear W1 W2 fZ W4; go_wp2_with fail
    go_end0; refine ⟨rfl, hW4.out, by rw [aB]; exact ib.out, lv, jI.out, ?_⟩; have e1 : l.take k = l := zmt (by rw [HN.out]; exact zmw _); have h3 := eQ.out; rw [e1] at h3; rw [mB.out, HN.out]; exact h3
def spc (p : Int × Nat) : List Value := [.int .i32 p.1, .int .u32 p.2]
def i1 (x : Int) : List Value := [.int .i64 x]
def u1 (x : Nat) : List Value := [.int .u64 x]
def f1 (x : Nat) : List Value := [.float .f64 x]
theorem zki : (prog.info? 361).map (fun i => (i.zero, i.size, i.bytes)) = some (some (.agg #[.int .i32 0, .int .u32 0]), 2, 8) := by kernel_rfl
theorem info319 : (prog.info? 319).map (fun i => (i.zero, i.size, i.bytes)) = some (some (.agg #[.int .i32 0, .int .u32 0]), 2, 8) := by kernel_rfl
theorem zij : (prog.info? 135).map (fun i => (i.zero, i.size, i.bytes)) = some (some (.float .f64 0), 1, 8) := by kernel_rfl
theorem info111 : (prog.info? 111).map (fun i => (i.zero, i.size, i.bytes)) = some (some (.int .u64 0), 1, 8) := by kernel_rfl
theorem info2 : (prog.info? 2).map (fun i => (i.zero, i.size, i.bytes)) = some (some (.int .i64 0), 1, 8) := by kernel_rfl
theorem zje {α : Type} (f : α -> List Value) (h1 : ∀ x, (f x).length = 1) : ∀ (l : List α) (k : Nat) (x : α), l[k]? = some x -> (l.flatMap f)[k]? = (f x)[0]?
 | [], k, x, h => by simp at h
 | y :: l, 0, x, h => by
   simp at h; subst h; rw [zmz, zm8 (by rw [h1]; omega)]
 | y :: l, k + 1, x, h => by
   rw [zmz, zm9 (by rw [h1]; omega), h1, Nat.add_sub_cancel]; exact zje f h1 l k x (by simpa using h)
def ziH (t : TypeId) (size : Nat) (w : World) (n : Nat) (cs : List Value) (r : Ending) (w' : World) : Prop :=
 ∃ v, r = .returned v /\ w'.ownsRow w.heap.size t size v n cs /\ Fr (fun _ => False) w w'
theorem ziP (P : Nat -> Prop) (v : Value) (l : List (Int × Nat)) (w : World) (h : Sl P w v 2 l.length (l.flatMap spc)) (hl : l.length <= 1099511627776) :
 Calls prog 235 #[v] w (ziH 361 2 w l.length (l.flatMap spc)) := by
 obtain ⟨A, c, rfl, ak, aQ, hr⟩ := h; obtain ⟨n, hn⟩ := exE l.length; rw [hn] at hr aQ hl ⊢; have HN := zmk hn; have HR := zmk hr; obtain ⟨i0, aD, aA, az, aC⟩ := info_parts zki; clear hn hr ak; go_enter func235, ntmps235; go_wp2
 go_loopw [3, 8] (fun v i wr => ∃ k : Nat, k <= n /\ i = .int .i64 k /\ wr.ownsRow w.heap.size 361 2 v k ((l.take k).flatMap spc) /\ Fr (fun _ => False) w wr) (fun _ i _ => n - (intOf i).toNat)
 case atStart => exact ⟨0, zmv _, rfl, zmy _ _ _ _, znq _ _⟩
 case round =>
  obtain ⟨k, hk, rfl, ab, hf⟩ := hrel; by_cases hlt : k < n
  ·obtain ⟨g, off, rfl, _, aa⟩ := HR.out (by omega)
   obtain ⟨x, hx⟩ : ∃ x, l[k]? = some x := ⟨_, zmm (by rw [HN.out]; exact hlt)⟩; have cc : ∀ j, j < 2 -> ∀ u, (spc x)[j]? = some u -> wr.cell? ⟨g, off + (k * 2 + j), none⟩ = some u := fun j hj u hu => by
    have := aa (k * 2 + j) u (by rw [zbE spc (fun _ => rfl) l k x hx j hj]; exact hu); rw [hf.cell (p := ⟨g, off + (k * 2 + j), none⟩) (zmr w _ this) (fun e => e)]; exact this
   have c0 : wr.cell? ⟨g, off + k * 2, none⟩ = some (.int .i32 x.1) := cc 0 (by omega) _ rfl; have c1 : wr.cell? ⟨g, off + k * 2 + 1, none⟩ = some (.int .u32 x.2) := cc 1 (by omega) _ rfl; have HC := zmk aa; have HO := zmk ab; have HX := zmk hx; obtain ⟨a', n', k', rfl⟩ := zac ab; clear aa cc ab hx; go_wp2_with (at_builtin; refine Hid.out ?_)
   refine zmk ?_; refine zaf _ rfl _ _ 285 285 rfl w.heap.size 361 i0 _ 2 8 underlying285 aD aA az aC rfl (by decide) _ k ((l.take k).flatMap spc) rfl ((HO.out.alloc _).alloc _) _ 1 (spc x) rfl (zaH underlying285 (zaK wr _ 361 (spc x).toArray) rfl (by simp [spc, Value.oneCell'])) (by unfold maxLen; omega) (by omega) (by have := hf.size; simp; omega) ?_
   intro v' w2 ac ad ax
   have af : w2.ownsRow w.heap.size 361 2 v' (k + 1) ((l.take (k + 1)).flatMap spc) := by rw [zan spc l k x HX.out]; exact ac
   have ar : Fr (fun _ => False) w w2 := ((hf.alloc _).alloc _).grown ad (fun g hg => .inr (((HO.out.lt g hg)).1)); have cH := zmk af; have bg := zmk ar; clear ac ad af ar hf c0 c1 ax
   go_wp2; go_roundw
   case rel => exact ⟨k + 1, by omega, by go_num, cH.out, bg.out⟩
   case measure => simp [intOf]; omega
  ·go_wp2
   go_ret; obtain rfl : k = n := by omega
   refine ⟨_, rfl, ?_, hf⟩; rw [<- HN.out] at ab ⊢; rw [zmL] at ab; exact ab
theorem zgg (P : Nat -> Prop) (v : Value) (l : List (Int × Nat)) (w : World) (h : Sl P w v 2 l.length (l.flatMap spc)) (hl : l.length <= 1099511627776) :
 Calls prog 237 #[v] w (ziH 319 2 w l.length (l.flatMap spc)) := by
 obtain ⟨A, c, rfl, ak, aQ, hr⟩ := h; obtain ⟨n, hn⟩ := exE l.length; rw [hn] at hr aQ hl ⊢; have HN := zmk hn; have HR := zmk hr; obtain ⟨i0, aD, aA, az, aC⟩ := info_parts info319; clear hn hr ak; go_enter func237, ntmps237; go_wp2
 go_loopw [3, 8] (fun v i wr => ∃ k : Nat, k <= n /\ i = .int .i64 k /\ wr.ownsRow w.heap.size 319 2 v k ((l.take k).flatMap spc) /\ Fr (fun _ => False) w wr) (fun _ i _ => n - (intOf i).toNat)
 case atStart => exact ⟨0, zmv _, rfl, zmy _ _ _ _, znq _ _⟩
 case round =>
  obtain ⟨k, hk, rfl, ab, hf⟩ := hrel; by_cases hlt : k < n
  ·obtain ⟨g, off, rfl, _, aa⟩ := HR.out (by omega)
   obtain ⟨x, hx⟩ : ∃ x, l[k]? = some x := ⟨_, zmm (by rw [HN.out]; exact hlt)⟩; have cc : ∀ j, j < 2 -> ∀ u, (spc x)[j]? = some u -> wr.cell? ⟨g, off + (k * 2 + j), none⟩ = some u := fun j hj u hu => by
    have := aa (k * 2 + j) u (by rw [zbE spc (fun _ => rfl) l k x hx j hj]; exact hu); rw [hf.cell (p := ⟨g, off + (k * 2 + j), none⟩) (zmr w _ this) (fun e => e)]; exact this
   have c0 : wr.cell? ⟨g, off + k * 2, none⟩ = some (.int .i32 x.1) := cc 0 (by omega) _ rfl; have c1 : wr.cell? ⟨g, off + k * 2 + 1, none⟩ = some (.int .u32 x.2) := cc 1 (by omega) _ rfl; have HC := zmk aa; have HO := zmk ab; have HX := zmk hx; obtain ⟨a', n', k', rfl⟩ := zac ab; clear aa cc ab hx; go_wp2_with (at_builtin; refine Hid.out ?_)
   refine zmk ?_; refine zaf _ rfl _ _ 188 188 rfl w.heap.size 319 i0 _ 2 8 underlying188 aD aA az aC rfl (by decide) _ k ((l.take k).flatMap spc) rfl ((HO.out.alloc _).alloc _) _ 1 (spc x) rfl (zaH underlying188 (zaK wr _ 319 (spc x).toArray) rfl (by simp [spc, Value.oneCell'])) (by unfold maxLen; omega) (by omega) (by have := hf.size; simp; omega) ?_
   intro v' w2 ac ad ax
   have af : w2.ownsRow w.heap.size 319 2 v' (k + 1) ((l.take (k + 1)).flatMap spc) := by rw [zan spc l k x HX.out]; exact ac
   have ar : Fr (fun _ => False) w w2 := ((hf.alloc _).alloc _).grown ad (fun g hg => .inr (((HO.out.lt g hg)).1)); have cH := zmk af; have bg := zmk ar; clear ac ad af ar hf c0 c1 ax
   go_wp2; go_roundw
   case rel => exact ⟨k + 1, by omega, by go_num, cH.out, bg.out⟩
   case measure => simp [intOf]; omega
  ·go_wp2
   go_ret; obtain rfl : k = n := by omega
   refine ⟨_, rfl, ?_, hf⟩; rw [<- HN.out] at ab ⊢; rw [zmL] at ab; exact ab
theorem zfs (P : Nat -> Prop) (v : Value) (l : List Nat) (w : World) (h : Sl P w v 1 l.length (l.flatMap u1)) (hl : l.length <= 1099511627776) :
 Calls prog 236 #[v] w (ziH 135 1 w l.length (l.flatMap f1)) := by
 obtain ⟨A, c, rfl, ak, aQ, hr⟩ := h; obtain ⟨n, hn⟩ := exE l.length; rw [hn] at hr aQ hl ⊢; have HN := zmk hn; have HR := zmk hr; obtain ⟨i0, aD, aA, az, aC⟩ := info_parts zij; clear hn hr ak; go_enter func236, ntmps236; go_wp2
 go_loopw [3, 8] (fun v i wr => ∃ k : Nat, k <= n /\ i = .int .i64 k /\ wr.ownsRow w.heap.size 135 1 v k ((l.take k).flatMap f1) /\ Fr (fun _ => False) w wr) (fun _ i _ => n - (intOf i).toNat)
 case atStart => exact ⟨0, zmv _, rfl, zmy _ _ _ _, znq _ _⟩
 case round =>
  obtain ⟨k, hk, rfl, ab, hf⟩ := hrel; by_cases hlt : k < n
  ·obtain ⟨g, off, rfl, _, aa⟩ := HR.out (by omega)
   obtain ⟨x, hx⟩ : ∃ x, l[k]? = some x := ⟨_, zmm (by rw [HN.out]; exact hlt)⟩; have c0 : wr.cell? ⟨g, off + k, none⟩ = some (.int .u64 x) := by
    have := aa k (.int .u64 x) (by rw [zje u1 (fun _ => rfl) l k x hx]; rfl); rw [hf.cell (p := ⟨g, off + k, none⟩) (zmr w _ this) (fun e => e)]; exact this
   have HC := zmk aa; have HO := zmk ab; have HX := zmk hx; obtain ⟨a', n', k', rfl⟩ := zac ab; clear aa ab hx
   go_wp2_with (first
    | (go_at_call 167; refine (zfb _ _).mono ?_; rintro r w' ⟨rfl, rfl⟩)
    | (at_builtin; refine Hid.out ?_))
   refine zmk ?_; refine zaf _ rfl _ _ 286 286 rfl w.heap.size 135 i0 _ 1 8 underlying286 aD aA az aC rfl (by decide) _ k ((l.take k).flatMap f1) rfl (HO.out.alloc _) _ 1 (f1 x) rfl (zaH underlying286 (znr wr 135 (f1 x).toArray) rfl (by simp [f1, Value.oneCell'])) (by unfold maxLen; omega) (by omega) (by have := hf.size; simp; omega) ?_
   intro v' w2 ac ad ax
   have af : w2.ownsRow w.heap.size 135 1 v' (k + 1) ((l.take (k + 1)).flatMap f1) := by rw [zan f1 l k x HX.out]; exact ac
   have ar : Fr (fun _ => False) w w2 := (hf.alloc _).grown ad (fun g hg => .inr (((HO.out.lt g hg)).1)); have cH := zmk af; have bg := zmk ar; clear ac ad af ar hf c0 ax
   go_wp2; go_roundw
   case rel => exact ⟨k + 1, by omega, by go_num, cH.out, bg.out⟩
   case measure => simp [intOf]; omega
  ·go_wp2
   go_ret; obtain rfl : k = n := by omega
   refine ⟨_, rfl, ?_, hf⟩; rw [<- HN.out] at ab ⊢; rw [zmL] at ab; exact ab
theorem zdV (P : Nat -> Prop) (v : Value) (l : List Nat) (w : World) (h : Sl P w v 1 l.length (l.flatMap f1)) (hl : l.length <= 1099511627776) :
 Calls prog 238 #[v] w (ziH 111 1 w l.length (l.flatMap u1)) := by
 obtain ⟨A, c, rfl, ak, aQ, hr⟩ := h; obtain ⟨n, hn⟩ := exE l.length; rw [hn] at hr aQ hl ⊢; have HN := zmk hn; have HR := zmk hr; obtain ⟨i0, aD, aA, az, aC⟩ := info_parts info111; clear hn hr ak; go_enter func238, ntmps238; go_wp2
 go_loopw [3, 8] (fun v i wr => ∃ k : Nat, k <= n /\ i = .int .i64 k /\ wr.ownsRow w.heap.size 111 1 v k ((l.take k).flatMap u1) /\ Fr (fun _ => False) w wr) (fun _ i _ => n - (intOf i).toNat)
 case atStart => exact ⟨0, zmv _, rfl, zmy _ _ _ _, znq _ _⟩
 case round =>
  obtain ⟨k, hk, rfl, ab, hf⟩ := hrel; by_cases hlt : k < n
  ·obtain ⟨g, off, rfl, _, aa⟩ := HR.out (by omega)
   obtain ⟨x, hx⟩ : ∃ x, l[k]? = some x := ⟨_, zmm (by rw [HN.out]; exact hlt)⟩; have c0 : wr.cell? ⟨g, off + k, none⟩ = some (.float .f64 x) := by
    have := aa k (.float .f64 x) (by rw [zje f1 (fun _ => rfl) l k x hx]; rfl); rw [hf.cell (p := ⟨g, off + k, none⟩) (zmr w _ this) (fun e => e)]; exact this
   have HC := zmk aa; have HO := zmk ab; have HX := zmk hx; obtain ⟨a', n', k', rfl⟩ := zac ab; clear aa ab hx
   go_wp2_with (first
    | (go_at_call 73; refine (zdD _ _).mono ?_; rintro r w' ⟨rfl, rfl⟩)
    | (at_builtin; refine Hid.out ?_))
   refine zmk ?_; refine zaf _ rfl _ _ 190 190 rfl w.heap.size 111 i0 _ 1 8 underlying190 aD aA az aC rfl (by decide) _ k ((l.take k).flatMap u1) rfl (HO.out.alloc _) _ 1 (u1 x) rfl (zaH underlying190 (znr wr 111 (u1 x).toArray) rfl (by simp [u1, Value.oneCell'])) (by unfold maxLen; omega) (by omega) (by have := hf.size; simp; omega) ?_
   intro v' w2 ac ad ax
   have af : w2.ownsRow w.heap.size 111 1 v' (k + 1) ((l.take (k + 1)).flatMap u1) := by rw [zan u1 l k x HX.out]; exact ac
   have ar : Fr (fun _ => False) w w2 := (hf.alloc _).grown ad (fun g hg => .inr (((HO.out.lt g hg)).1)); have cH := zmk af; have bg := zmk ar; clear ac ad af ar hf c0 ax
   go_wp2; go_roundw
   case rel => exact ⟨k + 1, by omega, by go_num, cH.out, bg.out⟩
   case measure => simp [intOf]; omega
  ·go_wp2
   go_ret; obtain rfl : k = n := by omega
   refine ⟨_, rfl, ?_, hf⟩; rw [<- HN.out] at ab ⊢; rw [zmL] at ab; exact ab
end Go.Proofs.YtbkookiigkckdaaGreatDoor
