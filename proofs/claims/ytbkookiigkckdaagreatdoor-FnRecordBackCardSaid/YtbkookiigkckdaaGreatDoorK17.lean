/- Texts of this seat, merged and shortened. -/
import Derived.Test.YtbkookiigkckdaaGreatDoorK16
set_option linter.unusedVariables false
set_option linter.unusedSimpArgs false
set_option maxRecDepth 100000
set_option maxHeartbeats 8000000
namespace Go.Proofs.YtbkookiigkckdaaGreatDoor
open Go.RowKit Go.Proofs.Tryz
theorem info176 : (prog.info? 176).map (fun i => (i.zero, i.size, i.bytes)) = some (some (.agg #[.int .u64 0, .int .u8 0, .string ⟨#[]⟩, .string ⟨#[]⟩]), 4, 48) := by kernel_rfl
def zlJ (pre : List Mta) (xs : List UInt8) : List Mta := match zaT xs with | some l => pre ++ l | none => []
def ReadEndsT (w : World) (bb bp bo : Nat) (pre : List Mta) (xs : List UInt8) (r : Ending) (w' : World) : Prop :=
 r = .returned (.tuple #[]) /\ Fr (fun k => k = bb ∨ k = bp ∨ k = bo) w w' /\ Blk w' bo 4 #[.bool (zaT xs).isSome] /\
  ∃ lv, Blk w' bp 54 #[.slice none 0 0, .slice none 0 0, .slice none 0 0, .slice none 0 0, lv, .slice none 0 0, .slice none 0 0] /\ w'.ownsRow w.heap.size 176 4 lv (zlJ pre xs).length ((zlJ pre xs).flatMap Mta.c)
theorem outT_len (pre : List Mta) (xs : List UInt8) : (zlJ pre xs).length <= pre.length + xs.length := by
 unfold zlJ; split
 ·rename_i h
  have := zek h; rw [zlN]; omega
 ·simp
theorem zhT {w w' : World} {base : Nat} {o : Option Nat} {pre : List Mta} {xs : List UInt8} {r : Ending} (h : zci w base o pre xs r w') :
 ∃ v' e, r = .returned (.tuple #[v', e]) /\ w'.ownsRow base 174 4 v' (zlJ pre xs).length ((zlJ pre xs).flatMap Mta.c) /\ Fr (fun k => some k = o) w w' /\ ((e = .nilIface /\ (zaT xs).isSome = true) ∨ (∃ t a, e = .iface t a /\ (zaT xs).isSome = false)) := by
 unfold zci at h; unfold zlJ; rcases hd : zaT xs with _ | l
 ·rw [hd] at h
  obtain ⟨hf, t, a, rfl⟩ := h; exact ⟨_, _, rfl, zl0 _ _ _ _, hf, .inr ⟨_, _, rfl, rfl⟩⟩
 ·rw [hd] at h
  obtain ⟨hf, v', rfl, ho⟩ := h; exact ⟨_, _, rfl, ho, hf, .inl ⟨rfl, rfl⟩⟩
theorem zfM {W w5 w6 : World} {b t : Nat} {cs : Array Value} {v5 : Value} {n : Nat} {xs : List Value} (h : Blk W b t cs) (aq : Fr (fun _ => False) W.drew w5) (ho : w5.ownsRow W.drew.heap.size 174 4 v5 n xs) (aS : Fr (fun k => some k = v5.ownBlock) w5 w6) : Blk w6 b t cs :=
 (h.drew.fr aq (fun e => e)).fr aS (fun e => by have h1 := (ho.lt b e.symm).1; have h2 : b < W.heap.size := h.lt; exact zmw _ (zmb h2 h1))
theorem zck : (∀ (_ : True) (te : TypeId) (pe : Value) (bb bk bq bp bo : Nat) (P : Nat -> Prop) (q0 q1 q2 q3 q4 q5 q6 v : Value) (xs : List UInt8) (w : World) (hb : Blk w bb 44 #[v]) (hv : Sl P w v 1 xs.length (bc xs)) (hk : Blk w bk 3 #[.int .i64 5]) (hq : Blk w bq 54 #[q0, q1, q2, q3, q4, q5, q6]) (pre : List Mrk) (hs : Sl P w q5 2 pre.length (pre.flatMap Mrk.c)) (bj : pre.length <= 1073741824)
 (hp : Blk w bp 54 #[.slice none 0 0, .slice none 0 0, .slice none 0 0, .slice none 0 0, .slice none 0 0, .slice none 0 0, .slice none 0 0]) (ho : Blk w bo 4 #[.bool false]) (hE : w.cell? ⟨2, 0, none⟩ = some (.iface te pe)) (bg : xs.length <= 1073741824)
 (dX : ∀ g, P g -> g ≠ bb) (dy : bp ≠ bq) (h2 : bb ≠ 2 /\ bp ≠ 2 /\ bo ≠ 2),
 Calls prog 66 #[.pointer (some ⟨bb, 0, none⟩), .pointer (some ⟨bk, 0, none⟩), .pointer (some ⟨bq, 0, none⟩), .pointer (some ⟨bp, 0, none⟩), .pointer (some ⟨bo, 0, none⟩)] w (ReadEndsM w bb bp bo pre xs)) /\ (∀ (_ : True) (te : TypeId) (pe : Value) (bb bk bq bp bo : Nat) (P : Nat -> Prop) (q0 q1 q2 q3 q4 q5 q6 v : Value) (xs : List UInt8) (w : World) (hb : Blk w bb 44 #[v]) (hv : Sl P w v 1 xs.length (bc xs)) (hk : Blk w bk 3 #[.int .i64 6]) (hq : Blk w bq 54 #[q0, q1, q2, q3, q4, q5, q6]) (pre : List Mta) (hs : Sl P w q4 4 pre.length (pre.flatMap Mta.c)) (bj : pre.length <= 1073741824)
 (hp : Blk w bp 54 #[.slice none 0 0, .slice none 0 0, .slice none 0 0, .slice none 0 0, .slice none 0 0, .slice none 0 0, .slice none 0 0]) (ho : Blk w bo 4 #[.bool false]) (hE : w.cell? ⟨2, 0, none⟩ = some (.iface te pe)) (bg : xs.length <= 1073741824)
 (dX : ∀ g, P g -> g ≠ bb) (dy : bp ≠ bq) (h2 : bb ≠ 2 /\ bp ≠ 2 /\ bo ≠ 2)
 (al : St -> Prop) (hG : ∀ l, al (some l) -> zeN (some l) /\ al (zbf (some l)).2) (aY : ∀ r, xs = 6 :: r -> al (some r)),
 Calls prog 66 #[.pointer (some ⟨bb, 0, none⟩), .pointer (some ⟨bk, 0, none⟩), .pointer (some ⟨bq, 0, none⟩), .pointer (some ⟨bp, 0, none⟩), .pointer (some ⟨bo, 0, none⟩)] w (ReadEndsT w bb bp bo pre xs)) := by
 refine ⟨fun aj te pe bb bk bq bp bo P q0 q1 q2 q3 q4 q5 q6 v xs w hb hv hk hq pre hs bj hp ho hE bg dX dy h2 => ?_, fun cf te pe bb bk bq bp bo P q0 q1 q2 q3 q4 q5 q6 v xs w hb hv hk hq pre hs bj hp ho hE bg dX dy h2 al hG aY => ?_⟩; all_goals
  obtain ⟨i0, aB, ay, ax, aA⟩ := info_parts zfd
  first | (guard_hyp cf; have ib := zlM hG) | skip
  first | (guard_hyp cf; have ia := zlM aY) | skip
  first | (guard_hyp cf; clear hG aY) | skip
  have HB := zlM hb; have HV := zlM hv; have HK := zlM hk; have HQ := zlM hq; have HS := zlM hs; have HP := zlM hp; have HO := zlM ho; have HE := zlM hE; have kr := zlM dX; have bT : ∃ A m c, v = .slice A m c := let ⟨A, c, h, _⟩ := hv; ⟨A, _, c, h⟩
  obtain ⟨A, m, c, rfl⟩ := bT; clear hb hv hk hq hs hp ho hE dX; go_enter func66, ntmps66; go_wp2_with (first | (go_at_call 67; refine (zdz _ _).mono ?_; rintro r w1 ⟨v1, rfl, ⟨a, rfl⟩, ag⟩; refine Hid.out ?_))
  have av := ((HB.out.fr ag (fun e => e)).alloc (.cells #[.slice (some a) 0 0, .string ⟨#[]⟩, .slice none 0 0] 119)).alloc (.cells #[] 5); have b1 := av.cell 0; simp at b1; clear av; refine zlM ?_; go_wp2_with (at_builtin; refine Hid.out ?_)
  have er := zmQ (base := w.heap.size) (e := 5) (size := 1) (w1.alloc (.cells #[.slice (some a) 0 0, .string ⟨#[]⟩, .slice none 0 0] 119)) #[] 0 (by have := ag.size; simp; omega) (zlX _) rfl; have dC : Fr (fun _ => False) w ((w1.alloc (.cells #[.slice (some a) 0 0, .string ⟨#[]⟩, .slice none 0 0] 119)).alloc (.cells #[] 5)) := (ag.alloc _).alloc _; have bw := ag.size
  refine zlM ?_; have kV : (w1.alloc (.cells #[.slice (some a) 0 0, .string ⟨#[]⟩, .slice none 0 0] 119)).heap.size = w1.heap.size + 1 := by simp
  rw [kV] at er; clear b1; generalize World.alloc _ (Obj.cells #[] 5) = WA at er dC ⊢; have hsA := dC.size; have cO := zde underlying44 (HV.out.fr dC (fun _ _ e => e)) (zfx xs)
  refine zae _ rfl _ _ 44 44 rfl w.heap.size 5 i0 (.int .u8 0) 1 1 underlying44 aB ay ax aA rfl (by decide) (.slice (some ⟨w1.heap.size + 1, 0, none⟩) 0 0) 0 [] rfl er (.slice A m c) xs.length (bc xs) rfl cO (by unfold maxLen; omega) (by omega) (by omega) ?_; intro v' w2 ac ad aw
  rw [zmh, zmo] at ac; obtain ⟨a2, k2, rfl⟩ := zaa ac; have eN : ∀ k, (Value.slice (some ⟨w1.heap.size + 1, 0, none⟩) 0 0).ownBlock = some k -> w.heap.size <= k := fun k hk => by
   have hk : w1.heap.size + 1 = k := zmB hk; omega
  have F2 : Fr (fun _ => False) w w2 := dC.grown ad (fun k hk => .inr (eN k hk)); have dx : ∃ g2 aM, a2 = some ⟨g2, 0, none⟩ /\ w.heap.size <= g2 /\ Blk w2 g2 5 aM /\ xs.length <= k2 /\ k2 <= maxLen /\ aM.toList.take xs.length = bc xs := by
   rcases ac.2 with ⟨h, _⟩ | ⟨g2, aP, aM, h, h1, h3, h4, h5, _, h6⟩
   ·rw [h] at aw
    rcases aw with aw | aw <;> exact absurd aw (by simp [Value.ownBlock])
   ·injection h with e1 e2 e3
    subst e3; exact ⟨g2, aM, e1, h1, h3, h4, h5, by simpa using h6⟩
  have cr : ∀ k, (Value.slice a2 xs.length k2).ownBlock = some k -> w.heap.size <= k := fun k hk => (ac.lt k hk).1; have lB := HB.out.lt; have gB := HB.out.fr F2 (fun e => e); have y0 := gB.cell 0; have y1 := gB.frozen 0; simp at y0
  have F3 : Fr (fun k => k = bb) w (w2.setCell ⟨bb, 0, none⟩ (.slice a2 xs.length k2)) := (F2.mono (S' := fun k => k = bb) (fun _ _ e => e.elim)).setCell (p := ⟨bb, 0, none⟩) (.inl rfl) _; have O3 : (w2.setCell ⟨bb, 0, none⟩ (.slice a2 xs.length k2)).ownsRow w.heap.size 5 1 (.slice a2 xs.length k2) xs.length (bc xs) := zai ac (Fr.put_ w2 bb 0 _) (fun k hk e => by have := cr k hk; omega)
  have B3 : Blk (w2.setCell ⟨bb, 0, none⟩ (.slice a2 xs.length k2)) bb 44 #[.slice a2 xs.length k2] := by simpa using gB.set_ 0 (.slice a2 xs.length k2)
  have K3 := (HK.out.fr F3 (fun e => zmT HK.out HB.out (by decide) e)).cell 0; have Q3 := HQ.out.fr F3 (fun e => zmT HQ.out HB.out (by decide) e); have P3 := HP.out.fr F3 (fun e => zmT HP.out HB.out (by decide) e); have O4 := HO.out.fr F3 (fun e => zmT HO.out HB.out (by decide) e)
  have E3 : (w2.setCell ⟨bb, 0, none⟩ (.slice a2 xs.length k2)).cell? ⟨2, 0, none⟩ = some (.iface te pe) := by
   rw [F3.cell (p := ⟨2, 0, none⟩) (zlT w _ HE.out) (fun e => h2.1 e.symm)]; exact HE.out
  simp at K3; have bH := zlM F3; have es := zlM O3; have bI := zlM B3; have c8 := zlM Q3; have eO := zlM P3; have dq := zlM O4; have dK := zlM E3; have o9 := zlM cr; obtain ⟨g2, aM, rfl, eo, ct, cR, dz, dw⟩ := dx
  have R3 : Rec te pe (w2.setCell ⟨bb, 0, none⟩ (.slice (some ⟨g2, 0, none⟩) xs.length k2)) g2 aM xs (.slice (some ⟨g2, 0, none⟩) xs.length k2) := by
   refine ⟨0, k2, rfl, ct.far (p := ⟨bb, 0, none⟩) (by show g2 ≠ bb; omega) _, cR, ⟨by simp [maxLen] at dz; omega, by omega⟩, fun j u hu => ?_, E3⟩; rw [zmh, <- Array.getElem?_toList]; have hj : j < xs.length := by
    rcases zmf j xs.length with h | h
    ·exact h
    ·rw [zmg (by rw [zdF]; exact h)] at hu; cases hu
   rw [<- dw, List.getElem?_take_of_lt hj] at hu; exact hu
  have bC := zlM R3; have kU := ct.lt; clear R3 dz dw ct; clear F2 F3 O3 B3 Q3 P3 O4 E3 gB eN cr ac ad aw cO er dC ag; go_wp2_with fail
  generalize w2.setCell ⟨bb, 0, none⟩ (.slice (some ⟨g2, 0, none⟩) xs.length k2) = W3 at bH es bI c8 eO dq dK bC ⊢; have f9 := bC.out; have gl : g2 < W3.heap.size := let ⟨_, _, _, h, _⟩ := f9; h.lt
  have jc : 2 < W3.heap.size := zlT W3 _ dK.out; clear f9
  first | (guard_hyp aj; have hS3 : Sl P W3.drew q5 2 pre.length (pre.flatMap Mrk.c) := HS.out.fr bH.out.drew (fun g hg e => kr.out g hg e)) | (have hS3 : Sl P W3.drew q4 4 pre.length (pre.flatMap Mta.c) := HS.out.fr bH.out.drew (fun g hg e => kr.out g hg e))
  first | (guard_hyp aj; have eH := zex P q5 pre W3.drew hS3 (by omega)) | (have eH := zec P q4 pre W3.drew hS3 (by omega))
  first | (guard_hyp aj; have eZ : ∃ A m c, q5 = .slice A m c := let ⟨A, c, h, _⟩ := HS.out; ⟨A, _, c, h⟩) | (have eZ : ∃ A m c, q4 = .slice A m c := let ⟨A, c, h, _⟩ := HS.out; ⟨A, _, c, h⟩)
  obtain ⟨Aq, mq, cq, rfl⟩ := eZ; have x0 := bI.out.cell 0
  first | (guard_hyp aj; have x1 := c8.out.cell 5) | (have x1 := c8.out.cell 4)
  have ky : W3.drew.cell? ⟨bb, 0, none⟩ = some (.slice (some ⟨g2, 0, none⟩) xs.length k2) := x0
  first | (guard_hyp aj; have ji : W3.drew.cell? ⟨bq, 5, none⟩ = some (.slice Aq mq cq) := x1) | (have ji : W3.drew.cell? ⟨bq, 4, none⟩ = some (.slice Aq mq cq) := x1)
  simp at x0 x1; clear y0 y1 K3
  first
   | guard_hyp aj
     go_region_held3 (fun w' => w'.cell? ⟨bb, 0, none⟩ = some (.slice (some ⟨g2, 0, none⟩) xs.length k2) /\ w'.cell? ⟨bq, 5, none⟩ = some (.slice Aq mq cq))
      ((first | (go_split_ands; refine ⟨?_, ?_⟩ <;> first | exact (bI.out.drew.fr aq (fun e => e)).cell 0 | exact (c8.out.drew.fr aq (fun e => e)).cell 5) | (go_split_ands; refine ⟨?_, ?_⟩ <;> first | exact KB.out.cell 0 | exact KQ.out.cell 5) | go_keep))
      ((first
        | (go_at_call 80; refine eH.mono ?_; rintro r5 w5 ⟨v5, rfl, am, aq⟩)
        | (go_at_call 79; refine (zhc te pe _ g2 W3.drew.heap.size aM pre xs _ v5 w5 (bC.out.fr (w := W3) (((zmR (fun _ => False) W3).drew).same aq) (fun e => e) (fun e => e)) am ⟨gl, jc, aq.size⟩ bj).mono ?_; rintro r6 w6 eI; obtain ⟨v6, e6, rfl, aO, aS, cn⟩ := zgn eI; clear eI; have KB := zlM (zfP bI.out aq am aS); have KQ := zlM (zfP c8.out aq am aS))))
   | go_region_held3 (fun w' => w'.cell? ⟨bb, 0, none⟩ = some (.slice (some ⟨g2, 0, none⟩) xs.length k2) /\ w'.cell? ⟨bq, 4, none⟩ = some (.slice Aq mq cq))
      ((first | (go_split_ands; refine ⟨?_, ?_⟩ <;> first | exact (bI.out.drew.fr aq (fun e => e)).cell 0 | exact (c8.out.drew.fr aq (fun e => e)).cell 4) | (go_split_ands; refine ⟨?_, ?_⟩ <;> first | exact KB.out.cell 0 | exact KQ.out.cell 4) | go_keep))
      ((first
        | (go_at_call 82; refine eH.mono ?_; rintro r5 w5 ⟨v5, rfl, am, aq⟩)
        | (go_at_call 81; refine (zi3 al ib.out te pe _ g2 W3.drew.heap.size aM pre xs _ v5 w5 (bC.out.fr (w := W3) (((zmR (fun _ => False) W3).drew).same aq) (fun e => e) (fun e => e)) am ⟨gl, jc, aq.size⟩ bj ia.out).mono ?_; rintro r6 w6 eI; obtain ⟨v6, e6, rfl, aO, aS, cn⟩ := zhT eI; clear eI; have KB := zlM (zfM bI.out aq am aS); have KQ := zlM (zfM c8.out aq am aS))))
  have T6 : Fr (fun k => k = bb) w w6 := ((bH.out.trans (((zmR (fun _ => False) W3).drew).same aq) (fun _ _ e => e.elim)).trans aS (fun k hk e => by
   have h1 := (am.lt k e.symm).1; have h2 := bH.out.size
   simp at h1; omega))
  first | (guard_hyp aj; have P6 := zfP eO.out aq am aS) | (have P6 := zfM eO.out aq am aS)
  first | (guard_hyp aj; have O6 := zfP dq.out aq am aS) | (have O6 := zfM dq.out aq am aS)
  have kC : w.heap.size <= W3.drew.heap.size := bH.out.size; have V6 := zah aO kC; have kq := zlM T6; have jf := zlM P6; have gq := zlM O6; have fy := zlM V6; have ks := zlM cn; have kJ := aq.size; have kI := aS.size; have gL : ∀ k, v6.ownBlock = some k -> k < w6.heap.size := fun k hk => zar aO hk
  clear x0 x1 ky ji eH T6 P6 O6 V6 cn am aq aO aS KB KQ es bI c8 eO dq dK bC bH
  first | (guard_hyp aj; obtain ⟨l, hl⟩ := exE (zlK pre xs)) | (obtain ⟨l, hl⟩ := exE (zlJ pre xs))
  rw [hl] at fy; have mB := zlM hl; clear hl; obtain ⟨a6, k6, rfl⟩ := zaa fy.out; go_wp2_with fail
  obtain ⟨n, hn⟩ := exE l.length; have HN := zlM hn; rw [hn] at fy gL ⊢; clear hn
  first | (guard_hyp aj; obtain ⟨i1, gD, ek, dZ, fI⟩ := info_parts info168) | (obtain ⟨i1, gD, ek, dZ, fI⟩ := info_parts info176)
  first
   | guard_hyp aj
     go_loopw [178] (fun i wr => ∃ (k : Nat) (lv : Value), k <= n /\ i = .int .i64 k /\ Hid (Fr (fun j => j = bb ∨ j = bp) w wr) /\ Hid (wr.ownsRow w.heap.size 166 2 (.slice a6 n k6) n (l.flatMap Mrk.c)) /\ Hid (Blk wr bo 4 #[.bool false]) /\
      Hid (Blk wr bp 54 #[.slice none 0 0, .slice none 0 0, .slice none 0 0, .slice none 0 0, .slice none 0 0, lv, .slice none 0 0]) /\ Hid (wr.ownsRow w.heap.size 168 2 lv k ((l.take k).flatMap Mrk.c))) (fun i _ => n - (intOf i).toNat)
   | go_loopw [207] (fun i wr => ∃ (k : Nat) (lv : Value), k <= n /\ i = .int .i64 k /\ Hid (Fr (fun j => j = bb ∨ j = bp) w wr) /\ Hid (wr.ownsRow w.heap.size 174 4 (.slice a6 n k6) n (l.flatMap Mta.c)) /\ Hid (Blk wr bo 4 #[.bool false]) /\
      Hid (Blk wr bp 54 #[.slice none 0 0, .slice none 0 0, .slice none 0 0, .slice none 0 0, lv, .slice none 0 0, .slice none 0 0]) /\ Hid (wr.ownsRow w.heap.size 176 4 lv k ((l.take k).flatMap Mta.c))) (fun i _ => n - (intOf i).toNat)
  case atStart => exact ⟨0, _, zlX _, rfl, zlM (Fr.mono kq.out (fun _ _ e => Or.inl e)), fy, gq, jf, zlM (zl0 _ _ _ _)⟩
  case round =>
   obtain ⟨k, lv, hk, rfl, RF, RV, RO, RP, RL⟩ := hrel; by_cases hlt : k < n
   ·obtain ⟨A7, c7, e7, _, _, jt⟩ := zmU RV.out
    injection e7 with e7 _ nF; subst e7 nF; obtain ⟨g7, bi, rfl, _, bG⟩ := jt (by omega); obtain ⟨x, hx⟩ : ∃ x, l[k]? = some x := ⟨_, zlO (by rw [HN.out]; exact hlt)⟩
    first
     | guard_hyp aj
       have cc : ∀ j, j < 2 -> ∀ u, (Mrk.c x)[j]? = some u -> wr.cell? ⟨g7, bi + (k * 2 + j), none⟩ = some u := fun j hj u hu =>
        bG (k * 2 + j) u (by rw [zbB Mrk.c (fun _ => rfl) l k x hx j hj]; exact hu)
     | have cc : ∀ j, j < 4 -> ∀ u, (Mta.c x)[j]? = some u -> wr.cell? ⟨g7, bi + (k * 4 + j), none⟩ = some u := fun j hj u hu =>
        bG (k * 4 + j) u (by rw [zdB Mta.c (fun _ => rfl) l k x hx j hj]; exact hu)
    first | (guard_hyp aj; have c0 : wr.cell? ⟨g7, bi + k * 2, none⟩ = some (.int .u64 x.ref) := cc 0 (by omega) _ rfl) | (have c0 : wr.cell? ⟨g7, bi + k * 4, none⟩ = some (.int .u64 x.ref) := cc 0 (by omega) _ rfl)
    first | (guard_hyp aj; have c1 : wr.cell? ⟨g7, bi + k * 2 + 1, none⟩ = some (.int .u64 x.mm) := cc 1 (by omega) _ rfl) | (have c1 : wr.cell? ⟨g7, bi + k * 4 + 1, none⟩ = some (.int .u8 x.ty.toNat) := cc 1 (by omega) _ rfl)
    first | (guard_hyp cf; have c2 : wr.cell? ⟨g7, bi + k * 4 + 2, none⟩ = some (.string x.unit) := cc 2 (by omega) _ rfl) | skip
    first | (guard_hyp cf; have c3 : wr.cell? ⟨g7, bi + k * 4 + 3, none⟩ = some (.string x.help) := cc 3 (by omega) _ rfl) | skip
    have HX := zlM hx; obtain ⟨aL, kL, rfl⟩ := zaa RL.out; have lP := RP.out.lt; have bF := RF.out.size
    first | (guard_hyp aj; have kS : k < 1099511627776 + 1073741824 := by have h1 := outM_len pre xs; rw [mB.out, HN.out] at h1; omega) | (have kS : k < 1099511627776 + 1073741824 := by have h1 := outT_len pre xs; rw [mB.out, HN.out] at h1; omega)
    first | (guard_hyp aj; have fc := RP.out.alloc (.cells #[.int .u64 x.ref, .int .u64 x.mm] 166)) | (have fc := RP.out.alloc (.cells #[.int .u64 x.ref, .int .u8 x.ty.toNat, .string x.unit, .string x.help] 174))
    first | (guard_hyp aj; have s3 := fc.cell 5) | (have s3 := fc.cell 4)
    simp only [zl7, zl5, zl6] at s3; have mA := zlM fc; clear bG jt cc hx fc; go_wp2_with (at_builtin; refine Hid.out ?_)
    refine zlM ?_
    first | (guard_hyp aj; refine zae _ rfl _ _ 51 51 rfl w.heap.size 168 i1 _ 2 16 underlying51 gD ek dZ fI rfl (by decide) (.slice aL k kL) k ((l.take k).flatMap Mrk.c) rfl ((RL.out.alloc _).alloc _) _ 1 (Mrk.c x) rfl (zaF underlying51 (zaL wr _ 168 (Mrk.c x).toArray) rfl (by simp [Mrk.c, Value.oneCell'])) (by unfold maxLen; omega) (by omega) (by simp; omega) ?_) | (refine zae _ rfl _ _ 50 50 rfl w.heap.size 176 i1 _ 4 48 underlying50 gD ek dZ fI rfl (by decide) (.slice aL k kL) k ((l.take k).flatMap Mta.c) rfl ((RL.out.alloc _).alloc _) _ 1 (Mta.c x) rfl (zaF underlying50 (zaL wr _ 176 (Mta.c x).toArray) rfl (by simp [Mta.c, Value.oneCell'])) (by unfold maxLen; omega) (by omega) (by simp; omega) ?_)
    intro v' w2 ac ad aw
    obtain ⟨a9, k9, rfl⟩ := zaa ac; have dQ := zlM ((mA.out.alloc _).grown ad (Ne.symm (zak RL.out RP.out (by decide))))
    first | (guard_hyp aj; have p9 := dQ.out.cell 5) | (have p9 := dQ.out.cell 4)
    first | (guard_hyp aj; have z9 := dQ.out.frozen 5) | (have z9 := dQ.out.frozen 4)
    simp at p9
    first | (guard_hyp aj; have db : Blk (w2.setCell ⟨bp, 5, none⟩ (.slice a9 (k + 1) k9)) bp 54 #[.slice none 0 0, .slice none 0 0, .slice none 0 0, .slice none 0 0, .slice none 0 0, .slice a9 (k + 1) k9, .slice none 0 0] := by simpa using dQ.out.set_ 5 (.slice a9 (k + 1) k9)) | (have db : Blk (w2.setCell ⟨bp, 4, none⟩ (.slice a9 (k + 1) k9)) bp 54 #[.slice none 0 0, .slice none 0 0, .slice none 0 0, .slice none 0 0, .slice a9 (k + 1) k9, .slice none 0 0, .slice none 0 0] := by simpa using dQ.out.set_ 4 (.slice a9 (k + 1) k9))
    first | (guard_hyp aj; have aT : Blk (w2.setCell ⟨bp, 5, none⟩ (.slice a9 (k + 1) k9)) bo 4 #[.bool false] := (((RO.out.alloc (.cells #[.int .u64 x.ref, .int .u64 x.mm] 166)).alloc _).grown ad (Ne.symm (zak RL.out RO.out (by decide)))).far (p := ⟨bp, 5, none⟩) (zmT RO.out RP.out (by decide)) _) | (have aT : Blk (w2.setCell ⟨bp, 4, none⟩ (.slice a9 (k + 1) k9)) bo 4 #[.bool false] := (((RO.out.alloc (.cells #[.int .u64 x.ref, .int .u8 x.ty.toNat, .string x.unit, .string x.help] 174)).alloc _).grown ad (Ne.symm (zak RL.out RO.out (by decide)))).far (p := ⟨bp, 4, none⟩) (zmT RO.out RP.out (by decide)) _)
    first
     | guard_hyp aj
       have cE : (w2.setCell ⟨bp, 5, none⟩ (.slice a9 (k + 1) k9)).ownsRow w.heap.size 168 2 (.slice a9 (k + 1) k9) (k + 1) ((l.take (k + 1)).flatMap Mrk.c) := by
        rw [zam Mrk.c l k x HX.out]; exact zai ac (Fr.put_ w2 bp 5 _) (fun g hg e => zak ac dQ.out (by decide) (by rw [hg, e]))
     | have cE : (w2.setCell ⟨bp, 4, none⟩ (.slice a9 (k + 1) k9)).ownsRow w.heap.size 176 4 (.slice a9 (k + 1) k9) (k + 1) ((l.take (k + 1)).flatMap Mta.c) := by
        rw [zam Mta.c l k x HX.out]; exact zai ac (Fr.put_ w2 bp 4 _) (fun g hg e => zak ac dQ.out (by decide) (by rw [hg, e]))
    first
     | guard_hyp aj
       have fG : Fr (fun j => some j = (Value.slice aL k kL).ownBlock ∨ j = bp) wr (w2.setCell ⟨bp, 5, none⟩ (.slice a9 (k + 1) k9)) :=
        ((((zmR (fun j => some j = (Value.slice aL k kL).ownBlock ∨ j = bp) wr).alloc (.cells #[.int .u64 x.ref, .int .u64 x.mm] 166)).alloc _).grown ad (fun g hg => .inl (.inl hg.symm))).setCell (p := ⟨bp, 5, none⟩) (.inl (.inr rfl)) _
     | have fG : Fr (fun j => some j = (Value.slice aL k kL).ownBlock ∨ j = bp) wr (w2.setCell ⟨bp, 4, none⟩ (.slice a9 (k + 1) k9)) :=
        ((((zmR (fun j => some j = (Value.slice aL k kL).ownBlock ∨ j = bp) wr).alloc (.cells #[.int .u64 x.ref, .int .u8 x.ty.toNat, .string x.unit, .string x.help] 174)).alloc _).grown ad (fun g hg => .inl (.inl hg.symm))).setCell (p := ⟨bp, 4, none⟩) (.inl (.inr rfl)) _
    have du := zai RV.out fG (fun g hg e => by
     rcases e with e | e
     ·exact zcb RV.out RL.out (by decide) g hg e.symm
     ·exact zak RV.out RP.out (by decide) (by rw [hg, e]))
    first
     | guard_hyp aj
       have bM : Fr (fun j => j = bb ∨ j = bp) w (w2.setCell ⟨bp, 5, none⟩ (.slice a9 (k + 1) k9)) := RF.out.trans fG (fun j hj e => by
        rcases e with e | e
        ·have := (RL.out.lt j e.symm).1; omega
        ·exact .inr e)
     | have bM : Fr (fun j => j = bb ∨ j = bp) w (w2.setCell ⟨bp, 4, none⟩ (.slice a9 (k + 1) k9)) := RF.out.trans fG (fun j hj e => by
        rcases e with e | e
        ·have := (RL.out.lt j e.symm).1; omega
        ·exact .inr e)
    have NP := zlM db; have NO := zlM aT; have NL := zlM cE; have NV := zlM du; have NF := zlM bM
    first | (guard_hyp aj; clear db aT cE du bM fG ac ad aw c0 c1 s3) | (clear db aT cE du bM fG ac ad aw c0 c1 c2 c3 s3)
    go_wp2; go_roundw
    case rel => exact ⟨k + 1, _, by omega, by go_num, NF, NV, NO, NP, NL⟩
    case measure => simp [intOf]; omega
   ·obtain rfl : k = n := by omega
    have o0 := RO.out.cell 0; have o1 := RO.out.frozen 0; simp at o0
    first | (guard_hyp aj; have W1 : Blk (wr.setCell ⟨bo, 0, none⟩ (.bool (zaG xs).isSome)) bo 4 #[.bool (zaG xs).isSome] := by simpa using RO.out.set_ 0 (.bool (zaG xs).isSome)) | (have W1 : Blk (wr.setCell ⟨bo, 0, none⟩ (.bool (zaT xs).isSome)) bo 4 #[.bool (zaT xs).isSome] := by simpa using RO.out.set_ 0 (.bool (zaT xs).isSome))
    first | (guard_hyp aj; have W2 := RP.out.far (p := ⟨bo, 0, none⟩) (zmT RP.out RO.out (by decide)) (.bool (zaG xs).isSome)) | (have W2 := RP.out.far (p := ⟨bo, 0, none⟩) (zmT RP.out RO.out (by decide)) (.bool (zaT xs).isSome))
    first | (guard_hyp aj; have ga := zai RL.out (Fr.put_ wr bo 0 (.bool (zaG xs).isSome)) (fun g hg e => zak RL.out RO.out (by decide) (by rw [hg, e]))) | (have ga := zai RL.out (Fr.put_ wr bo 0 (.bool (zaT xs).isSome)) (fun g hg e => zak RL.out RO.out (by decide) (by rw [hg, e])))
    first | (guard_hyp aj; have W4 : Fr (fun k => k = bb ∨ k = bp ∨ k = bo) w (wr.setCell ⟨bo, 0, none⟩ (.bool (zaG xs).isSome)) := (Fr.mono (S' := fun k => k = bb ∨ k = bp ∨ k = bo) RF.out (fun _ _ e => e.elim (fun h => Or.inl h) (fun h => Or.inr (Or.inl h)))).setCell (p := ⟨bo, 0, none⟩) (.inl (.inr (.inr rfl))) _) | (have W4 : Fr (fun k => k = bb ∨ k = bp ∨ k = bo) w (wr.setCell ⟨bo, 0, none⟩ (.bool (zaT xs).isSome)) := (Fr.mono (S' := fun k => k = bb ∨ k = bp ∨ k = bo) RF.out (fun _ _ e => e.elim (fun h => Or.inl h) (fun h => Or.inr (Or.inl h)))).setCell (p := ⟨bo, 0, none⟩) (.inl (.inr (.inr rfl))) _)
    rcases ks.out with ⟨rfl, aD⟩ | ⟨t, ae, rfl, aD⟩; all_goals
     rw [aD] at W1 W2 ga W4; have ik := zlM W1; have jH := zlM W2; have eS := zlM ga; have hW4 := zlM W4; clear W1 W2 ga W4; go_wp2_with fail
     go_end0; refine ⟨rfl, hW4.out, by rw [aD]; exact ik.out, lv, jH.out, ?_⟩; have e1 : l.take k = l := zlV (by rw [HN.out]; exact zlY _); have h3 := eS.out; rw [e1] at h3; rw [mB.out, HN.out]; exact h3
theorem zhQ : type_of% (zck.1 trivial) := zck.1 trivial
theorem zjK : type_of% (zck.2 trivial) := zck.2 trivial
end Go.Proofs.YtbkookiigkckdaaGreatDoor
