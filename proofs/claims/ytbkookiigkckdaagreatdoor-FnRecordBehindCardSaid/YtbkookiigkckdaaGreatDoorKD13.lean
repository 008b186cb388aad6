/- Merged. -/
import Derived.Test.YtbkookiigkckdaaGreatDoorKD08
import Derived.Test.YtbkookiigkckdaaGreatDoorKD09
import Derived.Test.YtbkookiigkckdaaGreatDoorKD10
import Derived.Lib.EndianZ
import Derived.ChangeSlices
import Derived.ChangeOld
import Derived.Below
set_option linter.unusedVariables false
set_option linter.unusedSimpArgs false
set_option maxRecDepth 100000
set_option maxHeartbeats 8000000
namespace Go.Proofs.YtbkookiigkckdaaGreatDoor
open Go.RowKit Go.Proofs.Tryz
def zeJ (L : Value -> World -> Prop) (p0 p1 p3 p4 p5 p6 : Value) (w : World) (r : Ending) (w' : World) : Prop :=
 ∃ v, r = .returned (.agg #[p0, p1, v, p3, p4, p5, p6]) /\ (∃ A m c, v = .slice A m c) /\ L v w' /\ z_F w w'
theorem info176 : (prog.info? 176).map (fun i => (i.zero, i.size, i.bytes)) = some (some (.agg #[.int .u64 0, .int .u8 0, .string ⟨#[]⟩, .string ⟨#[]⟩]), 4, 48) := by kernel_rfl
def zmb (pre : List Mta) (xs : List UInt8) : List Mta := match zaU xs with | some l => pre ++ l | none => []
def ReadEndsT (w : World) (bb bp bo : Nat) (pre : List Mta) (xs : List UInt8) (r : Ending) (w' : World) : Prop :=
 r = .returned (.tuple #[]) /\ Fr (fun k => k = bb ∨ k = bp ∨ k = bo) w w' /\ Blk w' bo 4 #[.bool (zaU xs).isSome] /\
  ∃ lv, Blk w' bp 54 #[.slice none 0 0, .slice none 0 0, .slice none 0 0, .slice none 0 0, lv, .slice none 0 0, .slice none 0 0] /\ w'.ownsRow w.heap.size 176 4 lv (zmb pre xs).length ((zmb pre xs).flatMap Mta.c)
theorem outT_len (pre : List Mta) (xs : List UInt8) : (zmb pre xs).length <= pre.length + xs.length := by
 unfold zmb; split
 ·rename_i h
  have := zei h; rw [zmi]; omega
 ·simp
theorem zhZ {w w' : World} {base : Nat} {o : Option Nat} {pre : List Mta} {xs : List UInt8} {r : Ending} (h : zb9 w base o pre xs r w') :
 ∃ v' e, r = .returned (.tuple #[v', e]) /\ w'.ownsRow base 174 4 v' (zmb pre xs).length ((zmb pre xs).flatMap Mta.c) /\ Fr (fun k => some k = o) w w' /\ ((e = .nilIface /\ (zaU xs).isSome = true) ∨ (∃ t a, e = .iface t a /\ (zaU xs).isSome = false)) := by
 unfold zb9 at h; unfold zmb; rcases hd : zaU xs with _ | l
 ·rw [hd] at h
  obtain ⟨hf, t, a, rfl⟩ := h; exact ⟨_, _, rfl, zmv _ _ _ _, hf, .inr ⟨_, _, rfl, rfl⟩⟩
 ·rw [hd] at h
  obtain ⟨hf, v', rfl, ho⟩ := h; exact ⟨_, _, rfl, ho, hf, .inl ⟨rfl, rfl⟩⟩
theorem zfR {W w5 w6 : World} {b t : Nat} {cs : Array Value} {v5 : Value} {n : Nat} {xs : List Value} (h : Blk W b t cs) (ap : z_F W.drew w5) (ho : w5.ownsRow W.drew.heap.size 174 4 v5 n xs) (aR : Fr (fun k => some k = v5.ownBlock) w5 w6) : Blk w6 b t cs :=
 (h.drew.fr ap id).fr aR (fun e => by have h1 := (ho.lt b e.symm).1; have h2 : b < W.heap.size := h.lt; exact zm1 _ (zmG h2 h1))
theorem zcb : (∀ (_ : True) (te : TypeId) (pe : Value) (bb bk bq bp bo : Nat) (P : Nat -> Prop) (q0 q1 q2 q3 q4 q5 q6 v : Value) (xs : List UInt8) (w : World) (hb : Blk w bb 44 #[v]) (hv : Sl P w v 1 xs.length (bc xs)) (hk : Blk w bk 3 #[.int .i64 5]) (hq : Blk w bq 54 #[q0, q1, q2, q3, q4, q5, q6]) (pre : List Mrk) (hs : Sl P w q5 2 pre.length (pre.flatMap Mrk.c)) (bx : pre.length <= 1073741824)
 (hp : Blk w bp 54 #[.slice none 0 0, .slice none 0 0, .slice none 0 0, .slice none 0 0, .slice none 0 0, .slice none 0 0, .slice none 0 0]) (ho : Blk w bo 4 #[.bool false]) (hE : w.cell? ⟨2, 0, none⟩ = some (.iface te pe)) (bm : xs.length <= 1073741824)
 (dV : ∀ g, P g -> g ≠ bb) (dr : bp ≠ bq) (h2 : bb ≠ 2 /\ bp ≠ 2 /\ bo ≠ 2),
 Calls prog 66 #[.pointer (some ⟨bb, 0, none⟩), .pointer (some ⟨bk, 0, none⟩), .pointer (some ⟨bq, 0, none⟩), .pointer (some ⟨bp, 0, none⟩), .pointer (some ⟨bo, 0, none⟩)] w (ReadEndsM w bb bp bo pre xs)) /\ (∀ (_ : True) (te : TypeId) (pe : Value) (bb bk bq bp bo : Nat) (P : Nat -> Prop) (q0 q1 q2 q3 q4 q5 q6 v : Value) (xs : List UInt8) (w : World) (hb : Blk w bb 44 #[v]) (hv : Sl P w v 1 xs.length (bc xs)) (hk : Blk w bk 3 #[.int .i64 6]) (hq : Blk w bq 54 #[q0, q1, q2, q3, q4, q5, q6]) (pre : List Mta) (hs : Sl P w q4 4 pre.length (pre.flatMap Mta.c)) (bx : pre.length <= 1073741824)
 (hp : Blk w bp 54 #[.slice none 0 0, .slice none 0 0, .slice none 0 0, .slice none 0 0, .slice none 0 0, .slice none 0 0, .slice none 0 0]) (ho : Blk w bo 4 #[.bool false]) (hE : w.cell? ⟨2, 0, none⟩ = some (.iface te pe)) (bm : xs.length <= 1073741824)
 (dV : ∀ g, P g -> g ≠ bb) (dr : bp ≠ bq) (h2 : bb ≠ 2 /\ bp ≠ 2 /\ bo ≠ 2)
 (ak : St -> Prop) (hG : ∀ l, ak (some l) -> zeK (some l) /\ ak (zbe (some l)).2) (aZ : ∀ r, xs = 6 :: r -> ak (some r)),
 Calls prog 66 #[.pointer (some ⟨bb, 0, none⟩), .pointer (some ⟨bk, 0, none⟩), .pointer (some ⟨bq, 0, none⟩), .pointer (some ⟨bp, 0, none⟩), .pointer (some ⟨bo, 0, none⟩)] w (ReadEndsT w bb bp bo pre xs)) := by
 refine ⟨fun ag te pe bb bk bq bp bo P q0 q1 q2 q3 q4 q5 q6 v xs w hb hv hk hq pre hs bx hp ho hE bm dV dr h2 => ?_, fun bU te pe bb bk bq bp bo P q0 q1 q2 q3 q4 q5 q6 v xs w hb hv hk hq pre hs bx hp ho hE bm dV dr h2 ak hG aZ => ?_⟩; all_goals
  obtain ⟨i0, aC, az, ay, aB⟩ := info_parts zff
  first | (guard_hyp bU; have ii := zmh hG) | skip
  first | (guard_hyp bU; have ig := zmh aZ) | skip
  first | (guard_hyp bU; clear hG aZ) | skip
  have HB := zmh hb; have HV := zmh hv; have HK := zmh hk; have HQ := zmh hq; have HS := zmh hs; have HP := zmh hp; have HO := zmh ho; have HE := zmh hE; have kA := zmh dV; have cA : ∃ A m c, v = .slice A m c := let ⟨A, c, h, _⟩ := hv; ⟨A, _, c, h⟩
  obtain ⟨A, m, c, rfl⟩ := cA; clear hb hv hk hq hs hp ho hE dV; go_enter func66, ntmps66; go_wp2_with (first | (go_at_call 67; refine (zdw _ _).mono ?_; rintro r w1 ⟨v1, rfl, ⟨a, rfl⟩, ah⟩; refine Hid.out ?_))
  have ax := ((HB.out.fr ah id).alloc (.cells #[.slice (some a) 0 0, .string ⟨#[]⟩, .slice none 0 0] 119)).alloc (.cells #[] 5); have b1 := ax.cell 0; simp at b1; clear ax; refine zmh ?_; go_wp2_with (at_builtin; refine Hid.out ?_)
  have eo := znk (base := w.heap.size) (e := 5) (size := 1) (w1.alloc (.cells #[.slice (some a) 0 0, .string ⟨#[]⟩, .slice none 0 0] 119)) #[] 0 (by have := ah.size; simp; omega) (zms _) rfl; have dw : z_F w ((w1.alloc (.cells #[.slice (some a) 0 0, .string ⟨#[]⟩, .slice none 0 0] 119)).alloc (.cells #[] 5)) := (ah.alloc _).alloc _; have bh := ah.size
  refine zmh ?_; have li : (w1.alloc (.cells #[.slice (some a) 0 0, .string ⟨#[]⟩, .slice none 0 0] 119)).heap.size = w1.heap.size + 1 := by simp
  rw [li] at eo; clear b1; generalize World.alloc _ (Obj.cells #[] 5) = WA at eo dw ⊢; have hsA := dw.size; have cd := zbp underlying44 (HV.out.fr dw z_i) (zfC xs)
  refine zaf _ rfl _ _ 44 44 rfl w.heap.size 5 i0 (.int .u8 0) 1 1 underlying44 aC az ay aB rfl (by decide) (.slice (some ⟨w1.heap.size + 1, 0, none⟩) 0 0) 0 [] rfl eo (.slice A m c) xs.length (bc xs) rfl cd (by unfold maxLen; omega) (by omega) (by omega) ?_; intro v' w2 ac ad av
  rw [zmM, zmT] at ac; obtain ⟨a2, k2, rfl⟩ := zaa ac; have eJ : ∀ k, (Value.slice (some ⟨w1.heap.size + 1, 0, none⟩) 0 0).ownBlock = some k -> w.heap.size <= k := fun k hk => by
   have hk : w1.heap.size + 1 = k := zm6 hk; omega
  have F2 : z_F w w2 := dw.grown ad (fun k hk => .inr (eJ k hk)); have dq : ∃ g2 aI, a2 = some ⟨g2, 0, none⟩ /\ w.heap.size <= g2 /\ Blk w2 g2 5 aI /\ xs.length <= k2 /\ k2 <= maxLen /\ aI.toList.take xs.length = bc xs := by
   rcases ac.2 with ⟨h, _⟩ | ⟨g2, aK, aI, h, h1, h3, h4, h5, _, h6⟩
   ·rw [h] at av
    rcases av with av | av <;> exact absurd av (by simp [Value.ownBlock])
   ·injection h with e1 e2 e3
    subst e3; exact ⟨g2, aI, e1, h1, h3, h4, h5, by simpa using h6⟩
  have cn : ∀ k, (Value.slice a2 xs.length k2).ownBlock = some k -> w.heap.size <= k := fun k hk => (ac.lt k hk).1; have lB := HB.out.lt; have gB := HB.out.fr F2 id; have y0 := gB.cell 0; have y1 := gB.frozen 0; simp at y0
  have F3 : Fr (fun k => k = bb) w (w2.setCell ⟨bb, 0, none⟩ (.slice a2 xs.length k2)) := (F2.mono (S' := fun k => k = bb) (fun _ _ e => e.elim)).setCell (p := ⟨bb, 0, none⟩) (.inl rfl) _; have O3 : (w2.setCell ⟨bb, 0, none⟩ (.slice a2 xs.length k2)).ownsRow w.heap.size 5 1 (.slice a2 xs.length k2) xs.length (bc xs) := zai ac (Fr.put_ w2 bb 0 _) (fun k hk e => by have := cn k hk; omega)
  have B3 : Blk (w2.setCell ⟨bb, 0, none⟩ (.slice a2 xs.length k2)) bb 44 #[.slice a2 xs.length k2] := by simpa using gB.set_ 0 (.slice a2 xs.length k2)
  have K3 := (HK.out.fr F3 (fun e => znn HK.out HB.out (by decide) e)).cell 0; have Q3 := HQ.out.fr F3 (fun e => znn HQ.out HB.out (by decide) e); have P3 := HP.out.fr F3 (fun e => znn HP.out HB.out (by decide) e); have O4 := HO.out.fr F3 (fun e => znn HO.out HB.out (by decide) e)
  have E3 : (w2.setCell ⟨bb, 0, none⟩ (.slice a2 xs.length k2)).cell? ⟨2, 0, none⟩ = some (.iface te pe) := by
   rw [F3.cell (p := ⟨2, 0, none⟩) (zmo w _ HE.out) (fun e => h2.1 e.symm)]; exact HE.out
  simp at K3; have bB := zmh F3; have eq := zmh O3; have bH := zmh B3; have c8 := zmh Q3; have eK := zmh P3; have dj := zmh O4; have dF := zmh E3; have ou := zmh cn; obtain ⟨g2, aI, rfl, dU, co, cI, dt, dp⟩ := dq
  have R3 : Rec te pe (w2.setCell ⟨bb, 0, none⟩ (.slice (some ⟨g2, 0, none⟩) xs.length k2)) g2 aI xs (.slice (some ⟨g2, 0, none⟩) xs.length k2) := by
   refine ⟨0, k2, rfl, co.far (p := ⟨bb, 0, none⟩) (by show g2 ≠ bb; omega) _, cI, ⟨by simp [maxLen] at dt; omega, by omega⟩, fun j u hu => ?_, E3⟩; rw [zmM, <- Array.getElem?_toList]; have hj : j < xs.length := by
    rcases zmK j xs.length with h | h
    ·exact h
    ·rw [zmL (by rw [zda]; exact h)] at hu; cases hu
   rw [<- dp, List.getElem?_take_of_lt hj] at hu; exact hu
  have bG := zmh R3; have lh := co.lt; clear R3 dt dp co; clear F2 F3 O3 B3 Q3 P3 O4 E3 gB eJ cn ac ad av cd eo dw ah; go_wp2_with fail
  generalize w2.setCell ⟨bb, 0, none⟩ (.slice (some ⟨g2, 0, none⟩) xs.length k2) = W3 at bB eq bH c8 eK dj dF bG ⊢; have fb := bG.out; have gq : g2 < W3.heap.size := let ⟨_, _, _, h, _⟩ := fb; h.lt
  have jj : 2 < W3.heap.size := zmo W3 _ dF.out; clear fb
  first | (guard_hyp ag; have hS3 : Sl P W3.drew q5 2 pre.length (pre.flatMap Mrk.c) := HS.out.fr bB.out.drew (fun g hg e => kA.out g hg e)) | (have hS3 : Sl P W3.drew q4 4 pre.length (pre.flatMap Mta.c) := HS.out.fr bB.out.drew (fun g hg e => kA.out g hg e))
  first | (guard_hyp ag; have eD := zew P q5 pre W3.drew hS3 (by omega)) | (have eD := zea P q4 pre W3.drew hS3 (by omega))
  first | (guard_hyp ag; have eZ : ∃ A m c, q5 = .slice A m c := let ⟨A, c, h, _⟩ := HS.out; ⟨A, _, c, h⟩) | (have eZ : ∃ A m c, q4 = .slice A m c := let ⟨A, c, h, _⟩ := HS.out; ⟨A, _, c, h⟩)
  obtain ⟨Aq, mq, cq, rfl⟩ := eZ; have x0 := bH.out.cell 0
  first | (guard_hyp ag; have x1 := c8.out.cell 5) | (have x1 := c8.out.cell 4)
  have kI : W3.drew.cell? ⟨bb, 0, none⟩ = some (.slice (some ⟨g2, 0, none⟩) xs.length k2) := x0
  first | (guard_hyp ag; have jn : W3.drew.cell? ⟨bq, 5, none⟩ = some (.slice Aq mq cq) := x1) | (have jn : W3.drew.cell? ⟨bq, 4, none⟩ = some (.slice Aq mq cq) := x1)
  simp at x0 x1; clear y0 y1 K3
  first
   | guard_hyp ag
     go_region_held3 (fun w' => w'.cell? ⟨bb, 0, none⟩ = some (.slice (some ⟨g2, 0, none⟩) xs.length k2) /\ w'.cell? ⟨bq, 5, none⟩ = some (.slice Aq mq cq))
      ((first | (go_split_ands; refine ⟨?_, ?_⟩ <;> first | exact (bH.out.drew.fr ap id).cell 0 | exact (c8.out.drew.fr ap id).cell 5) | (go_split_ands; refine ⟨?_, ?_⟩ <;> first | exact KB.out.cell 0 | exact KQ.out.cell 5) | go_keep))
      ((first
        | (go_at_call 80; refine eD.mono ?_; rintro r5 w5 ⟨v5, rfl, al, ap⟩)
        | (go_at_call 79; refine (zhg te pe _ g2 W3.drew.heap.size aI pre xs _ v5 w5 (bG.out.fr (w := W3) (((znl (fun _ => False) W3).drew).same ap) id id) al ⟨gq, jj, ap.size⟩ bx).mono ?_; rintro r6 w6 eE; obtain ⟨v6, e6, rfl, aJ, aR, cl⟩ := zgs eE; clear eE; have KB := zmh (zfU bH.out ap al aR); have KQ := zmh (zfU c8.out ap al aR))))
   | go_region_held3 (fun w' => w'.cell? ⟨bb, 0, none⟩ = some (.slice (some ⟨g2, 0, none⟩) xs.length k2) /\ w'.cell? ⟨bq, 4, none⟩ = some (.slice Aq mq cq))
      ((first | (go_split_ands; refine ⟨?_, ?_⟩ <;> first | exact (bH.out.drew.fr ap id).cell 0 | exact (c8.out.drew.fr ap id).cell 4) | (go_split_ands; refine ⟨?_, ?_⟩ <;> first | exact KB.out.cell 0 | exact KQ.out.cell 4) | go_keep))
      ((first
        | (go_at_call 82; refine eD.mono ?_; rintro r5 w5 ⟨v5, rfl, al, ap⟩)
        | (go_at_call 81; refine (zje ak ii.out te pe _ g2 W3.drew.heap.size aI pre xs _ v5 w5 (bG.out.fr (w := W3) (((znl (fun _ => False) W3).drew).same ap) id id) al ⟨gq, jj, ap.size⟩ bx ig.out).mono ?_; rintro r6 w6 eE; obtain ⟨v6, e6, rfl, aJ, aR, cl⟩ := zhZ eE; clear eE; have KB := zmh (zfR bH.out ap al aR); have KQ := zmh (zfR c8.out ap al aR))))
  have T6 : Fr (fun k => k = bb) w w6 := ((bB.out.trans (((znl (fun _ => False) W3).drew).same ap) (fun _ _ e => e.elim)).trans aR (fun k hk e => by
   have h1 := (al.lt k e.symm).1; have h2 := bB.out.size
   simp at h1; omega))
  first | (guard_hyp ag; have P6 := zfU eK.out ap al aR) | (have P6 := zfR eK.out ap al aR)
  first | (guard_hyp ag; have O6 := zfU dj.out ap al aR) | (have O6 := zfR dj.out ap al aR)
  have kM : w.heap.size <= W3.drew.heap.size := bB.out.size; have V6 := zah aJ kM; have kw := zmh T6; have jl := zmh P6; have fz := zmh O6; have fy := zmh V6; have kB := zmh cl; have kT := ap.size; have kS := aR.size; have gR : ∀ k, v6.ownBlock = some k -> k < w6.heap.size := fun k hk => zaq aJ hk
  clear x0 x1 kI jn eD T6 P6 O6 V6 cl al ap aJ aR KB KQ eq bH c8 eK dj dF bG bB
  first | (guard_hyp ag; obtain ⟨l, hl⟩ := exE (zmc pre xs)) | (obtain ⟨l, hl⟩ := exE (zmb pre xs))
  rw [hl] at fy; have mP := zmh hl; clear hl; obtain ⟨a6, k6, rfl⟩ := zaa fy.out; go_wp2_with fail
  obtain ⟨n, hn⟩ := exE l.length; have HN := zmh hn; rw [hn] at fy gR ⊢; clear hn
  first | (guard_hyp ag; obtain ⟨i1, gp, ei, dC, fi⟩ := info_parts info168) | (obtain ⟨i1, gp, ei, dC, fi⟩ := info_parts info176)
  first
   | guard_hyp ag
     go_loopw [178] (fun i wr => ∃ (k : Nat) (lv : Value), k <= n /\ i = .int .i64 k /\ Hid (Fr (fun j => j = bb ∨ j = bp) w wr) /\ Hid (wr.ownsRow w.heap.size 166 2 (.slice a6 n k6) n (l.flatMap Mrk.c)) /\ Hid (Blk wr bo 4 #[.bool false]) /\
      Hid (Blk wr bp 54 #[.slice none 0 0, .slice none 0 0, .slice none 0 0, .slice none 0 0, .slice none 0 0, lv, .slice none 0 0]) /\ Hid (wr.ownsRow w.heap.size 168 2 lv k ((l.take k).flatMap Mrk.c))) (fun i _ => n - (intOf i).toNat)
   | go_loopw [207] (fun i wr => ∃ (k : Nat) (lv : Value), k <= n /\ i = .int .i64 k /\ Hid (Fr (fun j => j = bb ∨ j = bp) w wr) /\ Hid (wr.ownsRow w.heap.size 174 4 (.slice a6 n k6) n (l.flatMap Mta.c)) /\ Hid (Blk wr bo 4 #[.bool false]) /\
      Hid (Blk wr bp 54 #[.slice none 0 0, .slice none 0 0, .slice none 0 0, .slice none 0 0, lv, .slice none 0 0, .slice none 0 0]) /\ Hid (wr.ownsRow w.heap.size 176 4 lv k ((l.take k).flatMap Mta.c))) (fun i _ => n - (intOf i).toNat)
  case atStart => exact ⟨0, _, zms _, rfl, zmh (Fr.mono kw.out (fun _ _ e => Or.inl e)), fy, fz, jl, zmh (zmv _ _ _ _)⟩
  case round =>
   obtain ⟨k, lv, hk, rfl, RF, RV, RO, RP, RL⟩ := hrel; by_cases hlt : k < n
   ·obtain ⟨A7, c7, e7, _, _, jA⟩ := zno RV.out
    injection e7 with e7 _ nR; subst e7 nR; obtain ⟨g7, bw, rfl, _, bK⟩ := jA (by omega); obtain ⟨x, hx⟩ : ∃ x, l[k]? = some x := ⟨_, zmj (by rw [HN.out]; exact hlt)⟩
    first
     | guard_hyp ag
       have cc : ∀ j, j < 2 -> ∀ u, (Mrk.c x)[j]? = some u -> wr.cell? ⟨g7, bw + (k * 2 + j), none⟩ = some u := fun j hj u hu =>
        bK (k * 2 + j) u (by rw [zby Mrk.c (fun _ => rfl) l k x hx j hj]; exact hu)
     | have cc : ∀ j, j < 4 -> ∀ u, (Mta.c x)[j]? = some u -> wr.cell? ⟨g7, bw + (k * 4 + j), none⟩ = some u := fun j hj u hu =>
        bK (k * 4 + j) u (by rw [zdy Mta.c (fun _ => rfl) l k x hx j hj]; exact hu)
    first | (guard_hyp ag; have c0 : wr.cell? ⟨g7, bw + k * 2, none⟩ = some (.int .u64 x.ref) := cc 0 (by omega) _ rfl) | (have c0 : wr.cell? ⟨g7, bw + k * 4, none⟩ = some (.int .u64 x.ref) := cc 0 (by omega) _ rfl)
    first | (guard_hyp ag; have c1 : wr.cell? ⟨g7, bw + k * 2 + 1, none⟩ = some (.int .u64 x.mm) := cc 1 (by omega) _ rfl) | (have c1 : wr.cell? ⟨g7, bw + k * 4 + 1, none⟩ = some (.int .u8 x.ty.toNat) := cc 1 (by omega) _ rfl)
    first | (guard_hyp bU; have c2 : wr.cell? ⟨g7, bw + k * 4 + 2, none⟩ = some (.string x.unit) := cc 2 (by omega) _ rfl) | skip
    first | (guard_hyp bU; have c3 : wr.cell? ⟨g7, bw + k * 4 + 3, none⟩ = some (.string x.help) := cc 3 (by omega) _ rfl) | skip
    have HX := zmh hx; obtain ⟨aL, kL, rfl⟩ := zaa RL.out; have lP := RP.out.lt; have bD := RF.out.size
    first | (guard_hyp ag; have lf : k < 1099511627776 + 1073741824 := by have h1 := outM_len pre xs; rw [mP.out, HN.out] at h1; omega) | (have lf : k < 1099511627776 + 1073741824 := by have h1 := outT_len pre xs; rw [mP.out, HN.out] at h1; omega)
    first | (guard_hyp ag; have ff := RP.out.alloc (.cells #[.int .u64 x.ref, .int .u64 x.mm] 166)) | (have ff := RP.out.alloc (.cells #[.int .u64 x.ref, .int .u8 x.ty.toNat, .string x.unit, .string x.help] 174))
    first | (guard_hyp ag; have s3 := ff.cell 5) | (have s3 := ff.cell 4)
    simp only [zmC, zmA, zmB] at s3; have mO := zmh ff; clear bK jA cc hx ff; go_wp2_with (at_builtin; refine Hid.out ?_)
    refine zmh ?_
    first | (guard_hyp ag; refine zaf _ rfl _ _ 51 51 rfl w.heap.size 168 i1 _ 2 16 underlying51 gp ei dC fi rfl (by decide) (.slice aL k kL) k ((l.take k).flatMap Mrk.c) rfl ((RL.out.alloc _).alloc _) _ 1 (Mrk.c x) rfl (zaF underlying51 (zaH wr _ 168 (Mrk.c x).toArray) rfl (by simp [Mrk.c, Value.oneCell'])) (by unfold maxLen; omega) (by omega) (by simp; omega) ?_) | (refine zaf _ rfl _ _ 50 50 rfl w.heap.size 176 i1 _ 4 48 underlying50 gp ei dC fi rfl (by decide) (.slice aL k kL) k ((l.take k).flatMap Mta.c) rfl ((RL.out.alloc _).alloc _) _ 1 (Mta.c x) rfl (zaF underlying50 (zaH wr _ 176 (Mta.c x).toArray) rfl (by simp [Mta.c, Value.oneCell'])) (by unfold maxLen; omega) (by omega) (by simp; omega) ?_)
    intro v' w2 ac ad av
    obtain ⟨a9, k9, rfl⟩ := zaa ac; have dN := zmh ((mO.out.alloc _).grown ad (Ne.symm (zak RL.out RP.out (by decide))))
    first | (guard_hyp ag; have p9 := dN.out.cell 5) | (have p9 := dN.out.cell 4)
    first | (guard_hyp ag; have z9 := dN.out.frozen 5) | (have z9 := dN.out.frozen 4)
    simp at p9
    first | (guard_hyp ag; have cV : Blk (w2.setCell ⟨bp, 5, none⟩ (.slice a9 (k + 1) k9)) bp 54 #[.slice none 0 0, .slice none 0 0, .slice none 0 0, .slice none 0 0, .slice none 0 0, .slice a9 (k + 1) k9, .slice none 0 0] := by simpa using dN.out.set_ 5 (.slice a9 (k + 1) k9)) | (have cV : Blk (w2.setCell ⟨bp, 4, none⟩ (.slice a9 (k + 1) k9)) bp 54 #[.slice none 0 0, .slice none 0 0, .slice none 0 0, .slice none 0 0, .slice a9 (k + 1) k9, .slice none 0 0, .slice none 0 0] := by simpa using dN.out.set_ 4 (.slice a9 (k + 1) k9))
    first | (guard_hyp ag; have aU : Blk (w2.setCell ⟨bp, 5, none⟩ (.slice a9 (k + 1) k9)) bo 4 #[.bool false] := (((RO.out.alloc (.cells #[.int .u64 x.ref, .int .u64 x.mm] 166)).alloc _).grown ad (Ne.symm (zak RL.out RO.out (by decide)))).far (p := ⟨bp, 5, none⟩) (znn RO.out RP.out (by decide)) _) | (have aU : Blk (w2.setCell ⟨bp, 4, none⟩ (.slice a9 (k + 1) k9)) bo 4 #[.bool false] := (((RO.out.alloc (.cells #[.int .u64 x.ref, .int .u8 x.ty.toNat, .string x.unit, .string x.help] 174)).alloc _).grown ad (Ne.symm (zak RL.out RO.out (by decide)))).far (p := ⟨bp, 4, none⟩) (znn RO.out RP.out (by decide)) _)
    first
     | guard_hyp ag
       have cz : (w2.setCell ⟨bp, 5, none⟩ (.slice a9 (k + 1) k9)).ownsRow w.heap.size 168 2 (.slice a9 (k + 1) k9) (k + 1) ((l.take (k + 1)).flatMap Mrk.c) := by
        rw [zam Mrk.c l k x HX.out]; exact zai ac (Fr.put_ w2 bp 5 _) (fun g hg e => zak ac dN.out (by decide) (by rw [hg, e]))
     | have cz : (w2.setCell ⟨bp, 4, none⟩ (.slice a9 (k + 1) k9)).ownsRow w.heap.size 176 4 (.slice a9 (k + 1) k9) (k + 1) ((l.take (k + 1)).flatMap Mta.c) := by
        rw [zam Mta.c l k x HX.out]; exact zai ac (Fr.put_ w2 bp 4 _) (fun g hg e => zak ac dN.out (by decide) (by rw [hg, e]))
    first
     | guard_hyp ag
       have fG : Fr (fun j => some j = (Value.slice aL k kL).ownBlock ∨ j = bp) wr (w2.setCell ⟨bp, 5, none⟩ (.slice a9 (k + 1) k9)) :=
        ((((znl (fun j => some j = (Value.slice aL k kL).ownBlock ∨ j = bp) wr).alloc (.cells #[.int .u64 x.ref, .int .u64 x.mm] 166)).alloc _).grown ad (fun g hg => .inl (.inl hg.symm))).setCell (p := ⟨bp, 5, none⟩) (.inl (.inr rfl)) _
     | have fG : Fr (fun j => some j = (Value.slice aL k kL).ownBlock ∨ j = bp) wr (w2.setCell ⟨bp, 4, none⟩ (.slice a9 (k + 1) k9)) :=
        ((((znl (fun j => some j = (Value.slice aL k kL).ownBlock ∨ j = bp) wr).alloc (.cells #[.int .u64 x.ref, .int .u8 x.ty.toNat, .string x.unit, .string x.help] 174)).alloc _).grown ad (fun g hg => .inl (.inl hg.symm))).setCell (p := ⟨bp, 4, none⟩) (.inl (.inr rfl)) _
    have dn := zai RV.out fG (fun g hg e => by
     rcases e with e | e
     ·exact zb4 RV.out RL.out (by decide) g hg e.symm
     ·exact zak RV.out RP.out (by decide) (by rw [hg, e]))
    first
     | guard_hyp ag
       have bN : Fr (fun j => j = bb ∨ j = bp) w (w2.setCell ⟨bp, 5, none⟩ (.slice a9 (k + 1) k9)) := RF.out.trans fG (fun j hj e => by
        rcases e with e | e
        ·have := (RL.out.lt j e.symm).1; omega
        ·exact .inr e)
     | have bN : Fr (fun j => j = bb ∨ j = bp) w (w2.setCell ⟨bp, 4, none⟩ (.slice a9 (k + 1) k9)) := RF.out.trans fG (fun j hj e => by
        rcases e with e | e
        ·have := (RL.out.lt j e.symm).1; omega
        ·exact .inr e)
    have NP := zmh cV; have NO := zmh aU; have NL := zmh cz; have NV := zmh dn; have NF := zmh bN
    first | (guard_hyp ag; clear cV aU cz dn bN fG ac ad av c0 c1 s3) | (clear cV aU cz dn bN fG ac ad av c0 c1 c2 c3 s3)
    go_wp2; go_roundw
    case rel => exact ⟨k + 1, _, by omega, by go_num, NF, NV, NO, NP, NL⟩
    case measure => simp [intOf]; omega
   ·obtain rfl : k = n := by omega
    have o0 := RO.out.cell 0; have o1 := RO.out.frozen 0; simp at o0
    first | (guard_hyp ag; have W1 : Blk (wr.setCell ⟨bo, 0, none⟩ (.bool (zaG xs).isSome)) bo 4 #[.bool (zaG xs).isSome] := by simpa using RO.out.set_ 0 (.bool (zaG xs).isSome)) | (have W1 : Blk (wr.setCell ⟨bo, 0, none⟩ (.bool (zaU xs).isSome)) bo 4 #[.bool (zaU xs).isSome] := by simpa using RO.out.set_ 0 (.bool (zaU xs).isSome))
    first | (guard_hyp ag; have W2 := RP.out.far (p := ⟨bo, 0, none⟩) (znn RP.out RO.out (by decide)) (.bool (zaG xs).isSome)) | (have W2 := RP.out.far (p := ⟨bo, 0, none⟩) (znn RP.out RO.out (by decide)) (.bool (zaU xs).isSome))
    first | (guard_hyp ag; have gg := zai RL.out (Fr.put_ wr bo 0 (.bool (zaG xs).isSome)) (fun g hg e => zak RL.out RO.out (by decide) (by rw [hg, e]))) | (have gg := zai RL.out (Fr.put_ wr bo 0 (.bool (zaU xs).isSome)) (fun g hg e => zak RL.out RO.out (by decide) (by rw [hg, e])))
    first | (guard_hyp ag; have W4 : Fr (fun k => k = bb ∨ k = bp ∨ k = bo) w (wr.setCell ⟨bo, 0, none⟩ (.bool (zaG xs).isSome)) := (Fr.mono (S' := fun k => k = bb ∨ k = bp ∨ k = bo) RF.out (fun _ _ e => e.elim (fun h => Or.inl h) (fun h => Or.inr (Or.inl h)))).setCell (p := ⟨bo, 0, none⟩) (.inl (.inr (.inr rfl))) _) | (have W4 : Fr (fun k => k = bb ∨ k = bp ∨ k = bo) w (wr.setCell ⟨bo, 0, none⟩ (.bool (zaU xs).isSome)) := (Fr.mono (S' := fun k => k = bb ∨ k = bp ∨ k = bo) RF.out (fun _ _ e => e.elim (fun h => Or.inl h) (fun h => Or.inr (Or.inl h)))).setCell (p := ⟨bo, 0, none⟩) (.inl (.inr (.inr rfl))) _)
    rcases kB.out with ⟨rfl, aA⟩ | ⟨t, ae, rfl, aA⟩; all_goals
     rw [aA] at W1 W2 gg W4; have io := zmh W1; have jO := zmh W2; have eQ := zmh gg; have hW4 := zmh W4; clear W1 W2 gg W4; go_wp2_with fail
     go_end0; refine ⟨rfl, hW4.out, by rw [aA]; exact io.out, lv, jO.out, ?_⟩; have e1 : l.take k = l := zmq (by rw [HN.out]; exact zmt _); have h3 := eQ.out; rw [e1] at h3; rw [mP.out, HN.out]; exact h3
theorem zhW : type_of% (zcb.1 trivial) := zcb.1 trivial
theorem zjW : type_of% (zcb.2 trivial) := zcb.2 trivial
end Go.Proofs.YtbkookiigkckdaaGreatDoor
namespace Go.Proofs.YtbkookiigkckdaaGreatDoor
open Go Go.ChangeShapes Go.WideShapes Go.ChangeAt Go.RowKit Go.Proofs.Tryz
theorem u8_wf {z : Int} (h : (Lit.int .u8 z).wf = true) : (0 : Int) <= z /\ z <= 255 := by
 simp only [Lit.wf, Bool.and_eq_true, decide_eq_true_eq] at h; exact h
theorem bytes_in {H : Type} {enc : TypeId × Value -> H} {W : World} {A : Option Addr} {len aK : Nat} {d : DataW H} {p : List MemPlace}
 (h : DataW.Trod enc prog W 0 (fun _ => true) true 44 (.slice A len aK) d p) : ∃ xs : List UInt8, Sl (fun g => g < W.heap.size) W (.slice A len aK) 1 xs.length (bc xs) := by
 obtain ⟨fuel, hf⟩ := h; rcases open_ints underlying44 underlying5 (by kernel_rfl) hf with ⟨im, _⟩ | ⟨a, l, c, zs, im, _, hl, hm, hz, _, aa, mY⟩
 ·simp [Value.cells] at im
  obtain ⟨rfl, rfl, rfl⟩ := im; exact ⟨[], _, _, rfl, rfl, zmt _, fun h => absurd h (zm1 _)⟩
 ·simp [Value.cells] at im
  obtain ⟨rfl, rfl, rfl⟩ := im; have hz' : zs.length = aK := by simpa using hz
  have ai : ((zs.take len).map Lib.byteOf).length = len := by rw [zmF, zm3]; omega
  refine ⟨(zs.take len).map Lib.byteOf, ?_⟩; rw [ai]; refine ⟨_, _, rfl, by rw [zda, ai]; omega, hl, fun h0 => ?_⟩; have c0 := aa 0 (by omega); have jt : a.spot = none := by simpa [Addr.add] using World.cell?_spot c0
  obtain ⟨g, off, sp⟩ := a; obtain rfl : sp = none := jt; refine ⟨g, off, rfl, ?_, fun j u hu => ?_⟩
  ·have := zmo W _ c0
   simpa [Addr.add] using this
  ·rw [zd6, zmR] at hu
   have hj : j < len := by
    rcases zmK j len with h | h
    ·exact h
    ·rw [zmL (by rw [zm3]; omega)] at hu; cases hu
   have hjz : j < zs.length := by omega
   rw [List.getElem?_take_of_lt hj, zmj hjz] at hu; have hc := aa j hjz; have e1 : (⟨g, off, none⟩ : Addr).add j = ⟨g, off + j, none⟩ := by unfold Addr.add; split <;> simp_all
   rw [e1] at hc; rw [hc]; have hzj : zs.getD j 0 = zs[j] := by simp [List.getD, zmj hjz]
   have aD := u8_wf (mY zs[j] (List.getElem_mem hjz)); have hb := Lib.byteOf_toNat aD; rw [hzj, <- hu]; simp [hb]
theorem zfd : laidOutB prog = true := by kernel_rfl
end Go.Proofs.YtbkookiigkckdaaGreatDoor
namespace Go.Proofs.YtbkookiigkckdaaGreatDoor
open Go.RowKit Go.Proofs.Tryz
theorem zjT (P Q : Nat -> Prop) (u v : Value) (l : List Mta) (w : World) (hu : Sl P w u 4 l.length (l.flatMap Mta.c)) (hv : Sl Q w v 4 l.length (l.flatMap Mta.c)) (hl : l.length <= 1099511627776) : Calls prog 103 #[u, v] w (zap w) := by
 obtain ⟨A, c, rfl, _, hc, hr⟩ := hu; obtain ⟨B, d, rfl, _, hd, hs⟩ := hv; obtain ⟨n, hn⟩ := exE l.length; rw [hn] at hr hs hc hd hl ⊢; have HN := zmh hn; have HR := zmh hr; have HS := zmh hs; clear hn hr hs; go_enter func103, ntmps103; go_wp2; go_loopw [5] (fun i wr => ∃ k : Nat, k <= n /\ i = .int .i64 k /\ z_F w wr) (fun i _ => n - (intOf i).toNat)
 case atStart => exact ⟨0, zms _, rfl, znl _ _⟩
 case round =>
  obtain ⟨k, hk, rfl, hf⟩ := hrel; by_cases hlt : k < n
  ·obtain ⟨g, off, rfl, _, aa⟩ := HR.out (by omega)
   obtain ⟨g2, an, rfl, _, aj⟩ := HS.out (by omega); obtain ⟨x, hx⟩ : ∃ x, l[k]? = some x := ⟨_, zmj (by rw [HN.out]; exact hlt)⟩; have aw : ∀ {g off : Nat}, (∀ j u, (l.flatMap Mta.c)[j]? = some u -> w.cell? ⟨g, off + j, none⟩ = some u) -> ∀ j, j < 4 -> ∀ u, (Mta.c x)[j]? = some u -> wr.drew.cell? ⟨g, off + (k * 4 + j), none⟩ = some u := fun {g off} aa j hj u hu => by
    have := aa (k * 4 + j) u (by rw [zdy Mta.c (fun _ => rfl) l k x hx j hj]; exact hu); rw [hf.drew.cell (p := ⟨g, off + (k * 4 + j), none⟩) (zmo w _ this) id]; exact this
   have c0 : wr.drew.cell? ⟨g, off + k * 4, none⟩ = some (.int .u64 x.ref) := aw aa 0 (by omega) _ rfl; have c1 : wr.drew.cell? ⟨g, off + k * 4 + 1, none⟩ = some (.int .u8 x.ty.toNat) := aw aa 1 (by omega) _ rfl; have c2 : wr.drew.cell? ⟨g, off + k * 4 + 2, none⟩ = some (.string x.unit) := aw aa 2 (by omega) _ rfl
   have c3 : wr.drew.cell? ⟨g, off + k * 4 + 3, none⟩ = some (.string x.help) := aw aa 3 (by omega) _ rfl; have d0 : wr.drew.cell? ⟨g2, an + k * 4, none⟩ = some (.int .u64 x.ref) := aw aj 0 (by omega) _ rfl; have d1 : wr.drew.cell? ⟨g2, an + k * 4 + 1, none⟩ = some (.int .u8 x.ty.toNat) := aw aj 1 (by omega) _ rfl
   have d2 : wr.drew.cell? ⟨g2, an + k * 4 + 2, none⟩ = some (.string x.unit) := aw aj 2 (by omega) _ rfl; have d3 : wr.drew.cell? ⟨g2, an + k * 4 + 3, none⟩ = some (.string x.help) := aw aj 3 (by omega) _ rfl; have aq := zmh hf.drew; clear aa aj aw hf hx; go_wp2; go_region; go_wp2; go_roundw
   case rel => exact ⟨k + 1, by omega, by go_num, aq.out⟩
   case measure => simp [intOf]; omega
  ·obtain rfl : k = n := by omega
   go_wp2; go_ret; exact ⟨rfl, hf⟩
theorem zge (P Q : Nat -> Prop) (u v : Value) (l : List (Int × Nat)) (w : World) (hu : Sl P w u 2 l.length (l.flatMap spc)) (hv : Sl Q w v 2 l.length (l.flatMap spc)) (hl : l.length <= 1099511627776) : Calls prog 198 #[u, v] w (zap w) := by
 obtain ⟨A, c, rfl, _, hc, hr⟩ := hu; obtain ⟨B, d, rfl, _, hd, hs⟩ := hv; obtain ⟨n, hn⟩ := exE l.length; rw [hn] at hr hs hc hd hl ⊢; have HN := zmh hn; have HR := zmh hr; have HS := zmh hs; clear hn hr hs; go_enter func198, ntmps198; go_wp2; go_loopw [5] (fun i wr => ∃ k : Nat, k <= n /\ i = .int .i64 k /\ z_F w wr) (fun i _ => n - (intOf i).toNat)
 case atStart => exact ⟨0, zms _, rfl, znl _ _⟩
 case round =>
  obtain ⟨k, hk, rfl, hf⟩ := hrel; by_cases hlt : k < n
  ·obtain ⟨g, off, rfl, _, aa⟩ := HR.out (by omega)
   obtain ⟨g2, an, rfl, _, aj⟩ := HS.out (by omega); obtain ⟨x, hx⟩ : ∃ x, l[k]? = some x := ⟨_, zmj (by rw [HN.out]; exact hlt)⟩; have aw : ∀ {g off : Nat}, (∀ j u, (l.flatMap spc)[j]? = some u -> w.cell? ⟨g, off + j, none⟩ = some u) -> ∀ j, j < 2 -> ∀ u, (spc x)[j]? = some u -> wr.drew.cell? ⟨g, off + (k * 2 + j), none⟩ = some u := fun {g off} aa j hj u hu => by
    have := aa (k * 2 + j) u (by rw [zby spc (fun _ => rfl) l k x hx j hj]; exact hu); rw [hf.drew.cell (p := ⟨g, off + (k * 2 + j), none⟩) (zmo w _ this) id]; exact this
   have c0 : wr.drew.cell? ⟨g, off + k * 2, none⟩ = some (.int .i32 x.1) := aw aa 0 (by omega) _ rfl; have c1 : wr.drew.cell? ⟨g, off + k * 2 + 1, none⟩ = some (.int .u32 x.2) := aw aa 1 (by omega) _ rfl; have d0 : wr.drew.cell? ⟨g2, an + k * 2, none⟩ = some (.int .i32 x.1) := aw aj 0 (by omega) _ rfl
   have d1 : wr.drew.cell? ⟨g2, an + k * 2 + 1, none⟩ = some (.int .u32 x.2) := aw aj 1 (by omega) _ rfl; have aq := zmh hf.drew; clear aa aj aw hf hx; go_wp2; go_region; go_wp2; go_roundw
   case rel => exact ⟨k + 1, by omega, by go_num, aq.out⟩
   case measure => simp [intOf]; omega
  ·obtain rfl : k = n := by omega
   go_wp2; go_ret; exact ⟨rfl, hf⟩
theorem zgd (P Q : Nat -> Prop) (u v : Value) (l : List Int) (w : World) (hu : Sl P w u 1 l.length (l.flatMap i1)) (hv : Sl Q w v 1 l.length (l.flatMap i1)) (hl : l.length <= 1099511627776) : Calls prog 199 #[u, v] w (zap w) := by
 obtain ⟨A, c, rfl, _, hc, hr⟩ := hu; obtain ⟨B, d, rfl, _, hd, hs⟩ := hv; obtain ⟨n, hn⟩ := exE l.length; rw [hn] at hr hs hc hd hl ⊢; have HN := zmh hn; have HR := zmh hr; have HS := zmh hs; clear hn hr hs; go_enter func199, ntmps199; go_wp2; go_loopw [5] (fun i wr => ∃ k : Nat, k <= n /\ i = .int .i64 k /\ z_F w wr) (fun i _ => n - (intOf i).toNat)
 case atStart => exact ⟨0, zms _, rfl, znl _ _⟩
 case round =>
  obtain ⟨k, hk, rfl, hf⟩ := hrel; by_cases hlt : k < n
  ·obtain ⟨g, off, rfl, _, aa⟩ := HR.out (by omega)
   obtain ⟨g2, an, rfl, _, aj⟩ := HS.out (by omega); obtain ⟨x, hx⟩ : ∃ x, l[k]? = some x := ⟨_, zmj (by rw [HN.out]; exact hlt)⟩; have aw : ∀ {g off : Nat}, (∀ j u, (l.flatMap i1)[j]? = some u -> w.cell? ⟨g, off + j, none⟩ = some u) -> ∀ j, j < 1 -> ∀ u, (i1 x)[j]? = some u -> wr.drew.cell? ⟨g, off + (k * 1 + j), none⟩ = some u := fun {g off} aa j hj u hu => by
    have := aa (k * 1 + j) u (by rw [zgE 1 i1 (fun _ => rfl) l k x hx j hj]; exact hu); rw [hf.drew.cell (p := ⟨g, off + (k * 1 + j), none⟩) (zmo w _ this) id]; exact this
   have c0 : wr.drew.cell? ⟨g, off + k, none⟩ = some (.int .i64 x) := by have := aw aa 0 (by omega) _ rfl; simpa using this
   have d0 : wr.drew.cell? ⟨g2, an + k, none⟩ = some (.int .i64 x) := by have := aw aj 0 (by omega) _ rfl; simpa using this
   have aq := zmh hf.drew; clear aa aj aw hf hx; go_wp2; go_region; go_wp2; go_roundw
   case rel => exact ⟨k + 1, by omega, by go_num, aq.out⟩
   case measure => simp [intOf]; omega
  ·obtain rfl : k = n := by omega
   go_wp2; go_ret; exact ⟨rfl, hf⟩
theorem zeC (P Q : Nat -> Prop) (u v : Value) (l : List Nat) (w : World) (hu : Sl P w u 1 l.length (l.flatMap u1)) (hv : Sl Q w v 1 l.length (l.flatMap u1)) (hl : l.length <= 1099511627776) : Calls prog 200 #[u, v] w (zap w) := by
 obtain ⟨A, c, rfl, _, hc, hr⟩ := hu; obtain ⟨B, d, rfl, _, hd, hs⟩ := hv; obtain ⟨n, hn⟩ := exE l.length; rw [hn] at hr hs hc hd hl ⊢; have HN := zmh hn; have HR := zmh hr; have HS := zmh hs; clear hn hr hs; go_enter func200, ntmps200; go_wp2; go_loopw [5] (fun i wr => ∃ k : Nat, k <= n /\ i = .int .i64 k /\ z_F w wr) (fun i _ => n - (intOf i).toNat)
 case atStart => exact ⟨0, zms _, rfl, znl _ _⟩
 case round =>
  obtain ⟨k, hk, rfl, hf⟩ := hrel; by_cases hlt : k < n
  ·obtain ⟨g, off, rfl, _, aa⟩ := HR.out (by omega)
   obtain ⟨g2, an, rfl, _, aj⟩ := HS.out (by omega); obtain ⟨x, hx⟩ : ∃ x, l[k]? = some x := ⟨_, zmj (by rw [HN.out]; exact hlt)⟩; have aw : ∀ {g off : Nat}, (∀ j u, (l.flatMap u1)[j]? = some u -> w.cell? ⟨g, off + j, none⟩ = some u) -> ∀ j, j < 1 -> ∀ u, (u1 x)[j]? = some u -> wr.drew.cell? ⟨g, off + (k * 1 + j), none⟩ = some u := fun {g off} aa j hj u hu => by
    have := aa (k * 1 + j) u (by rw [zgE 1 u1 (fun _ => rfl) l k x hx j hj]; exact hu); rw [hf.drew.cell (p := ⟨g, off + (k * 1 + j), none⟩) (zmo w _ this) id]; exact this
   have c0 : wr.drew.cell? ⟨g, off + k, none⟩ = some (.int .u64 x) := by have := aw aa 0 (by omega) _ rfl; simpa using this
   have d0 : wr.drew.cell? ⟨g2, an + k, none⟩ = some (.int .u64 x) := by have := aw aj 0 (by omega) _ rfl; simpa using this
   have aq := zmh hf.drew; clear aa aj aw hf hx; go_wp2; go_region; go_wp2; go_roundw
   case rel => exact ⟨k + 1, by omega, by go_num, aq.out⟩
   case measure => simp [intOf]; omega
  ·obtain rfl : k = n := by omega
   go_wp2; go_ret; exact ⟨rfl, hf⟩
theorem zeU (te : TypeId) (pe : Value) (q0 q1 q2 q3 q4 q5 q6 bv : Value) (pre : List Mrk) (xs : List UInt8) (P : Nat -> Prop) (w : World) (hb : Sl P w bv 1 xs.length (bc xs)) (bm : xs.length <= 1073741824) (hP : ∀ g, P g -> g < w.heap.size)
 (au : ∀ s ∈ [q0, q1, q2, q3, q4, q5, q6], ∃ A m c, s = .slice A m c) (hs : Sl P w q5 2 pre.length (pre.flatMap Mrk.c)) (bx : pre.length <= 1073741824) (hE : w.cell? ⟨2, 0, none⟩ = some (.iface te pe)) :
 Calls prog 29 #[.int .i64 5, bv, .agg #[q0, q1, q2, q3, q4, q5, q6]] w (ReadDone (MrkParts w.heap.size (zmc pre xs)) (zaG xs).isSome w) := by
 have h2 := zmo w _ hE; refine zbl 5 q0 q1 q2 q3 q4 q5 q6 bv xs P _ _ w hb au ?_ ?_
 ·rintro ps W W' ⟨lv, rfl, ho⟩ hv
  refine ⟨lv, rfl, zai ho hv ?_⟩; rintro g hg ⟨cs, h | h⟩
  ·exact zak ho h (by decide) hg
  ·exact zak ho h (by decide) hg
 ·intro bb bk bq bp bo W hk bJ hq hp ho g8 nG nH dr hF
  have gU : W.cell? ⟨2, 0, none⟩ = some (.iface te pe) := by rw [hF.cell (p := ⟨2, 0, none⟩) h2 id]; exact hE
  refine (zhW te pe bb bk bq bp bo P q0 q1 q2 q3 q4 q5 q6 bv xs W bJ (hb.fr hF z_i) hk hq pre (hs.fr hF z_i) bx hp ho gU bm (fun g hg e => by have := hP g hg; omega) dr (by simp only [] at h2; omega)).mono ?_; rintro r w' ⟨rfl, hf, db, lv, da, ab⟩; have hz := hF.size; obtain ⟨a, c, gJ⟩ := zaa ab
  exact ⟨rfl, hf, db, _, seven_of5 ⟨_, _, _, gJ⟩, da, lv, rfl, zah ab hz⟩
end Go.Proofs.YtbkookiigkckdaaGreatDoor
