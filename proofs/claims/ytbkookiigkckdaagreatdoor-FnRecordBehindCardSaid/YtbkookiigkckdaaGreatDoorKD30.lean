/- Merged. -/
import Derived.Test.YtbkookiigkckdaaGreatDoorKD28
set_option linter.unusedVariables false
set_option linter.unusedSimpArgs false
set_option maxRecDepth 100000
set_option maxHeartbeats 8000000
namespace Go.Proofs.YtbkookiigkckdaaGreatDoor
open Go.RowKit Go.Proofs.Tryz
def zgq (pre : List Rhs) (xs : List UInt8) : List Rhs := match zcP xs with | some l => (pre ++ l).map (fun x => { x with h := x.h.cutF }) | none => []
def zkB (w : World) (bb bp bo : Nat) (pre : List Rhs) (xs : List UInt8) (r : Ending) (w' : World) : Prop :=
 r = .returned (.tuple #[]) /\ Fr (fun k => k = bb ∨ k = bp ∨ k = bo) w w' /\ Blk w' bo 4 #[.bool (zcP xs).isSome] /\
  ∃ lv lo, Blk w' bp 54 #[.slice none 0 0, .slice none 0 0, .slice none 0 0, .slice none 0 0, .slice none 0 0, .slice none 0 0, lv] /\ OwnI w.heap.size w' lv lo /\ lo.map Prod.fst = zgq pre xs
theorem zkf {S : Nat -> Prop} {w w' : World} {base : Nat} {lo : List (Rhs × Value)} {xs : List UInt8} {r : Ending} (h : zdU S w base lo (zcP xs) r w') :
 ∃ v' e l2, r = .returned (.tuple #[v', e]) /\ OwnHF base w' v' l2 /\ (l2.map fun p => ({ p.1 with h := p.1.h.cutF } : Rhs)) = zgq (lo.map Prod.fst) xs /\ Fr S w w' /\ ((e = .nilIface /\ (zcP xs).isSome = true /\ ∀ l, zcP xs = some l -> l2.map Prod.fst = lo.map Prod.fst ++ l) ∨ (∃ t a, e = .iface t a /\ (zcP xs).isSome = false /\ l2 = [])) := by
 unfold zdU at h; unfold zgq; rcases hd : zcP xs with _ | l
 ·rw [hd] at h
  obtain ⟨hf, t, a, rfl⟩ := h; exact ⟨_, _, [], rfl, OwnHF.nil _ _, rfl, hf, .inr ⟨_, _, rfl, rfl, rfl⟩⟩
 ·rw [hd] at h
  obtain ⟨hf, v', l3, rfl, fb, ho⟩ := h; refine ⟨_, _, lo ++ l3, rfl, ho, ?_, hf, .inl ⟨rfl, rfl, fun l' e => ?_⟩⟩
  ·show _ = ((lo.map Prod.fst ++ l).map (fun x => ({ x with h := x.h.cutF } : Rhs)))
   rw [<- fb, <- zmH, znj]; rfl
  ·injection e with e
   subst e; rw [zmH, fb]
theorem zeW {W w5 w6 : World} {b t : Nat} {cs : Array Value} {v5 : Value} {lo : List (Rhs × Value)} (h : Blk W b t cs) (ap : z_F W.drew w5) (ho : OwnHF W.drew.heap.size w5 v5 lo) (aR : Fr (fun k => some k = v5.ownBlock) w5 w6) : Blk w6 b t cs :=
 (h.drew.fr ap id).fr aR (fun e => by have h1 := (ho.1.lt b e.symm).1; have h2 : b < W.heap.size := h.lt; exact zm1 _ (zmG h2 h1))
theorem zdh : (∀ (_ : True) (te : TypeId) (pe : Value) (bb bk bq bp bo : Nat) (P : Nat -> Prop) (q0 q1 q2 q3 q4 q5 q6 v : Value) (xs : List UInt8) (kz : Nat) (kl : kz = 7 ∨ kz = 9) (w : World) (hb : Blk w bb 44 #[v]) (hv : Sl P w v 1 xs.length (bc xs)) (hk : Blk w bk 3 #[.int .i64 (kz : Int)]) (hq : Blk w bq 54 #[q0, q1, q2, q3, q4, q5, q6]) (pre : List (Rhs × Hsl)) (hs : SlH P w q6 pre) (bx : pre.length <= 1024)
 (fj : ∀ p ∈ pre, p.1.h.few 1099511627776) (dI : ∀ l, zcO xs = some l -> l.length <= 1024 /\ ∀ x ∈ l, x.h.few 1099511627776)
 (hp : Blk w bp 54 #[.slice none 0 0, .slice none 0 0, .slice none 0 0, .slice none 0 0, .slice none 0 0, .slice none 0 0, .slice none 0 0]) (ho : Blk w bo 4 #[.bool false]) (hE : w.cell? ⟨2, 0, none⟩ = some (.iface te pe)) (bm : xs.length <= 1073741824)
 (dV : ∀ g, P g -> g ≠ bb) (dr : bp ≠ bq) (h2 : bb ≠ 2 /\ bp ≠ 2 /\ bo ≠ 2)
 (ak : St -> Prop) (hG : ∀ kd rest, xs = kd :: rest -> (kd = 7 ∨ kd = 9) -> ∀ l, ak (some l) -> zdb (some l) /\ ak (zaR (zac (some rest)).1 (zav (zac (some rest)).2).1 (some l)).2) (aZ : ∀ kd rest, xs = kd :: rest -> (kd = 7 ∨ kd = 9) -> rest ≠ [] -> ak (zav (zac (some rest)).2).2),
 Calls prog 66 #[.pointer (some ⟨bb, 0, none⟩), .pointer (some ⟨bk, 0, none⟩), .pointer (some ⟨bq, 0, none⟩), .pointer (some ⟨bp, 0, none⟩), .pointer (some ⟨bo, 0, none⟩)] w (zkA w bb bp bo (pre.map Prod.fst) xs)) /\ (∀ (_ : True) (te : TypeId) (pe : Value) (bb bk bq bp bo : Nat) (P : Nat -> Prop) (q0 q1 q2 q3 q4 q5 q6 v : Value) (xs : List UInt8) (kz : Nat) (kl : kz = 8 ∨ kz = 10) (w : World) (hb : Blk w bb 44 #[v]) (hv : Sl P w v 1 xs.length (bc xs)) (hk : Blk w bk 3 #[.int .i64 (kz : Int)]) (hq : Blk w bq 54 #[q0, q1, q2, q3, q4, q5, q6]) (pre : List (Rhs × Hsl)) (hs : SlH P w q6 pre) (bx : pre.length <= 1024)
 (fj : ∀ p ∈ pre, p.1.h.few 1099511627776) (dI : ∀ l, zcP xs = some l -> l.length <= 1024 /\ ∀ x ∈ l, x.h.few 1099511627776)
 (hp : Blk w bp 54 #[.slice none 0 0, .slice none 0 0, .slice none 0 0, .slice none 0 0, .slice none 0 0, .slice none 0 0, .slice none 0 0]) (ho : Blk w bo 4 #[.bool false]) (hE : w.cell? ⟨2, 0, none⟩ = some (.iface te pe)) (bm : xs.length <= 1073741824)
 (dV : ∀ g, P g -> g ≠ bb) (dr : bp ≠ bq) (h2 : bb ≠ 2 /\ bp ≠ 2 /\ bo ≠ 2)
 (ak : St -> Prop) (hG : ∀ kd rest, xs = kd :: rest -> (kd = 8 ∨ kd = 10) -> ∀ l, ak (some l) -> zdc (some l) /\ ak (zaS (zac (some rest)).1 (zav (zac (some rest)).2).1 (some l)).2) (aZ : ∀ kd rest, xs = kd :: rest -> (kd = 8 ∨ kd = 10) -> rest ≠ [] -> ak (zav (zac (some rest)).2).2),
 Calls prog 66 #[.pointer (some ⟨bb, 0, none⟩), .pointer (some ⟨bk, 0, none⟩), .pointer (some ⟨bq, 0, none⟩), .pointer (some ⟨bp, 0, none⟩), .pointer (some ⟨bo, 0, none⟩)] w (zkB w bb bp bo (pre.map Prod.fst) xs)) := by
 refine ⟨fun ag te pe bb bk bq bp bo P q0 q1 q2 q3 q4 q5 q6 v xs kz kl w hb hv hk hq pre hs bx fj dI hp ho hE bm dV dr h2 ak hG aZ => ?_, fun bU te pe bb bk bq bp bo P q0 q1 q2 q3 q4 q5 q6 v xs kz kl w hb hv hk hq pre hs bx fj dI hp ho hE bm dV dr h2 ak hG aZ => ?_⟩; all_goals
  have ii := zmh hG; have ig := zmh aZ; have HXF := zmh dI; have oW := zmh fj; clear hG aZ dI fj; obtain ⟨i0, aC, az, ay, aB⟩ := info_parts zff; have HB := zmh hb; have HV := zmh hv; have HK := zmh hk; have HQ := zmh hq; have HS := zmh hs; have HP := zmh hp; have HO := zmh ho; have HE := zmh hE; have kA := zmh dV
  have cA : ∃ A m c, v = .slice A m c := let ⟨A, c, h, _⟩ := hv; ⟨A, _, c, h⟩
  obtain ⟨A, m, c, rfl⟩ := cA; clear hb hv hk hq hs hp ho hE dV; go_enter func66, ntmps66; go_wp2_with (first | (go_at_call 67; refine (zdw _ _).mono ?_; rintro r w1 ⟨v1, rfl, ⟨a, rfl⟩, ah⟩; refine Hid.out ?_))
  have ax := ((HB.out.fr ah id).alloc (.cells #[.slice (some a) 0 0, .string ⟨#[]⟩, .slice none 0 0] 119)).alloc (.cells #[] 5); have b1 := ax.cell 0; simp at b1; clear ax; refine zmh ?_; go_wp2_with (at_builtin; refine Hid.out ?_)
  have eo := znk (base := w.heap.size) (e := 5) (size := 1) (w1.alloc (.cells #[.slice (some a) 0 0, .string ⟨#[]⟩, .slice none 0 0] 119)) #[] 0 (by have := ah.size; simp; omega) (zms _) rfl; have dw : z_F w ((w1.alloc (.cells #[.slice (some a) 0 0, .string ⟨#[]⟩, .slice none 0 0] 119)).alloc (.cells #[] 5)) := (ah.alloc _).alloc _; have bh := ah.size
  refine zmh ?_; have li : (w1.alloc (.cells #[.slice (some a) 0 0, .string ⟨#[]⟩, .slice none 0 0] 119)).heap.size = w1.heap.size + 1 := by simp
  rw [li] at eo; clear b1; generalize World.alloc _ (Obj.cells #[] 5) = WA at eo dw ⊢; have hsA := dw.size; have cd := zbp underlying44 (HV.out.fr dw z_i) (zfC xs)
  refine zaf _ rfl _ _ 44 44 rfl w.heap.size 5 i0 (.int .u8 0) 1 1 underlying44 aC az ay aB rfl (by decide) (.slice (some ⟨w1.heap.size + 1, 0, none⟩) 0 0) 0 [] rfl eo (.slice A m c) xs.length (bc xs) rfl cd (by unfold maxLen; omega) (by omega) (by omega) ?_; intro v' w2 ac ad av
  rw [zmM, zmT] at ac; obtain ⟨a2, k2, rfl⟩ := zaa ac; have eJ : ∀ k, (Value.slice (some ⟨w1.heap.size + 1, 0, none⟩) 0 0).ownBlock = some k -> w.heap.size <= k := fun k hk => by
   have hk : w1.heap.size + 1 = k := zm6 hk; omega
  have F2 : z_F w w2 := dw.grown ad (fun k hk => .inr (eJ k hk)); have dq : ∃ g2 aI, a2 = some ⟨g2, 0, none⟩ /\ w.heap.size <= g2 /\ Blk w2 g2 5 aI /\ xs.length <= k2 /\ k2 <= maxLen /\ aI.toList.take xs.length = bc xs := by
   rcases ac.2 with ⟨h, _⟩ | ⟨g2, aK, aI, h, h1, h3, h4, h5, _, h6⟩
   ·rw [h] at av
    rcases av with av | av <;> exact absurd av (by simp [Value.ownBlock])
   ·injection h with e1 e2 e3
    subst e3; exact ⟨g2, aI, e1, h1, h3, h4, h5, by simpa using h6⟩
  have cn : ∀ k, (Value.slice a2 xs.length k2).ownBlock = some k -> w.heap.size <= k := fun k hk => (ac.lt k hk).1; have lB := HB.out.lt; have gB := HB.out.fr F2 id; have y0 := gB.cell 0; have y1 := gB.frozen 0; simp at y0
  have F3 : Fr (fun k => k = bb) w (w2.setCell ⟨bb, 0, none⟩ (.slice a2 xs.length k2)) := (F2.mono (S' := fun k => k = bb) (fun _ _ e => e.elim)).setCell (p := ⟨bb, 0, none⟩) (.inl rfl) _; have O3 : (w2.setCell ⟨bb, 0, none⟩ (.slice a2 xs.length k2)).ownsRow w.heap.size 5 1 (.slice a2 xs.length k2) xs.length (bc xs) := zai ac (Fr.put_ w2 bb 0 _) (fun k hk e => by have := cn k hk; omega)
  have B3 : Blk (w2.setCell ⟨bb, 0, none⟩ (.slice a2 xs.length k2)) bb 44 #[.slice a2 xs.length k2] := by simpa using gB.set_ 0 (.slice a2 xs.length k2)
  have K3 := (HK.out.fr F3 (fun e => znn HK.out HB.out (by decide) e)).cell 0; have Q3 := HQ.out.fr F3 (fun e => znn HQ.out HB.out (by decide) e); have P3 := HP.out.fr F3 (fun e => znn HP.out HB.out (by decide) e); have O4 := HO.out.fr F3 (fun e => znn HO.out HB.out (by decide) e)
  have E3 : (w2.setCell ⟨bb, 0, none⟩ (.slice a2 xs.length k2)).cell? ⟨2, 0, none⟩ = some (.iface te pe) := by
   rw [F3.cell (p := ⟨2, 0, none⟩) (zmo w _ HE.out) (fun e => h2.1 e.symm)]; exact HE.out
  simp at K3; have bB := zmh F3; have eq := zmh O3; have bH := zmh B3; have c8 := zmh Q3; have eK := zmh P3; have dj := zmh O4; have dF := zmh E3; have ou := zmh cn; obtain ⟨g2, aI, rfl, dU, co, cI, dt, dp⟩ := dq
  have R3 : Rec te pe (w2.setCell ⟨bb, 0, none⟩ (.slice (some ⟨g2, 0, none⟩) xs.length k2)) g2 aI xs (.slice (some ⟨g2, 0, none⟩) xs.length k2) := by
   refine ⟨0, k2, rfl, co.far (p := ⟨bb, 0, none⟩) (by show g2 ≠ bb; omega) _, cI, ⟨by simp [maxLen] at dt; omega, by omega⟩, fun j u hu => ?_, E3⟩; rw [zmM, <- Array.getElem?_toList]; have hj : j < xs.length := by
    rcases zmK j xs.length with h | h
    ·exact h
    ·rw [zmL (by rw [zda]; exact h)] at hu; cases hu
   rw [<- dp, List.getElem?_take_of_lt hj] at hu; exact hu
  have bG := zmh R3; have lh := co.lt; clear R3 dt dp co; clear F2 F3 O3 B3 Q3 P3 O4 E3 gB eJ cn ac ad av cd eo dw ah; rcases kl with rfl | rfl; all_goals
   go_wp2_with fail
   generalize w2.setCell ⟨bb, 0, none⟩ (.slice (some ⟨g2, 0, none⟩) xs.length k2) = W3 at bB eq bH c8 eK dj dF bG ⊢; have fb := bG.out; have gq : g2 < W3.heap.size := let ⟨_, _, _, h, _⟩ := fb; h.lt
   have jj : 2 < W3.heap.size := zmo W3 _ dF.out; clear fb; have hS3 : SlH P W3.drew q6 pre := HS.out.fr bB.out.drew (fun g hg e => kA.out g hg e)
   first | (guard_hyp ag; have eD := zcv P q6 pre W3.drew hS3 (by omega) oW.out) | (have eD := zdG P q6 pre W3.drew hS3 (by omega) oW.out)
   have eZ : ∃ A m c, q6 = .slice A m c := let ⟨A, c, h, _⟩ := HS.out.1; ⟨A, _, c, h⟩
   obtain ⟨Aq, mq, cq, rfl⟩ := eZ; have x0 := bH.out.cell 0; have x1 := c8.out.cell 6; have kI : W3.drew.cell? ⟨bb, 0, none⟩ = some (.slice (some ⟨g2, 0, none⟩) xs.length k2) := x0; have jn : W3.drew.cell? ⟨bq, 6, none⟩ = some (.slice Aq mq cq) := x1; simp at x0 x1; clear y0 y1 K3
   go_region_held3 (fun w' => w'.cell? ⟨bb, 0, none⟩ = some (.slice (some ⟨g2, 0, none⟩) xs.length k2) /\ w'.cell? ⟨bq, 6, none⟩ = some (.slice Aq mq cq))
    ((first | (go_split_ands; refine ⟨?_, ?_⟩ <;> first | exact (bH.out.drew.fr ap id).cell 0 | exact (c8.out.drew.fr ap id).cell 6) | (go_split_ands; refine ⟨?_, ?_⟩ <;> first | exact KB.out.cell 0 | exact KQ.out.cell 6) | go_keep))
    ((first
      | (go_at_call 84; refine eD.mono ?_; rintro r5 w5 ⟨v5, lo5, rfl, iE, al, ap⟩)
      | (go_at_call 87; refine eD.mono ?_; rintro r5 w5 ⟨v5, lo5, rfl, iE, al, ap⟩)
      | (go_at_call 83; refine (zlY te pe _ g2 W3.drew.heap.size aI lo5 xs _ v5 w5 (bG.out.fr (w := W3) (((znl (fun _ => False) W3).drew).same ap) id id) al ⟨jj, ap.size⟩ (by have h := zm7 List.length iE; simp at h; omega) ak ii.out ig.out).mono ?_; rintro r6 w6 eE; obtain ⟨v6, e6, l6, rfl, aJ, ik, aR, cl⟩ := zkc eE; clear eE; have KB := zmh (zeV bH.out ap al aR); have KQ := zmh (zeV c8.out ap al aR))
      | (go_at_call 86; refine (zl0 te pe _ g2 W3.drew.heap.size aI lo5 xs _ v5 w5 (bG.out.fr (w := W3) (((znl (fun _ => False) W3).drew).same ap) id id) al ⟨jj, ap.size⟩ (by have h := zm7 List.length iE; simp at h; omega) ak ii.out ig.out).mono ?_; rintro r6 w6 eE; obtain ⟨v6, e6, l6, rfl, aJ, ik, aR, cl⟩ := zkf eE; clear eE; have KB := zmh (zeW bH.out ap al aR); have KQ := zmh (zeW c8.out ap al aR))))
   have T6 : Fr (fun k => k = bb) w w6 := ((bB.out.trans (((znl (fun _ => False) W3).drew).same ap) (fun _ _ e => e.elim)).trans aR (fun k hk e => by
    have h1 := (al.1.lt k e.symm).1; have h2 := bB.out.size
    simp at h1; omega))
   first | (guard_hyp ag; have P6 := zeV eK.out ap al aR) | (have P6 := zeW eK.out ap al aR)
   first | (guard_hyp ag; have O6 := zeV dj.out ap al aR) | (have O6 := zeW dj.out ap al aR)
   rw [iE] at ik; have hl6 : l6.length <= 4096 /\ ∀ p ∈ l6, p.1.h.few 1099511627776 := by
    rcases cl with ⟨_, bh, iG⟩ | ⟨_, _, _, _, rfl⟩
    ·obtain ⟨l, hl⟩ := Option.isSome_iff_exists.1 bh
     have e := iG l hl; rw [iE] at e; obtain ⟨f1, f2⟩ := HXF.out l hl; have h9 := zm7 List.length e; simp at h9; refine ⟨by omega, fun p hp => ?_⟩; have hm : p.1 ∈ pre.map Prod.fst ++ l := by rw [<- e]; exact zmN.2 ⟨p, hp, rfl⟩
     rcases zmX.1 hm with hm | hm
     ·obtain ⟨q, eZ, kV⟩ := zmN.1 hm
      rw [<- kV]; exact oW.out q eZ
     ·exact f2 _ hm
    ·exact ⟨zms _, fun p hp => by cases hp⟩
   first | (guard_hyp ag; have hU := fun W (hW : z_F w6 W) => zdW _ v6 l6 W ((aJ.fr hW (fun _ _ _ e => e)).rd) (by omega) hl6.2) | (have hU := fun W (hW : z_F w6 W) => zfr _ v6 l6 W ((aJ.fr hW (fun _ _ _ e => e)).rd) (by omega) hl6.2)
   have HU := zmh hU; have kw := zmh T6; have jl := zmh P6; have fz := zmh O6; have rN := zmh ik
   first
    | guard_hyp ag
      have kB : Hid ((e6 = .nilIface /\ (zcO xs).isSome = true) ∨ (∃ t a, e6 = .iface t a /\ (zcO xs).isSome = false)) := zmh (by
       rcases cl with ⟨h1, h3, _⟩ | ⟨t, a, h1, h3, _⟩
       ·exact .inl ⟨h1, h3⟩
       ·exact .inr ⟨t, a, h1, h3⟩)
    | have kB : Hid ((e6 = .nilIface /\ (zcP xs).isSome = true) ∨ (∃ t a, e6 = .iface t a /\ (zcP xs).isSome = false)) := zmh (by
       rcases cl with ⟨h1, h3, _⟩ | ⟨t, a, h1, h3, _⟩
       ·exact .inl ⟨h1, h3⟩
       ·exact .inr ⟨t, a, h1, h3⟩)
   have kT := ap.size; have kS := aR.size; have kM : w.heap.size <= w6.heap.size := T6.size; clear x0 x1 kI jn eD T6 P6 O6 cl al ap aJ aR KB KQ eq bH c8 eK dj dF bG bB hU ik iE hl6; go_wp2_with fail
   have gQ : bo ≠ bp := znn fz.out jl.out (by decide); have F0 : z_F w6 w6.drew := (znl (fun _ => False) w6).drew; have hU0 := HU.out w6.drew F0; rcases kB.out with ⟨rfl, aA⟩ | ⟨t, ae, rfl, aA⟩; all_goals
    have iY := zmh aA; clear aA
    first
     | guard_hyp ag
       go_region_held3 (fun w' => True)
        (trivial)
        ((go_at_call 85; refine hU0.mono ?_; rintro r8 w8 ⟨v8, lo8, rfl, jF, eu, cB⟩
          have P8 := zmh (jl.out.fr (F0.same cB) id); have O8 := zmh (fz.out.fr (F0.same cB) id); obtain ⟨a8, n8, k8, rfl⟩ := zab eu.1; have HW8 := zmh eu; have HL8 := zmh jF; have fH := zmh (F0.same cB); have s0 := P8.out.cell 6; have s1 := P8.out.frozen 6; have s2 := (O8.out.far (p := ⟨bp, 6, none⟩) gQ (.slice a8 n8 k8)).cell 0
          have s3 := (O8.out.far (p := ⟨bp, 6, none⟩) gQ (.slice a8 n8 k8)).frozen 0; have s4 := O8.out.cell 0; have s5 := O8.out.frozen 0; simp at s0 s2 s4
          clear eu jF cB))
     | go_region_held3 (fun w' => True)
        (trivial)
        ((go_at_call 88; refine hU0.mono ?_; rintro r8 w8 ⟨v8, lo8, rfl, jF, eu, cB⟩
          have P8 := zmh (jl.out.fr (F0.same cB) id); have O8 := zmh (fz.out.fr (F0.same cB) id); obtain ⟨a8, n8, k8, rfl⟩ := zab eu.1; have HW8 := zmh eu; have HL8 := zmh jF; have fH := zmh (F0.same cB); have s0 := P8.out.cell 6; have s1 := P8.out.frozen 6; have s2 := (O8.out.far (p := ⟨bp, 6, none⟩) gQ (.slice a8 n8 k8)).cell 0
          have s3 := (O8.out.far (p := ⟨bp, 6, none⟩) gQ (.slice a8 n8 k8)).frozen 0; have s4 := O8.out.cell 0; have s5 := O8.out.frozen 0; simp at s0 s2 s4
          clear eu jF cB))
    go_end0; have e1 := fH.out.size; refine ⟨rfl, ?_, ?_, .slice a8 n8 k8, lo8, ?_, ?_, by rw [HL8.out]; exact rN.out⟩
    ·exact ((((kw.out.trans fH.out (fun _ _ e => e.elim)).mono (S' := fun k => k = bb ∨ k = bp ∨ k = bo) (fun _ _ e => .inl e)).setCell (p := ⟨bp, 6, none⟩) (.inl (.inr (.inl rfl))) _)).setCell (p := ⟨bo, 0, none⟩) (.inl (.inr (.inr rfl))) _
    ·rw [iY.out]
     simpa using (O8.out.far (p := ⟨bp, 6, none⟩) gQ (.slice a8 n8 k8)).set_ 0 _
    ·simpa using (P8.out.set_ 6 (.slice a8 n8 k8)).far (p := ⟨bo, 0, none⟩) (Ne.symm gQ) _
    ·have h8 : OwnI w.heap.size w8 (.slice a8 n8 k8) lo8 := HW8.out.mono (by simpa using kM)
     have hP9 := P8.out.lt; exact (h8.fr9 P8.out (.inl rfl) (Fr.put_ w8 bp 6 _)).fr9 (O8.out.far (p := ⟨bp, 6, none⟩) gQ _) (.inr rfl) (Fr.put_ _ bo 0 _)
theorem read1_hsW : type_of% (zdh.1 trivial) := zdh.1 trivial
theorem read1_hsF : type_of% (zdh.2 trivial) := zdh.2 trivial
end Go.Proofs.YtbkookiigkckdaaGreatDoor
