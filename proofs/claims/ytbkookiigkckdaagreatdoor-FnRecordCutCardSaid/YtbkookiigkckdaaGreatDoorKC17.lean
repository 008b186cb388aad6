/- Texts of this seat, merged and shortened. -/
import Derived.Test.YtbkookiigkckdaaGreatDoorKC16
set_option linter.unusedVariables false
set_option linter.unusedSimpArgs false
set_option maxRecDepth 100000
set_option maxHeartbeats 8000000
namespace Go.Proofs.YtbkookiigkckdaaGreatDoor
open Go.RowKit Go.Proofs.Tryz
theorem info159 : (prog.info? 159).map (fun i => (i.zero, i.size, i.bytes)) = some (some (.agg #[.int .u64 0, .int .i64 0, .int .u64 0, .slice none 0 0]), 4, 48) := by kernel_rfl
def OwnX (base : Nat) (w : World) (v : Value) (lo : List (Exm × Value)) : Prop :=
 w.ownsRow base 159 4 v lo.length (lo.flatMap exc) /\ ∀ p ∈ lo, w.ownsRow base 40 2 p.2 p.1.labs.length (p.1.labs.flatMap zaJ)
theorem OwnX.nil (base : Nat) (w : World) : OwnX base w (.slice none 0 0) [] := ⟨zmy _ _ _ _, fun p hp => by cases hp⟩
theorem OwnX.fr {S : Nat -> Prop} {base : Nat} {w w' : World} {v : Value} {lo : List (Exm × Value)} (h : OwnX base w v lo) (hf : Fr S w w') (hs : ∀ k, base <= k -> k < w.heap.size -> ¬ S k) : OwnX base w' v lo :=
 ⟨zaj h.1 hf (fun g hg => hs g (h.1.lt g hg).1 (zas h.1 hg)), fun p hp => zaj (h.2 p hp) hf (fun g hg => hs g ((h.2 p hp).lt g hg).1 (zas (h.2 p hp) hg))⟩
theorem OwnX.mono {base base' : Nat} {w : World} {v : Value} {lo : List (Exm × Value)} (h : OwnX base w v lo) (hb : base' <= base) : OwnX base' w v lo :=
 ⟨zai h.1 hb, fun p hp => zai (h.2 p hp) hb⟩
theorem OwnX.sl {base : Nat} {w : World} {v : Value} {lo : List (Exm × Value)} (h : OwnX base w v lo) : SlX (fun g => base <= g /\ g < w.heap.size) w v lo :=
 ⟨(znt h.1).mono (fun g hg => ⟨(h.1.lt g hg).1, zas h.1 hg⟩), fun p hp => (znt (h.2 p hp)).mono (fun g hg => ⟨((h.2 p hp).lt g hg).1, zas (h.2 p hp) hg⟩)⟩
theorem OwnX.push {base : Nat} {w w2 : World} {v v' : Value} {lo : List (Exm × Value)} {p : Exm × Value} (h : OwnX base w v lo) (hp : w.ownsRow base 40 2 p.2 p.1.labs.length (p.1.labs.flatMap zaJ)) (hg : w.grownBy w2 v.ownBlock)
 (ho : w2.ownsRow base 159 4 v' (lo.length + 1) (lo.flatMap exc ++ exc p)) : OwnX base w2 v' (lo ++ [p]) := by
 have hf : Fr (fun k => some k = v.ownBlock) w w2 := (znq (fun k => some k = v.ownBlock) w).grown hg (fun k hk => .inl hk.symm); refine ⟨by simpa using ho, fun q hq => ?_⟩; rcases zm0.1 hq with hq | hq
 ·exact zaj (h.2 q hq) hf (fun g jE e => zb6 (h.2 q hq) h.1 (by decide) g jE e.symm)
 ·rw [zm1] at hq
  subst hq; exact zaj hp hf (fun g jE e => zb6 hp h.1 (by decide) g jE e.symm)
theorem OwnX.off {base : Nat} {w w' : World} {v : Value} {lo : List (Exm × Value)} {d t : Nat} {cs : Array Value} (h : OwnX base w v lo) (hb : Blk w d t cs) (h1 : 159 ≠ t) (h2 : 40 ≠ t) (hf : Fr (fun k => k = d) w w') : OwnX base w' v lo :=
 ⟨zaj h.1 hf (fun g hg e => zak h.1 hb h1 (by rw [hg, e])), fun p hp => zaj (h.2 p hp) hf (fun g hg e => zak (h.2 p hp) hb h2 (by rw [hg, e]))⟩
theorem OwnX.alloc {base : Nat} {w : World} {v : Value} {lo : List (Exm × Value)} (h : OwnX base w v lo) (o : Obj) : OwnX base (w.alloc o) v lo := h.fr ((znq (fun _ => False) w).alloc o) (fun _ _ _ e => e)
def zjE (pre : List ExD) (xs : List UInt8) : List ExD := match zbl xs with | some l => pre ++ l | none => []
def zjQ (x : ExD) : Exm := ⟨x.ref, x.t, x.v, x.labs⟩
theorem exo_exd (l : List Exm) : l.flatMap exo = (l.map toe).flatMap exd := by rw [List.flatMap_map]; rfl
def ReadEndsX (w : World) (bb bp bo : Nat) (pre : List ExD) (xs : List UInt8) (r : Ending) (w' : World) : Prop :=
 r = .returned (.tuple #[]) /\ Fr (fun k => k = bb ∨ k = bp ∨ k = bo) w w' /\ Blk w' bo 4 #[.bool (zbl xs).isSome] /\
  ∃ lv lo, Blk w' bp 54 #[.slice none 0 0, .slice none 0 0, .slice none 0 0, lv, .slice none 0 0, .slice none 0 0, .slice none 0 0] /\ OwnX w.heap.size w' lv lo /\ lo.map Prod.fst = (zjE pre xs).map zjQ
theorem zjf {b0 d : Nat} {w w' : World} {base : Nat} {o : Option Nat} {pre : List ExD} {xs : List UInt8} {r : Ending} (h : zeL (fun k => some k = o ∨ zdv w b0 d k) w base pre (zbl xs) r w') :
 ∃ v' e, r = .returned (.tuple #[v', e]) /\ w'.ownsRow base 157 4 v' (zjE pre xs).length ((zjE pre xs).flatMap exd) /\ Fr (fun k => some k = o ∨ zdv w b0 d k) w w' /\ ((e = .nilIface /\ (zbl xs).isSome = true) ∨ (∃ t a, e = .iface t a /\ (zbl xs).isSome = false)) := by
 unfold zeL at h; unfold zjE; rcases hd : zbl xs with _ | l
 ·rw [hd] at h
  obtain ⟨hf, t, a, rfl⟩ := h; exact ⟨_, _, rfl, zmy _ _ _ _, hf, .inr ⟨_, _, rfl, rfl⟩⟩
 ·rw [hd] at h
  obtain ⟨hf, v', rfl, ho⟩ := h; exact ⟨_, _, rfl, ho, hf, .inl ⟨rfl, rfl⟩⟩
theorem zf1 {W w5 w6 : World} {b t b0 d : Nat} {cs : Array Value} {v5 : Value} {n : Nat} {xs : List Value} (h : Blk W b t cs) (aq : Fr (fun _ => False) W.drew w5) (ho : w5.ownsRow W.drew.heap.size 157 4 v5 n xs) (aR : Fr (fun k => some k = v5.ownBlock ∨ zdv w5 b0 d k) w5 w6) (hb : b < b0 /\ b0 <= d) : Blk w6 b t cs :=
 (h.drew.fr aq (fun e => e)).fr aR (fun e => by
   rcases e with e | e | ⟨e, _⟩
   ·have h1 := (ho.lt b e.symm).1; have h2 : b < W.heap.size := h.lt; exact zm4 _ (zmJ h2 h1)
   ·omega
   ·omega)
theorem zcl : (∀ (_ : True) (te : TypeId) (pe : Value) (bb bk bq bp bo : Nat) (P : Nat -> Prop) (q0 q1 q2 q3 q4 q5 q6 v : Value) (xs : List UInt8) (w : World) (hb : Blk w bb 44 #[v]) (hv : Sl P w v 1 xs.length (bc xs)) (hk : Blk w bk 3 #[.int .i64 1]) (hq : Blk w bq 54 #[q0, q1, q2, q3, q4, q5, q6]) (pre : List (Ser × Value)) (hs : SlR P w q0 pre) (bm : pre.length <= 1024)
 (ff : ∀ p ∈ pre, LabOk p.1.labs 12 600) (dJ : ∀ x ∈ zjF ((pre.map Prod.fst).map tos) xs, x.labs.length <= 4096 /\ ∀ p ∈ x.labs, p.1.size <= 1048576 /\ p.2.size <= 1048576) (kF : (zjF ((pre.map Prod.fst).map tos) xs).length <= 1048576)
 (hp : Blk w bp 54 #[.slice none 0 0, .slice none 0 0, .slice none 0 0, .slice none 0 0, .slice none 0 0, .slice none 0 0, .slice none 0 0]) (ho : Blk w bo 4 #[.bool false]) (hE : w.cell? ⟨2, 0, none⟩ = some (.iface te pe)) (bh : xs.length <= 1073741824)
 (dU : ∀ g, P g -> g ≠ bb) (dt : bp ≠ bq) (h2 : bb ≠ 2 /\ bp ≠ 2 /\ bo ≠ 2)
 (aj : St -> Prop) (hG : ∀ l, aj (some l) -> zdd (some l) /\ aj (zbc (some l)).2) (aZ : ∀ r, xs = 1 :: r -> aj (some r)),
 Calls prog 66 #[.pointer (some ⟨bb, 0, none⟩), .pointer (some ⟨bk, 0, none⟩), .pointer (some ⟨bq, 0, none⟩), .pointer (some ⟨bp, 0, none⟩), .pointer (some ⟨bo, 0, none⟩)] w (ReadEndsR w bb bp bo ((pre.map Prod.fst).map tos) xs)) /\ (∀ (_ : True) (te : TypeId) (pe : Value) (bb bk bq bp bo : Nat) (P : Nat -> Prop) (q0 q1 q2 q3 q4 q5 q6 v : Value) (xs : List UInt8) (w : World) (hb : Blk w bb 44 #[v]) (hv : Sl P w v 1 xs.length (bc xs)) (hk : Blk w bk 3 #[.int .i64 4]) (hq : Blk w bq 54 #[q0, q1, q2, q3, q4, q5, q6]) (pre : List (Exm × Value)) (hs : SlX P w q3 pre) (bm : pre.length <= 1024)
 (ff : ∀ p ∈ pre, LabOk p.1.labs 12 600) (dJ : ∀ x ∈ zjE ((pre.map Prod.fst).map toe) xs, x.labs.length <= 4096 /\ ∀ p ∈ x.labs, p.1.size <= 1048576 /\ p.2.size <= 1048576) (kF : (zjE ((pre.map Prod.fst).map toe) xs).length <= 1048576)
 (hp : Blk w bp 54 #[.slice none 0 0, .slice none 0 0, .slice none 0 0, .slice none 0 0, .slice none 0 0, .slice none 0 0, .slice none 0 0]) (ho : Blk w bo 4 #[.bool false]) (hE : w.cell? ⟨2, 0, none⟩ = some (.iface te pe)) (bh : xs.length <= 1073741824)
 (dU : ∀ g, P g -> g ≠ bb) (dt : bp ≠ bq) (h2 : bb ≠ 2 /\ bp ≠ 2 /\ bo ≠ 2)
 (aj : St -> Prop) (hG : ∀ rest, xs = 4 :: rest -> ∀ l, aj (some l) -> zdF (some l) /\ aj (zaR (zab (some rest)).1 (zao (zab (some rest)).2).1 (some l)).2) (aZ : ∀ rest, xs = 4 :: rest -> rest ≠ [] -> aj (zao (zab (some rest)).2).2),
 Calls prog 66 #[.pointer (some ⟨bb, 0, none⟩), .pointer (some ⟨bk, 0, none⟩), .pointer (some ⟨bq, 0, none⟩), .pointer (some ⟨bp, 0, none⟩), .pointer (some ⟨bo, 0, none⟩)] w (ReadEndsX w bb bp bo ((pre.map Prod.fst).map toe) xs)) := by
 refine ⟨fun ag te pe bb bk bq bp bo P q0 q1 q2 q3 q4 q5 q6 v xs w hb hv hk hq pre hs bm ff dJ kF hp ho hE bh dU dt h2 aj hG aZ => ?_, fun bY te pe bb bk bq bp bo P q0 q1 q2 q3 q4 q5 q6 v xs w hb hv hk hq pre hs bm ff dJ kF hp ho hE bh dU dt h2 aj hG aZ => ?_⟩; all_goals
  have gZ := zmk hG; have gY := zmk aZ; have HXF := zmk dJ; have HXN := zmk kF; have oA := zmk ff; have h2w : 2 < w.heap.size := zmr w _ hE; have pU := hb.lt; have pR := hp.lt; have pS := ho.lt; have pQ := hq.lt; clear hG aZ dJ kF ff; obtain ⟨i0, aD, aA, az, aC⟩ := info_parts zfp; have HB := zmk hb; have HV := zmk hv
  have HK := zmk hk; have HQ := zmk hq; have HS := zmk hs; have HP := zmk hp; have HO := zmk ho; have HE := zmk hE; have kt := zmk dU; have cE : ∃ A m c, v = .slice A m c := let ⟨A, c, h, _⟩ := hv; ⟨A, _, c, h⟩
  obtain ⟨A, m, c, rfl⟩ := cE; clear hb hv hk hq hs hp ho hE dU; go_enter func66, ntmps66; go_wp2_with (first | (go_at_call 67; refine (zlq _ _).mono ?_; rintro r w1 ⟨v1, rfl, ⟨gb, rfl, hob⟩, ai⟩; have HOB := zmk hob; clear hob; refine Hid.out ?_))
  have aw := ((HB.out.fr ai (fun e => e)).alloc (.cells #[.slice (some ⟨gb, 0, none⟩) 0 0, .string ⟨#[]⟩, .slice none 0 0] 119)).alloc (.cells #[] 5); have b1 := aw.cell 0; simp at b1; clear aw; refine zmk ?_; go_wp2_with (at_builtin; refine Hid.out ?_)
  have eo := znp (base := w.heap.size) (e := 5) (size := 1) (w1.alloc (.cells #[.slice (some ⟨gb, 0, none⟩) 0 0, .string ⟨#[]⟩, .slice none 0 0] 119)) #[] 0 (by have := ai.size; simp; omega) (zmv _) rfl; have dx : Fr (fun _ => False) w ((w1.alloc (.cells #[.slice (some ⟨gb, 0, none⟩) 0 0, .string ⟨#[]⟩, .slice none 0 0] 119)).alloc (.cells #[] 5)) := (ai.alloc _).alloc _
  have bA := ai.size; refine zmk ?_; have kV : (w1.alloc (.cells #[.slice (some ⟨gb, 0, none⟩) 0 0, .string ⟨#[]⟩, .slice none 0 0] 119)).heap.size = w1.heap.size + 1 := by simp
  rw [kV] at eo; clear b1; have hBW := bld_new HOB.out; have ow : Blk ((w1.alloc (.cells #[.slice (some ⟨gb, 0, none⟩) 0 0, .string ⟨#[]⟩, .slice none 0 0] 119)).alloc (.cells #[] 5)) (w1.heap.size + 1) 5 #[] := by have h := znr (w1.alloc (.cells #[.slice (some ⟨gb, 0, none⟩) 0 0, .string ⟨#[]⟩, .slice none 0 0] 119)) 5 #[]; simpa using h
  generalize World.alloc _ (Obj.cells #[] 5) = WA at eo dx hBW ow ⊢; have HBW := zmk hBW; have cu := zmk ow; clear hBW ow; have hsA := dx.size; have cK := zdh underlying44 (HV.out.fr dx (fun _ _ e => e)) (zfN xs)
  refine zaf _ rfl _ _ 44 44 rfl w.heap.size 5 i0 (.int .u8 0) 1 1 underlying44 aD aA az aC rfl (by decide) (.slice (some ⟨w1.heap.size + 1, 0, none⟩) 0 0) 0 [] rfl eo (.slice A m c) xs.length (bc xs) rfl cK (by unfold maxLen; omega) (by omega) (by omega) ?_; intro v' w2 ac ad ax
  rw [zmP, zmW] at ac; obtain ⟨a2, k2, rfl⟩ := zaa ac; have eK : ∀ k, (Value.slice (some ⟨w1.heap.size + 1, 0, none⟩) 0 0).ownBlock = some k -> w.heap.size <= k := fun k hk => by
   have hk : w1.heap.size + 1 = k := zna hk; omega
  have F2 : Fr (fun _ => False) w w2 := dx.grown ad (fun k hk => .inr (eK k hk)); have dr : ∃ g2 aK, a2 = some ⟨g2, 0, none⟩ /\ w.heap.size <= g2 /\ Blk w2 g2 5 aK /\ xs.length <= k2 /\ k2 <= maxLen /\ aK.toList.take xs.length = bc xs := by
   rcases ac.2 with ⟨h, _⟩ | ⟨g2, aO, aK, h, h1, h3, h4, h5, _, h6⟩
   ·rw [h] at ax
    rcases ax with ax | ax <;> exact absurd ax (by simp [Value.ownBlock])
   ·injection h with e1 e2 e3
    subst e3; exact ⟨g2, aK, e1, h1, h3, h4, h5, by simpa using h6⟩
  have cn : ∀ k, (Value.slice a2 xs.length k2).ownBlock = some k -> w.heap.size <= k := fun k hk => (ac.lt k hk).1; have lB := HB.out.lt; have gB := HB.out.fr F2 (fun e => e); have y0 := gB.cell 0; have y1 := gB.frozen 0; simp at y0
  have F3 : Fr (fun k => k = bb) w (w2.setCell ⟨bb, 0, none⟩ (.slice a2 xs.length k2)) := (F2.mono (S' := fun k => k = bb) (fun _ _ e => e.elim)).setCell (p := ⟨bb, 0, none⟩) (.inl rfl) _; have O3 : (w2.setCell ⟨bb, 0, none⟩ (.slice a2 xs.length k2)).ownsRow w.heap.size 5 1 (.slice a2 xs.length k2) xs.length (bc xs) := zaj ac (Fr.put_ w2 bb 0 _) (fun k hk e => by have := cn k hk; omega)
  have B3 : Blk (w2.setCell ⟨bb, 0, none⟩ (.slice a2 xs.length k2)) bb 44 #[.slice a2 xs.length k2] := by simpa using gB.set_ 0 (.slice a2 xs.length k2)
  have K3 := (HK.out.fr F3 (fun e => zns HK.out HB.out (by decide) e)).cell 0; have Q3 := HQ.out.fr F3 (fun e => zns HQ.out HB.out (by decide) e); have P3 := HP.out.fr F3 (fun e => zns HP.out HB.out (by decide) e); have O4 := HO.out.fr F3 (fun e => zns HO.out HB.out (by decide) e)
  have E3 : (w2.setCell ⟨bb, 0, none⟩ (.slice a2 xs.length k2)).cell? ⟨2, 0, none⟩ = some (.iface te pe) := by
   rw [F3.cell (p := ⟨2, 0, none⟩) (zmr w _ HE.out) (fun e => h2.1 e.symm)]; exact HE.out
  simp at K3
  have qk : Bld w2 w.heap.size w1.heap.size [] ⟨#[]⟩ := HBW.out.fr (S := fun k => k = w1.heap.size + 1) ((znq (fun k => k = w1.heap.size + 1) WA).grown ad (fun k hk => .inl (zna hk).symm)) (by omega) (fun g' _ hc e => by
   obtain ⟨cs, hc⟩ := hc; subst e
   exact zns hc cu.out (by decide) rfl)
  have qj := qk.fr (Fr.put_ w2 bb 0 (.slice a2 xs.length k2)) (by omega) (fun g' _ hc e => by
   obtain ⟨cs, hc⟩ := hc; subst e
   exact zns hc gB (by decide) rfl)
  have lK := zmk qj; clear qk qj HBW cu; have bx := zmk F3; have eq := zmk O3; have bE := zmk B3; have bZ := zmk Q3; have eL := zmk P3; have dj := zmk O4; have dG := zmk E3; have nX := zmk cn; obtain ⟨g2, aK, rfl, el, co, cO, du, dq⟩ := dr
  have R3 : Rec te pe (w2.setCell ⟨bb, 0, none⟩ (.slice (some ⟨g2, 0, none⟩) xs.length k2)) g2 aK xs (.slice (some ⟨g2, 0, none⟩) xs.length k2) := by
   refine ⟨0, k2, rfl, co.far (p := ⟨bb, 0, none⟩) (by show g2 ≠ bb; omega) _, cO, ⟨by simp [maxLen] at du; omega, by omega⟩, fun j u hu => ?_, E3⟩; rw [zmP, <- Array.getElem?_toList]; have hj : j < xs.length := by
    rcases zmN j xs.length with h | h
    ·exact h
    ·rw [zmO (by rw [zdE]; exact h)] at hu; cases hu
   rw [<- dq, List.getElem?_take_of_lt hj] at hu; exact hu
  have aS := zmk R3; have kU := co.lt; clear R3 du dq co; clear F2 F3 O3 B3 Q3 P3 O4 E3 gB eK cn ac ad ax cK eo dx ai; go_wp2_with fail
  generalize w2.setCell ⟨bb, 0, none⟩ (.slice (some ⟨g2, 0, none⟩) xs.length k2) = W3 at bx eq bE bZ eL dj dG aS lK ⊢; have eZ := aS.out; have gi : g2 < W3.heap.size := let ⟨_, _, _, h, _⟩ := eZ; h.lt
  have ja : 2 < W3.heap.size := zmr W3 _ dG.out; clear eZ
  first | (guard_hyp ag; have hS3 : SlR P W3.drew q0 pre := HS.out.fr bx.out.drew (fun g hg e => kt.out g hg e)) | (have hS3 : SlX P W3.drew q3 pre := HS.out.fr bx.out.drew (fun g hg e => kt.out g hg e))
  first | (guard_hyp ag; have eE := ze2 P q0 pre W3.drew hS3 (by omega) oA.out) | (have eE := zd3 P q3 pre W3.drew hS3 (by omega) oA.out)
  first | (guard_hyp ag; have eY : ∃ A m c, q0 = .slice A m c := let ⟨A, c, h, _⟩ := HS.out.1; ⟨A, _, c, h⟩) | (have eY : ∃ A m c, q3 = .slice A m c := let ⟨A, c, h, _⟩ := HS.out.1; ⟨A, _, c, h⟩)
  obtain ⟨Aq, mq, cq, rfl⟩ := eY; have x0 := bE.out.cell 0
  first | (guard_hyp ag; have x1 := bZ.out.cell 0) | (have x1 := bZ.out.cell 3)
  have kA : W3.drew.cell? ⟨bb, 0, none⟩ = some (.slice (some ⟨g2, 0, none⟩) xs.length k2) := x0
  first | (guard_hyp ag; have jh : W3.drew.cell? ⟨bq, 0, none⟩ = some (.slice Aq mq cq) := x1) | (have jh : W3.drew.cell? ⟨bq, 3, none⟩ = some (.slice Aq mq cq) := x1)
  simp at x0 x1; clear y0 y1 K3
  first
   | guard_hyp ag
     go_region_held3 (fun w' => w'.cell? ⟨bb, 0, none⟩ = some (.slice (some ⟨g2, 0, none⟩) xs.length k2) /\ w'.cell? ⟨bq, 0, none⟩ = some (.slice Aq mq cq))
      ((first | (go_split_ands; refine ⟨?_, ?_⟩ <;> first | exact (bE.out.drew.fr aq (fun e => e)).cell 0 | exact (bZ.out.drew.fr aq (fun e => e)).cell 0) | (go_split_ands; refine ⟨?_, ?_⟩ <;> first | exact KB.out.cell 0 | exact KQ.out.cell 0) | go_keep))
      ((first
        | (go_at_call 69; refine eE.mono ?_; rintro r5 w5 ⟨v5, rfl, am, aq⟩; rw [sero_serd, <- zmI (f := tos)] at am)
        | (go_at_call 68; refine (zkE aj gZ.out te pe w.heap.size w1.heap.size g2 W3.drew.heap.size aK ((pre.map Prod.fst).map tos) xs _ v5 w5 (aS.out.fr (w := W3) (((znq (fun _ => False) W3).drew).same aq) (fun e => e) (fun e => e)) am ⟨ja, aq.size, zmJ gi aq.size⟩ (by rw [zmI, zmI]; omega) gY.out [] ⟨#[]⟩ (lK.out.fr (((znq (fun _ => False) W3).drew).same aq) (fun e => e) (fun _ _ _ e => e)) ⟨zm3 bx.out.size aq.size, h2w, bA⟩).mono ?_; rintro r6 w6 eF; obtain ⟨v6, e6, rfl, aM, aR, cj⟩ := ziQ eF; clear eF; have KB := zmk (zf4 bE.out aq am aR ⟨pU, bA⟩); have KQ := zmk (zf4 bZ.out aq am aR ⟨pQ, bA⟩))))
   | go_region_held3 (fun w' => w'.cell? ⟨bb, 0, none⟩ = some (.slice (some ⟨g2, 0, none⟩) xs.length k2) /\ w'.cell? ⟨bq, 3, none⟩ = some (.slice Aq mq cq))
      ((first | (go_split_ands; refine ⟨?_, ?_⟩ <;> first | exact (bE.out.drew.fr aq (fun e => e)).cell 0 | exact (bZ.out.drew.fr aq (fun e => e)).cell 3) | (go_split_ands; refine ⟨?_, ?_⟩ <;> first | exact KB.out.cell 0 | exact KQ.out.cell 3) | go_keep))
      ((first
        | (go_at_call 78; refine eE.mono ?_; rintro r5 w5 ⟨v5, rfl, am, aq⟩; rw [exo_exd, <- zmI (f := toe)] at am)
        | (go_at_call 77; refine (zkK te pe w.heap.size w1.heap.size g2 W3.drew.heap.size aK ((pre.map Prod.fst).map toe) xs _ v5 w5 (aS.out.fr (w := W3) (((znq (fun _ => False) W3).drew).same aq) (fun e => e) (fun e => e)) am ⟨ja, aq.size⟩ (by rw [zmI, zmI]; omega) aj gZ.out gY.out [] ⟨#[]⟩ (lK.out.fr (((znq (fun _ => False) W3).drew).same aq) (fun e => e) (fun _ _ _ e => e)) ⟨zm3 bx.out.size aq.size, h2w, bA⟩).mono ?_; rintro r6 w6 eF; obtain ⟨v6, e6, rfl, aM, aR, cj⟩ := zjf eF; clear eF; have KB := zmk (zf1 bE.out aq am aR ⟨pU, bA⟩); have KQ := zmk (zf1 bZ.out aq am aR ⟨pQ, bA⟩))))
  have T6 : Fr (fun k => k = bb) w w6 := ((bx.out.trans (((znq (fun _ => False) W3).drew).same aq) (fun _ _ e => e.elim)).trans aR (fun k hk e => by
   rcases e with e | e | ⟨e, _⟩
   ·have h1 := (am.lt k e.symm).1
    have h2 := bx.out.size; simp at h1; omega
   ·omega
   ·omega))
  first | (guard_hyp ag; have P6 := zf4 eL.out aq am aR ⟨pR, bA⟩) | (have P6 := zf1 eL.out aq am aR ⟨pR, bA⟩)
  first | (guard_hyp ag; have O6 := zf4 dj.out aq am aR ⟨pS, bA⟩) | (have O6 := zf1 dj.out aq am aR ⟨pS, bA⟩)
  have kD : w.heap.size <= W3.drew.heap.size := bx.out.size; have V6 := zai aM kD; have kr := zmk T6; have je := zmk P6; have gp := zmk O6; have fw := zmk V6; have ku := zmk cj; have kM := aq.size; have kK := aR.size; have gJ : ∀ k, v6.ownBlock = some k -> k < w6.heap.size := fun k hk => zas aM hk
  clear x0 x1 kA jh eE T6 P6 O6 V6 cj am aq aM aR KB KQ eq bE bZ eL dj dG aS bx lK
  first | (guard_hyp ag; obtain ⟨l, hl⟩ := exE (zjF ((pre.map Prod.fst).map tos) xs)) | (obtain ⟨l, hl⟩ := exE (zjE ((pre.map Prod.fst).map toe) xs))
  rw [hl] at fw HXF HXN; have mB := zmk hl; clear hl; obtain ⟨a6, k6, rfl⟩ := zaa fw.out; go_wp2_with fail
  obtain ⟨n, hn⟩ := exE l.length; have HN := zmk hn; rw [hn] at fw gJ HXN ⊢; clear hn
  first | (guard_hyp ag; obtain ⟨i1, gC, ei, dW, fF⟩ := info_parts info130) | (obtain ⟨i1, gC, ei, dW, fF⟩ := info_parts info159)
  first
   | guard_hyp ag
     go_loopw [51] (fun i wr => ∃ (k : Nat) (lv : Value) (lo : List (Ser × Value)), k <= n /\ i = .int .i64 k /\ Hid (Fr (fun j => j = bb ∨ j = bp) w wr) /\ Hid (wr.ownsRow w.heap.size 127 2 (.slice a6 n k6) n (l.flatMap ziR)) /\ Hid (Blk wr bo 4 #[.bool false]) /\
      Hid (Blk wr bp 54 #[lv, .slice none 0 0, .slice none 0 0, .slice none 0 0, .slice none 0 0, .slice none 0 0, .slice none 0 0]) /\ Hid (OwnR w.heap.size wr lv lo) /\ Hid (lo.map Prod.fst = (l.take k).map zjP) /\ Hid (lo.length = k)) (fun i _ => n - (intOf i).toNat)
   | go_loopw [143] (fun i wr => ∃ (k : Nat) (lv : Value) (lo : List (Exm × Value)), k <= n /\ i = .int .i64 k /\ Hid (Fr (fun j => j = bb ∨ j = bp) w wr) /\ Hid (wr.ownsRow w.heap.size 157 4 (.slice a6 n k6) n (l.flatMap exd)) /\ Hid (Blk wr bo 4 #[.bool false]) /\
      Hid (Blk wr bp 54 #[.slice none 0 0, .slice none 0 0, .slice none 0 0, lv, .slice none 0 0, .slice none 0 0, .slice none 0 0]) /\ Hid (OwnX w.heap.size wr lv lo) /\ Hid (lo.map Prod.fst = (l.take k).map zjQ) /\ Hid (lo.length = k)) (fun i _ => n - (intOf i).toNat)
  case atStart => first | (guard_hyp ag; exact ⟨0, _, [], zmv _, rfl, zmk (Fr.mono kr.out (fun _ _ e => Or.inl e)), fw, gp, je, zmk (OwnR.nil _ _), zmk rfl, zmk rfl⟩) | (exact ⟨0, _, [], zmv _, rfl, zmk (Fr.mono kr.out (fun _ _ e => Or.inl e)), fw, gp, je, zmk (OwnX.nil _ _), zmk rfl, zmk rfl⟩)
  case round =>
   obtain ⟨k, lv, lo, hk, rfl, RF, RV, RO, RP, RL, RM, RN⟩ := hrel; by_cases hlt : k < n
   ·obtain ⟨A7, c7, e7, _, _, js⟩ := znt RV.out
    injection e7 with e7 _ nB; subst e7 nB; obtain ⟨g7, bj, rfl, _, bH⟩ := js (by omega); obtain ⟨x, hx⟩ : ∃ x, l[k]? = some x := ⟨_, zmm (by rw [HN.out]; exact hlt)⟩
    first
     | guard_hyp ag
       have cc : ∀ j, j < 2 -> ∀ u, (ziR x)[j]? = some u -> wr.cell? ⟨g7, bj + (k * 2 + j), none⟩ = some u := fun j hj u hu =>
        bH (k * 2 + j) u (by rw [zbE ziR (fun _ => rfl) l k x hx j hj]; exact hu)
     | have cc : ∀ j, j < 4 -> ∀ u, (exd x)[j]? = some u -> wr.cell? ⟨g7, bj + (k * 4 + j), none⟩ = some u := fun j hj u hu =>
        bH (k * 4 + j) u (by rw [zdA exd (fun _ => rfl) l k x hx j hj]; exact hu)
    first | (guard_hyp ag; have c0 : wr.cell? ⟨g7, bj + k * 2, none⟩ = some (.int .u64 x.ref) := cc 0 (by omega) _ rfl) | (have c0 : wr.cell? ⟨g7, bj + k * 4, none⟩ = some (.int .u64 x.ref) := cc 0 (by omega) _ rfl)
    first | (guard_hyp bY; have c1 : wr.cell? ⟨g7, bj + k * 4 + 1, none⟩ = some (.int .i64 x.t) := cc 1 (by omega) _ rfl) | skip
    first | (guard_hyp bY; have c2 : wr.cell? ⟨g7, bj + k * 4 + 2, none⟩ = some (.float .f64 x.v) := cc 2 (by omega) _ rfl) | skip
    first | (guard_hyp ag; have c1 : wr.cell? ⟨g7, bj + k * 2 + 1, none⟩ = some (.string (zau x.labs)) := cc 1 (by omega) _ rfl) | (have c3 : wr.cell? ⟨g7, bj + k * 4 + 3, none⟩ = some (.string (zau x.labs)) := cc 3 (by omega) _ rfl)
    first | (guard_hyp bY; have hsf := zbU) | skip
    obtain ⟨u1, u2⟩ := HXF.out x (zms hx)
    first | (guard_hyp ag; obtain ⟨ref, labs⟩ := x) | (obtain ⟨ref, t, vv, labs⟩ := x)
    first | (guard_hyp ag; simp only [] at c0 c1 u1 u2) | (simp only [] at c0 c1 c2 c3 u1 u2)
    have hC := fun W => zlg labs W (by omega) (fun p hp => by have := u2 p hp; omega) (zfF labs u1 u2); obtain ⟨st, ba⟩ := exE (zau labs)
    first | (guard_hyp ag; rw [ba] at hC c1) | (rw [ba] at hC c3)
    have HX := zmk hx; have HC := zmk hC; obtain ⟨aL, kL, rfl⟩ := zaa RL.out.1; clear bH js cc hx hC ba u1 u2; go_wp2_with fail
    first | (guard_hyp ag; have ch := znr wr 127 #[.int .u64 ref, .string st]) | (have ch := znr wr 157 #[.int .u64 ref, .int .i64 t, .float .f64 vv, .string st])
    have s0 := ch.cell 0; have s1 := ch.cell 1
    first | (guard_hyp bY; have s2 := ch.cell 2) | skip
    first | (guard_hyp bY; have s4 := ch.cell 3) | skip
    first | (guard_hyp ag; have fb := RP.out.alloc (.cells #[.int .u64 ref, .string st] 127)) | (have fb := RP.out.alloc (.cells #[.int .u64 ref, .int .i64 t, .float .f64 vv, .string st] 157))
    first | (guard_hyp ag; have s3 := fb.cell 0) | (have s3 := fb.cell 3)
    first | (guard_hyp ag; simp only [zmF, zmD, zmE] at s0 s1 s3) | (simp only [zmF, zmD, zmE] at s0 s1 s2 s3 s4)
    have lP := RP.out.lt; have bG := RF.out.size; have hnn := HXN.out; have jw : lo.length <= 1048576 := by have h1 := RN.out; omega
    have kS : k < 4294967296 := by have h1 := RN.out; omega
    have dn := zmk ch; have mA := zmk fb
    first | (guard_hyp ag; have hC := HC.out (wr.alloc (.cells #[.int .u64 ref, .string st] 127)).drew) | (have hC := HC.out (wr.alloc (.cells #[.int .u64 ref, .int .i64 t, .float .f64 vv, .string st] 157)).drew)
    clear ch fb
    first | (guard_hyp ag; refine zaT (fun w' => w'.cell? ⟨bp, 0, none⟩ = some (.slice aL lo.length kL) /\ w'.cell? ⟨wr.heap.size, 0, none⟩ = some (.int .u64 ref) /\ w'.cell? ⟨wr.heap.size, 1, none⟩ = some (.string st)) 9 (by kernel_rfl) ⟨s3, s0, s1⟩ ?_) | (refine zaT (fun w' => w'.cell? ⟨bp, 3, none⟩ = some (.slice aL lo.length kL) /\ w'.cell? ⟨wr.heap.size, 0, none⟩ = some (.int .u64 ref) /\ w'.cell? ⟨wr.heap.size, 1, none⟩ = some (.int .i64 t) /\ w'.cell? ⟨wr.heap.size, 2, none⟩ = some (.float .f64 vv) /\ w'.cell? ⟨wr.heap.size, 3, none⟩ = some (.string st)) 14 (by kernel_rfl) ⟨s3, s0, s1, s2, s4⟩ ?_)
    intro hS
    first | (guard_hyp ag; refine wpT 0 (.pointer (some ⟨bp, 0, none⟩)) rfl (by intro w; go_simp) hS ?_) | (refine wpT 0 (.pointer (some ⟨bp, 3, none⟩)) rfl (by intro w; go_simp) hS ?_)
    try simp only [Act.put, zmo, zmp, zmq]
    first | (guard_hyp ag; refine wpL 1 [9, 11] (.slice aL lo.length kL) rfl (by rintro w ⟨h1, h2, h3⟩; go_simp) hS ?_) | (refine wpL 1 [14, 16] (.slice aL lo.length kL) rfl (by rintro w ⟨h1, h2, h3, h4, h5⟩; go_simp) hS ?_)
    try simp only [Act.put, zmo, zmp, zmq]
    refine wpT 2 (.pointer (some ⟨wr.heap.size, 0, none⟩)) rfl (by intro w; go_simp) hS ?_; try simp only [Act.put, zmo, zmp, zmq]
    first | (guard_hyp ag; refine wpL 3 [7, 8, 9, 11] (.int .u64 ref) rfl (by rintro w ⟨h1, h2, h3⟩; go_simp) hS ?_) | (refine wpL 3 [12, 13, 14, 16] (.int .u64 ref) rfl (by rintro w ⟨h1, h2, h3, h4, h5⟩; go_simp) hS ?_)
    try simp only [Act.put, zmo, zmp, zmq]
    refine wpT 4 (.pointer (some ⟨wr.heap.size, 1, none⟩)) rfl (by intro w; go_simp) hS ?_; try simp only [Act.put, zmo, zmp, zmq]
    first | (guard_hyp ag; refine wpL 5 [6, 7, 8, 9, 11] (.agg #[.string st]) rfl (by rintro w ⟨h1, h2, h3⟩; go_simp) hS ?_) | (refine wpL 5 [12, 13, 14, 16] (.int .i64 t) rfl (by rintro w ⟨h1, h2, h3, h4, h5⟩; go_simp) hS ?_)
    try simp only [Act.put, zmo, zmp, zmq]
    first | (guard_hyp bY; refine wpT 6 (.pointer (some ⟨wr.heap.size, 2, none⟩)) rfl (by intro w; go_simp) hS ?_) | skip
    first | (guard_hyp bY; try simp only [Act.put, zmo, zmp, zmq]) | skip
    first | (guard_hyp bY; refine wpL 7 [8, 12, 13, 14, 16] (.float .f64 vv) rfl (by rintro w ⟨h1, h2, h3, h4, h5⟩; go_simp) hS ?_) | skip
    first | (guard_hyp bY; try simp only [Act.put, zmo, zmp, zmq]) | skip
    first | (guard_hyp bY; refine wpT 9 (.pointer (some ⟨wr.heap.size, 3, none⟩)) rfl (by intro w; go_simp) hS ?_) | skip
    first | (guard_hyp bY; try simp only [Act.put, zmo, zmp, zmq]) | skip
    first | (guard_hyp bY; refine wpL 10 [11, 12, 13, 14, 16] (.agg #[.string st]) rfl (by rintro w ⟨h1, h2, h3, h4, h5⟩; go_simp) hS ?_) | skip
    first | (guard_hyp bY; try simp only [Act.put, zmo, zmp, zmq]) | skip
    first | (guard_hyp ag; refine zaq 6 (by kernel_rfl) rfl (by rfl) (fun K hK => ?_)) | (refine zaq 8 (by kernel_rfl) rfl (by rfl) (fun K hK => ?_))
    first | (guard_hyp bY; go_simp) | skip
    first | (guard_hyp bY; go_at_call 73) | skip
    first | (guard_hyp bY; refine (zdD _ _).mono ?_) | skip
    first | (guard_hyp bY; rintro r w' ⟨rfl, rfl⟩) | skip
    first | (guard_hyp bY; refine hK.out _ _ hS ?_) | skip
    first | (guard_hyp bY; clear hK K) | skip
    first | (guard_hyp bY; try simp only [Act.put, zmo, zmp, zmq]) | skip
    first | (guard_hyp bY; refine zaq 11 (by kernel_rfl) rfl (by rfl) (fun K hK => ?_)) | skip
    go_simp; go_at_call 70
    refine hC.mono ?_; rintro r w5 ⟨v5, rfl, am, aq⟩; obtain ⟨a5, k5, rfl⟩ := zaa am
    first | (guard_hyp ag; have F5 := zmk (((znq (fun _ => False) wr).alloc (.cells #[.int .u64 ref, .string st] 127)).drew.same aq)) | (have F5 := zmk (((znq (fun _ => False) wr).alloc (.cells #[.int .u64 ref, .int .i64 t, .float .f64 vv, .string st] 157)).drew.same aq))
    have P5 := zmk (mA.out.drew.fr aq (fun e => e)); have B5 := zmk (dn.out.drew.fr aq (fun e => e))
    first | (guard_hyp ag; have iG : w5.cell? ⟨bp, 0, none⟩ = some (.slice aL lo.length kL) /\ w5.cell? ⟨wr.heap.size, 0, none⟩ = some (.int .u64 ref) /\ w5.cell? ⟨wr.heap.size, 1, none⟩ = some (.string st) := ⟨P5.out.cell 0, B5.out.cell 0, B5.out.cell 1⟩) | (have iG : w5.cell? ⟨bp, 3, none⟩ = some (.slice aL lo.length kL) /\ w5.cell? ⟨wr.heap.size, 0, none⟩ = some (.int .u64 ref) /\ w5.cell? ⟨wr.heap.size, 1, none⟩ = some (.int .i64 t) /\ w5.cell? ⟨wr.heap.size, 2, none⟩ = some (.float .f64 vv) /\ w5.cell? ⟨wr.heap.size, 3, none⟩ = some (.string st) := ⟨P5.out.cell 3, B5.out.cell 0, B5.out.cell 1, B5.out.cell 2, B5.out.cell 3⟩)
    have lO := F5.out.size; have N5 := zmk (zai am (base' := w.heap.size) (by simp; omega)); have L5 := zmk (RL.out.fr F5.out (fun _ _ _ e => e)); refine hK.out _ _ iG ?_; clear hK K hS hC am aq; try simp only [Act.put, zmo, zmp, zmq]
    first | (guard_hyp ag; refine wpT 7 (.agg #[.int .u64 ref, .slice a5 labs.length k5]) rfl (by intro w; go_simp) iG ?_) | (refine wpT 12 (.agg #[.int .u64 ref, .int .i64 t, .int .u64 vv, .slice a5 labs.length k5]) rfl (by intro w; go_simp) iG ?_)
    try simp only [Act.put, zmo, zmp, zmq]
    first | (guard_hyp ag; refine zaq 8 (by kernel_rfl) rfl (by rfl) (fun K hK => ?_)) | (refine zaq 13 (by kernel_rfl) rfl (by rfl) (fun K hK => ?_))
    go_simp
    first | (guard_hyp ag; refine hK.out _ _ ⟨(P5.out.alloc _).cell 0, (B5.out.alloc _).cell 0, (B5.out.alloc _).cell 1⟩ ?_) | (refine hK.out _ _ ⟨(P5.out.alloc _).cell 3, (B5.out.alloc _).cell 0, (B5.out.alloc _).cell 1, (B5.out.alloc _).cell 2, (B5.out.alloc _).cell 3⟩ ?_)
    clear hK K iG; try simp only [Act.put, zmo, zmp, zmq]
    first | (guard_hyp ag; refine zay 9 (by kernel_rfl) rfl (by kernel_rfl) (by rfl) (fun K hK => ?_)) | (refine zay 14 (by kernel_rfl) rfl (by kernel_rfl) (by rfl) (fun K hK => ?_))
    first | (guard_hyp ag; refine zaA _ _ _ 46 46 (by rfl) w.heap.size 130 i1 _ 2 32 underlying46 gC ei dW fF rfl (by decide) (.slice aL lo.length kL) lo.length (lo.flatMap ziL) (by rfl) (L5.out.alloc _).1 _ 1 (ziL (⟨ref, labs⟩, .slice a5 labs.length k5)) (by rfl) (zaH underlying46 (znr w5 130 (ziL (⟨ref, labs⟩, .slice a5 labs.length k5)).toArray) rfl (by simp [ziL, Value.oneCell'])) (by unfold maxLen; omega) (by omega) (by simp; omega) ?_) | (refine zaA _ _ _ 49 49 (by rfl) w.heap.size 159 i1 _ 4 48 underlying49 gC ei dW fF rfl (by decide) (.slice aL lo.length kL) lo.length (lo.flatMap exc) (by rfl) (L5.out.alloc _).1 _ 1 (exc (⟨ref, t, vv, labs⟩, .slice a5 labs.length k5)) (by rfl) (zaH underlying49 (znr w5 159 (exc (⟨ref, t, vv, labs⟩, .slice a5 labs.length k5)).toArray) rfl (by simp [exc, Value.oneCell'])) (by unfold maxLen; omega) (by omega) (by simp; omega) ?_)
    intro v' w2 ac ad ax
    obtain ⟨a9, k9, rfl⟩ := zaa ac; have dN := zmk ((P5.out.alloc _).grown ad (Ne.symm (zak RL.out.1 RP.out (by decide))))
    first | (guard_hyp ag; have p9 := dN.out.cell 0) | (have p9 := dN.out.cell 3)
    first | (guard_hyp ag; have z9 := dN.out.frozen 0) | (have z9 := dN.out.frozen 3)
    simp at p9; refine hK.out _ _ ?_; clear hK K; try simp only [Act.put, zmo, zmp, zmq]
    first | (guard_hyp ag; refine zay 10 (by kernel_rfl) rfl (by kernel_rfl) (by rfl) (fun K hK => ?_)) | (refine zay 15 (by kernel_rfl) rfl (by kernel_rfl) (by rfl) (fun K hK => ?_))
    go_simp; refine hK.out _ _ ?_; clear hK K
    first | (guard_hyp ag; refine zay 11 (by kernel_rfl) rfl (by kernel_rfl) (by rfl) (fun K hK => ?_)) | (refine zay 16 (by kernel_rfl) rfl (by kernel_rfl) (by rfl) (fun K hK => ?_))
    go_simp; refine hK.out _ _ ?_; clear hK K; refine zbC (by kernel_rfl) ?_ _
    first | (guard_hyp ag; have cY : Blk (w2.setCell ⟨bp, 0, none⟩ (.slice a9 (lo.length + 1) k9)) bp 54 #[.slice a9 (lo.length + 1) k9, .slice none 0 0, .slice none 0 0, .slice none 0 0, .slice none 0 0, .slice none 0 0, .slice none 0 0] := by simpa using dN.out.set_ 0 (.slice a9 (lo.length + 1) k9)) | (have cY : Blk (w2.setCell ⟨bp, 3, none⟩ (.slice a9 (lo.length + 1) k9)) bp 54 #[.slice none 0 0, .slice none 0 0, .slice none 0 0, .slice a9 (lo.length + 1) k9, .slice none 0 0, .slice none 0 0, .slice none 0 0] := by simpa using dN.out.set_ 3 (.slice a9 (lo.length + 1) k9))
    first | (guard_hyp ag; have O5 := (RO.out.fr F5.out (fun e => e)).alloc (.cells (ziL (⟨ref, labs⟩, .slice a5 labs.length k5)).toArray 130)) | (have O5 := (RO.out.fr F5.out (fun e => e)).alloc (.cells (exc (⟨ref, t, vv, labs⟩, .slice a5 labs.length k5)).toArray 159))
    first | (guard_hyp ag; have aU : Blk (w2.setCell ⟨bp, 0, none⟩ (.slice a9 (lo.length + 1) k9)) bo 4 #[.bool false] := (O5.grown ad (Ne.symm (zak RL.out.1 RO.out (by decide)))).far (p := ⟨bp, 0, none⟩) (zns RO.out RP.out (by decide)) _) | (have aU : Blk (w2.setCell ⟨bp, 3, none⟩ (.slice a9 (lo.length + 1) k9)) bo 4 #[.bool false] := (O5.grown ad (Ne.symm (zak RL.out.1 RO.out (by decide)))).far (p := ⟨bp, 3, none⟩) (zns RO.out RP.out (by decide)) _)
    first
     | guard_hyp ag
       have dR : OwnR w.heap.size w2 (.slice a9 (lo.length + 1) k9) (lo ++ [(⟨ref, labs⟩, .slice a5 labs.length k5)]) :=
        OwnR.push (p := (⟨ref, labs⟩, .slice a5 labs.length k5)) (L5.out.alloc _) (N5.out.alloc _) ad ac
     | have dR : OwnX w.heap.size w2 (.slice a9 (lo.length + 1) k9) (lo ++ [(⟨ref, t, vv, labs⟩, .slice a5 labs.length k5)]) :=
        OwnX.push (p := (⟨ref, t, vv, labs⟩, .slice a5 labs.length k5)) (L5.out.alloc _) (N5.out.alloc _) ad ac
    first | (guard_hyp ag; have cC : OwnR w.heap.size (w2.setCell ⟨bp, 0, none⟩ (.slice a9 (lo.length + 1) k9)) (.slice a9 (lo.length + 1) k9) (lo ++ [(⟨ref, labs⟩, .slice a5 labs.length k5)]) := dR.off dN.out (by decide) (by decide) (Fr.put_ w2 bp 0 _)) | (have cC : OwnX w.heap.size (w2.setCell ⟨bp, 3, none⟩ (.slice a9 (lo.length + 1) k9)) (.slice a9 (lo.length + 1) k9) (lo ++ [(⟨ref, t, vv, labs⟩, .slice a5 labs.length k5)]) := dR.off dN.out (by decide) (by decide) (Fr.put_ w2 bp 3 _))
    first
     | guard_hyp ag
       have fG : Fr (fun j => some j = (Value.slice aL lo.length kL).ownBlock ∨ j = bp) wr (w2.setCell ⟨bp, 0, none⟩ (.slice a9 (lo.length + 1) k9)) :=
        (((F5.out.mono (S' := fun j => some j = (Value.slice aL lo.length kL).ownBlock ∨ j = bp) (fun _ _ e => e.elim)).alloc _).grown ad (fun g hg => .inl (.inl hg.symm))).setCell (p := ⟨bp, 0, none⟩) (.inl (.inr rfl)) _
     | have fG : Fr (fun j => some j = (Value.slice aL lo.length kL).ownBlock ∨ j = bp) wr (w2.setCell ⟨bp, 3, none⟩ (.slice a9 (lo.length + 1) k9)) :=
        (((F5.out.mono (S' := fun j => some j = (Value.slice aL lo.length kL).ownBlock ∨ j = bp) (fun _ _ e => e.elim)).alloc _).grown ad (fun g hg => .inl (.inl hg.symm))).setCell (p := ⟨bp, 3, none⟩) (.inl (.inr rfl)) _
    first
     | guard_hyp ag
       have dp : (w2.setCell ⟨bp, 0, none⟩ (.slice a9 (lo.length + 1) k9)).ownsRow w.heap.size 127 2 (.slice (some ⟨g7, bj, none⟩) n k6) n (l.flatMap ziR) := zaj RV.out fG (fun g hg e => by
        rcases e with e | e
        ·exact zb6 RV.out RL.out.1 (by decide) g hg e.symm
        ·exact zak RV.out RP.out (by decide) (by rw [hg, e]))
     | have dp : (w2.setCell ⟨bp, 3, none⟩ (.slice a9 (lo.length + 1) k9)).ownsRow w.heap.size 157 4 (.slice (some ⟨g7, bj, none⟩) n k6) n (l.flatMap exd) := zaj RV.out fG (fun g hg e => by
        rcases e with e | e
        ·exact zb6 RV.out RL.out.1 (by decide) g hg e.symm
        ·exact zak RV.out RP.out (by decide) (by rw [hg, e]))
    first
     | guard_hyp ag
       have bM : Fr (fun j => j = bb ∨ j = bp) w (w2.setCell ⟨bp, 0, none⟩ (.slice a9 (lo.length + 1) k9)) := RF.out.trans fG (fun j hj e => by
        rcases e with e | e
        ·have := (RL.out.1.lt j e.symm).1; omega
        ·exact .inr e)
     | have bM : Fr (fun j => j = bb ∨ j = bp) w (w2.setCell ⟨bp, 3, none⟩ (.slice a9 (lo.length + 1) k9)) := RF.out.trans fG (fun j hj e => by
        rcases e with e | e
        ·have := (RL.out.1.lt j e.symm).1; omega
        ·exact .inr e)
    first
     | guard_hyp ag
       have cf : (lo ++ [((⟨ref, labs⟩ : Ser), Value.slice a5 labs.length k5)]).map Prod.fst = (l.take (k + 1)).map zjP := by
        rw [zmV, HX.out, zmK, zmK, RM.out]; rfl
     | have cf : (lo ++ [((⟨ref, t, vv, labs⟩ : Exm), Value.slice a5 labs.length k5)]).map Prod.fst = (l.take (k + 1)).map zjQ := by
        rw [zmV, HX.out, zmK, zmK, RM.out]; rfl
    first | (guard_hyp ag; have cI : (lo ++ [((⟨ref, labs⟩ : Ser), Value.slice a5 labs.length k5)]).length = k + 1 := by rw [zml, RN.out]; rfl) | (have cI : (lo ++ [((⟨ref, t, vv, labs⟩ : Exm), Value.slice a5 labs.length k5)]).length = k + 1 := by rw [zml, RN.out]; rfl)
    have NP := zmk cY; have NO := zmk aU; have NL := zmk cC; have NV := zmk dp; have NF := zmk bM; have NM := zmk cf; have NN := zmk cI
    first | (guard_hyp ag; clear cY aU dR cC dp bM cf cI fG ac ad ax p9 z9 c0 c1 s0 s1 s3 O5 L5 N5 F5 P5 B5) | (clear cY aU dR cC dp bM cf cI fG ac ad ax p9 z9 c0 c1 c2 c3 s0 s1 s2 s3 s4 O5 L5 N5 F5 P5 B5)
    go_wp2; go_roundw
    case rel => exact ⟨k + 1, _, _, by omega, by go_num, NF, NV, NO, NP, NL, NM, NN⟩
    case measure => simp [intOf]; omega
   ·obtain rfl : k = n := by omega
    have o0 := RO.out.cell 0; have o1 := RO.out.frozen 0; simp at o0
    first | (guard_hyp ag; have W1 : Blk (wr.setCell ⟨bo, 0, none⟩ (.bool (za8 xs).isSome)) bo 4 #[.bool (za8 xs).isSome] := by simpa using RO.out.set_ 0 (.bool (za8 xs).isSome)) | (have W1 : Blk (wr.setCell ⟨bo, 0, none⟩ (.bool (zbl xs).isSome)) bo 4 #[.bool (zbl xs).isSome] := by simpa using RO.out.set_ 0 (.bool (zbl xs).isSome))
    first | (guard_hyp ag; have W2 := RP.out.far (p := ⟨bo, 0, none⟩) (zns RP.out RO.out (by decide)) (.bool (za8 xs).isSome)) | (have W2 := RP.out.far (p := ⟨bo, 0, none⟩) (zns RP.out RO.out (by decide)) (.bool (zbl xs).isSome))
    first | (guard_hyp ag; have fZ := OwnR.off RL.out RO.out (by decide) (by decide) (Fr.put_ wr bo 0 (.bool (za8 xs).isSome))) | (have fZ := OwnX.off RL.out RO.out (by decide) (by decide) (Fr.put_ wr bo 0 (.bool (zbl xs).isSome)))
    first | (guard_hyp ag; have W4 : Fr (fun k => k = bb ∨ k = bp ∨ k = bo) w (wr.setCell ⟨bo, 0, none⟩ (.bool (za8 xs).isSome)) := (Fr.mono (S' := fun k => k = bb ∨ k = bp ∨ k = bo) RF.out (fun _ _ e => e.elim (fun h => Or.inl h) (fun h => Or.inr (Or.inl h)))).setCell (p := ⟨bo, 0, none⟩) (.inl (.inr (.inr rfl))) _) | (have W4 : Fr (fun k => k = bb ∨ k = bp ∨ k = bo) w (wr.setCell ⟨bo, 0, none⟩ (.bool (zbl xs).isSome)) := (Fr.mono (S' := fun k => k = bb ∨ k = bp ∨ k = bo) RF.out (fun _ _ e => e.elim (fun h => Or.inl h) (fun h => Or.inr (Or.inl h)))).setCell (p := ⟨bo, 0, none⟩) (.inl (.inr (.inr rfl))) _)
    rcases ku.out with ⟨rfl, aB⟩ | ⟨t, ae, rfl, aB⟩; all_goals
     rw [aB] at W1 W2 fZ W4; have ib := zmk W1; have jI := zmk W2; have eQ := zmk fZ; have hW4 := zmk W4; clear W1 W2 fZ W4; go_wp2_with fail
     go_end0; refine ⟨rfl, hW4.out, by rw [aB]; exact ib.out, lv, lo, jI.out, eQ.out, ?_⟩; have e1 : l.take k = l := zmt (by rw [HN.out]; exact zmw _); rw [RM.out, e1, <- mB.out, zno]
theorem ziX : type_of% (zcl.1 trivial) := zcl.1 trivial
theorem zlo : type_of% (zcl.2 trivial) := zcl.2 trivial
theorem info176 : (prog.info? 176).map (fun i => (i.zero, i.size, i.bytes)) = some (some (.agg #[.int .u64 0, .int .u8 0, .string ⟨#[]⟩, .string ⟨#[]⟩]), 4, 48) := by kernel_rfl
def zmh (pre : List Mta) (xs : List UInt8) : List Mta := match zaM xs with | some l => pre ++ l | none => []
def ReadEndsT (w : World) (bb bp bo : Nat) (pre : List Mta) (xs : List UInt8) (r : Ending) (w' : World) : Prop :=
 r = .returned (.tuple #[]) /\ Fr (fun k => k = bb ∨ k = bp ∨ k = bo) w w' /\ Blk w' bo 4 #[.bool (zaM xs).isSome] /\
  ∃ lv, Blk w' bp 54 #[.slice none 0 0, .slice none 0 0, .slice none 0 0, .slice none 0 0, lv, .slice none 0 0, .slice none 0 0] /\ w'.ownsRow w.heap.size 176 4 lv (zmh pre xs).length ((zmh pre xs).flatMap Mta.c)
theorem outT_len (pre : List Mta) (xs : List UInt8) : (zmh pre xs).length <= pre.length + xs.length := by
 unfold zmh; split
 ·rename_i h
  have := zer h; rw [zml]; omega
 ·simp
theorem zic {w w' : World} {base : Nat} {o : Option Nat} {pre : List Mta} {xs : List UInt8} {r : Ending} (h : zca w base o pre xs r w') :
 ∃ v' e, r = .returned (.tuple #[v', e]) /\ w'.ownsRow base 174 4 v' (zmh pre xs).length ((zmh pre xs).flatMap Mta.c) /\ Fr (fun k => some k = o) w w' /\ ((e = .nilIface /\ (zaM xs).isSome = true) ∨ (∃ t a, e = .iface t a /\ (zaM xs).isSome = false)) := by
 unfold zca at h; unfold zmh; rcases hd : zaM xs with _ | l
 ·rw [hd] at h
  obtain ⟨hf, t, a, rfl⟩ := h; exact ⟨_, _, rfl, zmy _ _ _ _, hf, .inr ⟨_, _, rfl, rfl⟩⟩
 ·rw [hd] at h
  obtain ⟨hf, v', rfl, ho⟩ := h; exact ⟨_, _, rfl, ho, hf, .inl ⟨rfl, rfl⟩⟩
theorem zf2 {W w5 w6 : World} {b t : Nat} {cs : Array Value} {v5 : Value} {n : Nat} {xs : List Value} (h : Blk W b t cs) (aq : Fr (fun _ => False) W.drew w5) (ho : w5.ownsRow W.drew.heap.size 174 4 v5 n xs) (aR : Fr (fun k => some k = v5.ownBlock) w5 w6) : Blk w6 b t cs :=
 (h.drew.fr aq (fun e => e)).fr aR (fun e => by have h1 := (ho.lt b e.symm).1; have h2 : b < W.heap.size := h.lt; exact zm4 _ (zmJ h2 h1))
theorem zcc : (∀ (_ : True) (te : TypeId) (pe : Value) (bb bk bq bp bo : Nat) (P : Nat -> Prop) (q0 q1 q2 q3 q4 q5 q6 v : Value) (xs : List UInt8) (w : World) (hb : Blk w bb 44 #[v]) (hv : Sl P w v 1 xs.length (bc xs)) (hk : Blk w bk 3 #[.int .i64 5]) (hq : Blk w bq 54 #[q0, q1, q2, q3, q4, q5, q6]) (pre : List Mrk) (hs : Sl P w q5 2 pre.length (pre.flatMap Mrk.c)) (bm : pre.length <= 1073741824)
 (hp : Blk w bp 54 #[.slice none 0 0, .slice none 0 0, .slice none 0 0, .slice none 0 0, .slice none 0 0, .slice none 0 0, .slice none 0 0]) (ho : Blk w bo 4 #[.bool false]) (hE : w.cell? ⟨2, 0, none⟩ = some (.iface te pe)) (bh : xs.length <= 1073741824)
 (dU : ∀ g, P g -> g ≠ bb) (dt : bp ≠ bq) (h2 : bb ≠ 2 /\ bp ≠ 2 /\ bo ≠ 2),
 Calls prog 66 #[.pointer (some ⟨bb, 0, none⟩), .pointer (some ⟨bk, 0, none⟩), .pointer (some ⟨bq, 0, none⟩), .pointer (some ⟨bp, 0, none⟩), .pointer (some ⟨bo, 0, none⟩)] w (ReadEndsM w bb bp bo pre xs)) /\ (∀ (_ : True) (te : TypeId) (pe : Value) (bb bk bq bp bo : Nat) (P : Nat -> Prop) (q0 q1 q2 q3 q4 q5 q6 v : Value) (xs : List UInt8) (w : World) (hb : Blk w bb 44 #[v]) (hv : Sl P w v 1 xs.length (bc xs)) (hk : Blk w bk 3 #[.int .i64 6]) (hq : Blk w bq 54 #[q0, q1, q2, q3, q4, q5, q6]) (pre : List Mta) (hs : Sl P w q4 4 pre.length (pre.flatMap Mta.c)) (bm : pre.length <= 1073741824)
 (hp : Blk w bp 54 #[.slice none 0 0, .slice none 0 0, .slice none 0 0, .slice none 0 0, .slice none 0 0, .slice none 0 0, .slice none 0 0]) (ho : Blk w bo 4 #[.bool false]) (hE : w.cell? ⟨2, 0, none⟩ = some (.iface te pe)) (bh : xs.length <= 1073741824)
 (dU : ∀ g, P g -> g ≠ bb) (dt : bp ≠ bq) (h2 : bb ≠ 2 /\ bp ≠ 2 /\ bo ≠ 2)
 (aj : St -> Prop) (hG : ∀ l, aj (some l) -> zdW (some l) /\ aj (zbd (some l)).2) (aZ : ∀ r, xs = 6 :: r -> aj (some r)),
 Calls prog 66 #[.pointer (some ⟨bb, 0, none⟩), .pointer (some ⟨bk, 0, none⟩), .pointer (some ⟨bq, 0, none⟩), .pointer (some ⟨bp, 0, none⟩), .pointer (some ⟨bo, 0, none⟩)] w (ReadEndsT w bb bp bo pre xs)) := by
 refine ⟨fun ag te pe bb bk bq bp bo P q0 q1 q2 q3 q4 q5 q6 v xs w hb hv hk hq pre hs bm hp ho hE bh dU dt h2 => ?_, fun bY te pe bb bk bq bp bo P q0 q1 q2 q3 q4 q5 q6 v xs w hb hv hk hq pre hs bm hp ho hE bh dU dt h2 aj hG aZ => ?_⟩; all_goals
  obtain ⟨i0, aD, aA, az, aC⟩ := info_parts zfp
  first | (guard_hyp bY; have gZ := zmk hG) | skip
  first | (guard_hyp bY; have gY := zmk aZ) | skip
  first | (guard_hyp bY; clear hG aZ) | skip
  have HB := zmk hb; have HV := zmk hv; have HK := zmk hk; have HQ := zmk hq; have HS := zmk hs; have HP := zmk hp; have HO := zmk ho; have HE := zmk hE; have kt := zmk dU; have cE : ∃ A m c, v = .slice A m c := let ⟨A, c, h, _⟩ := hv; ⟨A, _, c, h⟩
  obtain ⟨A, m, c, rfl⟩ := cE; clear hb hv hk hq hs hp ho hE dU; go_enter func66, ntmps66; go_wp2_with (first | (go_at_call 67; refine (zdx _ _).mono ?_; rintro r w1 ⟨v1, rfl, ⟨a, rfl⟩, ai⟩; refine Hid.out ?_))
  have aw := ((HB.out.fr ai (fun e => e)).alloc (.cells #[.slice (some a) 0 0, .string ⟨#[]⟩, .slice none 0 0] 119)).alloc (.cells #[] 5); have b1 := aw.cell 0; simp at b1; clear aw; refine zmk ?_; go_wp2_with (at_builtin; refine Hid.out ?_)
  have eo := znp (base := w.heap.size) (e := 5) (size := 1) (w1.alloc (.cells #[.slice (some a) 0 0, .string ⟨#[]⟩, .slice none 0 0] 119)) #[] 0 (by have := ai.size; simp; omega) (zmv _) rfl; have dx : Fr (fun _ => False) w ((w1.alloc (.cells #[.slice (some a) 0 0, .string ⟨#[]⟩, .slice none 0 0] 119)).alloc (.cells #[] 5)) := (ai.alloc _).alloc _; have bA := ai.size
  refine zmk ?_; have kV : (w1.alloc (.cells #[.slice (some a) 0 0, .string ⟨#[]⟩, .slice none 0 0] 119)).heap.size = w1.heap.size + 1 := by simp
  rw [kV] at eo; clear b1; generalize World.alloc _ (Obj.cells #[] 5) = WA at eo dx ⊢; have hsA := dx.size; have cK := zdh underlying44 (HV.out.fr dx (fun _ _ e => e)) (zfN xs)
  refine zaf _ rfl _ _ 44 44 rfl w.heap.size 5 i0 (.int .u8 0) 1 1 underlying44 aD aA az aC rfl (by decide) (.slice (some ⟨w1.heap.size + 1, 0, none⟩) 0 0) 0 [] rfl eo (.slice A m c) xs.length (bc xs) rfl cK (by unfold maxLen; omega) (by omega) (by omega) ?_; intro v' w2 ac ad ax
  rw [zmP, zmW] at ac; obtain ⟨a2, k2, rfl⟩ := zaa ac; have eK : ∀ k, (Value.slice (some ⟨w1.heap.size + 1, 0, none⟩) 0 0).ownBlock = some k -> w.heap.size <= k := fun k hk => by
   have hk : w1.heap.size + 1 = k := zna hk; omega
  have F2 : Fr (fun _ => False) w w2 := dx.grown ad (fun k hk => .inr (eK k hk)); have dr : ∃ g2 aK, a2 = some ⟨g2, 0, none⟩ /\ w.heap.size <= g2 /\ Blk w2 g2 5 aK /\ xs.length <= k2 /\ k2 <= maxLen /\ aK.toList.take xs.length = bc xs := by
   rcases ac.2 with ⟨h, _⟩ | ⟨g2, aO, aK, h, h1, h3, h4, h5, _, h6⟩
   ·rw [h] at ax
    rcases ax with ax | ax <;> exact absurd ax (by simp [Value.ownBlock])
   ·injection h with e1 e2 e3
    subst e3; exact ⟨g2, aK, e1, h1, h3, h4, h5, by simpa using h6⟩
  have cn : ∀ k, (Value.slice a2 xs.length k2).ownBlock = some k -> w.heap.size <= k := fun k hk => (ac.lt k hk).1; have lB := HB.out.lt; have gB := HB.out.fr F2 (fun e => e); have y0 := gB.cell 0; have y1 := gB.frozen 0; simp at y0
  have F3 : Fr (fun k => k = bb) w (w2.setCell ⟨bb, 0, none⟩ (.slice a2 xs.length k2)) := (F2.mono (S' := fun k => k = bb) (fun _ _ e => e.elim)).setCell (p := ⟨bb, 0, none⟩) (.inl rfl) _; have O3 : (w2.setCell ⟨bb, 0, none⟩ (.slice a2 xs.length k2)).ownsRow w.heap.size 5 1 (.slice a2 xs.length k2) xs.length (bc xs) := zaj ac (Fr.put_ w2 bb 0 _) (fun k hk e => by have := cn k hk; omega)
  have B3 : Blk (w2.setCell ⟨bb, 0, none⟩ (.slice a2 xs.length k2)) bb 44 #[.slice a2 xs.length k2] := by simpa using gB.set_ 0 (.slice a2 xs.length k2)
  have K3 := (HK.out.fr F3 (fun e => zns HK.out HB.out (by decide) e)).cell 0; have Q3 := HQ.out.fr F3 (fun e => zns HQ.out HB.out (by decide) e); have P3 := HP.out.fr F3 (fun e => zns HP.out HB.out (by decide) e); have O4 := HO.out.fr F3 (fun e => zns HO.out HB.out (by decide) e)
  have E3 : (w2.setCell ⟨bb, 0, none⟩ (.slice a2 xs.length k2)).cell? ⟨2, 0, none⟩ = some (.iface te pe) := by
   rw [F3.cell (p := ⟨2, 0, none⟩) (zmr w _ HE.out) (fun e => h2.1 e.symm)]; exact HE.out
  simp at K3; have bx := zmk F3; have eq := zmk O3; have bE := zmk B3; have bZ := zmk Q3; have eL := zmk P3; have dj := zmk O4; have dG := zmk E3; have nX := zmk cn; obtain ⟨g2, aK, rfl, el, co, cO, du, dq⟩ := dr
  have R3 : Rec te pe (w2.setCell ⟨bb, 0, none⟩ (.slice (some ⟨g2, 0, none⟩) xs.length k2)) g2 aK xs (.slice (some ⟨g2, 0, none⟩) xs.length k2) := by
   refine ⟨0, k2, rfl, co.far (p := ⟨bb, 0, none⟩) (by show g2 ≠ bb; omega) _, cO, ⟨by simp [maxLen] at du; omega, by omega⟩, fun j u hu => ?_, E3⟩; rw [zmP, <- Array.getElem?_toList]; have hj : j < xs.length := by
    rcases zmN j xs.length with h | h
    ·exact h
    ·rw [zmO (by rw [zdE]; exact h)] at hu; cases hu
   rw [<- dq, List.getElem?_take_of_lt hj] at hu; exact hu
  have aS := zmk R3; have kU := co.lt; clear R3 du dq co; clear F2 F3 O3 B3 Q3 P3 O4 E3 gB eK cn ac ad ax cK eo dx ai; go_wp2_with fail
  generalize w2.setCell ⟨bb, 0, none⟩ (.slice (some ⟨g2, 0, none⟩) xs.length k2) = W3 at bx eq bE bZ eL dj dG aS ⊢; have eZ := aS.out; have gi : g2 < W3.heap.size := let ⟨_, _, _, h, _⟩ := eZ; h.lt
  have ja : 2 < W3.heap.size := zmr W3 _ dG.out; clear eZ
  first | (guard_hyp ag; have hS3 : Sl P W3.drew q5 2 pre.length (pre.flatMap Mrk.c) := HS.out.fr bx.out.drew (fun g hg e => kt.out g hg e)) | (have hS3 : Sl P W3.drew q4 4 pre.length (pre.flatMap Mta.c) := HS.out.fr bx.out.drew (fun g hg e => kt.out g hg e))
  first | (guard_hyp ag; have eE := zeF P q5 pre W3.drew hS3 (by omega)) | (have eE := zei P q4 pre W3.drew hS3 (by omega))
  first | (guard_hyp ag; have eY : ∃ A m c, q5 = .slice A m c := let ⟨A, c, h, _⟩ := HS.out; ⟨A, _, c, h⟩) | (have eY : ∃ A m c, q4 = .slice A m c := let ⟨A, c, h, _⟩ := HS.out; ⟨A, _, c, h⟩)
  obtain ⟨Aq, mq, cq, rfl⟩ := eY; have x0 := bE.out.cell 0
  first | (guard_hyp ag; have x1 := bZ.out.cell 5) | (have x1 := bZ.out.cell 4)
  have kA : W3.drew.cell? ⟨bb, 0, none⟩ = some (.slice (some ⟨g2, 0, none⟩) xs.length k2) := x0
  first | (guard_hyp ag; have jh : W3.drew.cell? ⟨bq, 5, none⟩ = some (.slice Aq mq cq) := x1) | (have jh : W3.drew.cell? ⟨bq, 4, none⟩ = some (.slice Aq mq cq) := x1)
  simp at x0 x1; clear y0 y1 K3
  first
   | guard_hyp ag
     go_region_held3 (fun w' => w'.cell? ⟨bb, 0, none⟩ = some (.slice (some ⟨g2, 0, none⟩) xs.length k2) /\ w'.cell? ⟨bq, 5, none⟩ = some (.slice Aq mq cq))
      ((first | (go_split_ands; refine ⟨?_, ?_⟩ <;> first | exact (bE.out.drew.fr aq (fun e => e)).cell 0 | exact (bZ.out.drew.fr aq (fun e => e)).cell 5) | (go_split_ands; refine ⟨?_, ?_⟩ <;> first | exact KB.out.cell 0 | exact KQ.out.cell 5) | go_keep))
      ((first
        | (go_at_call 80; refine eE.mono ?_; rintro r5 w5 ⟨v5, rfl, am, aq⟩)
        | (go_at_call 79; refine (zhv te pe _ g2 W3.drew.heap.size aK pre xs _ v5 w5 (aS.out.fr (w := W3) (((znq (fun _ => False) W3).drew).same aq) (fun e => e) (fun e => e)) am ⟨gi, ja, aq.size⟩ bm).mono ?_; rintro r6 w6 eF; obtain ⟨v6, e6, rfl, aM, aR, cj⟩ := zgG eF; clear eF; have KB := zmk (zf5 bE.out aq am aR); have KQ := zmk (zf5 bZ.out aq am aR))))
   | go_region_held3 (fun w' => w'.cell? ⟨bb, 0, none⟩ = some (.slice (some ⟨g2, 0, none⟩) xs.length k2) /\ w'.cell? ⟨bq, 4, none⟩ = some (.slice Aq mq cq))
      ((first | (go_split_ands; refine ⟨?_, ?_⟩ <;> first | exact (bE.out.drew.fr aq (fun e => e)).cell 0 | exact (bZ.out.drew.fr aq (fun e => e)).cell 4) | (go_split_ands; refine ⟨?_, ?_⟩ <;> first | exact KB.out.cell 0 | exact KQ.out.cell 4) | go_keep))
      ((first
        | (go_at_call 82; refine eE.mono ?_; rintro r5 w5 ⟨v5, rfl, am, aq⟩)
        | (go_at_call 81; refine (zjs aj gZ.out te pe _ g2 W3.drew.heap.size aK pre xs _ v5 w5 (aS.out.fr (w := W3) (((znq (fun _ => False) W3).drew).same aq) (fun e => e) (fun e => e)) am ⟨gi, ja, aq.size⟩ bm gY.out).mono ?_; rintro r6 w6 eF; obtain ⟨v6, e6, rfl, aM, aR, cj⟩ := zic eF; clear eF; have KB := zmk (zf2 bE.out aq am aR); have KQ := zmk (zf2 bZ.out aq am aR))))
  have T6 : Fr (fun k => k = bb) w w6 := ((bx.out.trans (((znq (fun _ => False) W3).drew).same aq) (fun _ _ e => e.elim)).trans aR (fun k hk e => by
   have h1 := (am.lt k e.symm).1; have h2 := bx.out.size
   simp at h1; omega))
  first | (guard_hyp ag; have P6 := zf5 eL.out aq am aR) | (have P6 := zf2 eL.out aq am aR)
  first | (guard_hyp ag; have O6 := zf5 dj.out aq am aR) | (have O6 := zf2 dj.out aq am aR)
  have kD : w.heap.size <= W3.drew.heap.size := bx.out.size; have V6 := zai aM kD; have kr := zmk T6; have je := zmk P6; have gp := zmk O6; have fw := zmk V6; have ku := zmk cj; have kM := aq.size; have kK := aR.size; have gJ : ∀ k, v6.ownBlock = some k -> k < w6.heap.size := fun k hk => zas aM hk
  clear x0 x1 kA jh eE T6 P6 O6 V6 cj am aq aM aR KB KQ eq bE bZ eL dj dG aS bx
  first | (guard_hyp ag; obtain ⟨l, hl⟩ := exE (zmi pre xs)) | (obtain ⟨l, hl⟩ := exE (zmh pre xs))
  rw [hl] at fw; have mB := zmk hl; clear hl; obtain ⟨a6, k6, rfl⟩ := zaa fw.out; go_wp2_with fail
  obtain ⟨n, hn⟩ := exE l.length; have HN := zmk hn; rw [hn] at fw gJ ⊢; clear hn
  first | (guard_hyp ag; obtain ⟨i1, gC, ei, dW, fF⟩ := info_parts info168) | (obtain ⟨i1, gC, ei, dW, fF⟩ := info_parts info176)
  first
   | guard_hyp ag
     go_loopw [178] (fun i wr => ∃ (k : Nat) (lv : Value), k <= n /\ i = .int .i64 k /\ Hid (Fr (fun j => j = bb ∨ j = bp) w wr) /\ Hid (wr.ownsRow w.heap.size 166 2 (.slice a6 n k6) n (l.flatMap Mrk.c)) /\ Hid (Blk wr bo 4 #[.bool false]) /\
      Hid (Blk wr bp 54 #[.slice none 0 0, .slice none 0 0, .slice none 0 0, .slice none 0 0, .slice none 0 0, lv, .slice none 0 0]) /\ Hid (wr.ownsRow w.heap.size 168 2 lv k ((l.take k).flatMap Mrk.c))) (fun i _ => n - (intOf i).toNat)
   | go_loopw [207] (fun i wr => ∃ (k : Nat) (lv : Value), k <= n /\ i = .int .i64 k /\ Hid (Fr (fun j => j = bb ∨ j = bp) w wr) /\ Hid (wr.ownsRow w.heap.size 174 4 (.slice a6 n k6) n (l.flatMap Mta.c)) /\ Hid (Blk wr bo 4 #[.bool false]) /\
      Hid (Blk wr bp 54 #[.slice none 0 0, .slice none 0 0, .slice none 0 0, .slice none 0 0, lv, .slice none 0 0, .slice none 0 0]) /\ Hid (wr.ownsRow w.heap.size 176 4 lv k ((l.take k).flatMap Mta.c))) (fun i _ => n - (intOf i).toNat)
  case atStart => exact ⟨0, _, zmv _, rfl, zmk (Fr.mono kr.out (fun _ _ e => Or.inl e)), fw, gp, je, zmk (zmy _ _ _ _)⟩
  case round =>
   obtain ⟨k, lv, hk, rfl, RF, RV, RO, RP, RL⟩ := hrel; by_cases hlt : k < n
   ·obtain ⟨A7, c7, e7, _, _, js⟩ := znt RV.out
    injection e7 with e7 _ nB; subst e7 nB; obtain ⟨g7, bj, rfl, _, bH⟩ := js (by omega); obtain ⟨x, hx⟩ : ∃ x, l[k]? = some x := ⟨_, zmm (by rw [HN.out]; exact hlt)⟩
    first
     | guard_hyp ag
       have cc : ∀ j, j < 2 -> ∀ u, (Mrk.c x)[j]? = some u -> wr.cell? ⟨g7, bj + (k * 2 + j), none⟩ = some u := fun j hj u hu =>
        bH (k * 2 + j) u (by rw [zbE Mrk.c (fun _ => rfl) l k x hx j hj]; exact hu)
     | have cc : ∀ j, j < 4 -> ∀ u, (Mta.c x)[j]? = some u -> wr.cell? ⟨g7, bj + (k * 4 + j), none⟩ = some u := fun j hj u hu =>
        bH (k * 4 + j) u (by rw [zdA Mta.c (fun _ => rfl) l k x hx j hj]; exact hu)
    first | (guard_hyp ag; have c0 : wr.cell? ⟨g7, bj + k * 2, none⟩ = some (.int .u64 x.ref) := cc 0 (by omega) _ rfl) | (have c0 : wr.cell? ⟨g7, bj + k * 4, none⟩ = some (.int .u64 x.ref) := cc 0 (by omega) _ rfl)
    first | (guard_hyp ag; have c1 : wr.cell? ⟨g7, bj + k * 2 + 1, none⟩ = some (.int .u64 x.mm) := cc 1 (by omega) _ rfl) | (have c1 : wr.cell? ⟨g7, bj + k * 4 + 1, none⟩ = some (.int .u8 x.ty.toNat) := cc 1 (by omega) _ rfl)
    first | (guard_hyp bY; have c2 : wr.cell? ⟨g7, bj + k * 4 + 2, none⟩ = some (.string x.unit) := cc 2 (by omega) _ rfl) | skip
    first | (guard_hyp bY; have c3 : wr.cell? ⟨g7, bj + k * 4 + 3, none⟩ = some (.string x.help) := cc 3 (by omega) _ rfl) | skip
    have HX := zmk hx; obtain ⟨aL, kL, rfl⟩ := zaa RL.out; have lP := RP.out.lt; have bG := RF.out.size
    first | (guard_hyp ag; have kS : k < 1099511627776 + 1073741824 := by have h1 := outM_len pre xs; rw [mB.out, HN.out] at h1; omega) | (have kS : k < 1099511627776 + 1073741824 := by have h1 := outT_len pre xs; rw [mB.out, HN.out] at h1; omega)
    first | (guard_hyp ag; have fb := RP.out.alloc (.cells #[.int .u64 x.ref, .int .u64 x.mm] 166)) | (have fb := RP.out.alloc (.cells #[.int .u64 x.ref, .int .u8 x.ty.toNat, .string x.unit, .string x.help] 174))
    first | (guard_hyp ag; have s3 := fb.cell 5) | (have s3 := fb.cell 4)
    simp only [zmF, zmD, zmE] at s3; have mA := zmk fb; clear bH js cc hx fb; go_wp2_with (at_builtin; refine Hid.out ?_)
    refine zmk ?_
    first | (guard_hyp ag; refine zaf _ rfl _ _ 51 51 rfl w.heap.size 168 i1 _ 2 16 underlying51 gC ei dW fF rfl (by decide) (.slice aL k kL) k ((l.take k).flatMap Mrk.c) rfl ((RL.out.alloc _).alloc _) _ 1 (Mrk.c x) rfl (zaH underlying51 (zaK wr _ 168 (Mrk.c x).toArray) rfl (by simp [Mrk.c, Value.oneCell'])) (by unfold maxLen; omega) (by omega) (by simp; omega) ?_) | (refine zaf _ rfl _ _ 50 50 rfl w.heap.size 176 i1 _ 4 48 underlying50 gC ei dW fF rfl (by decide) (.slice aL k kL) k ((l.take k).flatMap Mta.c) rfl ((RL.out.alloc _).alloc _) _ 1 (Mta.c x) rfl (zaH underlying50 (zaK wr _ 176 (Mta.c x).toArray) rfl (by simp [Mta.c, Value.oneCell'])) (by unfold maxLen; omega) (by omega) (by simp; omega) ?_)
    intro v' w2 ac ad ax
    obtain ⟨a9, k9, rfl⟩ := zaa ac; have dN := zmk ((mA.out.alloc _).grown ad (Ne.symm (zak RL.out RP.out (by decide))))
    first | (guard_hyp ag; have p9 := dN.out.cell 5) | (have p9 := dN.out.cell 4)
    first | (guard_hyp ag; have z9 := dN.out.frozen 5) | (have z9 := dN.out.frozen 4)
    simp at p9
    first | (guard_hyp ag; have cY : Blk (w2.setCell ⟨bp, 5, none⟩ (.slice a9 (k + 1) k9)) bp 54 #[.slice none 0 0, .slice none 0 0, .slice none 0 0, .slice none 0 0, .slice none 0 0, .slice a9 (k + 1) k9, .slice none 0 0] := by simpa using dN.out.set_ 5 (.slice a9 (k + 1) k9)) | (have cY : Blk (w2.setCell ⟨bp, 4, none⟩ (.slice a9 (k + 1) k9)) bp 54 #[.slice none 0 0, .slice none 0 0, .slice none 0 0, .slice none 0 0, .slice a9 (k + 1) k9, .slice none 0 0, .slice none 0 0] := by simpa using dN.out.set_ 4 (.slice a9 (k + 1) k9))
    first | (guard_hyp ag; have aU : Blk (w2.setCell ⟨bp, 5, none⟩ (.slice a9 (k + 1) k9)) bo 4 #[.bool false] := (((RO.out.alloc (.cells #[.int .u64 x.ref, .int .u64 x.mm] 166)).alloc _).grown ad (Ne.symm (zak RL.out RO.out (by decide)))).far (p := ⟨bp, 5, none⟩) (zns RO.out RP.out (by decide)) _) | (have aU : Blk (w2.setCell ⟨bp, 4, none⟩ (.slice a9 (k + 1) k9)) bo 4 #[.bool false] := (((RO.out.alloc (.cells #[.int .u64 x.ref, .int .u8 x.ty.toNat, .string x.unit, .string x.help] 174)).alloc _).grown ad (Ne.symm (zak RL.out RO.out (by decide)))).far (p := ⟨bp, 4, none⟩) (zns RO.out RP.out (by decide)) _)
    first
     | guard_hyp ag
       have cC : (w2.setCell ⟨bp, 5, none⟩ (.slice a9 (k + 1) k9)).ownsRow w.heap.size 168 2 (.slice a9 (k + 1) k9) (k + 1) ((l.take (k + 1)).flatMap Mrk.c) := by
        rw [zan Mrk.c l k x HX.out]; exact zaj ac (Fr.put_ w2 bp 5 _) (fun g hg e => zak ac dN.out (by decide) (by rw [hg, e]))
     | have cC : (w2.setCell ⟨bp, 4, none⟩ (.slice a9 (k + 1) k9)).ownsRow w.heap.size 176 4 (.slice a9 (k + 1) k9) (k + 1) ((l.take (k + 1)).flatMap Mta.c) := by
        rw [zan Mta.c l k x HX.out]; exact zaj ac (Fr.put_ w2 bp 4 _) (fun g hg e => zak ac dN.out (by decide) (by rw [hg, e]))
    first
     | guard_hyp ag
       have fG : Fr (fun j => some j = (Value.slice aL k kL).ownBlock ∨ j = bp) wr (w2.setCell ⟨bp, 5, none⟩ (.slice a9 (k + 1) k9)) :=
        ((((znq (fun j => some j = (Value.slice aL k kL).ownBlock ∨ j = bp) wr).alloc (.cells #[.int .u64 x.ref, .int .u64 x.mm] 166)).alloc _).grown ad (fun g hg => .inl (.inl hg.symm))).setCell (p := ⟨bp, 5, none⟩) (.inl (.inr rfl)) _
     | have fG : Fr (fun j => some j = (Value.slice aL k kL).ownBlock ∨ j = bp) wr (w2.setCell ⟨bp, 4, none⟩ (.slice a9 (k + 1) k9)) :=
        ((((znq (fun j => some j = (Value.slice aL k kL).ownBlock ∨ j = bp) wr).alloc (.cells #[.int .u64 x.ref, .int .u8 x.ty.toNat, .string x.unit, .string x.help] 174)).alloc _).grown ad (fun g hg => .inl (.inl hg.symm))).setCell (p := ⟨bp, 4, none⟩) (.inl (.inr rfl)) _
    have dp := zaj RV.out fG (fun g hg e => by
     rcases e with e | e
     ·exact zb6 RV.out RL.out (by decide) g hg e.symm
     ·exact zak RV.out RP.out (by decide) (by rw [hg, e]))
    first
     | guard_hyp ag
       have bM : Fr (fun j => j = bb ∨ j = bp) w (w2.setCell ⟨bp, 5, none⟩ (.slice a9 (k + 1) k9)) := RF.out.trans fG (fun j hj e => by
        rcases e with e | e
        ·have := (RL.out.lt j e.symm).1; omega
        ·exact .inr e)
     | have bM : Fr (fun j => j = bb ∨ j = bp) w (w2.setCell ⟨bp, 4, none⟩ (.slice a9 (k + 1) k9)) := RF.out.trans fG (fun j hj e => by
        rcases e with e | e
        ·have := (RL.out.lt j e.symm).1; omega
        ·exact .inr e)
    have NP := zmk cY; have NO := zmk aU; have NL := zmk cC; have NV := zmk dp; have NF := zmk bM
    first | (guard_hyp ag; clear cY aU cC dp bM fG ac ad ax c0 c1 s3) | (clear cY aU cC dp bM fG ac ad ax c0 c1 c2 c3 s3)
    go_wp2; go_roundw
    case rel => exact ⟨k + 1, _, by omega, by go_num, NF, NV, NO, NP, NL⟩
    case measure => simp [intOf]; omega
   ·obtain rfl : k = n := by omega
    have o0 := RO.out.cell 0; have o1 := RO.out.frozen 0; simp at o0
    first | (guard_hyp ag; have W1 : Blk (wr.setCell ⟨bo, 0, none⟩ (.bool (zaz xs).isSome)) bo 4 #[.bool (zaz xs).isSome] := by simpa using RO.out.set_ 0 (.bool (zaz xs).isSome)) | (have W1 : Blk (wr.setCell ⟨bo, 0, none⟩ (.bool (zaM xs).isSome)) bo 4 #[.bool (zaM xs).isSome] := by simpa using RO.out.set_ 0 (.bool (zaM xs).isSome))
    first | (guard_hyp ag; have W2 := RP.out.far (p := ⟨bo, 0, none⟩) (zns RP.out RO.out (by decide)) (.bool (zaz xs).isSome)) | (have W2 := RP.out.far (p := ⟨bo, 0, none⟩) (zns RP.out RO.out (by decide)) (.bool (zaM xs).isSome))
    first | (guard_hyp ag; have fZ := zaj RL.out (Fr.put_ wr bo 0 (.bool (zaz xs).isSome)) (fun g hg e => zak RL.out RO.out (by decide) (by rw [hg, e]))) | (have fZ := zaj RL.out (Fr.put_ wr bo 0 (.bool (zaM xs).isSome)) (fun g hg e => zak RL.out RO.out (by decide) (by rw [hg, e])))
    first | (guard_hyp ag; have W4 : Fr (fun k => k = bb ∨ k = bp ∨ k = bo) w (wr.setCell ⟨bo, 0, none⟩ (.bool (zaz xs).isSome)) := (Fr.mono (S' := fun k => k = bb ∨ k = bp ∨ k = bo) RF.out (fun _ _ e => e.elim (fun h => Or.inl h) (fun h => Or.inr (Or.inl h)))).setCell (p := ⟨bo, 0, none⟩) (.inl (.inr (.inr rfl))) _) | (have W4 : Fr (fun k => k = bb ∨ k = bp ∨ k = bo) w (wr.setCell ⟨bo, 0, none⟩ (.bool (zaM xs).isSome)) := (Fr.mono (S' := fun k => k = bb ∨ k = bp ∨ k = bo) RF.out (fun _ _ e => e.elim (fun h => Or.inl h) (fun h => Or.inr (Or.inl h)))).setCell (p := ⟨bo, 0, none⟩) (.inl (.inr (.inr rfl))) _)
    rcases ku.out with ⟨rfl, aB⟩ | ⟨t, ae, rfl, aB⟩; all_goals
     rw [aB] at W1 W2 fZ W4; have ib := zmk W1; have jI := zmk W2; have eQ := zmk fZ; have hW4 := zmk W4; clear W1 W2 fZ W4; go_wp2_with fail
     go_end0; refine ⟨rfl, hW4.out, by rw [aB]; exact ib.out, lv, jI.out, ?_⟩; have e1 : l.take k = l := zmt (by rw [HN.out]; exact zmw _); have h3 := eQ.out; rw [e1] at h3; rw [mB.out, HN.out]; exact h3
theorem zh8 : type_of% (zcc.1 trivial) := zcc.1 trivial
theorem zj8 : type_of% (zcc.2 trivial) := zcc.2 trivial
end Go.Proofs.YtbkookiigkckdaaGreatDoor
