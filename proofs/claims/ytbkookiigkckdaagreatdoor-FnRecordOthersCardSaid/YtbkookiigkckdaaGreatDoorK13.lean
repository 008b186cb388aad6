/- Texts of this seat, merged and shortened: J21, J12. -/
import Derived.Test.YtbkookiigkckdaaGreatDoorK06
import Derived.Test.YtbkookiigkckdaaGreatDoorK07
import Derived.Test.YtbkookiigkckdaaGreatDoorK12
set_option linter.unusedVariables false
set_option linter.unusedSimpArgs false
set_option maxRecDepth 100000
set_option maxHeartbeats 8000000
namespace Go.Proofs.YtbkookiigkckdaaGreatDoor
open Go.RowKit
theorem Tryz.info159 : (Tryz.prog.info? 159).map (fun i => (i.zero, i.size, i.bytes)) = some (some (.agg #[.int .u64 0, .int .i64 0, .int .u64 0, .slice none 0 0]), 4, 48) := by kernel_rfl
def OwnX (base : Nat) (w : World) (v : Value) (lo : List (Exm × Value)) : Prop :=
 w.ownsRow base 159 4 v lo.length (lo.flatMap exc) ∧ ∀ p ∈ lo, w.ownsRow base 40 2 p.2 p.1.labs.length (p.1.labs.flatMap zbv)
theorem OwnX.nil (base : Nat) (w : World) : OwnX base w (.slice none 0 0) [] := ⟨zll _ _ _ _, fun p hp => by cases hp⟩
theorem OwnX.fr {S : Nat → Prop} {base : Nat} {w w' : World} {v : Value} {lo : List (Exm × Value)} (h : OwnX base w v lo) (hf : Fr S w w') (hs : ∀ k, base ≤ k → k < w.heap.size → ¬ S k) : OwnX base w' v lo :=
 ⟨zah h.1 hf (fun g hg => hs g (h.1.lt g hg).1 (zav h.1 hg)), fun p hp => zah (h.2 p hp) hf (fun g hg => hs g ((h.2 p hp).lt g hg).1 (zav (h.2 p hp) hg))⟩
theorem OwnX.mono {base base' : Nat} {w : World} {v : Value} {lo : List (Exm × Value)} (h : OwnX base w v lo) (hb : base' ≤ base) : OwnX base' w v lo :=
 ⟨zai h.1 hb, fun p hp => zai (h.2 p hp) hb⟩
theorem OwnX.push {base : Nat} {w w2 : World} {v v' : Value} {lo : List (Exm × Value)} {p : Exm × Value} (h : OwnX base w v lo) (hp : w.ownsRow base 40 2 p.2 p.1.labs.length (p.1.labs.flatMap zbv)) (hg : w.grownBy w2 v.ownBlock)
 (ho : w2.ownsRow base 159 4 v' (lo.length + 1) (lo.flatMap exc ++ exc p)) : OwnX base w2 v' (lo ++ [p]) := by
 have hf : Fr (fun k => some k = v.ownBlock) w w2 := (zlW (fun k => some k = v.ownBlock) w).grown hg (fun k hk => .inl hk.symm); refine ⟨by simpa using ho, fun q hq => ?_⟩; rcases zlN.1 hq with hq | hq
 ·exact zah (h.2 q hq) hf (fun g hgq e => zbU (h.2 q hq) h.1 (by decide) g hgq e.symm)
 ·rw [zlO] at hq
  subst hq; exact zah hp hf (fun g hgq e => zbU hp h.1 (by decide) g hgq e.symm)
theorem OwnX.off {base : Nat} {w w' : World} {v : Value} {lo : List (Exm × Value)} {d t : Nat} {cs : Array Value} (h : OwnX base w v lo) (hb : Blk w d t cs) (h1 : 159 ≠ t) (h2 : 40 ≠ t) (hf : Fr (fun k => k = d) w w') : OwnX base w' v lo :=
 ⟨zah h.1 hf (fun g hg e => zak h.1 hb h1 (by rw [hg, e])), fun p hp => zah (h.2 p hp) hf (fun g hg e => zak (h.2 p hp) hb h2 (by rw [hg, e]))⟩
theorem OwnX.alloc {base : Nat} {w : World} {v : Value} {lo : List (Exm × Value)} (h : OwnX base w v lo) (o : Obj) : OwnX base (w.alloc o) v lo := h.fr ((zlW (fun _ => False) w).alloc o) (fun _ _ _ e => e)
def ziP (pre : List ExD) (xs : List UInt8) : List ExD := match zbf xs with | some l => pre ++ l | none => []
def toExm (x : ExD) : Exm := ⟨x.ref, x.t, x.v, x.labs⟩
theorem exo_exd (l : List Exm) : l.flatMap exo = (l.map toe).flatMap exd := by rw [List.flatMap_map]; rfl
def ReadEndsX (w : World) (bb bp bo : Nat) (pre : List ExD) (xs : List UInt8) (r : Ending) (w' : World) : Prop :=
 r = .returned (.tuple #[]) ∧ Fr (fun k => k = bb ∨ k = bp ∨ k = bo) w w' ∧ Blk w' bo 4 #[.bool (zbf xs).isSome] ∧
  ∃ lv lo, Blk w' bp 54 #[.slice none 0 0, .slice none 0 0, .slice none 0 0, lv, .slice none 0 0, .slice none 0 0, .slice none 0 0] ∧ OwnX w.heap.size w' lv lo ∧ lo.map Prod.fst = (ziP pre xs).map toExm
theorem zil {b0 d : Nat} {w w' : World} {base : Nat} {o : Option Nat} {pre : List ExD} {xs : List UInt8} {r : Ending} (h : zev (fun k => some k = o ∨ zdr w b0 d k) w base pre (zbf xs) r w') :
 ∃ v' e, r = .returned (.tuple #[v', e]) ∧ w'.ownsRow base 157 4 v' (ziP pre xs).length ((ziP pre xs).flatMap exd) ∧ Fr (fun k => some k = o ∨ zdr w b0 d k) w w' ∧ ((e = .nilIface ∧ (zbf xs).isSome = true) ∨ (∃ t a, e = .iface t a ∧ (zbf xs).isSome = false)) := by
 unfold zev at h; unfold ziP; rcases hd : zbf xs with _ | l
 ·rw [hd] at h
  obtain ⟨hf, t, a, rfl⟩ := h; exact ⟨_, _, rfl, zll _ _ _ _, hf, .inr ⟨_, _, rfl, rfl⟩⟩
 ·rw [hd] at h
  obtain ⟨hf, v', rfl, ho⟩ := h; exact ⟨_, _, rfl, ho, hf, .inl ⟨rfl, rfl⟩⟩
theorem zfu {W w5 w6 : World} {b t b0 d : Nat} {cs : Array Value} {v5 : Value} {n : Nat} {xs : List Value} (h : Blk W b t cs) (hf5 : Fr (fun _ => False) W.drew w5) (ho : w5.ownsRow W.drew.heap.size 157 4 v5 n xs) (hf6 : Fr (fun k => some k = v5.ownBlock ∨ zdr w5 b0 d k) w5 w6) (hb : b < b0 ∧ b0 ≤ d) : Blk w6 b t cs :=
 (h.drew.fr hf5 (fun e => e)).fr hf6 (fun e => by
   rcases e with e | e | ⟨e, _⟩
   ·have h1 := (ho.lt b e.symm).1; have h2 : b < W.heap.size := h.lt; exact zlR _ (zlw h2 h1)
   ·omega
   ·omega)
theorem zkh (te : TypeId) (pe : Value) (bb bk bq bp bo : Nat) (P : Nat → Prop) (q0 q1 q2 q3 q4 q5 q6 v : Value) (xs : List UInt8) (w : World) (hb : Blk w bb 44 #[v]) (hv : Sl P w v 1 xs.length (bc xs)) (hk : Blk w bk 3 #[.int .i64 4]) (hq : Blk w bq 54 #[q0, q1, q2, q3, q4, q5, q6]) (pre : List (Exm × Value)) (hs : SlX P w q3 pre) (hpl : pre.length ≤ 1024)
 (hpf : ∀ p ∈ pre, LabOk p.1.labs 12 600) (hxf : ∀ x ∈ ziP ((pre.map Prod.fst).map toe) xs, x.labs.length ≤ 4096 ∧ ∀ p ∈ x.labs, p.1.size ≤ 1048576 ∧ p.2.size ≤ 1048576) (hxn : (ziP ((pre.map Prod.fst).map toe) xs).length ≤ 1048576)
 (hp : Blk w bp 54 #[.slice none 0 0, .slice none 0 0, .slice none 0 0, .slice none 0 0, .slice none 0 0, .slice none 0 0, .slice none 0 0]) (ho : Blk w bo 4 #[.bool false]) (hE : w.cell? ⟨2, 0, none⟩ = some (.iface te pe)) (hxl : xs.length ≤ 1073741824)
 (hPb : ∀ g, P g → g ≠ bb) (hpq : bp ≠ bq) (h2 : bb ≠ 2 ∧ bp ≠ 2 ∧ bo ≠ 2)
 (Good : St → Prop) (hG : ∀ rest, xs = 4 :: rest → ∀ l, Good (some l) → zd0 (some l) ∧ Good (zaQ (zac (some rest)).1 (zaq (zac (some rest)).2).1 (some l)).2) (hG0 : ∀ rest, xs = 4 :: rest → rest ≠ [] → Good (zaq (zac (some rest)).2).2) :
 Calls Tryz.prog 66 #[.pointer (some ⟨bb, 0, none⟩), .pointer (some ⟨bk, 0, none⟩), .pointer (some ⟨bq, 0, none⟩), .pointer (some ⟨bp, 0, none⟩), .pointer (some ⟨bo, 0, none⟩)] w (ReadEndsX w bb bp bo ((pre.map Prod.fst).map toe) xs) := by
 have HGD := zk7 hG; have HGD0 := zk7 hG0; have HXF := zk7 hxf; have HXN := zk7 hxn; have HPF := zk7 hpf; have h2w : 2 < w.heap.size := zle w _ hE; have hbbw := hb.lt; have hbpw := hp.lt; have hbow := ho.lt; have hbqw := hq.lt; clear hG hG0 hxf hxn hpf; obtain ⟨i0, hi0, hz0, hz1, hz2⟩ := info_parts Tryz.info5; have HB := zk7 hb; have HV := zk7 hv
 have HK := zk7 hk; have HQ := zk7 hq; have HS := zk7 hs; have HP := zk7 hp; have HO := zk7 ho; have HE := zk7 hE; have HPB := zk7 hPb; have hv1 : ∃ A m c, v = .slice A m c := let ⟨A, c, h, _⟩ := hv; ⟨A, _, c, h⟩
 obtain ⟨A, m, c, rfl⟩ := hv1; clear hb hv hk hq hs hp ho hE hPb; go_enter Tryz.func66, Tryz.ntmps66; go_wp2_with (first | (go_at_call 67; refine (zgL _ _).mono ?_; rintro r w1 ⟨v1, rfl, ⟨gb, rfl, hob⟩, hf1⟩; have HOB := zk7 hob; clear hob; refine Hid.out ?_))
 have hB1 := ((HB.out.fr hf1 (fun e => e)).alloc (.cells #[.slice (some ⟨gb, 0, none⟩) 0 0, .string ⟨#[]⟩, .slice none 0 0] 119)).alloc (.cells #[] 5); have b1 := hB1.cell 0; simp at b1; clear hB1; refine zk7 ?_; go_wp2_with (at_builtin; refine Hid.out ?_)
 have hO0 := World.ownsRow_made (base := w.heap.size) (e := 5) (size := 1) (w1.alloc (.cells #[.slice (some ⟨gb, 0, none⟩) 0 0, .string ⟨#[]⟩, .slice none 0 0] 119)) #[] 0 (by have := hf1.size; simp; omega) (zli _) rfl; have hFA : Fr (fun _ => False) w ((w1.alloc (.cells #[.slice (some ⟨gb, 0, none⟩) 0 0, .string ⟨#[]⟩, .slice none 0 0] 119)).alloc (.cells #[] 5)) := (hf1.alloc _).alloc _
 have hs1 := hf1.size; refine zk7 ?_; have hg0 : (w1.alloc (.cells #[.slice (some ⟨gb, 0, none⟩) 0 0, .string ⟨#[]⟩, .slice none 0 0] 119)).heap.size = w1.heap.size + 1 := by simp
 rw [hg0] at hO0; clear b1; have hBW := bld_new HOB.out; have hB5 : Blk ((w1.alloc (.cells #[.slice (some ⟨gb, 0, none⟩) 0 0, .string ⟨#[]⟩, .slice none 0 0] 119)).alloc (.cells #[] 5)) (w1.heap.size + 1) 5 #[] := by have h := Blk.new (w1.alloc (.cells #[.slice (some ⟨gb, 0, none⟩) 0 0, .string ⟨#[]⟩, .slice none 0 0] 119)) 5 #[]; simpa using h
 generalize World.alloc _ (Obj.cells #[] 5) = WA at hO0 hFA hBW hB5 ⊢; have HBW := zk7 hBW; have HB5 := zk7 hB5; clear hBW hB5; have hsA := hFA.size; have hsrc := zc8 Tryz.underlying44 (HV.out.fr hFA (fun _ _ e => e)) (zet xs)
 refine zad _ rfl _ _ 44 44 rfl w.heap.size 5 i0 (.int .u8 0) 1 1 Tryz.underlying44 hi0 hz0 hz1 hz2 rfl (by decide) (.slice (some ⟨w1.heap.size + 1, 0, none⟩) 0 0) 0 [] rfl hO0 (.slice A m c) xs.length (bc xs) rfl hsrc (by unfold maxLen; omega) (by omega) (by omega) ?_; intro v' w2 hown' hgrow hat
 rw [zlC, zlJ] at hown'; obtain ⟨a2, k2, rfl⟩ := zaa hown'; have hge : ∀ k, (Value.slice (some ⟨w1.heap.size + 1, 0, none⟩) 0 0).ownBlock = some k → w.heap.size ≤ k := fun k hk => by
  have hk : w1.heap.size + 1 = k := zlV hk; omega
 have F2 : Fr (fun _ => False) w w2 := hFA.grown hgrow (fun k hk => .inr (hge k hk)); have hrow2 : ∃ g2 cur2, a2 = some ⟨g2, 0, none⟩ ∧ w.heap.size ≤ g2 ∧ Blk w2 g2 5 cur2 ∧ xs.length ≤ k2 ∧ k2 ≤ maxLen ∧ cur2.toList.take xs.length = bc xs := by
  rcases hown'.2 with ⟨h, _⟩ | ⟨g2, cap, cur2, h, h1, h3, h4, h5, _, h6⟩
  ·rw [h] at hat
   rcases hat with hat | hat <;> exact absurd hat (by simp [Value.ownBlock])
  ·injection h with e1 e2 e3
   subst e3; exact ⟨g2, cur2, e1, h1, h3, h4, h5, by simpa using h6⟩
 have hge2 : ∀ k, (Value.slice a2 xs.length k2).ownBlock = some k → w.heap.size ≤ k := fun k hk => (hown'.lt k hk).1; have lB := HB.out.lt; have gB := HB.out.fr F2 (fun e => e); have y0 := gB.cell 0; have y1 := gB.frozen 0; simp at y0
 have F3 : Fr (fun k => k = bb) w (w2.setCell ⟨bb, 0, none⟩ (.slice a2 xs.length k2)) := (F2.mono (S' := fun k => k = bb) (fun _ _ e => e.elim)).setCell (p := ⟨bb, 0, none⟩) (.inl rfl) _; have O3 : (w2.setCell ⟨bb, 0, none⟩ (.slice a2 xs.length k2)).ownsRow w.heap.size 5 1 (.slice a2 xs.length k2) xs.length (bc xs) := zah hown' (Fr.put_ w2 bb 0 _) (fun k hk e => by have := hge2 k hk; omega)
 have B3 : Blk (w2.setCell ⟨bb, 0, none⟩ (.slice a2 xs.length k2)) bb 44 #[.slice a2 xs.length k2] := by simpa using gB.set_ 0 (.slice a2 xs.length k2)
 have K3 := (HK.out.fr F3 (fun e => Blk.ne_ HK.out HB.out (by decide) e)).cell 0; have Q3 := HQ.out.fr F3 (fun e => Blk.ne_ HQ.out HB.out (by decide) e); have P3 := HP.out.fr F3 (fun e => Blk.ne_ HP.out HB.out (by decide) e); have O4 := HO.out.fr F3 (fun e => Blk.ne_ HO.out HB.out (by decide) e)
 have E3 : (w2.setCell ⟨bb, 0, none⟩ (.slice a2 xs.length k2)).cell? ⟨2, 0, none⟩ = some (.iface te pe) := by
  rw [F3.cell (p := ⟨2, 0, none⟩) (zle w _ HE.out) (fun e => h2.1 e.symm)]; exact HE.out
 simp at K3
 have hBW2 : Bld w2 w.heap.size w1.heap.size [] ⟨#[]⟩ := HBW.out.fr (S := fun k => k = w1.heap.size + 1) ((zlW (fun k => k = w1.heap.size + 1) WA).grown hgrow (fun k hk => .inl (zlV hk).symm)) (by omega) (fun g' _ hc e => by
  obtain ⟨cs, hc⟩ := hc; subst e
  exact Blk.ne_ hc HB5.out (by decide) rfl)
 have hBW3 := hBW2.fr (Fr.put_ w2 bb 0 (.slice a2 xs.length k2)) (by omega) (fun g' _ hc e => by
  obtain ⟨cs, hc⟩ := hc; subst e
  exact Blk.ne_ hc gB (by decide) rfl)
 have HBL3 := zk7 hBW3; clear hBW2 hBW3 HBW HB5; have HF3 := zk7 F3; have HO3 := zk7 O3; have HB3 := zk7 B3; have HQ3 := zk7 Q3; have HP3 := zk7 P3; have HO4 := zk7 O4; have HE3 := zk7 E3; have HGE := zk7 hge2; obtain ⟨g2, cur2, rfl, hg2, hbk2, hk2, hk2m, htk2⟩ := hrow2
 have R3 : Rec te pe (w2.setCell ⟨bb, 0, none⟩ (.slice (some ⟨g2, 0, none⟩) xs.length k2)) g2 cur2 xs (.slice (some ⟨g2, 0, none⟩) xs.length k2) := by
  refine ⟨0, k2, rfl, hbk2.far (p := ⟨bb, 0, none⟩) (by show g2 ≠ bb; omega) _, hk2, ⟨by simp [maxLen] at hk2m; omega, by omega⟩, fun j u hu => ?_, E3⟩; rw [zlC, ← Array.getElem?_toList]; have hj : j < xs.length := by
   rcases zlA j xs.length with h | h
   ·exact h
   ·rw [zlB (by rw [zc6]; exact h)] at hu; cases hu
  rw [← htk2, List.getElem?_take_of_lt hj] at hu; exact hu
 have HR3 := zk7 R3; have hg2l := hbk2.lt; clear R3 hk2m htk2 hbk2; clear F2 F3 O3 B3 Q3 P3 O4 E3 gB hge hge2 hown' hgrow hat hsrc hO0 hFA hf1; go_wp2_with fail
 generalize w2.setCell ⟨bb, 0, none⟩ (.slice (some ⟨g2, 0, none⟩) xs.length k2) = W3 at HF3 HO3 HB3 HQ3 HP3 HO4 HE3 HR3 HBL3 ⊢; have hl3 := HR3.out; have hg3 : g2 < W3.heap.size := let ⟨_, _, _, h, _⟩ := hl3; h.lt
 have h23 : 2 < W3.heap.size := zle W3 _ HE3.out; clear hl3; have hS3 : SlX P W3.drew q3 pre := HS.out.fr HF3.out.drew (fun g hg e => HPB.out g hg e); have hR1 := zdT P q3 pre W3.drew hS3 (by omega) HPF.out; have hq1 : ∃ A m c, q3 = .slice A m c := let ⟨A, c, h, _⟩ := HS.out.1; ⟨A, _, c, h⟩
 obtain ⟨Aq, mq, cq, rfl⟩ := hq1; have x0 := HB3.out.cell 0; have x1 := HQ3.out.cell 3; have x0d : W3.drew.cell? ⟨bb, 0, none⟩ = some (.slice (some ⟨g2, 0, none⟩) xs.length k2) := x0; have x1d : W3.drew.cell? ⟨bq, 3, none⟩ = some (.slice Aq mq cq) := x1; simp at x0 x1; clear y0 y1 K3
 go_region_held3 (fun w' => w'.cell? ⟨bb, 0, none⟩ = some (.slice (some ⟨g2, 0, none⟩) xs.length k2) ∧ w'.cell? ⟨bq, 3, none⟩ = some (.slice Aq mq cq))
  ((first | (go_split_ands; refine ⟨?_, ?_⟩ <;> first | exact (HB3.out.drew.fr hf5 (fun e => e)).cell 0 | exact (HQ3.out.drew.fr hf5 (fun e => e)).cell 3) | (go_split_ands; refine ⟨?_, ?_⟩ <;> first | exact KB.out.cell 0 | exact KQ.out.cell 3) | go_keep))
  ((first
    | (go_at_call 78; refine hR1.mono ?_; rintro r5 w5 ⟨v5, rfl, hown5, hf5⟩; rw [exo_exd, ← zlv (f := toe)] at hown5)
    | (go_at_call 77; refine (zjK te pe w.heap.size w1.heap.size g2 W3.drew.heap.size cur2 ((pre.map Prod.fst).map toe) xs _ v5 w5 (HR3.out.fr (w := W3) (((zlW (fun _ => False) W3).drew).same hf5) (fun e => e) (fun e => e)) hown5 ⟨h23, hf5.size⟩ (by rw [zlv, zlv]; omega) Good HGD.out HGD0.out [] ⟨#[]⟩ (HBL3.out.fr (((zlW (fun _ => False) W3).drew).same hf5) (fun e => e) (fun _ _ _ e => e)) ⟨zlQ HF3.out.size hf5.size, h2w, hs1⟩).mono ?_; rintro r6 w6 hE6; obtain ⟨v6, e6, rfl, hown6, hf6, hor6⟩ := zil hE6; clear hE6; have KB := zk7 (zfu HB3.out hf5 hown5 hf6 ⟨hbbw, hs1⟩); have KQ := zk7 (zfu HQ3.out hf5 hown5 hf6 ⟨hbqw, hs1⟩))))
 have T6 : Fr (fun k => k = bb) w w6 := ((HF3.out.trans (((zlW (fun _ => False) W3).drew).same hf5) (fun _ _ e => e.elim)).trans hf6 (fun k hk e => by
  rcases e with e | e | ⟨e, _⟩
  ·have h1 := (hown5.lt k e.symm).1
   have h2 := HF3.out.size; simp at h1; omega
  ·omega
  ·omega))
 have P6 := zfu HP3.out hf5 hown5 hf6 ⟨hbpw, hs1⟩; have O6 := zfu HO4.out hf5 hown5 hf6 ⟨hbow, hs1⟩; have hz6 : w.heap.size ≤ W3.drew.heap.size := HF3.out.size; have V6 := zai hown6 hz6; have HT6 := zk7 T6; have HP6 := zk7 P6; have HO6 := zk7 O6; have HV6 := zk7 V6; have HOR := zk7 hor6; have hsz5 := hf5.size; have hsz6 := hf6.size
 have hb6 : ∀ k, v6.ownBlock = some k → k < w6.heap.size := fun k hk => zav hown6 hk; clear x0 x1 x0d x1d hR1 T6 P6 O6 V6 hor6 hown5 hf5 hown6 hf6 KB KQ HO3 HB3 HQ3 HP3 HO4 HE3 HR3 HF3 HBL3; obtain ⟨l, hl⟩ : ∃ l, ziP ((pre.map Prod.fst).map toe) xs = l := ⟨_, rfl⟩; rw [hl] at HV6 HXF HXN; have HLL := zk7 hl; clear hl; obtain ⟨a6, k6, rfl⟩ := zaa HV6.out; go_wp2_with fail
 obtain ⟨n, hn⟩ : ∃ n, l.length = n := ⟨_, rfl⟩; have HN := zk7 hn; rw [hn] at HV6 hb6 HXN ⊢; clear hn; obtain ⟨i1, hi1, hy0, hy1, hy2⟩ := info_parts Tryz.info159
 go_loopw [143] (fun i wr => ∃ (k : Nat) (lv : Value) (lo : List (Exm × Value)), k ≤ n ∧ i = .int .i64 k ∧ Hid (Fr (fun j => j = bb ∨ j = bp) w wr) ∧ Hid (wr.ownsRow w.heap.size 157 4 (.slice a6 n k6) n (l.flatMap exd)) ∧ Hid (Blk wr bo 4 #[.bool false]) ∧
  Hid (Blk wr bp 54 #[.slice none 0 0, .slice none 0 0, .slice none 0 0, lv, .slice none 0 0, .slice none 0 0, .slice none 0 0]) ∧ Hid (OwnX w.heap.size wr lv lo) ∧ Hid (lo.map Prod.fst = (l.take k).map toExm) ∧ Hid (lo.length = k)) (fun i _ => n - (intOf i).toNat)
 case atStart => exact ⟨0, _, [], zli _, rfl, zk7 (Fr.mono HT6.out (fun _ _ e => Or.inl e)), HV6, HO6, HP6, zk7 (OwnX.nil _ _), zk7 rfl, zk7 rfl⟩
 case round =>
  obtain ⟨k, lv, lo, hk, rfl, RF, RV, RO, RP, RL, RM, RN⟩ := hrel; by_cases hlt : k < n
  ·obtain ⟨A7, c7, e7, _, _, hr7⟩ := Sl.ofOwn RV.out
   injection e7 with e7 _ e7c; subst e7 e7c; obtain ⟨g7, off7, rfl, _, hcell7⟩ := hr7 (by omega); obtain ⟨x, hx⟩ : ∃ x, l[k]? = some x := ⟨_, zk9 (by rw [HN.out]; exact hlt)⟩; have cc : ∀ j, j < 4 → ∀ u, (exd x)[j]? = some u → wr.cell? ⟨g7, off7 + (k * 4 + j), none⟩ = some u := fun j hj u hu =>
    hcell7 (k * 4 + j) u (by rw [zd1 exd (fun _ => rfl) l k x hx j hj]; exact hu)
   have c0 : wr.cell? ⟨g7, off7 + k * 4, none⟩ = some (.int .u64 x.ref) := cc 0 (by omega) _ rfl; have c1 : wr.cell? ⟨g7, off7 + k * 4 + 1, none⟩ = some (.int .i64 x.t) := cc 1 (by omega) _ rfl; have c2 : wr.cell? ⟨g7, off7 + k * 4 + 2, none⟩ = some (.float .f64 x.v) := cc 2 (by omega) _ rfl; have c3 : wr.cell? ⟨g7, off7 + k * 4 + 3, none⟩ = some (.string (zas x.labs)) := cc 3 (by omega) _ rfl
   have hsf := zbu
   obtain ⟨u1, u2⟩ := HXF.out x (zlf hx); obtain ⟨ref, t, vv, labs⟩ := x; simp only [] at c0 c1 c2 c3 u1 u2; have hC := fun W => zgH labs W (by omega) (fun p hp => by have := u2 p hp; omega) (zd8 labs u1 u2); obtain ⟨st, hst⟩ : ∃ st, zas labs = st := ⟨_, rfl⟩; rw [hst] at hC c3; have HX := zk7 hx; have HC := zk7 hC
   obtain ⟨aL, kL, rfl⟩ := zaa RL.out.1; clear hcell7 hr7 cc hx hC hst u1 u2; go_wp2_with fail
   have hB8 := Blk.new wr 157 #[.int .u64 ref, .int .i64 t, .float .f64 vv, .string st]; have s0 := hB8.cell 0; have s1 := hB8.cell 1; have s2 := hB8.cell 2; have s4 := hB8.cell 3; have hP8 := RP.out.alloc (.cells #[.int .u64 ref, .int .i64 t, .float .f64 vv, .string st] 157); have s3 := hP8.cell 3; simp only [zls, zlq, zlr] at s0 s1 s2 s3 s4
   have lP := RP.out.lt; have hsz := RF.out.size; have hnn := HXN.out; have hloz : lo.length ≤ 1048576 := by have h1 := RN.out; omega
   have hk40 : k < 4294967296 := by have h1 := RN.out; omega
   have HB8 := zk7 hB8; have HP8 := zk7 hP8; have hC := HC.out (wr.alloc (.cells #[.int .u64 ref, .int .i64 t, .float .f64 vv, .string st] 157)).drew; clear hB8 hP8
   refine zcl (fun w' => w'.cell? ⟨bp, 3, none⟩ = some (.slice aL lo.length kL) ∧ w'.cell? ⟨wr.heap.size, 0, none⟩ = some (.int .u64 ref) ∧ w'.cell? ⟨wr.heap.size, 1, none⟩ = some (.int .i64 t) ∧ w'.cell? ⟨wr.heap.size, 2, none⟩ = some (.float .f64 vv) ∧ w'.cell? ⟨wr.heap.size, 3, none⟩ = some (.string st)) 14 (by kernel_rfl) ⟨s3, s0, s1, s2, s4⟩ ?_; intro hS
   refine zaw 0 (.pointer (some ⟨bp, 3, none⟩)) rfl (by kernel_rfl) (by kernel_rfl) (by kernel_rfl) (by kernel_rfl) (fun _ _ _ h => h) (by rfl) (by intro w; go_simp) hS ?_; try simp only [Act.put, zlb, zlc, zld]
   refine zaO 1 [14, 16] (.slice aL lo.length kL) rfl (by kernel_rfl) (by kernel_rfl) (by kernel_rfl) (by kernel_rfl) (by kernel_rfl) (by kernel_rfl) (by kernel_rfl) (fun _ _ _ h => h) (by rfl) (by rintro w ⟨h1, h2, h3, h4, h5⟩; go_simp) hS ?_; try simp only [Act.put, zlb, zlc, zld]
   refine zaw 2 (.pointer (some ⟨wr.heap.size, 0, none⟩)) rfl (by kernel_rfl) (by kernel_rfl) (by kernel_rfl) (by kernel_rfl) (fun _ _ _ h => h) (by rfl) (by intro w; go_simp) hS ?_; try simp only [Act.put, zlb, zlc, zld]
   refine zaO 3 [12, 13, 14, 16] (.int .u64 ref) rfl (by kernel_rfl) (by kernel_rfl) (by kernel_rfl) (by kernel_rfl) (by kernel_rfl) (by kernel_rfl) (by kernel_rfl) (fun _ _ _ h => h) (by rfl) (by rintro w ⟨h1, h2, h3, h4, h5⟩; go_simp) hS ?_; try simp only [Act.put, zlb, zlc, zld]
   refine zaw 4 (.pointer (some ⟨wr.heap.size, 1, none⟩)) rfl (by kernel_rfl) (by kernel_rfl) (by kernel_rfl) (by kernel_rfl) (fun _ _ _ h => h) (by rfl) (by intro w; go_simp) hS ?_; try simp only [Act.put, zlb, zlc, zld]
   refine zaO 5 [12, 13, 14, 16] (.int .i64 t) rfl (by kernel_rfl) (by kernel_rfl) (by kernel_rfl) (by kernel_rfl) (by kernel_rfl) (by kernel_rfl) (by kernel_rfl) (fun _ _ _ h => h) (by rfl) (by rintro w ⟨h1, h2, h3, h4, h5⟩; go_simp) hS ?_; try simp only [Act.put, zlb, zlc, zld]
   refine zaw 6 (.pointer (some ⟨wr.heap.size, 2, none⟩)) rfl (by kernel_rfl) (by kernel_rfl) (by kernel_rfl) (by kernel_rfl) (fun _ _ _ h => h) (by rfl) (by intro w; go_simp) hS ?_; try simp only [Act.put, zlb, zlc, zld]
   refine zaO 7 [8, 12, 13, 14, 16] (.float .f64 vv) rfl (by kernel_rfl) (by kernel_rfl) (by kernel_rfl) (by kernel_rfl) (by kernel_rfl) (by kernel_rfl) (by kernel_rfl) (fun _ _ _ h => h) (by rfl) (by rintro w ⟨h1, h2, h3, h4, h5⟩; go_simp) hS ?_; try simp only [Act.put, zlb, zlc, zld]
   refine zaw 9 (.pointer (some ⟨wr.heap.size, 3, none⟩)) rfl (by kernel_rfl) (by kernel_rfl) (by kernel_rfl) (by kernel_rfl) (fun _ _ _ h => h) (by rfl) (by intro w; go_simp) hS ?_; try simp only [Act.put, zlb, zlc, zld]
   refine zaO 10 [11, 12, 13, 14, 16] (.agg #[.string st]) rfl (by kernel_rfl) (by kernel_rfl) (by kernel_rfl) (by kernel_rfl) (by kernel_rfl) (by kernel_rfl) (by kernel_rfl) (fun _ _ _ h => h) (by rfl) (by rintro w ⟨h1, h2, h3, h4, h5⟩; go_simp) hS ?_; try simp only [Act.put, zlb, zlc, zld]
   refine zbF 8 (by kernel_rfl) rfl (by rfl) (fun K hK => ?_); go_simp; go_at_call 73
   refine (zdz _ _).mono ?_; rintro r w' ⟨rfl, rfl⟩; refine hK.out _ _ hS ?_; clear hK K; try simp only [Act.put, zlb, zlc, zld]
   refine zbF 11 (by kernel_rfl) rfl (by rfl) (fun K hK => ?_); go_simp; go_at_call 70
   refine hC.mono ?_; rintro r w5 ⟨v5, rfl, hown5, hf5⟩; obtain ⟨a5, k5, rfl⟩ := zaa hown5; have F5 := zk7 (((zlW (fun _ => False) wr).alloc (.cells #[.int .u64 ref, .int .i64 t, .float .f64 vv, .string st] 157)).drew.same hf5); have P5 := zk7 (HP8.out.drew.fr hf5 (fun e => e)); have B5 := zk7 (HB8.out.drew.fr hf5 (fun e => e))
   have hS5 : w5.cell? ⟨bp, 3, none⟩ = some (.slice aL lo.length kL) ∧ w5.cell? ⟨wr.heap.size, 0, none⟩ = some (.int .u64 ref) ∧ w5.cell? ⟨wr.heap.size, 1, none⟩ = some (.int .i64 t) ∧ w5.cell? ⟨wr.heap.size, 2, none⟩ = some (.float .f64 vv) ∧ w5.cell? ⟨wr.heap.size, 3, none⟩ = some (.string st) := ⟨P5.out.cell 3, B5.out.cell 0, B5.out.cell 1, B5.out.cell 2, B5.out.cell 3⟩; have hz5 := F5.out.size
   have N5 := zk7 (zai hown5 (base' := w.heap.size) (by simp; omega)); have L5 := zk7 (RL.out.fr F5.out (fun _ _ _ e => e)); refine hK.out _ _ hS5 ?_; clear hK K hS hC hown5 hf5; try simp only [Act.put, zlb, zlc, zld]
   refine zaw 12 (.agg #[.int .u64 ref, .int .i64 t, .int .u64 vv, .slice a5 labs.length k5]) rfl (by kernel_rfl) (by kernel_rfl) (by kernel_rfl) (by kernel_rfl) (fun _ _ _ h => h) (by rfl) (by intro w; go_simp) hS5 ?_; try simp only [Act.put, zlb, zlc, zld]
   refine zbF 13 (by kernel_rfl) rfl (by rfl) (fun K hK => ?_); go_simp; refine hK.out _ _ ⟨(P5.out.alloc _).cell 3, (B5.out.alloc _).cell 0, (B5.out.alloc _).cell 1, (B5.out.alloc _).cell 2, (B5.out.alloc _).cell 3⟩ ?_; clear hK K hS5; try simp only [Act.put, zlb, zlc, zld]
   refine zaP 14 (by kernel_rfl) rfl (by kernel_rfl) (by rfl) (fun K hK => ?_)
   refine zbz _ _ _ 49 49 (by rfl) w.heap.size 159 i1 _ 4 48 Tryz.underlying49 hi1 hy0 hy1 hy2 rfl (by decide) (.slice aL lo.length kL) lo.length (lo.flatMap exc) (by rfl) (L5.out.alloc _).1 _ 1 (exc (⟨ref, t, vv, labs⟩, .slice a5 labs.length k5)) (by rfl) (zaF Tryz.underlying49 (Blk.new w5 159 (exc (⟨ref, t, vv, labs⟩, .slice a5 labs.length k5)).toArray) rfl (by simp [exc, Value.oneCell'])) (by unfold maxLen; omega) (by omega) (by simp; omega) ?_
   intro v' w2 hown' hgrow hat
   obtain ⟨a9, k9, rfl⟩ := zaa hown'; have KP9 := zk7 ((P5.out.alloc _).grown hgrow (Ne.symm (zak RL.out.1 RP.out (by decide)))); have p9 := KP9.out.cell 3; have z9 := KP9.out.frozen 3; simp at p9; refine hK.out _ _ ?_; clear hK K; try simp only [Act.put, zlb, zlc, zld]
   refine zaP 15 (by kernel_rfl) rfl (by kernel_rfl) (by rfl) (fun K hK => ?_); go_simp; refine hK.out _ _ ?_; clear hK K; refine zaP 16 (by kernel_rfl) rfl (by kernel_rfl) (by rfl) (fun K hK => ?_); go_simp; refine hK.out _ _ ?_; clear hK K; refine zds (by kernel_rfl) ?_ _
   have newP : Blk (w2.setCell ⟨bp, 3, none⟩ (.slice a9 (lo.length + 1) k9)) bp 54 #[.slice none 0 0, .slice none 0 0, .slice none 0 0, .slice a9 (lo.length + 1) k9, .slice none 0 0, .slice none 0 0, .slice none 0 0] := by simpa using KP9.out.set_ 3 (.slice a9 (lo.length + 1) k9)
   have O5 := (RO.out.fr F5.out (fun e => e)).alloc (.cells (exc (⟨ref, t, vv, labs⟩, .slice a5 labs.length k5)).toArray 159); have newO : Blk (w2.setCell ⟨bp, 3, none⟩ (.slice a9 (lo.length + 1) k9)) bo 4 #[.bool false] := (O5.grown hgrow (Ne.symm (zak RL.out.1 RO.out (by decide)))).far (p := ⟨bp, 3, none⟩) (Blk.ne_ RO.out RP.out (by decide)) _
   have newL0 : OwnX w.heap.size w2 (.slice a9 (lo.length + 1) k9) (lo ++ [(⟨ref, t, vv, labs⟩, .slice a5 labs.length k5)]) :=
    OwnX.push (p := (⟨ref, t, vv, labs⟩, .slice a5 labs.length k5)) (L5.out.alloc _) (N5.out.alloc _) hgrow hown'
   have newL : OwnX w.heap.size (w2.setCell ⟨bp, 3, none⟩ (.slice a9 (lo.length + 1) k9)) (.slice a9 (lo.length + 1) k9) (lo ++ [(⟨ref, t, vv, labs⟩, .slice a5 labs.length k5)]) := newL0.off KP9.out (by decide) (by decide) (Fr.put_ w2 bp 3 _); have fG : Fr (fun j => some j = (Value.slice aL lo.length kL).ownBlock ∨ j = bp) wr (w2.setCell ⟨bp, 3, none⟩ (.slice a9 (lo.length + 1) k9)) :=
    (((F5.out.mono (S' := fun j => some j = (Value.slice aL lo.length kL).ownBlock ∨ j = bp) (fun _ _ e => e.elim)).alloc _).grown hgrow (fun g hg => .inl (.inl hg.symm))).setCell (p := ⟨bp, 3, none⟩) (.inl (.inr rfl)) _
   have newV : (w2.setCell ⟨bp, 3, none⟩ (.slice a9 (lo.length + 1) k9)).ownsRow w.heap.size 157 4 (.slice (some ⟨g7, off7, none⟩) n k6) n (l.flatMap exd) := zah RV.out fG (fun g hg e => by
    rcases e with e | e
    ·exact zbU RV.out RL.out.1 (by decide) g hg e.symm
    ·exact zak RV.out RP.out (by decide) (by rw [hg, e]))
   have newF : Fr (fun j => j = bb ∨ j = bp) w (w2.setCell ⟨bp, 3, none⟩ (.slice a9 (lo.length + 1) k9)) := RF.out.trans fG (fun j hj e => by
    rcases e with e | e
    ·have := (RL.out.1.lt j e.symm).1; omega
    ·exact .inr e)
   have newM : (lo ++ [((⟨ref, t, vv, labs⟩ : Exm), Value.slice a5 labs.length k5)]).map Prod.fst = (l.take (k + 1)).map toExm := by
    rw [zlI, HX.out, zlx, zlx, RM.out]; rfl
   have newN : (lo ++ [((⟨ref, t, vv, labs⟩ : Exm), Value.slice a5 labs.length k5)]).length = k + 1 := by rw [zk8, RN.out]; rfl
   have NP := zk7 newP; have NO := zk7 newO; have NL := zk7 newL; have NV := zk7 newV; have NF := zk7 newF; have NM := zk7 newM; have NN := zk7 newN; clear newP newO newL0 newL newV newF newM newN fG hown' hgrow hat p9 z9 c0 c1 c2 c3 s0 s1 s2 s3 s4 O5 L5 N5 F5 P5 B5; go_wp2; go_roundw
   case rel => exact ⟨k + 1, _, _, by omega, by go_num, NF, NV, NO, NP, NL, NM, NN⟩
   case measure => simp [intOf]; omega
  ·obtain rfl : k = n := by omega
   have o0 := RO.out.cell 0; have o1 := RO.out.frozen 0; simp at o0; have W1 : Blk (wr.setCell ⟨bo, 0, none⟩ (.bool (zbf xs).isSome)) bo 4 #[.bool (zbf xs).isSome] := by simpa using RO.out.set_ 0 (.bool (zbf xs).isSome)
   have W2 := RP.out.far (p := ⟨bo, 0, none⟩) (Blk.ne_ RP.out RO.out (by decide)) (.bool (zbf xs).isSome); have W3' := OwnX.off RL.out RO.out (by decide) (by decide) (Fr.put_ wr bo 0 (.bool (zbf xs).isSome))
   have W4 : Fr (fun k => k = bb ∨ k = bp ∨ k = bo) w (wr.setCell ⟨bo, 0, none⟩ (.bool (zbf xs).isSome)) := (Fr.mono (S' := fun k => k = bb ∨ k = bp ∨ k = bo) RF.out (fun _ _ e => e.elim (fun h => Or.inl h) (fun h => Or.inr (Or.inl h)))).setCell (p := ⟨bo, 0, none⟩) (.inl (.inr (.inr rfl))) _; rcases HOR.out with ⟨rfl, hsome⟩ | ⟨t, ae, rfl, hsome⟩; all_goals
    rw [hsome] at W1 W2 W3' W4; have hW1 := zk7 W1; have hW2 := zk7 W2; have hW3 := zk7 W3'; have hW4 := zk7 W4; clear W1 W2 W3' W4; go_wp2_with fail
    go_end0; refine ⟨rfl, hW4.out, by rw [hsome]; exact hW1.out, lv, lo, hW2.out, hW3.out, ?_⟩; have e1 : l.take k = l := zlg (by rw [HN.out]; exact zlj _); rw [RM.out, e1, ← HLL.out, List.map_map]
theorem Tryz.info176 : (Tryz.prog.info? 176).map (fun i => (i.zero, i.size, i.bytes)) = some (some (.agg #[.int .u64 0, .int .u8 0, .string ⟨#[]⟩, .string ⟨#[]⟩]), 4, 48) := by kernel_rfl
def outT (pre : List Mta) (xs : List UInt8) : List Mta := match zaN xs with | some l => pre ++ l | none => []
def ReadEndsT (w : World) (bb bp bo : Nat) (pre : List Mta) (xs : List UInt8) (r : Ending) (w' : World) : Prop :=
 r = .returned (.tuple #[]) ∧ Fr (fun k => k = bb ∨ k = bp ∨ k = bo) w w' ∧ Blk w' bo 4 #[.bool (zaN xs).isSome] ∧
  ∃ lv, Blk w' bp 54 #[.slice none 0 0, .slice none 0 0, .slice none 0 0, .slice none 0 0, lv, .slice none 0 0, .slice none 0 0] ∧ w'.ownsRow w.heap.size 176 4 lv (outT pre xs).length ((outT pre xs).flatMap Mta.c)
theorem outT_len (pre : List Mta) (xs : List UInt8) : (outT pre xs).length ≤ pre.length + xs.length := by
 unfold outT; split
 ·rename_i h
  have := zed h; rw [zk8]; omega
 ·simp
theorem zhl {w w' : World} {base : Nat} {o : Option Nat} {pre : List Mta} {xs : List UInt8} {r : Ending} (h : zcd w base o pre xs r w') :
 ∃ v' e, r = .returned (.tuple #[v', e]) ∧ w'.ownsRow base 174 4 v' (outT pre xs).length ((outT pre xs).flatMap Mta.c) ∧ Fr (fun k => some k = o) w w' ∧ ((e = .nilIface ∧ (zaN xs).isSome = true) ∨ (∃ t a, e = .iface t a ∧ (zaN xs).isSome = false)) := by
 unfold zcd at h; unfold outT; rcases hd : zaN xs with _ | l
 ·rw [hd] at h
  obtain ⟨hf, t, a, rfl⟩ := h; exact ⟨_, _, rfl, zll _ _ _ _, hf, .inr ⟨_, _, rfl, rfl⟩⟩
 ·rw [hd] at h
  obtain ⟨hf, v', rfl, ho⟩ := h; exact ⟨_, _, rfl, ho, hf, .inl ⟨rfl, rfl⟩⟩
theorem zfv {W w5 w6 : World} {b t : Nat} {cs : Array Value} {v5 : Value} {n : Nat} {xs : List Value} (h : Blk W b t cs) (hf5 : Fr (fun _ => False) W.drew w5) (ho : w5.ownsRow W.drew.heap.size 174 4 v5 n xs) (hf6 : Fr (fun k => some k = v5.ownBlock) w5 w6) : Blk w6 b t cs :=
 (h.drew.fr hf5 (fun e => e)).fr hf6 (fun e => by have h1 := (ho.lt b e.symm).1; have h2 : b < W.heap.size := h.lt; exact zlR _ (zlw h2 h1))
theorem zje (te : TypeId) (pe : Value) (bb bk bq bp bo : Nat) (P : Nat → Prop) (q0 q1 q2 q3 q4 q5 q6 v : Value) (xs : List UInt8) (w : World) (hb : Blk w bb 44 #[v]) (hv : Sl P w v 1 xs.length (bc xs)) (hk : Blk w bk 3 #[.int .i64 6]) (hq : Blk w bq 54 #[q0, q1, q2, q3, q4, q5, q6]) (pre : List Mta) (hs : Sl P w q4 4 pre.length (pre.flatMap Mta.c)) (hpl : pre.length ≤ 1073741824)
 (hp : Blk w bp 54 #[.slice none 0 0, .slice none 0 0, .slice none 0 0, .slice none 0 0, .slice none 0 0, .slice none 0 0, .slice none 0 0]) (ho : Blk w bo 4 #[.bool false]) (hE : w.cell? ⟨2, 0, none⟩ = some (.iface te pe)) (hxl : xs.length ≤ 1073741824)
 (hPb : ∀ g, P g → g ≠ bb) (hpq : bp ≠ bq) (h2 : bb ≠ 2 ∧ bp ≠ 2 ∧ bo ≠ 2)
 (Good : St → Prop) (hG : ∀ l, Good (some l) → zef (some l) ∧ Good (za1 (some l)).2) (hG0 : ∀ r, xs = 6 :: r → Good (some r)) :
 Calls Tryz.prog 66 #[.pointer (some ⟨bb, 0, none⟩), .pointer (some ⟨bk, 0, none⟩), .pointer (some ⟨bq, 0, none⟩), .pointer (some ⟨bp, 0, none⟩), .pointer (some ⟨bo, 0, none⟩)] w (ReadEndsT w bb bp bo pre xs) := by
 obtain ⟨i0, hi0, hz0, hz1, hz2⟩ := info_parts Tryz.info5; have HGD := zk7 hG; have HGD0 := zk7 hG0; clear hG hG0; have HB := zk7 hb; have HV := zk7 hv; have HK := zk7 hk; have HQ := zk7 hq; have HS := zk7 hs; have HP := zk7 hp; have HO := zk7 ho; have HE := zk7 hE; have HPB := zk7 hPb
 have hv1 : ∃ A m c, v = .slice A m c := let ⟨A, c, h, _⟩ := hv; ⟨A, _, c, h⟩
 obtain ⟨A, m, c, rfl⟩ := hv1; clear hb hv hk hq hs hp ho hE hPb; go_enter Tryz.func66, Tryz.ntmps66; go_wp2_with (first | (go_at_call 67; refine (zcU _ _).mono ?_; rintro r w1 ⟨v1, rfl, ⟨a, rfl⟩, hf1⟩; refine Hid.out ?_))
 have hB1 := ((HB.out.fr hf1 (fun e => e)).alloc (.cells #[.slice (some a) 0 0, .string ⟨#[]⟩, .slice none 0 0] 119)).alloc (.cells #[] 5); have b1 := hB1.cell 0; simp at b1; clear hB1; refine zk7 ?_; go_wp2_with (at_builtin; refine Hid.out ?_)
 have hO0 := World.ownsRow_made (base := w.heap.size) (e := 5) (size := 1) (w1.alloc (.cells #[.slice (some a) 0 0, .string ⟨#[]⟩, .slice none 0 0] 119)) #[] 0 (by have := hf1.size; simp; omega) (zli _) rfl; have hFA : Fr (fun _ => False) w ((w1.alloc (.cells #[.slice (some a) 0 0, .string ⟨#[]⟩, .slice none 0 0] 119)).alloc (.cells #[] 5)) := (hf1.alloc _).alloc _; have hs1 := hf1.size
 refine zk7 ?_; have hg0 : (w1.alloc (.cells #[.slice (some a) 0 0, .string ⟨#[]⟩, .slice none 0 0] 119)).heap.size = w1.heap.size + 1 := by simp
 rw [hg0] at hO0; clear b1; generalize World.alloc _ (Obj.cells #[] 5) = WA at hO0 hFA ⊢; have hsA := hFA.size; have hsrc := zc8 Tryz.underlying44 (HV.out.fr hFA (fun _ _ e => e)) (zet xs)
 refine zad _ rfl _ _ 44 44 rfl w.heap.size 5 i0 (.int .u8 0) 1 1 Tryz.underlying44 hi0 hz0 hz1 hz2 rfl (by decide) (.slice (some ⟨w1.heap.size + 1, 0, none⟩) 0 0) 0 [] rfl hO0 (.slice A m c) xs.length (bc xs) rfl hsrc (by unfold maxLen; omega) (by omega) (by omega) ?_; intro v' w2 hown' hgrow hat
 rw [zlC, zlJ] at hown'; obtain ⟨a2, k2, rfl⟩ := zaa hown'; have hge : ∀ k, (Value.slice (some ⟨w1.heap.size + 1, 0, none⟩) 0 0).ownBlock = some k → w.heap.size ≤ k := fun k hk => by
  have hk : w1.heap.size + 1 = k := zlV hk; omega
 have F2 : Fr (fun _ => False) w w2 := hFA.grown hgrow (fun k hk => .inr (hge k hk)); have hrow2 : ∃ g2 cur2, a2 = some ⟨g2, 0, none⟩ ∧ w.heap.size ≤ g2 ∧ Blk w2 g2 5 cur2 ∧ xs.length ≤ k2 ∧ k2 ≤ maxLen ∧ cur2.toList.take xs.length = bc xs := by
  rcases hown'.2 with ⟨h, _⟩ | ⟨g2, cap, cur2, h, h1, h3, h4, h5, _, h6⟩
  ·rw [h] at hat
   rcases hat with hat | hat <;> exact absurd hat (by simp [Value.ownBlock])
  ·injection h with e1 e2 e3
   subst e3; exact ⟨g2, cur2, e1, h1, h3, h4, h5, by simpa using h6⟩
 have hge2 : ∀ k, (Value.slice a2 xs.length k2).ownBlock = some k → w.heap.size ≤ k := fun k hk => (hown'.lt k hk).1; have lB := HB.out.lt; have gB := HB.out.fr F2 (fun e => e); have y0 := gB.cell 0; have y1 := gB.frozen 0; simp at y0
 have F3 : Fr (fun k => k = bb) w (w2.setCell ⟨bb, 0, none⟩ (.slice a2 xs.length k2)) := (F2.mono (S' := fun k => k = bb) (fun _ _ e => e.elim)).setCell (p := ⟨bb, 0, none⟩) (.inl rfl) _; have O3 : (w2.setCell ⟨bb, 0, none⟩ (.slice a2 xs.length k2)).ownsRow w.heap.size 5 1 (.slice a2 xs.length k2) xs.length (bc xs) := zah hown' (Fr.put_ w2 bb 0 _) (fun k hk e => by have := hge2 k hk; omega)
 have B3 : Blk (w2.setCell ⟨bb, 0, none⟩ (.slice a2 xs.length k2)) bb 44 #[.slice a2 xs.length k2] := by simpa using gB.set_ 0 (.slice a2 xs.length k2)
 have K3 := (HK.out.fr F3 (fun e => Blk.ne_ HK.out HB.out (by decide) e)).cell 0; have Q3 := HQ.out.fr F3 (fun e => Blk.ne_ HQ.out HB.out (by decide) e); have P3 := HP.out.fr F3 (fun e => Blk.ne_ HP.out HB.out (by decide) e); have O4 := HO.out.fr F3 (fun e => Blk.ne_ HO.out HB.out (by decide) e)
 have E3 : (w2.setCell ⟨bb, 0, none⟩ (.slice a2 xs.length k2)).cell? ⟨2, 0, none⟩ = some (.iface te pe) := by
  rw [F3.cell (p := ⟨2, 0, none⟩) (zle w _ HE.out) (fun e => h2.1 e.symm)]; exact HE.out
 simp at K3; have HF3 := zk7 F3; have HO3 := zk7 O3; have HB3 := zk7 B3; have HQ3 := zk7 Q3; have HP3 := zk7 P3; have HO4 := zk7 O4; have HE3 := zk7 E3; have HGE := zk7 hge2; obtain ⟨g2, cur2, rfl, hg2, hbk2, hk2, hk2m, htk2⟩ := hrow2
 have R3 : Rec te pe (w2.setCell ⟨bb, 0, none⟩ (.slice (some ⟨g2, 0, none⟩) xs.length k2)) g2 cur2 xs (.slice (some ⟨g2, 0, none⟩) xs.length k2) := by
  refine ⟨0, k2, rfl, hbk2.far (p := ⟨bb, 0, none⟩) (by show g2 ≠ bb; omega) _, hk2, ⟨by simp [maxLen] at hk2m; omega, by omega⟩, fun j u hu => ?_, E3⟩; rw [zlC, ← Array.getElem?_toList]; have hj : j < xs.length := by
   rcases zlA j xs.length with h | h
   ·exact h
   ·rw [zlB (by rw [zc6]; exact h)] at hu; cases hu
  rw [← htk2, List.getElem?_take_of_lt hj] at hu; exact hu
 have HR3 := zk7 R3; have hg2l := hbk2.lt; clear R3 hk2m htk2 hbk2; clear F2 F3 O3 B3 Q3 P3 O4 E3 gB hge hge2 hown' hgrow hat hsrc hO0 hFA hf1; go_wp2_with fail
 generalize w2.setCell ⟨bb, 0, none⟩ (.slice (some ⟨g2, 0, none⟩) xs.length k2) = W3 at HF3 HO3 HB3 HQ3 HP3 HO4 HE3 HR3 ⊢; have hl3 := HR3.out; have hg3 : g2 < W3.heap.size := let ⟨_, _, _, h, _⟩ := hl3; h.lt
 have h23 : 2 < W3.heap.size := zle W3 _ HE3.out; clear hl3; have hS3 : Sl P W3.drew q4 4 pre.length (pre.flatMap Mta.c) := HS.out.fr HF3.out.drew (fun g hg e => HPB.out g hg e); have hR1 := zd4 P q4 pre W3.drew hS3 (by omega); have hq1 : ∃ A m c, q4 = .slice A m c := let ⟨A, c, h, _⟩ := HS.out; ⟨A, _, c, h⟩
 obtain ⟨Aq, mq, cq, rfl⟩ := hq1; have x0 := HB3.out.cell 0; have x1 := HQ3.out.cell 4; have x0d : W3.drew.cell? ⟨bb, 0, none⟩ = some (.slice (some ⟨g2, 0, none⟩) xs.length k2) := x0; have x1d : W3.drew.cell? ⟨bq, 4, none⟩ = some (.slice Aq mq cq) := x1; simp at x0 x1; clear y0 y1 K3
 go_region_held3 (fun w' => w'.cell? ⟨bb, 0, none⟩ = some (.slice (some ⟨g2, 0, none⟩) xs.length k2) ∧ w'.cell? ⟨bq, 4, none⟩ = some (.slice Aq mq cq))
  ((first | (go_split_ands; refine ⟨?_, ?_⟩ <;> first | exact (HB3.out.drew.fr hf5 (fun e => e)).cell 0 | exact (HQ3.out.drew.fr hf5 (fun e => e)).cell 4) | (go_split_ands; refine ⟨?_, ?_⟩ <;> first | exact KB.out.cell 0 | exact KQ.out.cell 4) | go_keep))
  ((first
    | (go_at_call 82; refine hR1.mono ?_; rintro r5 w5 ⟨v5, rfl, hown5, hf5⟩)
    | (go_at_call 81; refine (ziz Good HGD.out te pe _ g2 W3.drew.heap.size cur2 pre xs _ v5 w5 (HR3.out.fr (w := W3) (((zlW (fun _ => False) W3).drew).same hf5) (fun e => e) (fun e => e)) hown5 ⟨hg3, h23, hf5.size⟩ hpl HGD0.out).mono ?_; rintro r6 w6 hE6; obtain ⟨v6, e6, rfl, hown6, hf6, hor6⟩ := zhl hE6; clear hE6; have KB := zk7 (zfv HB3.out hf5 hown5 hf6); have KQ := zk7 (zfv HQ3.out hf5 hown5 hf6))))
 have T6 : Fr (fun k => k = bb) w w6 := ((HF3.out.trans (((zlW (fun _ => False) W3).drew).same hf5) (fun _ _ e => e.elim)).trans hf6 (fun k hk e => by
  have h1 := (hown5.lt k e.symm).1; have h2 := HF3.out.size
  simp at h1; omega))
 have P6 := zfv HP3.out hf5 hown5 hf6; have O6 := zfv HO4.out hf5 hown5 hf6; have hz6 : w.heap.size ≤ W3.drew.heap.size := HF3.out.size; have V6 := zai hown6 hz6; have HT6 := zk7 T6; have HP6 := zk7 P6; have HO6 := zk7 O6; have HV6 := zk7 V6; have HOR := zk7 hor6; have hsz5 := hf5.size; have hsz6 := hf6.size
 have hb6 : ∀ k, v6.ownBlock = some k → k < w6.heap.size := fun k hk => zav hown6 hk; clear x0 x1 x0d x1d hR1 T6 P6 O6 V6 hor6 hown5 hf5 hown6 hf6 KB KQ HO3 HB3 HQ3 HP3 HO4 HE3 HR3 HF3; obtain ⟨l, hl⟩ : ∃ l, outT pre xs = l := ⟨_, rfl⟩; rw [hl] at HV6; have HLL := zk7 hl; clear hl; obtain ⟨a6, k6, rfl⟩ := zaa HV6.out; go_wp2_with fail
 obtain ⟨n, hn⟩ : ∃ n, l.length = n := ⟨_, rfl⟩; have HN := zk7 hn; rw [hn] at HV6 hb6 ⊢; clear hn; obtain ⟨i1, hi1, hy0, hy1, hy2⟩ := info_parts Tryz.info176
 go_loopw [207] (fun i wr => ∃ (k : Nat) (lv : Value), k ≤ n ∧ i = .int .i64 k ∧ Hid (Fr (fun j => j = bb ∨ j = bp) w wr) ∧ Hid (wr.ownsRow w.heap.size 174 4 (.slice a6 n k6) n (l.flatMap Mta.c)) ∧ Hid (Blk wr bo 4 #[.bool false]) ∧
  Hid (Blk wr bp 54 #[.slice none 0 0, .slice none 0 0, .slice none 0 0, .slice none 0 0, lv, .slice none 0 0, .slice none 0 0]) ∧ Hid (wr.ownsRow w.heap.size 176 4 lv k ((l.take k).flatMap Mta.c))) (fun i _ => n - (intOf i).toNat)
 case atStart => exact ⟨0, _, zli _, rfl, zk7 (Fr.mono HT6.out (fun _ _ e => Or.inl e)), HV6, HO6, HP6, zk7 (zll _ _ _ _)⟩
 case round =>
  obtain ⟨k, lv, hk, rfl, RF, RV, RO, RP, RL⟩ := hrel; by_cases hlt : k < n
  ·obtain ⟨A7, c7, e7, _, _, hr7⟩ := Sl.ofOwn RV.out
   injection e7 with e7 _ e7c; subst e7 e7c; obtain ⟨g7, off7, rfl, _, hcell7⟩ := hr7 (by omega); obtain ⟨x, hx⟩ : ∃ x, l[k]? = some x := ⟨_, zk9 (by rw [HN.out]; exact hlt)⟩; have cc : ∀ j, j < 4 → ∀ u, (Mta.c x)[j]? = some u → wr.cell? ⟨g7, off7 + (k * 4 + j), none⟩ = some u := fun j hj u hu =>
    hcell7 (k * 4 + j) u (by rw [zd1 Mta.c (fun _ => rfl) l k x hx j hj]; exact hu)
   have c0 : wr.cell? ⟨g7, off7 + k * 4, none⟩ = some (.int .u64 x.ref) := cc 0 (by omega) _ rfl; have c1 : wr.cell? ⟨g7, off7 + k * 4 + 1, none⟩ = some (.int .u8 x.ty.toNat) := cc 1 (by omega) _ rfl; have c2 : wr.cell? ⟨g7, off7 + k * 4 + 2, none⟩ = some (.string x.unit) := cc 2 (by omega) _ rfl; have c3 : wr.cell? ⟨g7, off7 + k * 4 + 3, none⟩ = some (.string x.help) := cc 3 (by omega) _ rfl
   have HX := zk7 hx; obtain ⟨aL, kL, rfl⟩ := zaa RL.out; have lP := RP.out.lt; have hsz := RF.out.size; have hk40 : k < 1099511627776 + 1073741824 := by have h1 := outT_len pre xs; rw [HLL.out, HN.out] at h1; omega
   have hP8 := RP.out.alloc (.cells #[.int .u64 x.ref, .int .u8 x.ty.toNat, .string x.unit, .string x.help] 174); have s3 := hP8.cell 4; simp only [zls, zlq, zlr] at s3; have HP8 := zk7 hP8; clear hcell7 hr7 cc hx hP8; go_wp2_with (at_builtin; refine Hid.out ?_)
   refine zk7 ?_; refine zad _ rfl _ _ 50 50 rfl w.heap.size 176 i1 _ 4 48 Tryz.underlying50 hi1 hy0 hy1 hy2 rfl (by decide) (.slice aL k kL) k ((l.take k).flatMap Mta.c) rfl ((RL.out.alloc _).alloc _) _ 1 (Mta.c x) rfl (zaF Tryz.underlying50 (za6 wr _ 176 (Mta.c x).toArray) rfl (by simp [Mta.c, Value.oneCell'])) (by unfold maxLen; omega) (by omega) (by simp; omega) ?_
   intro v' w2 hown' hgrow hat
   obtain ⟨a9, k9, rfl⟩ := zaa hown'; have KP9 := zk7 ((HP8.out.alloc _).grown hgrow (Ne.symm (zak RL.out RP.out (by decide)))); have p9 := KP9.out.cell 4; have z9 := KP9.out.frozen 4; simp at p9
   have newP : Blk (w2.setCell ⟨bp, 4, none⟩ (.slice a9 (k + 1) k9)) bp 54 #[.slice none 0 0, .slice none 0 0, .slice none 0 0, .slice none 0 0, .slice a9 (k + 1) k9, .slice none 0 0, .slice none 0 0] := by simpa using KP9.out.set_ 4 (.slice a9 (k + 1) k9)
   have newO : Blk (w2.setCell ⟨bp, 4, none⟩ (.slice a9 (k + 1) k9)) bo 4 #[.bool false] := (((RO.out.alloc (.cells #[.int .u64 x.ref, .int .u8 x.ty.toNat, .string x.unit, .string x.help] 174)).alloc _).grown hgrow (Ne.symm (zak RL.out RO.out (by decide)))).far (p := ⟨bp, 4, none⟩) (Blk.ne_ RO.out RP.out (by decide)) _
   have newL : (w2.setCell ⟨bp, 4, none⟩ (.slice a9 (k + 1) k9)).ownsRow w.heap.size 176 4 (.slice a9 (k + 1) k9) (k + 1) ((l.take (k + 1)).flatMap Mta.c) := by
    rw [zao Mta.c l k x HX.out]; exact zah hown' (Fr.put_ w2 bp 4 _) (fun g hg e => zak hown' KP9.out (by decide) (by rw [hg, e]))
   have fG : Fr (fun j => some j = (Value.slice aL k kL).ownBlock ∨ j = bp) wr (w2.setCell ⟨bp, 4, none⟩ (.slice a9 (k + 1) k9)) :=
    ((((zlW (fun j => some j = (Value.slice aL k kL).ownBlock ∨ j = bp) wr).alloc (.cells #[.int .u64 x.ref, .int .u8 x.ty.toNat, .string x.unit, .string x.help] 174)).alloc _).grown hgrow (fun g hg => .inl (.inl hg.symm))).setCell (p := ⟨bp, 4, none⟩) (.inl (.inr rfl)) _
   have newV := zah RV.out fG (fun g hg e => by
    rcases e with e | e
    ·exact zbU RV.out RL.out (by decide) g hg e.symm
    ·exact zak RV.out RP.out (by decide) (by rw [hg, e]))
   have newF : Fr (fun j => j = bb ∨ j = bp) w (w2.setCell ⟨bp, 4, none⟩ (.slice a9 (k + 1) k9)) := RF.out.trans fG (fun j hj e => by
    rcases e with e | e
    ·have := (RL.out.lt j e.symm).1; omega
    ·exact .inr e)
   have NP := zk7 newP; have NO := zk7 newO; have NL := zk7 newL; have NV := zk7 newV; have NF := zk7 newF; clear newP newO newL newV newF fG hown' hgrow hat c0 c1 c2 c3 s3; go_wp2; go_roundw
   case rel => exact ⟨k + 1, _, by omega, by go_num, NF, NV, NO, NP, NL⟩
   case measure => simp [intOf]; omega
  ·obtain rfl : k = n := by omega
   have o0 := RO.out.cell 0; have o1 := RO.out.frozen 0; simp at o0; have W1 : Blk (wr.setCell ⟨bo, 0, none⟩ (.bool (zaN xs).isSome)) bo 4 #[.bool (zaN xs).isSome] := by simpa using RO.out.set_ 0 (.bool (zaN xs).isSome)
   have W2 := RP.out.far (p := ⟨bo, 0, none⟩) (Blk.ne_ RP.out RO.out (by decide)) (.bool (zaN xs).isSome); have W3' := zah RL.out (Fr.put_ wr bo 0 (.bool (zaN xs).isSome)) (fun g hg e => zak RL.out RO.out (by decide) (by rw [hg, e]))
   have W4 : Fr (fun k => k = bb ∨ k = bp ∨ k = bo) w (wr.setCell ⟨bo, 0, none⟩ (.bool (zaN xs).isSome)) := (Fr.mono (S' := fun k => k = bb ∨ k = bp ∨ k = bo) RF.out (fun _ _ e => e.elim (fun h => Or.inl h) (fun h => Or.inr (Or.inl h)))).setCell (p := ⟨bo, 0, none⟩) (.inl (.inr (.inr rfl))) _; rcases HOR.out with ⟨rfl, hsome⟩ | ⟨t, ae, rfl, hsome⟩; all_goals
    rw [hsome] at W1 W2 W3' W4; have hW1 := zk7 W1; have hW2 := zk7 W2; have hW3 := zk7 W3'; have hW4 := zk7 W4; clear W1 W2 W3' W4; go_wp2_with fail
    go_end0; refine ⟨rfl, hW4.out, by rw [hsome]; exact hW1.out, lv, hW2.out, ?_⟩; have e1 : l.take k = l := zlg (by rw [HN.out]; exact zlj _); have h3 := hW3.out; rw [e1] at h3; rw [HLL.out, HN.out]; exact h3
end Go.Proofs.YtbkookiigkckdaaGreatDoor
