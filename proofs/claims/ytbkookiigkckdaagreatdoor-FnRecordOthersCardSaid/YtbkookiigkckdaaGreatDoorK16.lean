/- Texts of this seat, merged and shortened: Rl, J23, J24, H10, Pg, H11. -/
import Derived.Test.YtbkookiigkckdaaGreatDoorK06
import Derived.Test.YtbkookiigkckdaaGreatDoorK07
import Derived.Test.YtbkookiigkckdaaGreatDoorK08
import Derived.Test.YtbkookiigkckdaaGreatDoorK12
import Derived.Test.YtbkookiigkckdaaGreatDoorK14
import Derived.Test.YtbkookiigkckdaaGreatDoorK15
set_option linter.unusedVariables false
set_option linter.unusedSimpArgs false
set_option maxRecDepth 100000
set_option maxHeartbeats 8000000
namespace Go.Proofs.YtbkookiigkckdaaGreatDoor
open Go.RowKit
theorem zgn (bk bp bb br : Nat) (ep lp : Value) (P : Nat → Prop) (s0 s1 s2 s3 s4 s5 s6 v z : Value) (xs : List UInt8) (l : List Mrk) (w : World) (hk : Blk w bk 3 #[.int .i64 5]) (hp : Blk w bp 54 #[s0, s1, s2, s3, s4, s5, s6]) (hb : Blk w bb 44 #[v]) (hr : Blk w br 44 #[z])
 (hown : w.ownsRow 0 5 1 v xs.length (bc xs)) (hs : Sl P w s5 2 l.length (l.flatMap Mrk.c)) (hl : xs.length ≤ 1073741824) (hsl : l.length ≤ 1073741824) (hwf : ∀ s ∈ l, s.wf) (hbr : bb ≠ br) :
 Calls Tryz.prog 90 #[.pointer (some ⟨bk, 0, none⟩), ep, .pointer (some ⟨bp, 0, none⟩), .pointer (some ⟨bb, 0, none⟩), .pointer (some ⟨br, 0, none⟩), lp] w (zcu w br v.ownBlock (xs ++ zbw l)) := by
 have hpr : bp ≠ br := Blk.ne_ hp hr (by decide); have k0 := hk.cell 0; have p1 := hp.cell 5; have b0 := hb.cell 0; simp at k0 p1 b0; obtain ⟨a', n', k', rfl⟩ := zae hown; have hs1 : ∃ A m c, s5 = .slice A m c := let ⟨A, c, h, _⟩ := hs; ⟨A, _, c, h⟩
 obtain ⟨A, m, c, rfl⟩ := hs1; have hQ := zel P (.slice A m c) l w.drew hs (by omega); have HB := zk7 hb; have HP := zk7 hp; have HR := zk7 hr; have HO := zk7 hown; have p1d : w.drew.cell? ⟨bp, 5, none⟩ = some (.slice A m c) := p1; have b0d : w.drew.cell? ⟨bb, 0, none⟩ = some (.slice a' n' k') := b0; clear hk hp hb hr hown hs; go_enter Tryz.func90, Tryz.ntmps90
 go_wp2_with fail
 have HW := zk7 hwf; clear hwf; go_region_held3 (fun w' => w'.cell? ⟨bp, 5, none⟩ = some (.slice A m c) ∧ w'.cell? ⟨bb, 0, none⟩ = some (.slice a' n' k'))
  ((first | (go_split_ands; refine ⟨?_, ?_⟩ <;> first | exact ((HP.out.drew).fr hf1 (fun e => e)).cell 5 | exact ((HB.out.drew).fr hf1 (fun e => e)).cell 0) | (go_split_ands; refine ⟨?_, ?_⟩ <;> first | exact KP.out.cell 5 | exact KB.out.cell 0) | (go_split_ands; refine ⟨?_, ?_⟩ <;> first | exact (KP.out.far (p := ⟨br, 0, none⟩) hpr _).cell 5 | exact (KB.out.far (p := ⟨br, 0, none⟩) hbr _).cell 0) | go_keep))
  ((first
    | (go_at_call 80; refine hQ.mono ?_; rintro r1 w1 ⟨v1, rfl, hown1, hf1⟩)
    | (go_at_call 95; refine (zgx ep v1 (fun g => v1.ownBlock = some g) (.slice a' n' k') xs l w1 (Sl.ofOwn hown1) (zah (World.ownsRow.drew HO.out) hf1 (fun _ _ e => e)) hl hsl HW.out (zcY hown1 HO.out (zlj _))).mono ?_; rintro r2 w2 ⟨v2, rfl, hown2, hf2, hat2⟩; obtain ⟨KP, KB, KR⟩ := za7 HP.out HB.out HR.out HO.out hf1 hf2; have q0 := KR.out.cell 0; simp at q0; have q1 := KR.out.frozen 0; obtain ⟨a2, n2, k2, rfl⟩ := zae hown2)))
 have HE : Fr (fun k => some k = (Value.slice a' n' k').ownBlock ∨ k = br) w (w2.setCell ⟨br, 0, none⟩ (.slice a2 n2 k2)) :=
  ((((zlW (fun k => some k = (Value.slice a' n' k').ownBlock ∨ k = br) w).drew).trans hf1 (fun _ _ e => e.elim)).trans hf2 (fun _ _ e => .inl e)).setCell (p := ⟨br, 0, none⟩) (.inl (.inr rfl)) _
 have HV : Blk (w2.setCell ⟨br, 0, none⟩ (.slice a2 n2 k2)) br 44 #[.slice a2 n2 k2] := by simpa using KR.out.set_ 0 (.slice a2 n2 k2)
 have HF := zk7 HE; have HVV := zk7 HV; have HOW : (w2.setCell ⟨br, 0, none⟩ (.slice a2 n2 k2)).ownsRow 0 5 1 (.slice a2 n2 k2) (xs ++ zbw l).length (bc (xs ++ zbw l)) := zah hown2 (Fr.put_ w2 br 0 _) (fun g hg e => zak hown2 KR.out (by decide) (by rw [hg, e])); have HOWW := zk7 HOW; have hsz := hf1.size; have HAT := zk7 hat2
 clear HE HV HOW hown1 hf1 hown2 hf2 hat2 q0 q1 hQ p1 p1d b0 b0d; go_wp2; go_end0; refine ⟨rfl, _, HVV.out, HOWW.out, HF.out, ?_⟩; rcases HAT.out with h | ⟨k, h, hk⟩
 ·exact .inl h
 ·exact .inr ⟨k, h, by simp at hsz; omega⟩
theorem zex (s0 s1 s2 s3 s4 s5 s6 bv : Value) (xs : List UInt8) (l : List Mrk) (P : Nat → Prop) (w : World) (hb : Sl P w bv 1 xs.length (bc xs)) (hxl : xs.length ≤ 1073741824)
 (hsl : ∀ s ∈ [s0, s1, s2, s3, s4, s5, s6], ∃ A m c, s = .slice A m c) (hs : Sl P w s5 2 l.length (l.flatMap Mrk.c)) (hll : l.length ≤ 1073741824) (hwf : ∀ s ∈ l, s.wf) :
 Calls Tryz.prog 31 #[.int .i64 5, .agg #[s0, s1, s2, s3, s4, s5, s6], bv] w (zbK (fun lv _ => lv = .slice none 0 0) w (xs ++ zbw l)) := by
 refine zaK 5 s0 s1 s2 s3 s4 s5 s6 bv xs _ P _ w hb hxl hsl (by rintro lv W rfl; exact ⟨_, _, _, rfl⟩) (fun _ _ _ h _ => h) ?_; intro bk be bp bb br bl v W hk hp hb' hr hl hown hbr hF
 exact (zgn bk bp bb br _ _ P s0 s1 s2 s3 s4 s5 s6 v _ xs l W hk hp hb' hr (zai hown (zli _)) (hs.fr hF (fun _ _ e => e)) hxl hll hwf hbr).mono fun r w' h => zc7 (zai hown (zli _)) hr hl h
def MrkParts (base : Nat) (l : List Mrk) (ps : Array Value) (w : World) : Prop :=
 ∃ lv, ps = #[.slice none 0 0, .slice none 0 0, .slice none 0 0, .slice none 0 0, .slice none 0 0, lv, .slice none 0 0] ∧ w.ownsRow base 168 2 lv l.length (l.flatMap Mrk.c)
theorem seven_of5 {lv : Value} (h : ∃ A m c, lv = .slice A m c) : zk4 #[.slice none 0 0, .slice none 0 0, .slice none 0 0, .slice none 0 0, .slice none 0 0, lv, .slice none 0 0] := by
 obtain ⟨A, m, c, rfl⟩ := h; exact ⟨_, _, _, _, _, _, _, _, _, _, _, _, _, _, _, _, _, _, _, _, _, rfl⟩
theorem zeM (te : TypeId) (pe : Value) (q0 q1 q2 q3 q4 q5 q6 bv : Value) (pre : List Mrk) (xs : List UInt8) (P : Nat → Prop) (w : World) (hb : Sl P w bv 1 xs.length (bc xs)) (hxl : xs.length ≤ 1073741824) (hP : ∀ g, P g → g < w.heap.size)
 (hsl : ∀ s ∈ [q0, q1, q2, q3, q4, q5, q6], ∃ A m c, s = .slice A m c) (hs : Sl P w q5 2 pre.length (pre.flatMap Mrk.c)) (hpl : pre.length ≤ 1073741824) (hE : w.cell? ⟨2, 0, none⟩ = some (.iface te pe)) :
 Calls Tryz.prog 29 #[.int .i64 5, bv, .agg #[q0, q1, q2, q3, q4, q5, q6]] w (ReadDone (MrkParts w.heap.size (outM pre xs)) (zaC xs).isSome w) := by
 have h2 := zle w _ hE; refine zbh 5 q0 q1 q2 q3 q4 q5 q6 bv xs P _ _ w hb hsl ?_ ?_
 ·rintro ps W W' ⟨lv, rfl, ho⟩ hv
  refine ⟨lv, rfl, zah ho hv ?_⟩; rintro g hg ⟨cs, h | h⟩
  ·exact zak ho h (by decide) hg
  ·exact zak ho h (by decide) hg
 ·intro bb bk bq bp bo W hk hb' hq hp ho hbb hbp hbo hpq hF
  have hEW : W.cell? ⟨2, 0, none⟩ = some (.iface te pe) := by rw [hF.cell (p := ⟨2, 0, none⟩) h2 (fun e => e)]; exact hE
  refine (zhj te pe bb bk bq bp bo P q0 q1 q2 q3 q4 q5 q6 bv xs W hb' (hb.fr hF (fun _ _ e => e)) hk hq pre (hs.fr hF (fun _ _ e => e)) hpl hp ho hEW hxl (fun g hg e => by have := hP g hg; omega) hpq (by simp only [] at h2; omega)).mono ?_; rintro r w' ⟨rfl, hf, hbo', lv, hbp', hown⟩; have hz := hF.size; obtain ⟨a, c, hlv⟩ := zaa hown
  exact ⟨rfl, hf, hbo', _, seven_of5 ⟨_, _, _, hlv⟩, hbp', lv, rfl, zai hown hz⟩
def zbx (d : Nat) (xs : List UInt8) (okb : Bool) : Prop :=
 ∀ (te : TypeId) (pe bv : Value) (P : Nat → Prop) (w : World), Sl P w bv 1 xs.length (bc xs) → (∀ g, P g → g < w.heap.size) → w.cell? ⟨2, 0, none⟩ = some (.iface te pe) →
  Calls Tryz.prog 29 #[.int .i64 d, bv, .agg #[.slice none 0 0, .slice none 0 0, .slice none 0 0, .slice none 0 0, .slice none 0 0, .slice none 0 0, .slice none 0 0]] w (ReadDone (fun _ _ => True) okb w)
theorem ReadDone.drop {L : Array Value → World → Prop} {b c : Bool} {w w' : World} {r : Ending} (e : b = c) (h : ReadDone L b w r w') : ReadDone (fun _ _ => True) c w r w' := by
 subst e; obtain ⟨ps, h1, h2, _, h4, h5⟩ := h; exact ⟨ps, h1, h2, fun _ => trivial, h4, h5⟩
theorem zew (P : Nat → Prop) (W : World) (s : Nat) : Sl P W (.slice none 0 0) s 0 [] := ⟨none, 0, rfl, by simp, zlj _, fun h => absurd h (by omega)⟩
theorem zd7 : ∀ s ∈ [Value.slice none 0 0, .slice none 0 0, .slice none 0 0, .slice none 0 0, .slice none 0 0, .slice none 0 0, .slice none 0 0], ∃ A m c, s = .slice A m c := by
 intro s hs; simp only [zlL, zlK, or_false] at hs; rcases hs with rfl | rfl | rfl | rfl | rfl | rfl | rfl <;> exact ⟨_, _, _, rfl⟩
theorem noR (P : Nat → Prop) (W : World) : SlR P W (.slice none 0 0) [] := ⟨zew _ _ _, fun p hp => by cases hp⟩
theorem noX (P : Nat → Prop) (W : World) : SlX P W (.slice none 0 0) [] := ⟨zew _ _ _, fun p hp => by cases hp⟩
theorem noS (P : Nat → Prop) (W : World) : SlS P W (.slice none 0 0) [] := ⟨zew _ _ _, fun p hp => by cases hp⟩
theorem noH (P : Nat → Prop) (W : World) : SlH P W (.slice none 0 0) [] := ⟨zew _ _ _, fun p hp => by cases hp⟩
theorem ok_ser (xs : List UInt8) (hxl : xs.length ≤ 1073741824) (hxf : ∀ x ∈ ziQ [] xs, x.labs.length ≤ 4096 ∧ ∀ p ∈ x.labs, p.1.size ≤ 1048576 ∧ p.2.size ≤ 1048576) (hxn : (ziQ [] xs).length ≤ 1048576)
 (Good : St → Prop) (hG : ∀ l, Good (some l) → zdq (some l) ∧ Good (za0 (some l)).2) (hG0 : ∀ r, xs = 1 :: r → Good (some r)) (c : Bool) (hc : (zba xs).isSome = c) : zbx 1 xs c :=
 fun te pe bv P w hb hP hE => (zeY te pe _ _ _ _ _ _ _ bv [] xs P w hb hxl hP zd7 (noR P w) (by simp) (fun p hp => by cases hp) hxf hxn hE Good hG hG0).mono fun r w' h => h.drop hc
theorem ok_exm (xs : List UInt8) (hxl : xs.length ≤ 1073741824) (hxf : ∀ x ∈ ziP [] xs, x.labs.length ≤ 4096 ∧ ∀ p ∈ x.labs, p.1.size ≤ 1048576 ∧ p.2.size ≤ 1048576) (hxn : (ziP [] xs).length ≤ 1048576)
 (Good : St → Prop) (hG : ∀ rest, xs = 4 :: rest → ∀ l, Good (some l) → zd0 (some l) ∧ Good (zaQ (zac (some rest)).1 (zaq (zac (some rest)).2).1 (some l)).2) (hG0 : ∀ rest, xs = 4 :: rest → rest ≠ [] → Good (zaq (zac (some rest)).2).2) (c : Bool) (hc : (zbf xs).isSome = c) : zbx 4 xs c :=
 fun te pe bv P w hb hP hE => (zfP te pe _ _ _ _ _ _ _ bv [] xs P w hb hxl hP zd7 (noX P w) (by simp) (fun p hp => by cases hp) hxf hxn hE Good hG hG0).mono fun r w' h => h.drop hc
theorem ok_mta (xs : List UInt8) (hxl : xs.length ≤ 1073741824)
 (Good : St → Prop) (hG : ∀ l, Good (some l) → zef (some l) ∧ Good (za1 (some l)).2) (hG0 : ∀ r, xs = 6 :: r → Good (some r)) (c : Bool) (hc : (zaN xs).isSome = c) : zbx 6 xs c :=
 fun te pe bv P w hb hP hE => (zfl te pe _ _ _ _ _ _ _ bv [] xs P w hb hxl hP zd7 (zew _ _ _) (by simp) hE Good hG hG0).mono fun r w' h => h.drop hc
theorem zjW (d : Nat) (hd : d = 7 ∨ d = 9) (xs : List UInt8) (hxl : xs.length ≤ 1073741824) (hxf : ∀ l, zcs xs = some l → l.length ≤ 1024 ∧ ∀ x ∈ l, x.h.few 1099511627776)
 (Good : St → Prop) (hG : ∀ kd rest, xs = kd :: rest → (kd = 7 ∨ kd = 9) → ∀ l, Good (some l) → zcM (some l) ∧ Good (zaL (zac (some rest)).1 (zaq (zac (some rest)).2).1 (some l)).2) (hG0 : ∀ kd rest, xs = kd :: rest → (kd = 7 ∨ kd = 9) → rest ≠ [] → Good (zaq (zac (some rest)).2).2) (c : Bool) (hc : (zcs xs).isSome = c) : zbx d xs c :=
 fun te pe bv P w hb hP hE => (zgs te pe _ _ _ _ _ _ _ bv d hd [] xs P w hb hxl hP zd7 (noH P w) (by simp) (fun p hp => by cases hp) hxf hE Good hG hG0).mono fun r w' h => h.drop hc
theorem zjX (d : Nat) (hd : d = 8 ∨ d = 10) (xs : List UInt8) (hxl : xs.length ≤ 1073741824) (hxf : ∀ l, zct xs = some l → l.length ≤ 1024 ∧ ∀ x ∈ l, x.h.few 1099511627776)
 (Good : St → Prop) (hG : ∀ kd rest, xs = kd :: rest → (kd = 8 ∨ kd = 10) → ∀ l, Good (some l) → zcN (some l) ∧ Good (zaM (zac (some rest)).1 (zaq (zac (some rest)).2).1 (some l)).2) (hG0 : ∀ kd rest, xs = kd :: rest → (kd = 8 ∨ kd = 10) → rest ≠ [] → Good (zaq (zac (some rest)).2).2) (c : Bool) (hc : (zct xs).isSome = c) : zbx d xs c :=
 fun te pe bv P w hb hP hE => (zgt te pe _ _ _ _ _ _ _ bv d hd [] xs P w hb hxl hP zd7 (noH P w) (by simp) (fun p hp => by cases hp) hxf hE Good hG hG0).mono fun r w' h => h.drop hc
theorem ok_smp (xs : List UInt8) (hxl : xs.length ≤ 1073741824) (c : Bool) (hc : (zal xs).isSome = c) : zbx 2 xs c :=
 fun te pe bv P w hb hP hE => (zda te pe _ _ _ _ _ _ _ bv xs P w hb hxl hP zd7 (zew _ _ _) hE).mono fun r w' h => h.drop hc
theorem ok_sto (xs : List UInt8) (hxl : xs.length ≤ 1073741824) (c : Bool) (hc : (zaG xs).isSome = c) : zbx 3 xs c :=
 fun te pe bv P w hb hP hE => (zeX te pe _ _ _ _ _ _ _ bv [] xs P w hb hxl hP zd7 (noS P w) (by simp) (fun p hp => by cases hp) hE).mono fun r w' h => h.drop hc
theorem ok_mrk (xs : List UInt8) (hxl : xs.length ≤ 1073741824) (c : Bool) (hc : (zaC xs).isSome = c) : zbx 5 xs c :=
 fun te pe bv P w hb hP hE => (zeM te pe _ _ _ _ _ _ _ bv [] xs P w hb hxl hP zd7 (zew _ _ _) (by simp) hE).mono fun r w' h => h.drop hc
theorem reads_no (d : Nat) (hd : d = 1 ∨ d = 2 ∨ d = 3 ∨ d = 4 ∨ d = 5 ∨ d = 6 ∨ d = 7 ∨ d = 8 ∨ d = 9 ∨ d = 10) (b : UInt8) (t : List UInt8) (hxl : (b :: t).length ≤ 1073741824) (hno : zc1 d b.toNat = false) : zbx d (b :: t) false := by
 rcases hd with rfl | rfl | rfl | rfl | rfl | rfl | rfl | rfl | rfl | rfl
 ·have h : ¬ b = 1 := by rintro rfl; exact absurd hno (by decide)
  have e := zkU b t h; refine ok_ser _ hxl ?_ ?_ (fun _ => False) (fun _ h => h.elim) (fun r hr => absurd (List.cons.inj hr).1 h) _ (by rw [e]; rfl)
  ·unfold ziQ; rw [e]; intro x hx; cases hx
  ·unfold ziQ; rw [e]; exact zli _
 ·have h : ¬ b = 2 := by rintro rfl; exact absurd hno (by decide)
  exact ok_smp _ hxl _ (by rw [zhA b t h]; rfl)
 ·have h : ¬ b = 3 := by rintro rfl; exact absurd hno (by decide)
  exact ok_sto _ hxl _ (by rw [ziv b t h]; rfl)
 ·have h : ¬ b = 4 := by rintro rfl; exact absurd hno (by decide)
  have e := zkX b t h; refine ok_exm _ hxl ?_ ?_ (fun _ => False) (fun _ _ _ h => h.elim) (fun r hr => absurd (List.cons.inj hr).1 h) _ (by rw [e]; rfl)
  ·unfold ziP; rw [e]; intro x hx; cases hx
  ·unfold ziP; rw [e]; exact zli _
 ·have h : ¬ b = 5 := by rintro rfl; exact absurd hno (by decide)
  exact ok_mrk _ hxl _ (by rw [zhD b t h]; rfl)
 ·have h : ¬ b = 6 := by rintro rfl; exact absurd hno (by decide)
  exact ok_mta _ hxl (fun _ => False) (fun _ h => h.elim) (fun r hr => absurd (List.cons.inj hr).1 h) _ (by rw [zjE b t h]; rfl)
 ·have h : ¬ (b = 7 ∨ b = 9) := by rintro (rfl | rfl) <;> exact absurd hno (by decide)
  have e := ziA b t h; exact zjW 7 (by decide) _ hxl (fun l hl => by rw [e] at hl; cases hl) (fun _ => False) (fun _ _ _ _ _ h => h.elim) (fun kd r hr hk => absurd hk (by rw [← (List.cons.inj hr).1]; exact h)) _ (by rw [e]; rfl)
 ·have h : ¬ (b = 8 ∨ b = 10) := by rintro (rfl | rfl) <;> exact absurd hno (by decide)
  have e := ziC b t h; exact zjX 8 (by decide) _ hxl (fun l hl => by rw [e] at hl; cases hl) (fun _ => False) (fun _ _ _ _ _ h => h.elim) (fun kd r hr hk => absurd hk (by rw [← (List.cons.inj hr).1]; exact h)) _ (by rw [e]; rfl)
 ·have h : ¬ (b = 7 ∨ b = 9) := by rintro (rfl | rfl) <;> exact absurd hno (by decide)
  have e := ziA b t h; exact zjW 9 (by decide) _ hxl (fun l hl => by rw [e] at hl; cases hl) (fun _ => False) (fun _ _ _ _ _ h => h.elim) (fun kd r hr hk => absurd hk (by rw [← (List.cons.inj hr).1]; exact h)) _ (by rw [e]; rfl)
 ·have h : ¬ (b = 8 ∨ b = 10) := by rintro (rfl | rfl) <;> exact absurd hno (by decide)
  have e := ziC b t h; exact zjX 10 (by decide) _ hxl (fun l hl => by rw [e] at hl; cases hl) (fun _ => False) (fun _ _ _ _ _ h => h.elim) (fun kd r hr hk => absurd hk (by rw [← (List.cons.inj hr).1]; exact h)) _ (by rw [e]; rfl)
theorem zdb (d k : Nat) (hd : d = 1 ∨ d = 2 ∨ d = 3 ∨ d = 4 ∨ d = 5 ∨ d = 6 ∨ d = 7 ∨ d = 8 ∨ d = 9 ∨ d = 10) (xs : List UInt8) (b : UInt8) (t : List UInt8) (e : xs = b :: t) (hb : b.toNat = k) (hxl : xs.length ≤ 1073741824) (yes : zc1 d k = true → zbx d xs true) : zbx d xs (zc1 d k) := by
 rcases h : zc1 d k with _ | _
 ·subst e; exact reads_no d hd b t hxl (by rw [hb]; exact h)
 ·exact yes h
theorem len_ser (l : List Ser) (hl : ∀ s ∈ l, zgE s) (hn : l.length ≤ 12) : (zcz l).length ≤ 1073741824 := by
 have h1 := zaV zbS 20000 l (fun x hx => zg0 x (hl x hx)); show (_ :: l.flatMap zbS).length ≤ _; rw [zlp]; omega
theorem reads_ser (l : List Ser) (hl : ∀ s ∈ l, zgE s) (hn : l.length ≤ 12) (d : Nat) (hd : d = 1 ∨ d = 2 ∨ d = 3 ∨ d = 4 ∨ d = 5 ∨ d = 6 ∨ d = 7 ∨ d = 8 ∨ d = 9 ∨ d = 10) : zbx d (zcz l) (zc1 d 1) := by
 have hlen := len_ser l hl hn; obtain ⟨b, t, hb, e⟩ : ∃ b t, UInt8.toNat b = 1 ∧ zcz l = b :: t := ⟨1, _, rfl, rfl⟩; refine zdb d 1 hd _ b t e hb hlen fun h => ?_; clear e hb; rcases hd with rfl | rfl | rfl | rfl | rfl | rfl | rfl | rfl | rfl | rfl
 ·have e := zjC l hl
  refine ok_ser _ hlen ?_ ?_ GoodR zkq (goodR_rec l hl) _ (by rw [e]; rfl)
  ·unfold ziQ; rw [e]
   intro x hx; obtain ⟨s, hs, rfl⟩ := zlD.1 (show x ∈ l.map tos from by simpa using hx); obtain ⟨_, h2, h3, _⟩ := hl s hs; obtain ⟨q1, q2⟩ := zft s.labs h2 h3; exact ⟨by show (zbH s.labs).length ≤ _; omega, fun p hp => by have := q2 p hp; omega⟩
  ·unfold ziQ; rw [e]
   simp only [zlJ, zlv]; omega
 ·exact absurd h (by decide)
 ·exact absurd h (by decide)
 ·exact absurd h (by decide)
 ·exact absurd h (by decide)
 ·exact absurd h (by decide)
 ·exact absurd h (by decide)
 ·exact absurd h (by decide)
 ·exact absurd h (by decide)
 ·exact absurd h (by decide)
theorem len_smp (l : List Smp) (hl : ∀ s ∈ l, s.wf) (hn : l.length ≤ 12) : (zaD l).length ≤ 1073741824 := by
 rcases l with _ | ⟨f, r⟩
 ·decide
 ·have h1 := zaV (zbk f) 28 (f :: r) (fun x _ => ze2 f x)
  show ([2] ++ (zdx f ++ (f :: r).flatMap (zbk f))).length ≤ _; rw [zk8, zk8]; simp only [zdx, zk8, zlh, zlo]; omega
theorem reads_smp (l : List Smp) (hl : ∀ s ∈ l, s.wf) (hn : l.length ≤ 12) (d : Nat) (hd : d = 1 ∨ d = 2 ∨ d = 3 ∨ d = 4 ∨ d = 5 ∨ d = 6 ∨ d = 7 ∨ d = 8 ∨ d = 9 ∨ d = 10) : zbx d (zaD l) (zc1 d 2) := by
 have hlen := len_smp l hl hn; obtain ⟨b, t, hb, e⟩ : ∃ b t, UInt8.toNat b = 2 ∧ zaD l = b :: t := by
  rcases l with _ | ⟨f, r⟩
  ·exact ⟨2, [], rfl, rfl⟩
  ·exact ⟨2, zdx f ++ (f :: r).flatMap (zbk f), rfl, rfl⟩
 refine zdb d 2 hd _ b t e hb hlen fun h => ?_; clear e hb; rcases hd with rfl | rfl | rfl | rfl | rfl | rfl | rfl | rfl | rfl | rfl
 ·exact absurd h (by decide)
 ·exact ok_smp _ hlen _ (by rw [dec_enc l hl]; rfl)
 ·exact absurd h (by decide)
 ·exact absurd h (by decide)
 ·exact absurd h (by decide)
 ·exact absurd h (by decide)
 ·exact absurd h (by decide)
 ·exact absurd h (by decide)
 ·exact absurd h (by decide)
 ·exact absurd h (by decide)
theorem len_sto (l : List Ston) (hl : ∀ s ∈ l, s.wf) (hn : l.length ≤ 12) (hi : ∀ s ∈ l, s.ivs.length ≤ 4096) : (zbY l).length ≤ 1073741824 := by
 have h1 := zif l hl hi; show (_ :: (zeS l).flatMap zcc).length ≤ _; rw [zlp]; omega
theorem reads_sto (l : List Ston) (hl : ∀ s ∈ l, s.wf) (hn : l.length ≤ 12) (hi : ∀ s ∈ l, s.ivs.length ≤ 4096) (d : Nat) (hd : d = 1 ∨ d = 2 ∨ d = 3 ∨ d = 4 ∨ d = 5 ∨ d = 6 ∨ d = 7 ∨ d = 8 ∨ d = 9 ∨ d = 10) : zbx d (zbY l) (zc1 d 3) := by
 have hlen := len_sto l hl hn hi; obtain ⟨b, t, hb, e⟩ : ∃ b t, UInt8.toNat b = 3 ∧ zbY l = b :: t := ⟨3, _, rfl, rfl⟩; refine zdb d 3 hd _ b t e hb hlen fun h => ?_; clear e hb; rcases hd with rfl | rfl | rfl | rfl | rfl | rfl | rfl | rfl | rfl | rfl
 ·exact absurd h (by decide)
 ·exact absurd h (by decide)
 ·exact ok_sto _ hlen _ (by rw [show zaG (zbY l) = some (zeS l) from zhy _ (fun s hs => by
   obtain ⟨x, hx, hs⟩ := List.mem_flatMap.1 hs; obtain ⟨p, hp, rfl⟩ := zlD.1 hs
   exact ⟨(hl x hx).1, (hl x hx).2 p hp⟩)]; rfl)
 ·exact absurd h (by decide)
 ·exact absurd h (by decide)
 ·exact absurd h (by decide)
 ·exact absurd h (by decide)
 ·exact absurd h (by decide)
 ·exact absurd h (by decide)
 ·exact absurd h (by decide)
theorem len_exm (l : List Exm) (hl : ∀ s ∈ l, zfs s) (hn : l.length ≤ 12) : (zb5 l).length ≤ 1073741824 := by
 rcases l with _ | ⟨f, r⟩
 ·decide
 ·have h1 := zaV (zbl f) 20000 (f :: r) (fun x hx => zg6 f x (hl x hx))
  show (4 :: (zbD f ++ (f :: r).flatMap (zbl f))).length ≤ _; rw [zlp, zk8]; simp only [zbD, zk8, zlh]; omega
theorem reads_exm (l : List Exm) (hl : ∀ s ∈ l, zfs s) (hn : l.length ≤ 12) (d : Nat) (hd : d = 1 ∨ d = 2 ∨ d = 3 ∨ d = 4 ∨ d = 5 ∨ d = 6 ∨ d = 7 ∨ d = 8 ∨ d = 9 ∨ d = 10) : zbx d (zb5 l) (zc1 d 4) := by
 have hlen := len_exm l hl hn; obtain ⟨b, t, hb, e⟩ : ∃ b t, UInt8.toNat b = 4 ∧ zb5 l = b :: t := by rcases l with _ | ⟨f, r⟩ <;> exact ⟨4, _, rfl, rfl⟩
 refine zdb d 4 hd _ b t e hb hlen fun h => ?_; clear e hb; rcases hd with rfl | rfl | rfl | rfl | rfl | rfl | rfl | rfl | rfl | rfl
 ·exact absurd h (by decide)
 ·exact absurd h (by decide)
 ·exact absurd h (by decide)
 ·have e := zjJ l hl
  obtain ⟨Good, hG, hG0⟩ := goodX_rec l hl; refine ok_exm _ hlen ?_ ?_ Good hG hG0 _ (by rw [e]; rfl)
  ·unfold ziP; rw [e]
   intro x hx; obtain ⟨s, hs, rfl⟩ := zlD.1 (show x ∈ l.map toe from by simpa using hx); obtain ⟨_, _, _, _, h2, h3, _⟩ := hl s hs; obtain ⟨q1, q2⟩ := zft s.labs h2 h3; exact ⟨by show (zbH s.labs).length ≤ _; omega, fun p hp => by have := q2 p hp; omega⟩
  ·unfold ziP; rw [e]
   simp only [zlJ, zlv]; omega
 ·exact absurd h (by decide)
 ·exact absurd h (by decide)
 ·exact absurd h (by decide)
 ·exact absurd h (by decide)
 ·exact absurd h (by decide)
 ·exact absurd h (by decide)
theorem len_mrk (l : List Mrk) (hl : ∀ s ∈ l, s.wf) (hn : l.length ≤ 12) : (zbw l).length ≤ 1073741824 := by
 have h1 := zaV zcv 16 l (fun x hx => Nat.le_of_eq (zg4 x)); show (_ :: l.flatMap zcv).length ≤ _; rw [zlp]; omega
theorem reads_mrk (l : List Mrk) (hl : ∀ s ∈ l, s.wf) (hn : l.length ≤ 12) (d : Nat) (hd : d = 1 ∨ d = 2 ∨ d = 3 ∨ d = 4 ∨ d = 5 ∨ d = 6 ∨ d = 7 ∨ d = 8 ∨ d = 9 ∨ d = 10) : zbx d (zbw l) (zc1 d 5) := by
 have hlen := len_mrk l hl hn; obtain ⟨b, t, hb, e⟩ : ∃ b t, UInt8.toNat b = 5 ∧ zbw l = b :: t := ⟨5, _, rfl, rfl⟩; refine zdb d 5 hd _ b t e hb hlen fun h => ?_; clear e hb; rcases hd with rfl | rfl | rfl | rfl | rfl | rfl | rfl | rfl | rfl | rfl
 ·exact absurd h (by decide)
 ·exact absurd h (by decide)
 ·exact absurd h (by decide)
 ·exact absurd h (by decide)
 ·exact ok_mrk _ hlen _ (by rw [zgC l hl]; rfl)
 ·exact absurd h (by decide)
 ·exact absurd h (by decide)
 ·exact absurd h (by decide)
 ·exact absurd h (by decide)
 ·exact absurd h (by decide)
theorem len_mta (l : List Mta) (hl : ∀ s ∈ l, s.wf) (hn : l.length ≤ 12) : (zb2 l).length ≤ 1073741824 := by
 have h1 := zaV zb3 8300 l (fun x hx => zg3 x (hl x hx)); show (_ :: l.flatMap zb3).length ≤ _; rw [zlp]; omega
theorem reads_mta (l : List Mta) (hl : ∀ s ∈ l, s.wf) (hn : l.length ≤ 12) (d : Nat) (hd : d = 1 ∨ d = 2 ∨ d = 3 ∨ d = 4 ∨ d = 5 ∨ d = 6 ∨ d = 7 ∨ d = 8 ∨ d = 9 ∨ d = 10) : zbx d (zb2 l) (zc1 d 6) := by
 have hlen := len_mta l hl hn; obtain ⟨b, t, hb, e⟩ : ∃ b t, UInt8.toNat b = 6 ∧ zb2 l = b :: t := ⟨6, _, rfl, rfl⟩; refine zdb d 6 hd _ b t e hb hlen fun h => ?_; clear e hb; rcases hd with rfl | rfl | rfl | rfl | rfl | rfl | rfl | rfl | rfl | rfl
 ·exact absurd h (by decide)
 ·exact absurd h (by decide)
 ·exact absurd h (by decide)
 ·exact absurd h (by decide)
 ·exact absurd h (by decide)
 ·exact ok_mta _ hlen GoodM zkr (goodM_rec l hl) _ (by rw [ziy l hl]; rfl)
 ·exact absurd h (by decide)
 ·exact absurd h (by decide)
 ·exact absurd h (by decide)
 ·exact absurd h (by decide)
theorem zij {h : Hst} (k : h.ok) : (h.readW).few 1099511627776 := by
 obtain ⟨a, b, c, d, e, f, g⟩ := k.few; refine ⟨by show h.pos.length ≤ _; omega, by show h.neg.length ≤ _; omega, by show h.ups.length ≤ _; omega, by show h.downs.length ≤ _; omega, zli _, zli _, ?_⟩; show (if h.schema = -53 then h.cus else []).length ≤ _; split
 ·omega
 ·exact zli _
theorem len_hsW (k : Nat) (q : Rhs → Bool) (l : List Rhs) (hl : ∀ s ∈ l, s.ok) (hn : l.length ≤ 12) : (za3 (UInt8.ofNat k) q l).length ≤ 1073741824 := by
 rcases l with _ | ⟨f, r⟩
 ·show 1 ≤ 1073741824
  omega
 ·have h1 := zaV (zaW f) 5020 ((f :: r).filter q) (fun x hx => ze3 f x (hl x (zlM.1 hx).1))
  have h2 := List.length_filter_le q (f :: r); show ([UInt8.ofNat k] ++ (zar f ++ ((f :: r).filter q).flatMap (zaW f))).length ≤ _; rw [zk8, zk8]; simp only [zar, zk8, zlh, zlo]; omega
theorem zhX (k : Nat) (hk : k = 7 ∨ k = 9) (q : Rhs → Bool) (l : List Rhs) (hl : ∀ s ∈ l, s.ok) (hn : l.length ≤ 12) (d : Nat) (hd : d = 1 ∨ d = 2 ∨ d = 3 ∨ d = 4 ∨ d = 5 ∨ d = 6 ∨ d = 7 ∨ d = 8 ∨ d = 9 ∨ d = 10) : zbx d (za3 (UInt8.ofNat k) q l) (zc1 d k) := by
 have hlen := len_hsW k q l hl hn; obtain ⟨b, t, hb, e⟩ : ∃ b t, UInt8.toNat b = k ∧ za3 (UInt8.ofNat k) q l = b :: t := ⟨UInt8.ofNat k, (za3 (UInt8.ofNat k) q l).tail, by rcases hk with rfl | rfl <;> rfl, by rcases l with _ | ⟨f, r⟩ <;> rfl⟩; refine zdb d k hd _ b t e hb hlen fun h => ?_; clear e hb; have hd2 : d = 7 ∨ d = 9 := by
  rcases hk with rfl | rfl <;> rcases hd with rfl | rfl | rfl | rfl | rfl | rfl | rfl | rfl | rfl | rfl <;> first | exact .inl rfl | exact .inr rfl | exact absurd h (by decide)
 rcases hd2 with rfl | rfl
 ·have e := zg7 (UInt8.ofNat k) (by rcases hk with rfl | rfl <;> decide) q l hl
  obtain ⟨Good, hG, hG0⟩ := zia (UInt8.ofNat k) q l hl; refine zjW 7 (by decide) _ hlen ?_ Good hG hG0 _ (by rw [e]; rfl); rw [e]; intro l2 h2; injection h2 with h2; subst h2; refine ⟨by rw [zlv]; have := List.length_filter_le q l; omega, fun x hx => ?_⟩; obtain ⟨s, hs, rfl⟩ := zlD.1 hx; exact zij (hl s (zlM.1 hs).1).2.2.2
 ·have e := zg7 (UInt8.ofNat k) (by rcases hk with rfl | rfl <;> decide) q l hl
  obtain ⟨Good, hG, hG0⟩ := zia (UInt8.ofNat k) q l hl; refine zjW 9 (by decide) _ hlen ?_ Good hG hG0 _ (by rw [e]; rfl); rw [e]; intro l2 h2; injection h2 with h2; subst h2; refine ⟨by rw [zlv]; have := List.length_filter_le q l; omega, fun x hx => ?_⟩; obtain ⟨s, hs, rfl⟩ := zlD.1 hx; exact zij (hl s (zlM.1 hs).1).2.2.2
theorem zik {h : Hst} (k : h.ok) : (h.readF).few 1099511627776 := by
 obtain ⟨a, b, c, d, e, f, g⟩ := k.few; refine ⟨by show h.pos.length ≤ _; omega, by show h.neg.length ≤ _; omega, zli _, zli _, by show h.fups.length ≤ _; omega, by show h.fdowns.length ≤ _; omega, ?_⟩; show (if h.schema = -53 then h.cus else []).length ≤ _; split
 ·omega
 ·exact zli _
theorem len_hsF (k : Nat) (q : Rhs → Bool) (l : List Rhs) (hl : ∀ s ∈ l, s.ok) (hn : l.length ≤ 12) : (za4 (UInt8.ofNat k) q l).length ≤ 1073741824 := by
 rcases l with _ | ⟨f, r⟩
 ·show 1 ≤ 1073741824
  omega
 ·have h1 := zaV (zaX f) 5020 ((f :: r).filter q) (fun x hx => ze4 f x (hl x (zlM.1 hx).1))
  have h2 := List.length_filter_le q (f :: r); show ([UInt8.ofNat k] ++ (zar f ++ ((f :: r).filter q).flatMap (zaX f))).length ≤ _; rw [zk8, zk8]; simp only [zar, zk8, zlh, zlo]; omega
theorem zhY (k : Nat) (hk : k = 8 ∨ k = 10) (q : Rhs → Bool) (l : List Rhs) (hl : ∀ s ∈ l, s.ok) (hn : l.length ≤ 12) (d : Nat) (hd : d = 1 ∨ d = 2 ∨ d = 3 ∨ d = 4 ∨ d = 5 ∨ d = 6 ∨ d = 7 ∨ d = 8 ∨ d = 9 ∨ d = 10) : zbx d (za4 (UInt8.ofNat k) q l) (zc1 d k) := by
 have hlen := len_hsF k q l hl hn; obtain ⟨b, t, hb, e⟩ : ∃ b t, UInt8.toNat b = k ∧ za4 (UInt8.ofNat k) q l = b :: t := ⟨UInt8.ofNat k, (za4 (UInt8.ofNat k) q l).tail, by rcases hk with rfl | rfl <;> rfl, by rcases l with _ | ⟨f, r⟩ <;> rfl⟩; refine zdb d k hd _ b t e hb hlen fun h => ?_; clear e hb; have hd2 : d = 8 ∨ d = 10 := by
  rcases hk with rfl | rfl <;> rcases hd with rfl | rfl | rfl | rfl | rfl | rfl | rfl | rfl | rfl | rfl <;> first | exact .inl rfl | exact .inr rfl | exact absurd h (by decide)
 rcases hd2 with rfl | rfl
 ·have e := zg8 (UInt8.ofNat k) (by rcases hk with rfl | rfl <;> decide) q l hl
  obtain ⟨Good, hG, hG0⟩ := zib (UInt8.ofNat k) q l hl; refine zjX 8 (by decide) _ hlen ?_ Good hG hG0 _ (by rw [e]; rfl); rw [e]; intro l2 h2; injection h2 with h2; subst h2; refine ⟨by rw [zlv]; have := List.length_filter_le q l; omega, fun x hx => ?_⟩; obtain ⟨s, hs, rfl⟩ := zlD.1 hx; exact zik (hl s (zlM.1 hs).1).2.2.2
 ·have e := zg8 (UInt8.ofNat k) (by rcases hk with rfl | rfl <;> decide) q l hl
  obtain ⟨Good, hG, hG0⟩ := zib (UInt8.ofNat k) q l hl; refine zjX 10 (by decide) _ hlen ?_ Good hG hG0 _ (by rw [e]; rfl); rw [e]; intro l2 h2; injection h2 with h2; subst h2; refine ⟨by rw [zlv]; have := List.length_filter_le q l; omega, fun x hx => ?_⟩; obtain ⟨s, hs, rfl⟩ := zlD.1 hx; exact zik (hl s (zlM.1 hs).1).2.2.2
theorem zbn (k code d bt : Nat) (hk : 1 + (code : Int) % 10 = (k : Int)) (hk10 : 1 ≤ k ∧ k ≤ 10) (hc : code < 256) (hd : 1 + (bt : Int) % 10 = (d : Int)) (hd10 : 1 ≤ d ∧ d ≤ 10) (hbt : bt < 256) (pred fits : Prop) (A0 A1 A2 A3 A4 A5 A6 : Option Addr) (c0 c1 c2 c3 c4 c5 c6 n0 n1 n2 n3 n4 n5 n6 : Nat) (w : World) (te : TypeId) (pe : Value)
 (hE : w.cell? ⟨2, 0, none⟩ = some (.iface te pe))
 (h34 : ∀ W, Fr (fun _ => False) w W → Calls Tryz.prog 34 #[.agg #[.slice A0 n0 c0, .slice A1 n1 c1, .slice A2 n2 c2, .slice A3 n3 c3, .slice A4 n4 c4, .slice A5 n5 c5, .slice A6 n6 c6]] W (zau fits W))
 (h30 : fits → ∀ W, Fr (fun _ => False) w W → Calls Tryz.prog 30 #[.int .i64 k, .agg #[.slice A0 n0 c0, .slice A1 n1 c1, .slice A2 n2 c2, .slice A3 n3 c3, .slice A4 n4 c4, .slice A5 n5 c5, .slice A6 n6 c6]] W (zau pred W))
 (h31 : fits → pred → ∀ W, Fr (fun _ => False) w W → ∃ (L : Value → World → Prop) (zs : List UInt8), zbx d zs (zc1 d k) ∧ (∀ u V, L u V → ∃ A m c, u = .slice A m c) ∧ Calls Tryz.prog 31 #[.int .i64 k, .agg #[.slice A0 n0 c0, .slice A1 n1 c1, .slice A2 n2 c2, .slice A3 n3 c3, .slice A4 n4 c4, .slice A5 n5 c5, .slice A6 n6 c6], .slice none 0 0] W (zbK L W zs)) :
 Calls Tryz.prog 11 #[.int .u8 code, .int .u8 bt, .agg #[.slice A0 n0 c0, .slice A1 n1 c1, .slice A2 n2 c2, .slice A3 n3 c3, .slice A4 n4 c4, .slice A5 n5 c5, .slice A6 n6 c6]] w (zbE w) := by
 have HEW : Hid (∀ W, Fr (fun _ => False) w W → W.cell? ⟨2, 0, none⟩ = some (.iface te pe)) := zk7 (fun W hF => by rw [hF.cell (p := ⟨2, 0, none⟩) (zle w _ hE) (fun e => e)]; exact hE); have HA : Hid (∀ W, Fr (fun _ => False) w W → Calls Tryz.prog 28 #[] W (zbE W)) := zk7 (fun W hF => zfQ te pe W (HEW.out W hF))
 have HK : Hid (∀ W, Calls Tryz.prog 35 #[.int .u8 code] W (zhO (k : Int) W)) := zk7 (fun W => by have := zem code hc W; rwa [hk] at this); have HKD : Hid (∀ W, Calls Tryz.prog 35 #[.int .u8 bt] W (zhO (d : Int) W)) := zk7 (fun W => by have := zem bt hbt W; rwa [hd] at this); obtain ⟨ob, hob⟩ : ∃ ob, zc1 d k = ob := ⟨_, rfl⟩
 have HQ : Hid (∀ W, Calls Tryz.prog 41 #[.int .i64 d, .int .i64 k] W (fun r w' => r = .returned (.bool ob) ∧ W = w')) := zk7 (fun W => by have := reads_any d k hd10 hk10 W; rwa [hob] at this); rw [hob] at h31; have H34 := zk7 h34; have H30 := zk7 h30; have H31 := zk7 h31; clear h34 h30 h31 hE hk hc hd hbt hob hk10 hd10; go_enter Tryz.func11, Tryz.ntmps11
 have HB := zk7 (Blk.new w 54 #[.slice A0 n0 c0, .slice A1 n1 c1, .slice A2 n2 c2, .slice A3 n3 c3, .slice A4 n4 c4, .slice A5 n5 c5, .slice A6 n6 c6]); have HF0 := zk7 ((zlW (fun _ => False) w).alloc (.cells #[.slice A0 n0 c0, .slice A1 n1 c1, .slice A2 n2 c2, .slice A3 n3 c3, .slice A4 n4 c4, .slice A5 n5 c5, .slice A6 n6 c6] 54))
 go_wp2_with (go_at_call 34; refine (H34.out _ HF0.out).mono ?_; rintro r w1 ⟨b, rfl, hb, hf⟩; refine Hid.out ?_)
 have HF1 := zk7 (HF0.out.same hf); have HBB := zk7 hb; have HB1 := zk7 (HB.out.fr hf (fun e => e)); clear hb hf HB; rcases b with _ | _
 ·refine zk7 ?_
  go_wp2; go_ret; exact ⟨rfl, HF1.out⟩
 have HFI : Hid fits := zk7 (HBB.out.1 (by first | rfl | trivial)); obtain ⟨y0, y1, y2, y3, y4, y5, y6⟩ := zam HB1.out; refine zk7 ?_
 go_wp2_with (first
  | (go_at_call 35; refine (HKD.out _).mono ?_; rintro r w3 ⟨rfl, hf⟩; clear y0 y1 y2 y3 y4 y5 y6; have HF3 := zk7 (HF2.out.same hf); have HB3 := zk7 (HB2.out.fr hf (fun e => e)); clear hf HB2; obtain ⟨y0, y1, y2, y3, y4, y5, y6⟩ := zam HB3.out)
  | (go_at_call 35; refine (HK.out _).mono ?_; rintro r w2 ⟨rfl, hf⟩; clear y0 y1 y2 y3 y4 y5 y6; have HF2 := zk7 (HF1.out.same hf); have HB2 := zk7 (HB1.out.fr hf (fun e => e)); clear hf HB1; obtain ⟨y0, y1, y2, y3, y4, y5, y6⟩ := zam HB2.out)
  | (go_at_call 30; refine (H30.out HFI.out _ HF3.out).mono ?_; rintro r w4 ⟨b, rfl, hb, hf⟩; refine Hid.out ?_))
 have HF4 := zk7 (HF3.out.same hf); have HB4 := zk7 (HB3.out.fr hf (fun e => e)); have HBC := zk7 hb; clear hb hf HB3 y0 y1 y2 y3 y4 y5 y6; obtain ⟨y0, y1, y2, y3, y4, y5, y6⟩ := zam HB4.out; rcases b with _ | _
 ·refine zk7 ?_
  go_wp2_with (go_at_call 28; refine (HA.out _ HF4.out).mono ?_; rintro r w5 ⟨rfl, hf⟩)
  go_ret; exact ⟨rfl, HF4.out.same hf⟩
 obtain ⟨L, zs, hR, hLs, hW⟩ := H31.out HFI.out (HBC.out.1 (by first | rfl | trivial)) w4 HF4.out; have HW := zk7 hW; have HR := zk7 hR; clear hW hR; rcases ob with _ | _; all_goals
  refine zk7 ?_
  go_wp2_with (first
   | (go_at_call 31; refine HW.out.mono ?_; rintro r w5 ⟨bv, lv, rfl, hL, hown, hf⟩; obtain ⟨b1, b2, b3, rfl⟩ := hLs lv w5 hL; obtain ⟨d1, d2, d3, rfl⟩ := zae hown; have HF5 := zk7 (HF4.out.same hf); have HO := zk7 hown; clear hf hL hown)
   | (go_at_call 29; refine (HR.out te pe _ _ w5 (Sl.ofOwn HO.out) (fun g hg => zav HO.out hg) (HEW.out w5 HF5.out)).mono ?_; rintro r w6 ⟨ps, rfl, hps, q1, q2, hf⟩; clear q1 q2; obtain ⟨E0, l0, e0, E1, l1, e1, E2, l2, e2, E3, l3, e3, E4, l4, e4, E5, l5, e5, E6, l6, e6, rfl⟩ := hps; have HF6 := zk7 ((HF5.out.same hf).alloc (.cells #[.slice E0 l0 e0, .slice E1 l1 e1, .slice E2 l2 e2, .slice E3 l3 e3, .slice E4 l4 e4, .slice E5 l5 e5, .slice E6 l6 e6] 54)); clear hf)
   | (go_at_call 28; refine (HA.out _ HF6.out).mono ?_; rintro r w7 ⟨rfl, hf⟩; have HF7 := zk7 (HF6.out.same hf); clear hf)
   | (go_at_call 41; refine (HQ.out _).mono ?_; rintro r w8 ⟨rfl, rfl⟩))
  go_ret; exact ⟨rfl, HF7.out⟩
def Hst.total (h : Hst) : Nat := h.pos.length + h.neg.length + h.ups.length + h.downs.length + h.fups.length + h.fdowns.length + h.cus.length
def zdk (fl : Bool) (h : Hst) : Prop :=
 h.total ≤ 60 ∧ (h.schema = -53 ∨ (-4 ≤ h.schema ∧ h.schema ≤ 8 ∧ h.cus.length = 0)) ∧ (if fl then h.ups.length + h.downs.length = 0 else h.fups.length + h.fdowns.length = 0)
theorem short_raw (fl : Bool) (hint : UInt8) (schema : Int) (thr sum zc cnt : Nat) (A1 A2 A3 A4 A5 A6 A7 : Option Addr) (n1 n2 n3 n4 n5 n6 n7 c1 c2 c3 c4 c5 c6 c7 : Nat) (w : World) (p : Prop) (hp : p ↔ (n1 + n2 + n3 + n4 + n5 + n6 + n7 ≤ 60 ∧ (schema = -53 ∨ (-4 ≤ schema ∧ schema ≤ 8 ∧ n7 = 0)) ∧ (if fl then n3 + n4 = 0 else n5 + n6 = 0)))
 (h1 : n1 ≤ 1099511627776) (h2 : n2 ≤ 1099511627776) (h3 : n3 ≤ 1099511627776) (h4 : n4 ≤ 1099511627776) (h5 : n5 ≤ 1099511627776) (h6 : n6 ≤ 1099511627776) (h7 : n7 ≤ 1099511627776) :
 Calls Tryz.prog 89 #[.agg #[.int .u8 hint.toNat, .int .i32 schema, .int .u64 thr, .int .u64 sum, .int .u64 zc, .int .u64 cnt, .slice A1 n1 c1, .slice A2 n2 c2, .slice A3 n3 c3, .slice A4 n4 c4, .slice A5 n5 c5, .slice A6 n6 c6, .slice A7 n7 c7], .bool fl] w (zau p w) := by
 have HP := zk7 hp; clear hp; by_cases ht : n1 + n2 + n3 + n4 + n5 + n6 + n7 ≤ 60
 ·have hx : ¬ (60 : Int) < (n1 : Int) + n2 + n3 + n4 + n5 + n6 + n7 := by omega
  have HT := zk7 ht; clear ht; by_cases hs : schema = -53
  ·subst hs
   cases fl
   ·by_cases he : n5 + n6 = 0
    ·have HE := zk7 he
     have hz : ((n5 : Int) + n6 == 0) = true := by simp; omega
     clear he; go_enter Tryz.func89, Tryz.ntmps89; go_wp2; go_ret; refine ⟨_, rfl, ?_, (zlW _ w).alloc _⟩; rw [HP.out]; exact zlF (by first | rfl | exact hz | (simp <;> omega) | (simp at hz ⊢; omega)) ⟨HT.out, .inl (by first | rfl | trivial), by simpa using HE.out⟩
    ·have HE := zk7 he
     have hz : ((n5 : Int) + n6 == 0) = false := by simp; omega
     clear he; go_enter Tryz.func89, Tryz.ntmps89; go_wp2; go_ret; refine ⟨_, rfl, ?_, (zlW _ w).alloc _⟩; rw [HP.out]; exact zlE (by first | (intro h; cases h; done) | (rw [hz]; decide) | (simp <;> omega) | (simp at hz ⊢; omega)) (fun h => absurd h.2.2 (by simpa using HE.out))
   ·by_cases he : n3 + n4 = 0
    ·have HE := zk7 he
     have hz : ((n3 : Int) + n4 == 0) = true := by simp; omega
     clear he; go_enter Tryz.func89, Tryz.ntmps89; go_wp2; go_ret; refine ⟨_, rfl, ?_, (zlW _ w).alloc _⟩; rw [HP.out]; exact zlF (by first | rfl | exact hz | (simp <;> omega) | (simp at hz ⊢; omega)) ⟨HT.out, .inl (by first | rfl | trivial), by simpa using HE.out⟩
    ·have HE := zk7 he
     have hz : ((n3 : Int) + n4 == 0) = false := by simp; omega
     clear he; go_enter Tryz.func89, Tryz.ntmps89; go_wp2; go_ret; refine ⟨_, rfl, ?_, (zlW _ w).alloc _⟩; rw [HP.out]; exact zlE (by first | (intro h; cases h; done) | (rw [hz]; decide) | (simp <;> omega) | (simp at hz ⊢; omega)) (fun h => absurd h.2.2 (by simpa using HE.out))
  ·have hs2 : (schema != -53) = true := by simpa using hs
   have HS := zk7 hs; clear hs; by_cases hlo : schema < -4
   ·have HA := zk7 hlo
    go_enter Tryz.func89, Tryz.ntmps89; go_wp2; go_ret; refine ⟨_, rfl, ?_, (zlW _ w).alloc _⟩; rw [HP.out]; exact zlE (by intro h; cases h) (fun h => by have := HS.out; have := HA.out; rcases h.2.1 with h | h <;> omega)
   ·by_cases hhi : 8 < schema
    ·have HA := zk7 hhi
     go_enter Tryz.func89, Tryz.ntmps89; go_wp2; go_ret; refine ⟨_, rfl, ?_, (zlW _ w).alloc _⟩; rw [HP.out]; exact zlE (by intro h; cases h) (fun h => by have := HS.out; have := HA.out; rcases h.2.1 with h | h <;> omega)
    ·by_cases h70 : (0 : Int) < (n7 : Int)
     ·have HA := zk7 h70
      go_enter Tryz.func89, Tryz.ntmps89; go_wp2; go_ret; refine ⟨_, rfl, ?_, (zlW _ w).alloc _⟩; rw [HP.out]; exact zlE (by intro h; cases h) (fun h => by have := HS.out; have := HA.out; rcases h.2.1 with h | h <;> omega)
     ·have HOK : Hid (-4 ≤ schema ∧ schema ≤ 8 ∧ n7 = 0) := zk7 ⟨by omega, by omega, by omega⟩
      cases fl
      ·by_cases he : n5 + n6 = 0
       ·have HE := zk7 he
        have hz : ((n5 : Int) + n6 == 0) = true := by simp; omega
        clear he; go_enter Tryz.func89, Tryz.ntmps89; go_wp2; go_ret; refine ⟨_, rfl, ?_, (zlW _ w).alloc _⟩; rw [HP.out]; exact zlF (by first | rfl | exact hz | (simp <;> omega) | (simp at hz ⊢; omega)) ⟨HT.out, .inr HOK.out, by simpa using HE.out⟩
       ·have HE := zk7 he
        have hz : ((n5 : Int) + n6 == 0) = false := by simp; omega
        clear he; go_enter Tryz.func89, Tryz.ntmps89; go_wp2; go_ret; refine ⟨_, rfl, ?_, (zlW _ w).alloc _⟩; rw [HP.out]; exact zlE (by first | (intro h; cases h; done) | (rw [hz]; decide) | (simp <;> omega) | (simp at hz ⊢; omega)) (fun h => absurd h.2.2 (by simpa using HE.out))
      ·by_cases he : n3 + n4 = 0
       ·have HE := zk7 he
        have hz : ((n3 : Int) + n4 == 0) = true := by simp; omega
        clear he; go_enter Tryz.func89, Tryz.ntmps89; go_wp2; go_ret; refine ⟨_, rfl, ?_, (zlW _ w).alloc _⟩; rw [HP.out]; exact zlF (by first | rfl | exact hz | (simp <;> omega) | (simp at hz ⊢; omega)) ⟨HT.out, .inr HOK.out, by simpa using HE.out⟩
       ·have HE := zk7 he
        have hz : ((n3 : Int) + n4 == 0) = false := by simp; omega
        clear he; go_enter Tryz.func89, Tryz.ntmps89; go_wp2; go_ret; refine ⟨_, rfl, ?_, (zlW _ w).alloc _⟩; rw [HP.out]; exact zlE (by first | (intro h; cases h; done) | (rw [hz]; decide) | (simp <;> omega) | (simp at hz ⊢; omega)) (fun h => absurd h.2.2 (by simpa using HE.out))
 ·have hx : (60 : Int) < (n1 : Int) + n2 + n3 + n4 + n5 + n6 + n7 := by omega
  have HT := zk7 ht; clear ht; go_enter Tryz.func89, Tryz.ntmps89; go_wp2; go_ret; refine ⟨_, rfl, ?_, (zlW _ w).alloc _⟩; rw [HP.out]; exact zlE (by intro h; cases h) (fun h => absurd h.1 HT.out)
theorem zeG (fl : Bool) (P : Nat → Prop) (h : Hst) (s : Hsl) (w : World) (hs : SlHs P w h s) (hl : h.few 1099511627776) :
 Calls Tryz.prog 89 #[.agg (hic h s).toArray, .bool fl] w (zau (zdk fl h) w) := by
 obtain ⟨z1, z2, z3, z4, z5, z6, z7⟩ := hs; obtain ⟨sp, sn, su, sd, sfu, sfd, sc⟩ := s; obtain ⟨l1, l2, l3, l4, l5, l6, l7⟩ := hl; simp only [] at z1 z2 z3 z4 z5 z6 z7; obtain ⟨A1, c1, rfl⟩ := z1.shape; obtain ⟨A2, c2, rfl⟩ := z2.shape; obtain ⟨A3, c3, rfl⟩ := z3.shape; obtain ⟨A4, c4, rfl⟩ := z4.shape; obtain ⟨A5, c5, rfl⟩ := z5.shape; obtain ⟨A6, c6, rfl⟩ := z6.shape
 obtain ⟨A7, c7, rfl⟩ := z7.shape; exact short_raw fl h.hint h.schema h.thr h.sum h.zc h.cnt A1 A2 A3 A4 A5 A6 A7 _ _ _ _ _ _ _ c1 c2 c3 c4 c5 c6 c7 w _ Iff.rfl l1 l2 l3 l4 l5 l6 l7
def zca (c : Bool) (p : Rhs × Hsl) : Bool := zaU p.1 == c
def zk5 (w : World) (lc : List (Rhs × Hsl)) (r : Ending) (w' : World) : Prop :=
 ∃ v, r = .returned v ∧ w'.ownsRow w.heap.size 194 15 v lc.length (lc.flatMap hsc) ∧ Fr (fun _ => False) w w'
theorem zg9 (c : Bool) (P : Nat → Prop) (v : Value) (lv : List (Rhs × Hsl)) (w : World) (h : SlH P w v lv) (hl : lv.length ≤ 1048576) :
 Calls Tryz.prog 36 #[v, .bool c] w (zk5 w (lv.filter (zca c))) := by
 obtain ⟨⟨A, cp, rfl, hlen, hnc, hr⟩, hin⟩ := h; obtain ⟨n, hn⟩ : ∃ n, lv.length = n := ⟨_, rfl⟩; rw [hn] at hr hnc hl ⊢; have HN := zk7 hn; have HR := zk7 hr; have HI := zk7 hin
 obtain ⟨i0, hi0, hz0, hz1, hz2⟩ := info_parts Tryz.info194; clear hn hr hlen hin
 go_enter Tryz.func36, Tryz.ntmps36; go_wp2; go_loopw [5, 6] (fun v i wr => ∃ (k m : Nat), k ≤ n ∧ i = .int .i64 k ∧ m ≤ k ∧ Hid (((lv.take k).filter (zca c)).length = m) ∧ Hid (wr.ownsRow w.heap.size 194 15 v m (((lv.take k).filter (zca c)).flatMap hsc)) ∧ Hid (Fr (fun _ => False) w wr)) (fun _ i _ => n - (intOf i).toNat)
 case atStart => exact ⟨0, 0, zli _, rfl, zlj _, zk7 rfl, zk7 (zll _ _ _ _), zk7 (zlW _ _)⟩
 case round =>
  obtain ⟨k, m, hk, rfl, hmk, HM, HO, HF⟩ := hrel; by_cases hlt : k < n
  ·obtain ⟨g, off, rfl, _, hcell⟩ := HR.out (by omega)
   obtain ⟨x, hx⟩ : ∃ x, lv[k]? = some x := ⟨_, zk9 (by rw [HN.out]; exact hlt)⟩; have cc : ∀ j, j < 15 → ∀ u, (hsc x)[j]? = some u → wr.cell? ⟨g, off + (k * 15 + j), none⟩ = some u := fun j hj u hu => by
    have := hcell (k * 15 + j) u (by rw [zig 15 hsc (fun _ => rfl) lv k x hx j hj]; exact hu); rw [HF.out.cell (p := ⟨g, off + (k * 15 + j), none⟩) (zle w _ this) (fun e => e)]; exact this
   have c00 : wr.cell? ⟨g, off + k * 15, none⟩ = some (.int .u64 x.1.ref) := cc 0 (by omega) _ rfl; have c10 : wr.cell? ⟨g, off + k * 15 + 1, none⟩ = some (.int .i64 x.1.t) := cc 1 (by omega) _ rfl; have c20 : wr.cell? ⟨g, off + k * 15 + 2, none⟩ = some (.int .u8 x.1.h.hint.toNat) := cc 2 (by omega) _ rfl
   have c30 : wr.cell? ⟨g, off + k * 15 + 3, none⟩ = some (.int .i32 x.1.h.schema) := cc 3 (by omega) _ rfl; have c40 : wr.cell? ⟨g, off + k * 15 + 4, none⟩ = some (.int .u64 x.1.h.thr) := cc 4 (by omega) _ rfl; have c50 : wr.cell? ⟨g, off + k * 15 + 5, none⟩ = some (.int .u64 x.1.h.sum) := cc 5 (by omega) _ rfl
   have c60 : wr.cell? ⟨g, off + k * 15 + 6, none⟩ = some (.int .u64 x.1.h.zc) := cc 6 (by omega) _ rfl; have c70 : wr.cell? ⟨g, off + k * 15 + 7, none⟩ = some (.int .u64 x.1.h.cnt) := cc 7 (by omega) _ rfl; have c80 : wr.cell? ⟨g, off + k * 15 + 8, none⟩ = some x.2.p := cc 8 (by omega) _ rfl; have c90 : wr.cell? ⟨g, off + k * 15 + 9, none⟩ = some x.2.n := cc 9 (by omega) _ rfl
   have c100 : wr.cell? ⟨g, off + k * 15 + 10, none⟩ = some x.2.u := cc 10 (by omega) _ rfl; have c110 : wr.cell? ⟨g, off + k * 15 + 11, none⟩ = some x.2.d := cc 11 (by omega) _ rfl; have c120 : wr.cell? ⟨g, off + k * 15 + 12, none⟩ = some x.2.fu := cc 12 (by omega) _ rfl; have c130 : wr.cell? ⟨g, off + k * 15 + 13, none⟩ = some x.2.fd := cc 13 (by omega) _ rfl
   have c140 : wr.cell? ⟨g, off + k * 15 + 14, none⟩ = some x.2.c := cc 14 (by omega) _ rfl; have hiv := HI.out x (zlf hx); have HX := zk7 hx; rcases hkc : zca c x with _ | _
   ·have hee : ((x.1.h.schema == -53) == c) = false := hkc
    have HK := zk7 hkc; clear hcell cc hx hiv hkc; go_wp2; go_roundw
    case rel => exact ⟨k + 1, m, by omega, by go_num, by omega, zk7 (by rw [ze1 (zca c) lv k x HX.out HK.out]; exact HM.out), zk7 (by rw [ze1 (zca c) lv k x HX.out HK.out]; exact HO.out), HF⟩
    case measure => simp [intOf]; omega
   ·have hee : ((x.1.h.schema == -53) == c) = true := hkc
    have HK := zk7 hkc; have hsz := HF.out.size; obtain ⟨y, hy⟩ : ∃ y, y = x := ⟨_, rfl⟩; rw [← hy] at HX HK; have HY := zk7 hy; clear hkc hy; obtain ⟨⟨ref, t, ⟨hint, schema, thr, sum, zc, cnt, pos, neg, ups, downs, fups, fdowns, cus⟩⟩, ⟨sp, sn, su, sd, sfu, sfd, sc⟩⟩ := x; obtain ⟨z1, z2, z3, z4, z5, z6, z7⟩ := hiv
    simp only [] at c00 c10 c20 c30 c40 c50 c60 c70 c80 c90 c100 c110 c120 c130 c140 hee z1 z2 z3 z4 z5 z6 z7; obtain ⟨A1, c1, rfl⟩ := z1.shape; obtain ⟨A2, c2, rfl⟩ := z2.shape; obtain ⟨A3, c3, rfl⟩ := z3.shape; obtain ⟨A4, c4, rfl⟩ := z4.shape; obtain ⟨A5, c5, rfl⟩ := z5.shape; obtain ⟨A6, c6, rfl⟩ := z6.shape; obtain ⟨A7, c7, rfl⟩ := z7.shape; obtain ⟨m1, e1⟩ : ∃ n, pos.length = n := ⟨_, rfl⟩
    rw [e1] at c80; obtain ⟨m2, e2⟩ : ∃ n, neg.length = n := ⟨_, rfl⟩; rw [e2] at c90; obtain ⟨m3, e3⟩ : ∃ n, ups.length = n := ⟨_, rfl⟩; rw [e3] at c100; obtain ⟨m4, e4⟩ : ∃ n, downs.length = n := ⟨_, rfl⟩; rw [e4] at c110; obtain ⟨m5, e5⟩ : ∃ n, fups.length = n := ⟨_, rfl⟩; rw [e5] at c120; obtain ⟨m6, e6⟩ : ∃ n, fdowns.length = n := ⟨_, rfl⟩; rw [e6] at c130
    obtain ⟨m7, e7⟩ : ∃ n, cus.length = n := ⟨_, rfl⟩; rw [e7] at c140; have HE := zk7 (And.intro e1 (And.intro e2 (And.intro e3 (And.intro e4 (And.intro e5 (And.intro e6 e7)))))); obtain ⟨a', n', k', rfl⟩ := zae HO.out; clear hcell cc hx z1 z2 z3 z4 z5 z6 z7 e1 e2 e3 e4 e5 e6 e7; go_wp2_with (at_builtin; refine Hid.out ?_)
    refine zk7 ?_
    refine zad _ rfl _ _ 52 52 rfl w.heap.size 194 i0 _ 15 224 Tryz.underlying52 hi0 hz0 hz1 hz2 rfl (by decide) _ m (((lv.take k).filter (zca c)).flatMap hsc) rfl (HO.out.alloc _) _ 1 [.int .u64 ref, .int .i64 t, .int .u8 hint.toNat, .int .i32 schema, .int .u64 thr, .int .u64 sum, .int .u64 zc, .int .u64 cnt, .slice A1 m1 c1, .slice A2 m2 c2, .slice A3 m3 c3, .slice A4 m4 c4, .slice A5 m5 c5, .slice A6 m6 c6, .slice A7 m7 c7] rfl (zaF Tryz.underlying52 (Blk.new wr 194 #[.int .u64 ref, .int .i64 t, .int .u8 hint.toNat, .int .i32 schema, .int .u64 thr, .int .u64 sum, .int .u64 zc, .int .u64 cnt, .slice A1 m1 c1, .slice A2 m2 c2, .slice A3 m3 c3, .slice A4 m4 c4, .slice A5 m5 c5, .slice A6 m6 c6, .slice A7 m7 c7]) rfl (by simp [Value.oneCell'])) (by unfold maxLen; omega) (by omega) (by simp; omega) ?_
    intro v' w2 hown' hgrow hat
    have HM8 : Hid (((lv.take (k + 1)).filter (zca c)).length = m + 1) := zk7 (by
     rw [zdL (zca c) lv k _ HX.out HK.out, zk8, HM.out]; rfl)
    have HN8 : Hid (w2.ownsRow w.heap.size 194 15 v' (m + 1) (((lv.take (k + 1)).filter (zca c)).flatMap hsc)) := zk7 (by
     obtain ⟨rfl, rfl, rfl, rfl, rfl, rfl, rfl⟩ := HE.out; rw [zdL (zca c) lv k _ HX.out HK.out, zlG, HY.out, zlm, List.flatMap_nil, zlt]
     exact hown')
    have HF8 := zk7 ((HF.out.alloc (.cells #[.int .u64 ref, .int .i64 t, .int .u8 hint.toNat, .int .i32 schema, .int .u64 thr, .int .u64 sum, .int .u64 zc, .int .u64 cnt, .slice A1 m1 c1, .slice A2 m2 c2, .slice A3 m3 c3, .slice A4 m4 c4, .slice A5 m5 c5, .slice A6 m6 c6, .slice A7 m7 c7] 194)).grown hgrow (fun g hg => .inr ((HO.out.lt g hg).1)))
    clear hown' hgrow hat c00 c10 c20 c30 c40 c50 c60 c70 c80 c90 c100 c110 c120 c130 c140; go_wp2; go_roundw
    case rel => exact ⟨k + 1, m + 1, by omega, by go_num, by omega, HM8, HN8, HF8⟩
    case measure => simp [intOf]; omega
  ·obtain rfl : k = n := by omega
   go_wp2; go_ret; have e1 : lv.take k = lv := zlg (by rw [HN.out]; exact zlj _); have ho := HO.out; have hm := HM.out; rw [e1] at ho hm; exact ⟨_, rfl, by rw [hm]; exact ho, HF.out⟩
theorem zcL (A0 A1 A2 A3 A4 A5 A6 : Option Addr) (c0 c1 c2 c3 c4 c5 c6 : Nat) (n0 n1 n2 n3 n4 n5 n6 n : Nat) (h0 : n0 ≤ 1099511627776) (h1 : n1 ≤ 1099511627776) (h2 : n2 ≤ 1099511627776) (h3 : n3 ≤ 1099511627776) (h4 : n4 ≤ 1099511627776) (h5 : n5 ≤ 1099511627776) (h6 : n6 ≤ 1099511627776) (hn : n = n0 + n1 + n2 + n3 + n4 + n5 + n6) (w : World) :
 Calls Tryz.prog 40 #[.agg #[.slice A0 n0 c0, .slice A1 n1 c1, .slice A2 n2 c2, .slice A3 n3 c3, .slice A4 n4 c4, .slice A5 n5 c5, .slice A6 n6 c6]] w (zhO n w) := by
 go_enter Tryz.func40, Tryz.ntmps40; go_wp2; go_ret; refine ⟨?_, (zlW _ w).alloc _⟩; rw [show (n : Int) = ((((((n0 : Int) + n1) + n2) + n3) + n4) + n5) + n6 by omega]; rfl
theorem rightG_2 (A0 A1 A2 A3 A4 A5 A6 : Option Addr) (c0 c1 c2 c3 c4 c5 c6 : Nat) (n0 n1 n2 n3 n4 n5 n6 n : Nat) (h0 : n0 ≤ 1099511627776) (h1 : n1 ≤ 1099511627776) (h2 : n2 ≤ 1099511627776) (h3 : n3 ≤ 1099511627776) (h4 : n4 ≤ 1099511627776) (h5 : n5 ≤ 1099511627776) (h6 : n6 ≤ 1099511627776) (hn : n = n0 + n1 + n2 + n3 + n4 + n5 + n6) (w : World) :
 Calls Tryz.prog 30 #[.int .i64 2, .agg #[.slice A0 n0 c0, .slice A1 n1 c1, .slice A2 n2 c2, .slice A3 n3 c3, .slice A4 n4 c4, .slice A5 n5 c5, .slice A6 n6 c6]] w (zau (n ≤ 12 ∧ n = n1) w) := by
 have hC := zcL A0 A1 A2 A3 A4 A5 A6 c0 c1 c2 c3 c4 c5 c6 n0 n1 n2 n3 n4 n5 n6 n h0 h1 h2 h3 h4 h5 h6 hn (w.alloc (.cells #[.slice A0 n0 c0, .slice A1 n1 c1, .slice A2 n2 c2, .slice A3 n3 c3, .slice A4 n4 c4, .slice A5 n5 c5, .slice A6 n6 c6] 54)); have hle : n1 ≤ n := by omega
 clear hn; by_cases h12 : n ≤ 12
 ·have hx : ¬ (12 : Int) < (n : Int) := by omega
  by_cases he : n = n1
  ·subst he
   go_enter Tryz.func30, Tryz.ntmps30; go_wp2_with (go_at_call 40; refine hC.mono ?_; rintro r w1 ⟨rfl, hf1⟩; obtain ⟨x0, x1, x2, x3, x4, x5, x6⟩ := zam ((Blk.new w 54 #[.slice A0 n0 c0, .slice A1 n c1, .slice A2 n2 c2, .slice A3 n3 c3, .slice A4 n4 c4, .slice A5 n5 c5, .slice A6 n6 c6]).fr hf1 (fun e => e)))
   go_ret; exact ⟨_, rfl, ⟨fun _ => ⟨h12, by trivial⟩, fun _ => by simp⟩, ((zlW _ w).alloc _).same hf1⟩
  ·have hz : ((n : Int) - (n1 : Int) == 0) = false := by simp; omega
   go_enter Tryz.func30, Tryz.ntmps30; go_wp2_with (go_at_call 40; refine hC.mono ?_; rintro r w1 ⟨rfl, hf1⟩; obtain ⟨x0, x1, x2, x3, x4, x5, x6⟩ := zam ((Blk.new w 54 #[.slice A0 n0 c0, .slice A1 n1 c1, .slice A2 n2 c2, .slice A3 n3 c3, .slice A4 n4 c4, .slice A5 n5 c5, .slice A6 n6 c6]).fr hf1 (fun e => e)))
   go_ret; exact ⟨_, rfl, ⟨fun h => (by first | (cases h; done) | (simp at h; done) | (simp at h; omega)), fun h => absurd h.2 he⟩, ((zlW _ w).alloc _).same hf1⟩
 ·have hx : (12 : Int) < (n : Int) := by omega
  go_enter Tryz.func30, Tryz.ntmps30; go_wp2_with (go_at_call 40; refine hC.mono ?_; rintro r w1 ⟨rfl, hf1⟩)
  go_ret; exact ⟨false, rfl, ⟨fun h => (by cases h), fun h => absurd h.1 h12⟩, ((zlW _ w).alloc _).same hf1⟩
theorem rightG_5 (A0 A1 A2 A3 A4 A5 A6 : Option Addr) (c0 c1 c2 c3 c4 c5 c6 : Nat) (n0 n1 n2 n3 n4 n5 n6 n : Nat) (h0 : n0 ≤ 1099511627776) (h1 : n1 ≤ 1099511627776) (h2 : n2 ≤ 1099511627776) (h3 : n3 ≤ 1099511627776) (h4 : n4 ≤ 1099511627776) (h5 : n5 ≤ 1099511627776) (h6 : n6 ≤ 1099511627776) (hn : n = n0 + n1 + n2 + n3 + n4 + n5 + n6) (w : World) :
 Calls Tryz.prog 30 #[.int .i64 5, .agg #[.slice A0 n0 c0, .slice A1 n1 c1, .slice A2 n2 c2, .slice A3 n3 c3, .slice A4 n4 c4, .slice A5 n5 c5, .slice A6 n6 c6]] w (zau (n ≤ 12 ∧ n = n5) w) := by
 have hC := zcL A0 A1 A2 A3 A4 A5 A6 c0 c1 c2 c3 c4 c5 c6 n0 n1 n2 n3 n4 n5 n6 n h0 h1 h2 h3 h4 h5 h6 hn (w.alloc (.cells #[.slice A0 n0 c0, .slice A1 n1 c1, .slice A2 n2 c2, .slice A3 n3 c3, .slice A4 n4 c4, .slice A5 n5 c5, .slice A6 n6 c6] 54)); have hle : n5 ≤ n := by omega
 clear hn; by_cases h12 : n ≤ 12
 ·have hx : ¬ (12 : Int) < (n : Int) := by omega
  by_cases he : n = n5
  ·subst he
   go_enter Tryz.func30, Tryz.ntmps30; go_wp2_with (go_at_call 40; refine hC.mono ?_; rintro r w1 ⟨rfl, hf1⟩; obtain ⟨x0, x1, x2, x3, x4, x5, x6⟩ := zam ((Blk.new w 54 #[.slice A0 n0 c0, .slice A1 n1 c1, .slice A2 n2 c2, .slice A3 n3 c3, .slice A4 n4 c4, .slice A5 n c5, .slice A6 n6 c6]).fr hf1 (fun e => e)))
   go_ret; exact ⟨_, rfl, ⟨fun _ => ⟨h12, by trivial⟩, fun _ => by simp⟩, ((zlW _ w).alloc _).same hf1⟩
  ·have hz : ((n : Int) - (n5 : Int) == 0) = false := by simp; omega
   go_enter Tryz.func30, Tryz.ntmps30; go_wp2_with (go_at_call 40; refine hC.mono ?_; rintro r w1 ⟨rfl, hf1⟩; obtain ⟨x0, x1, x2, x3, x4, x5, x6⟩ := zam ((Blk.new w 54 #[.slice A0 n0 c0, .slice A1 n1 c1, .slice A2 n2 c2, .slice A3 n3 c3, .slice A4 n4 c4, .slice A5 n5 c5, .slice A6 n6 c6]).fr hf1 (fun e => e)))
   go_ret; exact ⟨_, rfl, ⟨fun h => (by first | (cases h; done) | (simp at h; done) | (simp at h; omega)), fun h => absurd h.2 he⟩, ((zlW _ w).alloc _).same hf1⟩
 ·have hx : (12 : Int) < (n : Int) := by omega
  go_enter Tryz.func30, Tryz.ntmps30; go_wp2_with (go_at_call 40; refine hC.mono ?_; rintro r w1 ⟨rfl, hf1⟩)
  go_ret; exact ⟨false, rfl, ⟨fun h => (by cases h), fun h => absurd h.1 h12⟩, ((zlW _ w).alloc _).same hf1⟩
theorem rightG_1 (A0 A1 A2 A3 A4 A5 A6 : Option Addr) (c0 c1 c2 c3 c4 c5 c6 : Nat) (n0 n1 n2 n3 n4 n5 n6 n : Nat) (h0 : n0 ≤ 1099511627776) (h1 : n1 ≤ 1099511627776) (h2 : n2 ≤ 1099511627776) (h3 : n3 ≤ 1099511627776) (h4 : n4 ≤ 1099511627776) (h5 : n5 ≤ 1099511627776) (h6 : n6 ≤ 1099511627776) (hn : n = n0 + n1 + n2 + n3 + n4 + n5 + n6) (w : World) (P : Nat → Prop) (lv : List (Ser × Value)) (hs : SlR P w (.slice A0 n0 c0) lv) (hl : lv.length = n0) (hi : ∀ p ∈ lv, p.1.labs.length ≤ 1099511627776) :
 Calls Tryz.prog 30 #[.int .i64 1, .agg #[.slice A0 n0 c0, .slice A1 n1 c1, .slice A2 n2 c2, .slice A3 n3 c3, .slice A4 n4 c4, .slice A5 n5 c5, .slice A6 n6 c6]] w (zau (n ≤ 12 ∧ n = n0 ∧ ∀ p ∈ lv, LabOk p.1.labs 8 300) w) := by
 have hC := zcL A0 A1 A2 A3 A4 A5 A6 c0 c1 c2 c3 c4 c5 c6 n0 n1 n2 n3 n4 n5 n6 n h0 h1 h2 h3 h4 h5 h6 hn (w.alloc (.cells #[.slice A0 n0 c0, .slice A1 n1 c1, .slice A2 n2 c2, .slice A3 n3 c3, .slice A4 n4 c4, .slice A5 n5 c5, .slice A6 n6 c6] 54)); have hle : n0 ≤ n := by omega
 clear hn; by_cases h12 : n ≤ 12
 ·have h1x : ¬ (12 : Int) < (n : Int) := by omega
  have HS := zk7 hs; have HN := zk7 hl; have HI := zk7 hi; clear hs hl hi; go_enter Tryz.func30, Tryz.ntmps30; go_wp2_with (go_at_call 40; refine hC.mono ?_; rintro r w1 ⟨rfl, hf1⟩; obtain ⟨x0, x1, x2, x3, x4, x5, x6⟩ := zam ((Blk.new w 54 #[.slice A0 n0 c0, .slice A1 n1 c1, .slice A2 n2 c2, .slice A3 n3 c3, .slice A4 n4 c4, .slice A5 n5 c5, .slice A6 n6 c6]).fr hf1 (fun e => e)))
  have HF := zk7 (((zlW (fun _ => False) w).alloc (.cells #[.slice A0 n0 c0, .slice A1 n1 c1, .slice A2 n2 c2, .slice A3 n3 c3, .slice A4 n4 c4, .slice A5 n5 c5, .slice A6 n6 c6] 54)).same hf1); have hw1 := HF.out.size
  have HB := zk7 ((Blk.new w 54 #[.slice A0 n0 c0, .slice A1 n1 c1, .slice A2 n2 c2, .slice A3 n3 c3, .slice A4 n4 c4, .slice A5 n5 c5, .slice A6 n6 c6]).fr hf1 (fun e => e)); clear hf1 hC; go_loopw [6] (fun i wr => ∃ k : Nat, k ≤ n0 ∧ i = .int .i64 k ∧ Hid (Fr (fun _ => False) w1 wr) ∧ Hid (∀ j p, j < k → lv[j]? = some p → LabOk p.1.labs 8 300)) (fun i _ => n0 - (intOf i).toNat)
  case atStart => exact ⟨0, zli _, rfl, zk7 (zlW _ _), zk7 (fun j p h => absurd h (zlS _))⟩
  case round =>
   obtain ⟨k, hk, rfl, RF, RG⟩ := hrel; obtain ⟨y0, y1, y2, y3, y4, y5, y6⟩ := zam (HB.out.fr RF.out (fun e => e)); clear x0 x1 x2 x3 x4 x5 x6; by_cases hlt : k < n0
   ·have hS := HS.out.fr (HF.out.same RF.out) (fun _ _ e => e)
    have hiv := hS.2; obtain ⟨⟨A, c, e2, _, hc, hr⟩, _⟩ := hS; injection e2 with e2 e2n e2c; obtain ⟨g, off, rfl, _, hcell⟩ := hr (by have := HN.out; omega); obtain ⟨x, hx⟩ : ∃ x, lv[k]? = some x := ⟨_, zk9 (by rw [HN.out]; exact hlt)⟩; have hxm := zlf hx
    have c1 : wr.cell? ⟨g, off + k * 2 + 1, none⟩ = some x.2 := hcell (k * 2 + 1) _ (by rw [zci zi6 (fun _ => rfl) lv k x hx 1 (by omega)]; rfl); have hivx := hiv x hxm; have hil := HI.out x hxm; have HXM := zk7 hxm; have HX := zk7 hx; clear hiv hx hxm; obtain ⟨⟨ref, labs⟩, iv⟩ := x; simp only [] at c1 hivx hil; have hC := zd9 P iv labs 8 300 wr hivx hil (by omega) (by omega)
    obtain ⟨Ai, ci, rfl, _, _, _⟩ := hivx; subst e2; clear hcell hr e2n e2c hil; go_wp2_with (go_at_call 53; refine hC.mono ?_; rintro r5 w5 ⟨b, rfl, hb5, hf5⟩; refine Hid.out ?_)
    have H5 := zk7 (RF.out.same hf5); have HB5 := zk7 hb5; obtain ⟨z0, z1, z2, z3, z4, z5, z6⟩ := zam (HB.out.fr H5.out (fun e => e)); clear hf5 hb5 y0 y1 y2 y3 y4 y5 y6 hC c1; rcases b with _ | _
    ·refine zk7 ?_
     go_wp2; go_ret; exact ⟨false, rfl, ⟨fun h => (by cases h), fun h => absurd (HB5.out.2 (h.2.2 _ HXM.out)) (by decide)⟩, HF.out.same H5.out⟩
    ·refine zk7 ?_
     go_wp2; go_roundw
     case rel => exact ⟨k + 1, by omega, by go_num, H5, zk7 (fun j p h h2 => by
      rcases zlA j k with h3 | h3
      ·exact RG.out j p h3 h2
      ·obtain rfl : j = k := by omega
       have h4 := h2.symm.trans HX.out; injection h4 with h4; rw [h4]
       exact HB5.out.1 rfl)⟩
     case measure => simp [intOf]; omega
   ·obtain rfl : k = n0 := by omega
    have hall : Hid (∀ p ∈ lv, LabOk p.1.labs 8 300) := zk7 (fun p hp => by
     obtain ⟨j, hj, e⟩ := List.getElem_of_mem hp
     exact RG.out j p (by rw [← HN.out]; exact hj) (by rw [zk9 hj, e]))
    by_cases he : n = k
    ·have HE := zk7 he
     have hz : ((n : Int) - (k : Int) == 0) = true := by simp; omega
     clear he; go_wp2; go_ret; refine ⟨_, rfl, ⟨fun _ => ⟨h12, HE.out, hall.out⟩, fun _ => by first | rfl | exact hz | (have := HE.out; simp; omega)⟩, HF.out.same RF.out⟩
    ·have hz : ((n : Int) - (k : Int) == 0) = false := by simp; omega
     go_wp2; go_ret; exact ⟨_, rfl, ⟨fun h => (by first | (cases h; done) | (simp at h; done) | (simp at h; omega)), fun h => absurd h.2.1 he⟩, HF.out.same RF.out⟩
 ·have hx : (12 : Int) < (n : Int) := by omega
  go_enter Tryz.func30, Tryz.ntmps30; go_wp2_with (go_at_call 40; refine hC.mono ?_; rintro r w1 ⟨rfl, hf1⟩)
  go_ret; exact ⟨false, rfl, ⟨fun h => (by cases h), fun h => absurd h.1 h12⟩, ((zlW _ w).alloc _).same hf1⟩
theorem rightG_4 (A0 A1 A2 A3 A4 A5 A6 : Option Addr) (c0 c1 c2 c3 c4 c5 c6 : Nat) (n0 n1 n2 n3 n4 n5 n6 n : Nat) (h0 : n0 ≤ 1099511627776) (h1 : n1 ≤ 1099511627776) (h2 : n2 ≤ 1099511627776) (h3 : n3 ≤ 1099511627776) (h4 : n4 ≤ 1099511627776) (h5 : n5 ≤ 1099511627776) (h6 : n6 ≤ 1099511627776) (hn : n = n0 + n1 + n2 + n3 + n4 + n5 + n6) (w : World) (P : Nat → Prop) (lv : List (Exm × Value)) (hs : SlX P w (.slice A3 n3 c3) lv) (hl : lv.length = n3) (hi : ∀ p ∈ lv, p.1.labs.length ≤ 1099511627776) :
 Calls Tryz.prog 30 #[.int .i64 4, .agg #[.slice A0 n0 c0, .slice A1 n1 c1, .slice A2 n2 c2, .slice A3 n3 c3, .slice A4 n4 c4, .slice A5 n5 c5, .slice A6 n6 c6]] w (zau (n ≤ 12 ∧ n = n3 ∧ ∀ p ∈ lv, LabOk p.1.labs 8 300) w) := by
 have hC := zcL A0 A1 A2 A3 A4 A5 A6 c0 c1 c2 c3 c4 c5 c6 n0 n1 n2 n3 n4 n5 n6 n h0 h1 h2 h3 h4 h5 h6 hn (w.alloc (.cells #[.slice A0 n0 c0, .slice A1 n1 c1, .slice A2 n2 c2, .slice A3 n3 c3, .slice A4 n4 c4, .slice A5 n5 c5, .slice A6 n6 c6] 54)); have hle : n3 ≤ n := by omega
 clear hn; by_cases h12 : n ≤ 12
 ·have h1x : ¬ (12 : Int) < (n : Int) := by omega
  have HS := zk7 hs; have HN := zk7 hl; have HI := zk7 hi; clear hs hl hi; go_enter Tryz.func30, Tryz.ntmps30; go_wp2_with (go_at_call 40; refine hC.mono ?_; rintro r w1 ⟨rfl, hf1⟩; obtain ⟨x0, x1, x2, x3, x4, x5, x6⟩ := zam ((Blk.new w 54 #[.slice A0 n0 c0, .slice A1 n1 c1, .slice A2 n2 c2, .slice A3 n3 c3, .slice A4 n4 c4, .slice A5 n5 c5, .slice A6 n6 c6]).fr hf1 (fun e => e)))
  have HF := zk7 (((zlW (fun _ => False) w).alloc (.cells #[.slice A0 n0 c0, .slice A1 n1 c1, .slice A2 n2 c2, .slice A3 n3 c3, .slice A4 n4 c4, .slice A5 n5 c5, .slice A6 n6 c6] 54)).same hf1); have hw1 := HF.out.size
  have HB := zk7 ((Blk.new w 54 #[.slice A0 n0 c0, .slice A1 n1 c1, .slice A2 n2 c2, .slice A3 n3 c3, .slice A4 n4 c4, .slice A5 n5 c5, .slice A6 n6 c6]).fr hf1 (fun e => e)); clear hf1 hC; go_loopw [8] (fun i wr => ∃ k : Nat, k ≤ n3 ∧ i = .int .i64 k ∧ Hid (Fr (fun _ => False) w1 wr) ∧ Hid (∀ j p, j < k → lv[j]? = some p → LabOk p.1.labs 8 300)) (fun i _ => n3 - (intOf i).toNat)
  case atStart => exact ⟨0, zli _, rfl, zk7 (zlW _ _), zk7 (fun j p h => absurd h (zlS _))⟩
  case round =>
   obtain ⟨k, hk, rfl, RF, RG⟩ := hrel; obtain ⟨y0, y1, y2, y3, y4, y5, y6⟩ := zam (HB.out.fr RF.out (fun e => e)); clear x0 x1 x2 x3 x4 x5 x6; by_cases hlt : k < n3
   ·have hS := HS.out.fr (HF.out.same RF.out) (fun _ _ e => e)
    have hiv := hS.2; obtain ⟨⟨A, c, e2, _, hc, hr⟩, _⟩ := hS; injection e2 with e2 e2n e2c; obtain ⟨g, off, rfl, _, hcell⟩ := hr (by have := HN.out; omega); obtain ⟨x, hx⟩ : ∃ x, lv[k]? = some x := ⟨_, zk9 (by rw [HN.out]; exact hlt)⟩; have hxm := zlf hx
    have c1 : wr.cell? ⟨g, off + k * 4 + 3, none⟩ = some x.2 := hcell (k * 4 + 3) _ (by rw [zd1 exc (fun _ => rfl) lv k x hx 3 (by omega)]; rfl); have hivx := hiv x hxm; have hil := HI.out x hxm; have HXM := zk7 hxm; have HX := zk7 hx; clear hiv hx hxm; obtain ⟨⟨ref, t, vv, labs⟩, iv⟩ := x; simp only [] at c1 hivx hil
    have hC := zd9 P iv labs 8 300 wr hivx hil (by omega) (by omega); obtain ⟨Ai, ci, rfl, _, _, _⟩ := hivx; subst e2; clear hcell hr e2n e2c hil; go_wp2_with (go_at_call 53; refine hC.mono ?_; rintro r5 w5 ⟨b, rfl, hb5, hf5⟩; refine Hid.out ?_)
    have H5 := zk7 (RF.out.same hf5); have HB5 := zk7 hb5; obtain ⟨z0, z1, z2, z3, z4, z5, z6⟩ := zam (HB.out.fr H5.out (fun e => e)); clear hf5 hb5 y0 y1 y2 y3 y4 y5 y6 hC c1; rcases b with _ | _
    ·refine zk7 ?_
     go_wp2; go_ret; exact ⟨false, rfl, ⟨fun h => (by cases h), fun h => absurd (HB5.out.2 (h.2.2 _ HXM.out)) (by decide)⟩, HF.out.same H5.out⟩
    ·refine zk7 ?_
     go_wp2; go_roundw
     case rel => exact ⟨k + 1, by omega, by go_num, H5, zk7 (fun j p h h2 => by
      rcases zlA j k with h3 | h3
      ·exact RG.out j p h3 h2
      ·obtain rfl : j = k := by omega
       have h4 := h2.symm.trans HX.out; injection h4 with h4; rw [h4]
       exact HB5.out.1 rfl)⟩
     case measure => simp [intOf]; omega
   ·obtain rfl : k = n3 := by omega
    have hall : Hid (∀ p ∈ lv, LabOk p.1.labs 8 300) := zk7 (fun p hp => by
     obtain ⟨j, hj, e⟩ := List.getElem_of_mem hp
     exact RG.out j p (by rw [← HN.out]; exact hj) (by rw [zk9 hj, e]))
    by_cases he : n = k
    ·have HE := zk7 he
     have hz : ((n : Int) - (k : Int) == 0) = true := by simp; omega
     clear he; go_wp2; go_ret; refine ⟨_, rfl, ⟨fun _ => ⟨h12, HE.out, hall.out⟩, fun _ => by first | rfl | exact hz | (have := HE.out; simp; omega)⟩, HF.out.same RF.out⟩
    ·have hz : ((n : Int) - (k : Int) == 0) = false := by simp; omega
     go_wp2; go_ret; exact ⟨_, rfl, ⟨fun h => (by first | (cases h; done) | (simp at h; done) | (simp at h; omega)), fun h => absurd h.2.1 he⟩, HF.out.same RF.out⟩
 ·have hx : (12 : Int) < (n : Int) := by omega
  go_enter Tryz.func30, Tryz.ntmps30; go_wp2_with (go_at_call 40; refine hC.mono ?_; rintro r w1 ⟨rfl, hf1⟩)
  go_ret; exact ⟨false, rfl, ⟨fun h => (by cases h), fun h => absurd h.1 h12⟩, ((zlW _ w).alloc _).same hf1⟩
theorem zdD : (∀ (_ : True) (A0 A1 A2 A3 A4 A5 A6 : Option Addr) (c0 c1 c2 c3 c4 c5 c6 : Nat) (n0 n1 n2 n3 n4 n5 n6 n : Nat) (h0 : n0 ≤ 1099511627776) (h1 : n1 ≤ 1099511627776) (h2 : n2 ≤ 1099511627776) (h3 : n3 ≤ 1099511627776) (h4 : n4 ≤ 1099511627776) (h5 : n5 ≤ 1099511627776) (h6 : n6 ≤ 1099511627776) (hn : n = n0 + n1 + n2 + n3 + n4 + n5 + n6) (w : World) (P : Nat → Prop) (lv : List (Rhs × Hsl)) (hs : SlH P w (.slice A6 n6 c6) lv) (hl : lv.length = n6) (hi : ∀ p ∈ lv, p.1.h.few 1099511627776),
 Calls Tryz.prog 30 #[.int .i64 7, .agg #[.slice A0 n0 c0, .slice A1 n1 c1, .slice A2 n2 c2, .slice A3 n3 c3, .slice A4 n4 c4, .slice A5 n5 c5, .slice A6 n6 c6]] w (zau (n ≤ 12 ∧ n = n6 ∧ (∀ p ∈ lv, zdk false p.1.h) ∧ (lv = [] ∨ ∃ p ∈ lv, zaU p.1 = false)) w)) ∧ (∀ (_ : True) (A0 A1 A2 A3 A4 A5 A6 : Option Addr) (c0 c1 c2 c3 c4 c5 c6 : Nat) (n0 n1 n2 n3 n4 n5 n6 n : Nat) (h0 : n0 ≤ 1099511627776) (h1 : n1 ≤ 1099511627776) (h2 : n2 ≤ 1099511627776) (h3 : n3 ≤ 1099511627776) (h4 : n4 ≤ 1099511627776) (h5 : n5 ≤ 1099511627776) (h6 : n6 ≤ 1099511627776) (hn : n = n0 + n1 + n2 + n3 + n4 + n5 + n6) (w : World) (P : Nat → Prop) (lv : List (Rhs × Hsl)) (hs : SlH P w (.slice A6 n6 c6) lv) (hl : lv.length = n6) (hi : ∀ p ∈ lv, p.1.h.few 1099511627776),
 Calls Tryz.prog 30 #[.int .i64 8, .agg #[.slice A0 n0 c0, .slice A1 n1 c1, .slice A2 n2 c2, .slice A3 n3 c3, .slice A4 n4 c4, .slice A5 n5 c5, .slice A6 n6 c6]] w (zau (n ≤ 12 ∧ n = n6 ∧ (∀ p ∈ lv, zdk true p.1.h) ∧ (lv = [] ∨ ∃ p ∈ lv, zaU p.1 = false)) w)) := by
 refine ⟨fun isW A0 A1 A2 A3 A4 A5 A6 c0 c1 c2 c3 c4 c5 c6 n0 n1 n2 n3 n4 n5 n6 n h0 h1 h2 h3 h4 h5 h6 hn w P lv hs hl hi => ?_, fun _ A0 A1 A2 A3 A4 A5 A6 c0 c1 c2 c3 c4 c5 c6 n0 n1 n2 n3 n4 n5 n6 n h0 h1 h2 h3 h4 h5 h6 hn w P lv hs hl hi => ?_⟩; all_goals
  have hC := zcL A0 A1 A2 A3 A4 A5 A6 c0 c1 c2 c3 c4 c5 c6 n0 n1 n2 n3 n4 n5 n6 n h0 h1 h2 h3 h4 h5 h6 hn (w.alloc (.cells #[.slice A0 n0 c0, .slice A1 n1 c1, .slice A2 n2 c2, .slice A3 n3 c3, .slice A4 n4 c4, .slice A5 n5 c5, .slice A6 n6 c6] 54)); have hle : n6 ≤ n := by omega
  clear hn; by_cases h12 : n ≤ 12
  ·have h1x : ¬ (12 : Int) < (n : Int) := by omega
   have HS := zk7 hs; have HN := zk7 hl; have HI := zk7 hi; clear hs hl hi; go_enter Tryz.func30, Tryz.ntmps30; go_wp2_with (go_at_call 40; refine hC.mono ?_; rintro r w1 ⟨rfl, hf1⟩; obtain ⟨x0, x1, x2, x3, x4, x5, x6⟩ := zam ((Blk.new w 54 #[.slice A0 n0 c0, .slice A1 n1 c1, .slice A2 n2 c2, .slice A3 n3 c3, .slice A4 n4 c4, .slice A5 n5 c5, .slice A6 n6 c6]).fr hf1 (fun e => e)))
   have HF := zk7 (((zlW (fun _ => False) w).alloc (.cells #[.slice A0 n0 c0, .slice A1 n1 c1, .slice A2 n2 c2, .slice A3 n3 c3, .slice A4 n4 c4, .slice A5 n5 c5, .slice A6 n6 c6] 54)).same hf1); have hw1 := HF.out.size
   have HB := zk7 ((Blk.new w 54 #[.slice A0 n0 c0, .slice A1 n1 c1, .slice A2 n2 c2, .slice A3 n3 c3, .slice A4 n4 c4, .slice A5 n5 c5, .slice A6 n6 c6]).fr hf1 (fun e => e)); clear hf1 hC
   first | (guard_hyp isW; go_loopw [10] (fun i wr => ∃ k : Nat, k ≤ n6 ∧ i = .int .i64 k ∧ Hid (Fr (fun _ => False) w1 wr) ∧ Hid (∀ j p, j < k → lv[j]? = some p → zdk false p.1.h)) (fun i _ => n6 - (intOf i).toNat)) | (go_loopw [10] (fun i wr => ∃ k : Nat, k ≤ n6 ∧ i = .int .i64 k ∧ Hid (Fr (fun _ => False) w1 wr) ∧ Hid (∀ j p, j < k → lv[j]? = some p → zdk true p.1.h)) (fun i _ => n6 - (intOf i).toNat))
   case atStart => exact ⟨0, zli _, rfl, zk7 (zlW _ _), zk7 (fun j p h => absurd h (zlS _))⟩
   case round =>
    obtain ⟨k, hk, rfl, RF, RG⟩ := hrel; obtain ⟨y0, y1, y2, y3, y4, y5, y6⟩ := zam (HB.out.fr RF.out (fun e => e)); clear x0 x1 x2 x3 x4 x5 x6; by_cases hlt : k < n6
    ·have hS := HS.out.fr (HF.out.same RF.out) (fun _ _ e => e)
     have hiv := hS.2; obtain ⟨g, off, rfl, _, hcell⟩ := (show Sl P wr (.slice A6 n6 c6) 15 lv.length (lv.flatMap hsc) from hS.1).at (by have := HN.out; omega); obtain ⟨x, hx⟩ : ∃ x, lv[k]? = some x := ⟨_, zk9 (by rw [HN.out]; exact hlt)⟩; have hxm := zlf hx
     have cc : ∀ j, j < 15 → ∀ u, (hsc x)[j]? = some u → wr.cell? ⟨g, off + (k * 15 + j), none⟩ = some u := fun j hj u hu => hcell (k * 15 + j) u (by rw [zig 15 hsc (fun _ => rfl) lv k x hx j hj]; exact hu); have d2 : wr.cell? ⟨g, off + k * 15 + 2, none⟩ = some (.int .u8 x.1.h.hint.toNat) := cc 2 (by omega) _ rfl
     have d3 : wr.cell? ⟨g, off + k * 15 + 3, none⟩ = some (.int .i32 x.1.h.schema) := cc 3 (by omega) _ rfl; have d4 : wr.cell? ⟨g, off + k * 15 + 4, none⟩ = some (.int .u64 x.1.h.thr) := cc 4 (by omega) _ rfl; have d5 : wr.cell? ⟨g, off + k * 15 + 5, none⟩ = some (.int .u64 x.1.h.sum) := cc 5 (by omega) _ rfl
     have d6 : wr.cell? ⟨g, off + k * 15 + 6, none⟩ = some (.int .u64 x.1.h.zc) := cc 6 (by omega) _ rfl; have d7 : wr.cell? ⟨g, off + k * 15 + 7, none⟩ = some (.int .u64 x.1.h.cnt) := cc 7 (by omega) _ rfl; have d8 : wr.cell? ⟨g, off + k * 15 + 8, none⟩ = some x.2.p := cc 8 (by omega) _ rfl; have d9 : wr.cell? ⟨g, off + k * 15 + 9, none⟩ = some x.2.n := cc 9 (by omega) _ rfl
     have d10 : wr.cell? ⟨g, off + k * 15 + 10, none⟩ = some x.2.u := cc 10 (by omega) _ rfl; have d11 : wr.cell? ⟨g, off + k * 15 + 11, none⟩ = some x.2.d := cc 11 (by omega) _ rfl; have d12 : wr.cell? ⟨g, off + k * 15 + 12, none⟩ = some x.2.fu := cc 12 (by omega) _ rfl; have d13 : wr.cell? ⟨g, off + k * 15 + 13, none⟩ = some x.2.fd := cc 13 (by omega) _ rfl
     have d14 : wr.cell? ⟨g, off + k * 15 + 14, none⟩ = some x.2.c := cc 14 (by omega) _ rfl; have hivx := hiv x hxm; have hil := HI.out x hxm; have HXM := zk7 hxm; have HX := zk7 hx; clear hiv hx hxm cc hcell hS; obtain ⟨⟨ref, t, ⟨hint, schema, thr, sum, zc, cnt, pos, neg, ups, downs, fups, fdowns, cus⟩⟩, ⟨sp, sn, su, sd, sfu, sfd, sc⟩⟩ := x
     simp only [] at d2 d3 d4 d5 d6 d7 d8 d9 d10 d11 d12 d13 d14 hivx hil
     first | (guard_hyp isW; have hC := zeG false P _ _ wr hivx hil) | (have hC := zeG true P _ _ wr hivx hil)
     obtain ⟨z1, z2, z3, z4, z5, z6, z7⟩ := hivx; simp only [] at z1 z2 z3 z4 z5 z6 z7; obtain ⟨B1, b1, rfl⟩ := z1.shape; obtain ⟨B2, b2, rfl⟩ := z2.shape; obtain ⟨B3, b3, rfl⟩ := z3.shape; obtain ⟨B4, b4, rfl⟩ := z4.shape; obtain ⟨B5, b5, rfl⟩ := z5.shape; obtain ⟨B6, b6, rfl⟩ := z6.shape; obtain ⟨B7, b7, rfl⟩ := z7.shape; simp only [hic] at hC; obtain ⟨m1, e1⟩ : ∃ n, pos.length = n := ⟨_, rfl⟩
     rw [e1] at d8; obtain ⟨m2, e2⟩ : ∃ n, neg.length = n := ⟨_, rfl⟩; rw [e2] at d9; obtain ⟨m3, e3⟩ : ∃ n, ups.length = n := ⟨_, rfl⟩; rw [e3] at d10; obtain ⟨m4, e4⟩ : ∃ n, downs.length = n := ⟨_, rfl⟩; rw [e4] at d11; obtain ⟨m5, e5⟩ : ∃ n, fups.length = n := ⟨_, rfl⟩; rw [e5] at d12; obtain ⟨m6, e6⟩ : ∃ n, fdowns.length = n := ⟨_, rfl⟩; rw [e6] at d13
     obtain ⟨m7, e7⟩ : ∃ n, cus.length = n := ⟨_, rfl⟩; rw [e7] at d14; rw [e1, e2, e3, e4, e5, e6, e7] at hC; clear z1 z2 z3 z4 z5 z6 z7 hil e1 e2 e3 e4 e5 e6 e7; go_wp2_with (go_at_call 89; refine hC.mono ?_; rintro r5 w5 ⟨b, rfl, hb5, hf5⟩; refine Hid.out ?_)
     have H5 := zk7 (RF.out.same hf5); have HB5 := zk7 hb5; obtain ⟨z0, z1, z2, z3, z4, z5, z6⟩ := zam (HB.out.fr H5.out (fun e => e)); clear hf5 hb5 y0 y1 y2 y3 y4 y5 y6 hC d2 d3 d4 d5 d6 d7 d8 d9 d10 d11 d12 d13 d14; rcases b with _ | _
     ·refine zk7 ?_
      go_wp2; go_ret; exact ⟨false, rfl, ⟨fun h => (by cases h), fun h => absurd (HB5.out.2 (h.2.2.1 _ HXM.out)) (by decide)⟩, HF.out.same H5.out⟩
     ·refine zk7 ?_
      go_wp2; go_roundw
      case rel => exact ⟨k + 1, by omega, by go_num, H5, zk7 (fun j p h h2 => by
       rcases zlA j k with h3 | h3
       ·exact RG.out j p h3 h2
       ·obtain rfl : j = k := by omega
        have h4 := h2.symm.trans HX.out; injection h4 with h4; rw [h4]
        exact HB5.out.1 rfl)⟩
      case measure => simp [intOf]; omega
    ·obtain rfl : k = n6 := by omega
     first
      | guard_hyp isW
        have hall : Hid (∀ p ∈ lv, zdk false p.1.h) := zk7 (fun p hp => by
         obtain ⟨j, hj, e⟩ := List.getElem_of_mem hp
         exact RG.out j p (by rw [← HN.out]; exact hj) (by rw [zk9 hj, e]))
      | have hall : Hid (∀ p ∈ lv, zdk true p.1.h) := zk7 (fun p hp => by
         obtain ⟨j, hj, e⟩ := List.getElem_of_mem hp
         exact RG.out j p (by rw [← HN.out]; exact hj) (by rw [zk9 hj, e]))
     by_cases he : n = k
     ·have HEQ := zk7 he
      have hz : ((n : Int) - (k : Int) == 0) = true := by simp; omega
      have hC := zg9 false P (.slice A6 k c6) lv wr (HS.out.fr (HF.out.same RF.out) (fun _ _ e => e)) (by have := HN.out; omega); obtain ⟨m, hm⟩ : ∃ m, (lv.filter (zca false)).length = m := ⟨_, rfl⟩; clear he; by_cases hk0 : k = 0
      ·have hnil : Hid (lv = []) := zk7 (zlz (by rw [HN.out]; exact hk0))
       have hkz : ((k : Int) == 0) = true := by simp; omega
       clear hk0 hm hC; go_wp2; go_ret; exact ⟨_, rfl, zlF (by first | rfl | (simp <;> omega)) ⟨h12, HEQ.out, hall.out, .inl hnil.out⟩, HF.out.same RF.out⟩
      ·have hkz : ((k : Int) == 0) = false := by simp; omega
       have hne : Hid (lv ≠ []) := zk7 (fun h => hk0 (by rw [← HN.out, h]; rfl)); clear hk0; by_cases hm0 : (0 : Int) < (m : Int)
       ·have hcu : Hid (∃ p ∈ lv, zaU p.1 = false) := zk7 (by
         have h1 : 0 < (lv.filter (zca false)).length := by omega
         obtain ⟨p, hp⟩ := List.exists_mem_of_length_pos h1; obtain ⟨h2, h3⟩ := zlM.1 hp
         exact ⟨p, h2, by simpa [zca] using h3⟩)
        go_wp2_with (go_at_call 36; refine hC.mono ?_; rintro r7 w7 ⟨v7, rfl, ho7, hf7⟩; rw [hm] at ho7; obtain ⟨a7, k7, rfl⟩ := zaa ho7; have H7 := zk7 hf7; clear ho7 hf7)
        go_ret; exact ⟨_, rfl, zlF (by first | rfl | (simp <;> omega)) ⟨h12, HEQ.out, hall.out, .inr hcu.out⟩, (HF.out.same RF.out).same H7.out⟩
       ·have hno : Hid (¬ ∃ p ∈ lv, zaU p.1 = false) := zk7 (fun ⟨p, hp, hq⟩ => by
         have h2 : p ∈ lv.filter (zca false) := zlM.2 ⟨hp, by simp [zca, hq]⟩; have := List.length_pos_of_mem h2
         omega)
        go_wp2_with (go_at_call 36; refine hC.mono ?_; rintro r7 w7 ⟨v7, rfl, ho7, hf7⟩; rw [hm] at ho7; obtain ⟨a7, k7, rfl⟩ := zaa ho7; have H7 := zk7 hf7; clear ho7 hf7)
        go_ret; exact ⟨_, rfl, zlE (by first | (intro h; cases h; done) | (simp <;> omega)) (fun h => h.2.2.2.elim hne.out hno.out), (HF.out.same RF.out).same H7.out⟩
     ·have hz : ((n : Int) - (k : Int) == 0) = false := by simp; omega
      have HNE := zk7 he; clear he; go_wp2; go_ret; exact ⟨_, rfl, zlE (by first | (intro h; cases h; done) | (simp <;> omega)) (fun h => absurd h.2.1 HNE.out), HF.out.same RF.out⟩
  ·have hx : (12 : Int) < (n : Int) := by omega
   go_enter Tryz.func30, Tryz.ntmps30; go_wp2_with (go_at_call 40; refine hC.mono ?_; rintro r w1 ⟨rfl, hf1⟩)
   go_ret; exact ⟨false, rfl, ⟨fun h => (by cases h), fun h => absurd h.1 h12⟩, ((zlW _ w).alloc _).same hf1⟩
theorem rightG_7 : type_of% (zdD.1 trivial) := zdD.1 trivial
theorem rightG_8 : type_of% (zdD.2 trivial) := zdD.2 trivial
theorem zdC : (∀ (_ : True) (A0 A1 A2 A3 A4 A5 A6 : Option Addr) (c0 c1 c2 c3 c4 c5 c6 : Nat) (n0 n1 n2 n3 n4 n5 n6 n : Nat) (h0 : n0 ≤ 1099511627776) (h1 : n1 ≤ 1099511627776) (h2 : n2 ≤ 1099511627776) (h3 : n3 ≤ 1099511627776) (h4 : n4 ≤ 1099511627776) (h5 : n5 ≤ 1099511627776) (h6 : n6 ≤ 1099511627776) (hn : n = n0 + n1 + n2 + n3 + n4 + n5 + n6) (w : World) (P : Nat → Prop) (lv : List (Rhs × Hsl)) (hs : SlH P w (.slice A6 n6 c6) lv) (hl : lv.length = n6) (hi : ∀ p ∈ lv, p.1.h.few 1099511627776),
 Calls Tryz.prog 30 #[.int .i64 9, .agg #[.slice A0 n0 c0, .slice A1 n1 c1, .slice A2 n2 c2, .slice A3 n3 c3, .slice A4 n4 c4, .slice A5 n5 c5, .slice A6 n6 c6]] w (zau (n ≤ 12 ∧ n = n6 ∧ (∀ p ∈ lv, zdk false p.1.h) ∧ ∀ p ∈ lv, zaU p.1 = true) w)) ∧ (∀ (_ : True) (A0 A1 A2 A3 A4 A5 A6 : Option Addr) (c0 c1 c2 c3 c4 c5 c6 : Nat) (n0 n1 n2 n3 n4 n5 n6 n : Nat) (h0 : n0 ≤ 1099511627776) (h1 : n1 ≤ 1099511627776) (h2 : n2 ≤ 1099511627776) (h3 : n3 ≤ 1099511627776) (h4 : n4 ≤ 1099511627776) (h5 : n5 ≤ 1099511627776) (h6 : n6 ≤ 1099511627776) (hn : n = n0 + n1 + n2 + n3 + n4 + n5 + n6) (w : World) (P : Nat → Prop) (lv : List (Rhs × Hsl)) (hs : SlH P w (.slice A6 n6 c6) lv) (hl : lv.length = n6) (hi : ∀ p ∈ lv, p.1.h.few 1099511627776),
 Calls Tryz.prog 30 #[.int .i64 10, .agg #[.slice A0 n0 c0, .slice A1 n1 c1, .slice A2 n2 c2, .slice A3 n3 c3, .slice A4 n4 c4, .slice A5 n5 c5, .slice A6 n6 c6]] w (zau (n ≤ 12 ∧ n = n6 ∧ (∀ p ∈ lv, zdk true p.1.h) ∧ ∀ p ∈ lv, zaU p.1 = true) w)) := by
 refine ⟨fun isW A0 A1 A2 A3 A4 A5 A6 c0 c1 c2 c3 c4 c5 c6 n0 n1 n2 n3 n4 n5 n6 n h0 h1 h2 h3 h4 h5 h6 hn w P lv hs hl hi => ?_, fun _ A0 A1 A2 A3 A4 A5 A6 c0 c1 c2 c3 c4 c5 c6 n0 n1 n2 n3 n4 n5 n6 n h0 h1 h2 h3 h4 h5 h6 hn w P lv hs hl hi => ?_⟩; all_goals
  have hC := zcL A0 A1 A2 A3 A4 A5 A6 c0 c1 c2 c3 c4 c5 c6 n0 n1 n2 n3 n4 n5 n6 n h0 h1 h2 h3 h4 h5 h6 hn (w.alloc (.cells #[.slice A0 n0 c0, .slice A1 n1 c1, .slice A2 n2 c2, .slice A3 n3 c3, .slice A4 n4 c4, .slice A5 n5 c5, .slice A6 n6 c6] 54)); have hle : n6 ≤ n := by omega
  clear hn; by_cases h12 : n ≤ 12
  ·have h1x : ¬ (12 : Int) < (n : Int) := by omega
   have HS := zk7 hs; have HN := zk7 hl; have HI := zk7 hi; clear hs hl hi; go_enter Tryz.func30, Tryz.ntmps30; go_wp2_with (go_at_call 40; refine hC.mono ?_; rintro r w1 ⟨rfl, hf1⟩; obtain ⟨x0, x1, x2, x3, x4, x5, x6⟩ := zam ((Blk.new w 54 #[.slice A0 n0 c0, .slice A1 n1 c1, .slice A2 n2 c2, .slice A3 n3 c3, .slice A4 n4 c4, .slice A5 n5 c5, .slice A6 n6 c6]).fr hf1 (fun e => e)))
   have HF := zk7 (((zlW (fun _ => False) w).alloc (.cells #[.slice A0 n0 c0, .slice A1 n1 c1, .slice A2 n2 c2, .slice A3 n3 c3, .slice A4 n4 c4, .slice A5 n5 c5, .slice A6 n6 c6] 54)).same hf1); have hw1 := HF.out.size
   have HB := zk7 ((Blk.new w 54 #[.slice A0 n0 c0, .slice A1 n1 c1, .slice A2 n2 c2, .slice A3 n3 c3, .slice A4 n4 c4, .slice A5 n5 c5, .slice A6 n6 c6]).fr hf1 (fun e => e)); clear hf1 hC
   first | (guard_hyp isW; go_loopw [10] (fun i wr => ∃ k : Nat, k ≤ n6 ∧ i = .int .i64 k ∧ Hid (Fr (fun _ => False) w1 wr) ∧ Hid (∀ j p, j < k → lv[j]? = some p → zdk false p.1.h)) (fun i _ => n6 - (intOf i).toNat)) | (go_loopw [10] (fun i wr => ∃ k : Nat, k ≤ n6 ∧ i = .int .i64 k ∧ Hid (Fr (fun _ => False) w1 wr) ∧ Hid (∀ j p, j < k → lv[j]? = some p → zdk true p.1.h)) (fun i _ => n6 - (intOf i).toNat))
   case atStart => exact ⟨0, zli _, rfl, zk7 (zlW _ _), zk7 (fun j p h => absurd h (zlS _))⟩
   case round =>
    obtain ⟨k, hk, rfl, RF, RG⟩ := hrel; obtain ⟨y0, y1, y2, y3, y4, y5, y6⟩ := zam (HB.out.fr RF.out (fun e => e)); clear x0 x1 x2 x3 x4 x5 x6; by_cases hlt : k < n6
    ·have hS := HS.out.fr (HF.out.same RF.out) (fun _ _ e => e)
     have hiv := hS.2; obtain ⟨g, off, rfl, _, hcell⟩ := (show Sl P wr (.slice A6 n6 c6) 15 lv.length (lv.flatMap hsc) from hS.1).at (by have := HN.out; omega); obtain ⟨x, hx⟩ : ∃ x, lv[k]? = some x := ⟨_, zk9 (by rw [HN.out]; exact hlt)⟩; have hxm := zlf hx
     have cc : ∀ j, j < 15 → ∀ u, (hsc x)[j]? = some u → wr.cell? ⟨g, off + (k * 15 + j), none⟩ = some u := fun j hj u hu => hcell (k * 15 + j) u (by rw [zig 15 hsc (fun _ => rfl) lv k x hx j hj]; exact hu); have d2 : wr.cell? ⟨g, off + k * 15 + 2, none⟩ = some (.int .u8 x.1.h.hint.toNat) := cc 2 (by omega) _ rfl
     have d3 : wr.cell? ⟨g, off + k * 15 + 3, none⟩ = some (.int .i32 x.1.h.schema) := cc 3 (by omega) _ rfl; have d4 : wr.cell? ⟨g, off + k * 15 + 4, none⟩ = some (.int .u64 x.1.h.thr) := cc 4 (by omega) _ rfl; have d5 : wr.cell? ⟨g, off + k * 15 + 5, none⟩ = some (.int .u64 x.1.h.sum) := cc 5 (by omega) _ rfl
     have d6 : wr.cell? ⟨g, off + k * 15 + 6, none⟩ = some (.int .u64 x.1.h.zc) := cc 6 (by omega) _ rfl; have d7 : wr.cell? ⟨g, off + k * 15 + 7, none⟩ = some (.int .u64 x.1.h.cnt) := cc 7 (by omega) _ rfl; have d8 : wr.cell? ⟨g, off + k * 15 + 8, none⟩ = some x.2.p := cc 8 (by omega) _ rfl; have d9 : wr.cell? ⟨g, off + k * 15 + 9, none⟩ = some x.2.n := cc 9 (by omega) _ rfl
     have d10 : wr.cell? ⟨g, off + k * 15 + 10, none⟩ = some x.2.u := cc 10 (by omega) _ rfl; have d11 : wr.cell? ⟨g, off + k * 15 + 11, none⟩ = some x.2.d := cc 11 (by omega) _ rfl; have d12 : wr.cell? ⟨g, off + k * 15 + 12, none⟩ = some x.2.fu := cc 12 (by omega) _ rfl; have d13 : wr.cell? ⟨g, off + k * 15 + 13, none⟩ = some x.2.fd := cc 13 (by omega) _ rfl
     have d14 : wr.cell? ⟨g, off + k * 15 + 14, none⟩ = some x.2.c := cc 14 (by omega) _ rfl; have hivx := hiv x hxm; have hil := HI.out x hxm; have HXM := zk7 hxm; have HX := zk7 hx; clear hiv hx hxm cc hcell hS; obtain ⟨⟨ref, t, ⟨hint, schema, thr, sum, zc, cnt, pos, neg, ups, downs, fups, fdowns, cus⟩⟩, ⟨sp, sn, su, sd, sfu, sfd, sc⟩⟩ := x
     simp only [] at d2 d3 d4 d5 d6 d7 d8 d9 d10 d11 d12 d13 d14 hivx hil
     first | (guard_hyp isW; have hC := zeG false P _ _ wr hivx hil) | (have hC := zeG true P _ _ wr hivx hil)
     obtain ⟨z1, z2, z3, z4, z5, z6, z7⟩ := hivx; simp only [] at z1 z2 z3 z4 z5 z6 z7; obtain ⟨B1, b1, rfl⟩ := z1.shape; obtain ⟨B2, b2, rfl⟩ := z2.shape; obtain ⟨B3, b3, rfl⟩ := z3.shape; obtain ⟨B4, b4, rfl⟩ := z4.shape; obtain ⟨B5, b5, rfl⟩ := z5.shape; obtain ⟨B6, b6, rfl⟩ := z6.shape; obtain ⟨B7, b7, rfl⟩ := z7.shape; simp only [hic] at hC; obtain ⟨m1, e1⟩ : ∃ n, pos.length = n := ⟨_, rfl⟩
     rw [e1] at d8; obtain ⟨m2, e2⟩ : ∃ n, neg.length = n := ⟨_, rfl⟩; rw [e2] at d9; obtain ⟨m3, e3⟩ : ∃ n, ups.length = n := ⟨_, rfl⟩; rw [e3] at d10; obtain ⟨m4, e4⟩ : ∃ n, downs.length = n := ⟨_, rfl⟩; rw [e4] at d11; obtain ⟨m5, e5⟩ : ∃ n, fups.length = n := ⟨_, rfl⟩; rw [e5] at d12; obtain ⟨m6, e6⟩ : ∃ n, fdowns.length = n := ⟨_, rfl⟩; rw [e6] at d13
     obtain ⟨m7, e7⟩ : ∃ n, cus.length = n := ⟨_, rfl⟩; rw [e7] at d14; rw [e1, e2, e3, e4, e5, e6, e7] at hC; clear z1 z2 z3 z4 z5 z6 z7 hil e1 e2 e3 e4 e5 e6 e7; go_wp2_with (go_at_call 89; refine hC.mono ?_; rintro r5 w5 ⟨b, rfl, hb5, hf5⟩; refine Hid.out ?_)
     have H5 := zk7 (RF.out.same hf5); have HB5 := zk7 hb5; obtain ⟨z0, z1, z2, z3, z4, z5, z6⟩ := zam (HB.out.fr H5.out (fun e => e)); clear hf5 hb5 y0 y1 y2 y3 y4 y5 y6 hC d2 d3 d4 d5 d6 d7 d8 d9 d10 d11 d12 d13 d14; rcases b with _ | _
     ·refine zk7 ?_
      go_wp2; go_ret; exact ⟨false, rfl, ⟨fun h => (by cases h), fun h => absurd (HB5.out.2 (h.2.2.1 _ HXM.out)) (by decide)⟩, HF.out.same H5.out⟩
     ·refine zk7 ?_
      go_wp2; go_roundw
      case rel => exact ⟨k + 1, by omega, by go_num, H5, zk7 (fun j p h h2 => by
       rcases zlA j k with h3 | h3
       ·exact RG.out j p h3 h2
       ·obtain rfl : j = k := by omega
        have h4 := h2.symm.trans HX.out; injection h4 with h4; rw [h4]
        exact HB5.out.1 rfl)⟩
      case measure => simp [intOf]; omega
    ·obtain rfl : k = n6 := by omega
     first
      | guard_hyp isW
        have hall : Hid (∀ p ∈ lv, zdk false p.1.h) := zk7 (fun p hp => by
         obtain ⟨j, hj, e⟩ := List.getElem_of_mem hp
         exact RG.out j p (by rw [← HN.out]; exact hj) (by rw [zk9 hj, e]))
      | have hall : Hid (∀ p ∈ lv, zdk true p.1.h) := zk7 (fun p hp => by
         obtain ⟨j, hj, e⟩ := List.getElem_of_mem hp
         exact RG.out j p (by rw [← HN.out]; exact hj) (by rw [zk9 hj, e]))
     by_cases he : n = k
     ·have HEQ := zk7 he
      have hz : ((n : Int) - (k : Int) == 0) = true := by simp; omega
      have hC := zg9 false P (.slice A6 k c6) lv wr (HS.out.fr (HF.out.same RF.out) (fun _ _ e => e)) (by have := HN.out; omega); obtain ⟨m, hm⟩ : ∃ m, (lv.filter (zca false)).length = m := ⟨_, rfl⟩; clear he; by_cases hm0 : m = 0
      ·subst hm0
       have hcu : Hid (∀ p ∈ lv, zaU p.1 = true) := zk7 (fun p hp => by
        rcases hq : zaU p.1 with _ | _
        ·have := zlz hm
         have h2 : p ∈ lv.filter (zca false) := zlM.2 ⟨hp, by simp [zca, hq]⟩; rw [this] at h2; cases h2
        ·rfl)
       go_wp2_with (go_at_call 36; refine hC.mono ?_; rintro r7 w7 ⟨v7, rfl, ho7, hf7⟩; rw [hm] at ho7; obtain ⟨a7, k7, rfl⟩ := zaa ho7; have H7 := zk7 hf7; clear ho7 hf7)
       go_ret; exact ⟨_, rfl, zlF (by first | rfl | (simp <;> omega)) ⟨h12, HEQ.out, hall.out, hcu.out⟩, (HF.out.same RF.out).same H7.out⟩
      ·have hmz : ((m : Int) == 0) = false := by simp; omega
       have hno : Hid (¬ ∀ p ∈ lv, zaU p.1 = true) := zk7 (fun h => by
        have : lv.filter (zca false) = [] := List.filter_eq_nil_iff.2 (fun p hp => by simp [zca, h p hp]); rw [this] at hm
        exact hm0 hm.symm)
       clear hm0; go_wp2_with (go_at_call 36; refine hC.mono ?_; rintro r7 w7 ⟨v7, rfl, ho7, hf7⟩; rw [hm] at ho7; obtain ⟨a7, k7, rfl⟩ := zaa ho7; have H7 := zk7 hf7; clear ho7 hf7)
       go_ret; exact ⟨_, rfl, zlE (by first | (intro h; cases h; done) | (simp <;> omega)) (fun h => hno.out h.2.2.2), (HF.out.same RF.out).same H7.out⟩
     ·have hz : ((n : Int) - (k : Int) == 0) = false := by simp; omega
      have HNE := zk7 he; clear he; go_wp2; go_ret; exact ⟨_, rfl, zlE (by first | (intro h; cases h; done) | (simp <;> omega)) (fun h => absurd h.2.1 HNE.out), HF.out.same RF.out⟩
  ·have hx : (12 : Int) < (n : Int) := by omega
   go_enter Tryz.func30, Tryz.ntmps30; go_wp2_with (go_at_call 40; refine hC.mono ?_; rintro r w1 ⟨rfl, hf1⟩)
   go_ret; exact ⟨false, rfl, ⟨fun h => (by cases h), fun h => absurd h.1 h12⟩, ((zlW _ w).alloc _).same hf1⟩
theorem rightG_9 : type_of% (zdC.1 trivial) := zdC.1 trivial
theorem rightG_10 : type_of% (zdC.2 trivial) := zdC.2 trivial
end Go.Proofs.YtbkookiigkckdaaGreatDoor
