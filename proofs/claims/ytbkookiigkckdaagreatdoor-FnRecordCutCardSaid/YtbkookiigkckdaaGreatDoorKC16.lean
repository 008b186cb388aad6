/- Texts of this seat, merged and shortened. -/
import Derived.Test.YtbkookiigkckdaaGreatDoorKC15
set_option linter.unusedVariables false
set_option linter.unusedSimpArgs false
set_option maxRecDepth 100000
set_option maxHeartbeats 8000000
namespace Go.Proofs.YtbkookiigkckdaaGreatDoor
open Go.RowKit Go.Proofs.Tryz
theorem zjY (w : World) : Calls prog 129 #[.int .i64 0] w (zha (fun v w' => ∃ g, v = .agg #[.slice (some ⟨g, 0, none⟩) 0 0, .string ⟨#[]⟩, .slice none 0 0] /\ w'.ownsRow w.heap.size 108 2 (.slice (some ⟨g, 0, none⟩) 0 0) 0 []) w) := by
 obtain ⟨i0, aD, aA, az, aC⟩ := info_parts zik; have mb : ∀ W : World, (Instr.makeSlice 115 (.int .i64 0) (.int .i64 0)).run prog W = .ok (.slice (some ⟨W.heap.size, 0, none⟩) 0 0) (W.alloc (.cells #[] 108)) := fun W => by
  have h := run_make (P := prog) W 115 108 i0 _ underlying115 aD aA .i64 .i64 0 0 (by omega) (by omega) (by omega) (by omega); simp [madeCells, az, Array.range_zero'] at h; exact h
 go_enter func129, ntmps129; go_wp2_with fail
 simp [Exit.then, bodyPost, results, results129, go_sem]; refine ⟨_, rfl, ⟨w.heap.size + 1, rfl, ?_⟩, (((znq _ w).alloc _).alloc _)⟩; have h := znp (base := w.heap.size) (e := 108) (size := 2) (w.alloc (.cells #[.slice (some ⟨w.heap.size + 1, 0, none⟩) 0 0, .string ⟨#[]⟩, .slice none 0 0] 117)) #[] 0 (by simp) (zmv _) rfl; simpa using h
theorem zlq (v : Value) (w : World) : Calls prog 67 #[v] w (zha (fun v w' => ∃ g, v = .agg #[.slice (some ⟨g, 0, none⟩) 0 0, .string ⟨#[]⟩, .slice none 0 0] /\ w'.ownsRow w.heap.size 108 2 (.slice (some ⟨g, 0, none⟩) 0 0) 0 []) w) := by
 have hS := zjY (w.alloc (.cells #[.slice none 0 0, .string ⟨#[]⟩, .slice none 0 0] 119)); go_enter func67, ntmps67; go_wp2_with (refine hS.mono ?_; rintro r w1 ⟨v1, rfl, ⟨a, rfl, dK⟩, ai⟩; refine Hid.out ?_)
 have hB := (znr w 119 #[.slice none 0 0, .string ⟨#[]⟩, .slice none 0 0]).fr ai (fun e => e); have k0 := hB.cell 0; have k1 := hB.cell 1; have k2 := hB.cell 2; have z0 := hB.frozen 0; have z1 := hB.frozen 1; have z2 := hB.frozen 2; simp at k0 k1 k2; have m1 := hB.set_ 0 (.slice (some ⟨a, 0, none⟩) 0 0); have m2 := m1.set_ 1 (.string ⟨#[]⟩); have m3 := m2.set_ 2 (.slice none 0 0)
 have e0 := m1.cell 0; have e1 := m2.cell 1; have e2 := m3.cell 2; simp only [List.size_toArray, zmC, zmo, zmp, zmq, zmF, zmD, zmE] at e0 e1 e2; have HF := zmk ((((znq (fun _ => False) w).alloc _).same ai)); have HB := zmk hB; clear hS ai hB m1 m2 m3
 refine zmk ?_; go_wp2_with fail
 simp [Exit.then, bodyPost, results, results67, go_sem, e0, e1, e2]; refine ⟨_, rfl, ⟨a, rfl, ?_⟩, ((HF.out.setCell (p := ⟨w.heap.size, 0, none⟩) (.inr (zmw _)) _).setCell (p := ⟨w.heap.size, 1, none⟩) (.inr (zmw _)) _).setCell (p := ⟨w.heap.size, 2, none⟩) (.inr (zmw _)) _⟩; have hO := zai dK (show w.heap.size <= _ by simp)
 exact zaj (S := fun k => k = w.heap.size) hO (((Fr.at_ w1 w.heap.size 0 _).setCell (p := ⟨w.heap.size, 1, none⟩) (.inl rfl) _).setCell (p := ⟨w.heap.size, 2, none⟩) (.inl rfl) _) (fun g hg e => zak dK HB.out (by decide) (by rw [hg]; exact znb some e))
theorem bld_new {w w1 : World} {gb : Nat} (ho : w1.ownsRow w.heap.size 108 2 (.slice (some ⟨gb, 0, none⟩) 0 0) 0 []) :
 Bld ((w1.alloc (.cells #[.slice (some ⟨gb, 0, none⟩) 0 0, .string ⟨#[]⟩, .slice none 0 0] 119)).alloc (.cells #[] 5)) w.heap.size w1.heap.size [] ⟨#[]⟩ :=
 ⟨_, _, (znr w1 119 _).alloc _, (ho.alloc _).alloc _⟩
def OwnR (base : Nat) (w : World) (v : Value) (lo : List (Ser × Value)) : Prop :=
 w.ownsRow base 130 2 v lo.length (lo.flatMap ziL) /\ ∀ p ∈ lo, w.ownsRow base 40 2 p.2 p.1.labs.length (p.1.labs.flatMap zaJ)
theorem OwnR.nil (base : Nat) (w : World) : OwnR base w (.slice none 0 0) [] := ⟨zmy _ _ _ _, fun p hp => by cases hp⟩
theorem OwnR.fr {S : Nat -> Prop} {base : Nat} {w w' : World} {v : Value} {lo : List (Ser × Value)} (h : OwnR base w v lo) (hf : Fr S w w') (hs : ∀ k, base <= k -> k < w.heap.size -> ¬ S k) : OwnR base w' v lo :=
 ⟨zaj h.1 hf (fun g hg => hs g (h.1.lt g hg).1 (zas h.1 hg)), fun p hp => zaj (h.2 p hp) hf (fun g hg => hs g ((h.2 p hp).lt g hg).1 (zas (h.2 p hp) hg))⟩
theorem OwnR.mono {base base' : Nat} {w : World} {v : Value} {lo : List (Ser × Value)} (h : OwnR base w v lo) (hb : base' <= base) : OwnR base' w v lo :=
 ⟨zai h.1 hb, fun p hp => zai (h.2 p hp) hb⟩
theorem OwnR.sl {base : Nat} {w : World} {v : Value} {lo : List (Ser × Value)} (h : OwnR base w v lo) : SlR (fun g => base <= g /\ g < w.heap.size) w v lo :=
 ⟨(znt h.1).mono (fun g hg => ⟨(h.1.lt g hg).1, zas h.1 hg⟩), fun p hp => (znt (h.2 p hp)).mono (fun g hg => ⟨((h.2 p hp).lt g hg).1, zas (h.2 p hp) hg⟩)⟩
theorem OwnR.push {base : Nat} {w w2 : World} {v v' : Value} {lo : List (Ser × Value)} {p : Ser × Value} (h : OwnR base w v lo) (hp : w.ownsRow base 40 2 p.2 p.1.labs.length (p.1.labs.flatMap zaJ)) (hg : w.grownBy w2 v.ownBlock)
 (ho : w2.ownsRow base 130 2 v' (lo.length + 1) (lo.flatMap ziL ++ ziL p)) : OwnR base w2 v' (lo ++ [p]) := by
 have hf : Fr (fun k => some k = v.ownBlock) w w2 := (znq (fun k => some k = v.ownBlock) w).grown hg (fun k hk => .inl hk.symm); refine ⟨by simpa using ho, fun q hq => ?_⟩; rcases zm0.1 hq with hq | hq
 ·exact zaj (h.2 q hq) hf (fun g jE e => zb6 (h.2 q hq) h.1 (by decide) g jE e.symm)
 ·rw [zm1] at hq
  subst hq; exact zaj hp hf (fun g jE e => zb6 hp h.1 (by decide) g jE e.symm)
theorem OwnR.off {base : Nat} {w w' : World} {v : Value} {lo : List (Ser × Value)} {d t : Nat} {cs : Array Value} (h : OwnR base w v lo) (hb : Blk w d t cs) (h1 : 130 ≠ t) (h2 : 40 ≠ t) (hf : Fr (fun k => k = d) w w') : OwnR base w' v lo :=
 ⟨zaj h.1 hf (fun g hg e => zak h.1 hb h1 (by rw [hg, e])), fun p hp => zaj (h.2 p hp) hf (fun g hg e => zak (h.2 p hp) hb h2 (by rw [hg, e]))⟩
def zmi (pre : List Mrk) (xs : List UInt8) : List Mrk := match zaz xs with | some l => pre ++ l | none => []
def ReadEndsM (w : World) (bb bp bo : Nat) (pre : List Mrk) (xs : List UInt8) (r : Ending) (w' : World) : Prop :=
 r = .returned (.tuple #[]) /\ Fr (fun k => k = bb ∨ k = bp ∨ k = bo) w w' /\ Blk w' bo 4 #[.bool (zaz xs).isSome] /\
  ∃ lv, Blk w' bp 54 #[.slice none 0 0, .slice none 0 0, .slice none 0 0, .slice none 0 0, .slice none 0 0, lv, .slice none 0 0] /\ w'.ownsRow w.heap.size 168 2 lv (zmi pre xs).length ((zmi pre xs).flatMap Mrk.c)
theorem zgA {α : Type} (step : St -> α × St) : ∀ (k : Nat) (st : St) (acc : List α), (zad step k st acc).1.length <= acc.length + k
 | 0, st, acc => by simp [zad]
 | k + 1, none, acc => by simp [zad]
 | k + 1, some [], acc => by simp [zad]
 | k + 1, some (c :: r), acc => by
   have h := zgA step k (step (some (c :: r))).2 (acc ++ [(step (some (c :: r))).1]); rw [zml, zmB] at h; show (zad step k (step (some (c :: r))).2 (acc ++ [(step (some (c :: r))).1])).1.length <= _; omega
theorem zer {α : Type} {t : UInt8} {step : St -> α × St} {xs : List UInt8} {l : List α} (h : zbq t step xs = some l) : l.length <= xs.length := by
 rcases xs with _ | ⟨b, rest⟩
 ·cases h
 ·unfold zbq at h
  simp only [] at h; split at h
  ·have hl := zgA step rest.length (some rest) []
   split at h
   ·rename_i e
    injection h with h; rw [e] at hl; subst h; simp at hl ⊢; omega
   ·cases h
  ·cases h
theorem outM_len (pre : List Mrk) (xs : List UInt8) : (zmi pre xs).length <= pre.length + xs.length := by
 unfold zmi; split
 ·rename_i h
  have := zer h; rw [zml]; omega
 ·simp
theorem zgG {w w' : World} {base : Nat} {o : Option Nat} {pre : List Mrk} {xs : List UInt8} {r : Ending} (h : zbo w base o pre xs r w') :
 ∃ v' e, r = .returned (.tuple #[v', e]) /\ w'.ownsRow base 166 2 v' (zmi pre xs).length ((zmi pre xs).flatMap Mrk.c) /\ Fr (fun k => some k = o) w w' /\ ((e = .nilIface /\ (zaz xs).isSome = true) ∨ (∃ t a, e = .iface t a /\ (zaz xs).isSome = false)) := by
 unfold zbo at h; unfold zmi; rcases hd : zaz xs with _ | l
 ·rw [hd] at h
  obtain ⟨hf, t, a, rfl⟩ := h; exact ⟨_, _, rfl, zmy _ _ _ _, hf, .inr ⟨_, _, rfl, rfl⟩⟩
 ·rw [hd] at h
  obtain ⟨hf, v', rfl, ho⟩ := h; exact ⟨_, _, rfl, ho, hf, .inl ⟨rfl, rfl⟩⟩
theorem zf5 {W w5 w6 : World} {b t : Nat} {cs : Array Value} {v5 : Value} {n : Nat} {xs : List Value} (h : Blk W b t cs) (aq : Fr (fun _ => False) W.drew w5) (ho : w5.ownsRow W.drew.heap.size 166 2 v5 n xs) (aR : Fr (fun k => some k = v5.ownBlock) w5 w6) : Blk w6 b t cs :=
 (h.drew.fr aq (fun e => e)).fr aR (fun e => by have h1 := (ho.lt b e.symm).1; have h2 : b < W.heap.size := h.lt; exact zm4 _ (zmJ h2 h1))
theorem info130 : (prog.info? 130).map (fun i => (i.zero, i.size, i.bytes)) = some (some (.agg #[.int .u64 0, .slice none 0 0]), 2, 32) := by kernel_rfl
def zjF (pre : List SerD) (xs : List UInt8) : List SerD := match za8 xs with | some l => pre ++ l | none => []
def zjP (x : SerD) : Ser := ⟨x.ref, x.labs⟩
theorem OwnR.alloc {base : Nat} {w : World} {v : Value} {lo : List (Ser × Value)} (h : OwnR base w v lo) (o : Obj) : OwnR base (w.alloc o) v lo := h.fr ((znq (fun _ => False) w).alloc o) (fun _ _ _ e => e)
theorem sero_serd (l : List Ser) : l.flatMap sero = (l.map tos).flatMap ziR := by rw [List.flatMap_map]; rfl
def ReadEndsR (w : World) (bb bp bo : Nat) (pre : List SerD) (xs : List UInt8) (r : Ending) (w' : World) : Prop :=
 r = .returned (.tuple #[]) /\ Fr (fun k => k = bb ∨ k = bp ∨ k = bo) w w' /\ Blk w' bo 4 #[.bool (za8 xs).isSome] /\
  ∃ lv lo, Blk w' bp 54 #[lv, .slice none 0 0, .slice none 0 0, .slice none 0 0, .slice none 0 0, .slice none 0 0, .slice none 0 0] /\ OwnR w.heap.size w' lv lo /\ lo.map Prod.fst = (zjF pre xs).map zjP
theorem ziQ {b0 d : Nat} {w w' : World} {base : Nat} {o : Option Nat} {pre : List SerD} {xs : List UInt8} {r : Ending} (h : zcO b0 d w base o pre xs r w') :
 ∃ v' e, r = .returned (.tuple #[v', e]) /\ w'.ownsRow base 127 2 v' (zjF pre xs).length ((zjF pre xs).flatMap ziR) /\ Fr (fun k => some k = o ∨ zdv w b0 d k) w w' /\ ((e = .nilIface /\ (za8 xs).isSome = true) ∨ (∃ t a, e = .iface t a /\ (za8 xs).isSome = false)) := by
 unfold zcO at h; unfold zjF; rcases hd : za8 xs with _ | l
 ·rw [hd] at h
  obtain ⟨hf, t, a, rfl⟩ := h; exact ⟨_, _, rfl, zmy _ _ _ _, hf, .inr ⟨_, _, rfl, rfl⟩⟩
 ·rw [hd] at h
  obtain ⟨hf, v', rfl, ho⟩ := h; exact ⟨_, _, rfl, ho, hf, .inl ⟨rfl, rfl⟩⟩
theorem zf4 {W w5 w6 : World} {b t b0 d : Nat} {cs : Array Value} {v5 : Value} {n : Nat} {xs : List Value} (h : Blk W b t cs) (aq : Fr (fun _ => False) W.drew w5) (ho : w5.ownsRow W.drew.heap.size 127 2 v5 n xs) (aR : Fr (fun k => some k = v5.ownBlock ∨ zdv w5 b0 d k) w5 w6) (hb : b < b0 /\ b0 <= d) : Blk w6 b t cs :=
 (h.drew.fr aq (fun e => e)).fr aR (fun e => by
   rcases e with e | e | ⟨e, _⟩
   ·have h1 := (ho.lt b e.symm).1; have h2 : b < W.heap.size := h.lt; exact zm4 _ (zmJ h2 h1)
   ·omega
   ·omega)
end Go.Proofs.YtbkookiigkckdaaGreatDoor
