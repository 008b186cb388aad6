/- Merged. -/
import Derived.Test.YtbkookiigkckdaaGreatDoorKD15
import Derived.Test.YtbkookiigkckdaaGreatDoorKD16
set_option linter.unusedVariables false
set_option linter.unusedSimpArgs false
set_option maxRecDepth 100000
set_option maxHeartbeats 8000000
namespace Go.Proofs.YtbkookiigkckdaaGreatDoor
open Go.RowKit Go.Proofs.Tryz
theorem bld_new {w w1 : World} {gb : Nat} (ho : w1.ownsRow w.heap.size 108 2 (.slice (some ⟨gb, 0, none⟩) 0 0) 0 []) :
 Bld ((w1.alloc (.cells #[.slice (some ⟨gb, 0, none⟩) 0 0, .string ⟨#[]⟩, .slice none 0 0] 119)).alloc (.cells #[] 5)) w.heap.size w1.heap.size [] ⟨#[]⟩ :=
 ⟨_, _, (znm w1 119 _).alloc _, (ho.alloc _).alloc _⟩
def OwnR (base : Nat) (w : World) (v : Value) (lo : List (Ser × Value)) : Prop :=
 w.ownsRow base 130 2 v lo.length (lo.flatMap zfP) /\ ∀ p ∈ lo, w.ownsRow base 40 2 p.2 p.1.labs.length (p.1.labs.flatMap zaK)
theorem OwnR.nil (base : Nat) (w : World) : OwnR base w (.slice none 0 0) [] := ⟨zmv _ _ _ _, fun p hp => by cases hp⟩
theorem OwnR.fr {S : Nat -> Prop} {base : Nat} {w w' : World} {v : Value} {lo : List (Ser × Value)} (h : OwnR base w v lo) (hf : Fr S w w') (hs : ∀ k, base <= k -> k < w.heap.size -> ¬ S k) : OwnR base w' v lo :=
 ⟨zai h.1 hf (fun g hg => hs g (h.1.lt g hg).1 (zaq h.1 hg)), fun p hp => zai (h.2 p hp) hf (fun g hg => hs g ((h.2 p hp).lt g hg).1 (zaq (h.2 p hp) hg))⟩
theorem OwnR.mono {base base' : Nat} {w : World} {v : Value} {lo : List (Ser × Value)} (h : OwnR base w v lo) (hb : base' <= base) : OwnR base' w v lo :=
 ⟨zah h.1 hb, fun p hp => zah (h.2 p hp) hb⟩
theorem OwnR.sl {base : Nat} {w : World} {v : Value} {lo : List (Ser × Value)} (h : OwnR base w v lo) : SlR (fun g => base <= g /\ g < w.heap.size) w v lo :=
 ⟨(zno h.1).mono (fun g hg => ⟨(h.1.lt g hg).1, zaq h.1 hg⟩), fun p hp => (zno (h.2 p hp)).mono (fun g hg => ⟨((h.2 p hp).lt g hg).1, zaq (h.2 p hp) hg⟩)⟩
theorem OwnR.push {base : Nat} {w w2 : World} {v v' : Value} {lo : List (Ser × Value)} {p : Ser × Value} (h : OwnR base w v lo) (hp : w.ownsRow base 40 2 p.2 p.1.labs.length (p.1.labs.flatMap zaK)) (hg : w.grownBy w2 v.ownBlock)
 (ho : w2.ownsRow base 130 2 v' (lo.length + 1) (lo.flatMap zfP ++ zfP p)) : OwnR base w2 v' (lo ++ [p]) := by
 have hf : Fr (fun k => some k = v.ownBlock) w w2 := (znl (fun k => some k = v.ownBlock) w).grown hg (fun k hk => .inl hk.symm); refine ⟨by simpa using ho, fun q hq => ?_⟩; rcases zmX.1 hq with hq | hq
 ·exact zai (h.2 q hq) hf (fun g jJ e => zb4 (h.2 q hq) h.1 (by decide) g jJ e.symm)
 ·rw [zmY] at hq
  subst hq; exact zai hp hf (fun g jJ e => zb4 hp h.1 (by decide) g jJ e.symm)
theorem OwnR.off {base : Nat} {w w' : World} {v : Value} {lo : List (Ser × Value)} {d t : Nat} {cs : Array Value} (h : OwnR base w v lo) (hb : Blk w d t cs) (h1 : 130 ≠ t) (h2 : 40 ≠ t) (hf : Fr (fun k => k = d) w w') : OwnR base w' v lo :=
 ⟨zai h.1 hf (fun g hg e => zak h.1 hb h1 (by rw [hg, e])), fun p hp => zai (h.2 p hp) hf (fun g hg e => zak (h.2 p hp) hb h2 (by rw [hg, e]))⟩
end Go.Proofs.YtbkookiigkckdaaGreatDoor
