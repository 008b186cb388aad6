/- Words for memory that the walks of this seat share: frames over a set of blocks, a block known whole, bytes as cells, a slice that reads as a list. Nothing of the program. -/
import Derived.WalkKit
import Derived.BigQuiet
import Derived.Deep.QuietTactic
import Derived.WalkLawsBesides
import Derived.Deep.RegionHeld3
import Derived.Deep.RegionWith
import Derived.Deep.AppendSrc
import Derived.Deep.AppendLies
import Derived.Laws.OwnMore
import Derived.Laws.IdiomCopy
import Derived.Laws.Rows
import Derived.Laws.NewBlocks
import Derived.Lib.Hide
import Derived.Lib.ConvBytes
namespace Go.Proofs.YtbkookiigkckdaaGreatDoor
open Go.RowKit

/-- Of the blocks of w none but those of S have turned. -/
structure Fr (S : Nat → Prop) (w w' : World) : Prop where
  os : w'.os = w.os
  tape : w'.tape = w.tape
  output : w'.output = w.output
  size : w.heap.size ≤ w'.heap.size
  block : ∀ k, k < w.heap.size → ¬ S k → w'.heap[k]? = w.heap[k]?

section
variable {S S' : Nat → Prop} {w w' w'' : World}
theorem Fr.refl (S : Nat → Prop) (w : World) : Fr S w w := ⟨rfl, rfl, rfl, Nat.le_refl _, fun _ _ _ => rfl⟩
theorem Fr.mono (h : Fr S w w') (hs : ∀ k, k < w.heap.size → S k → S' k) : Fr S' w w' :=
  ⟨h.os, h.tape, h.output, h.size, fun k hk hn => h.block k hk (fun s => hn (hs k hk s))⟩
theorem Fr.trans (h : Fr S w w') (h' : Fr S' w' w'') (hs : ∀ k, k < w.heap.size → S' k → S k) : Fr S w w'' :=
  ⟨h'.os.trans h.os, h'.tape.trans h.tape, h'.output.trans h.output, Nat.le_trans h.size h'.size,
    fun k hk hn => (h'.block k (Nat.lt_of_lt_of_le hk h.size) (fun s => hn (hs k hk s))).trans (h.block k hk hn)⟩
theorem Fr.same (h : Fr S w w') (h' : Fr S w' w'') : Fr S w w'' := h.trans h' fun _ _ s => s
theorem Fr.alloc (h : Fr S w w') (o : Obj) : Fr S w (w'.alloc o) :=
  h.trans (S' := fun _ => False) ⟨rfl, rfl, rfl, by simp, fun k hk _ => Below.heap_alloc _ _ _ hk⟩ (fun _ _ s => s.elim)
theorem Fr.drew (h : Fr S w w') : Fr S w w'.drew := ⟨h.os, h.tape, h.output, h.size, h.block⟩
theorem Fr.drewN (h : Fr S w w') (n : Nat) : Fr S w (w'.drewN n) := ⟨h.os, h.tape, h.output, h.size, h.block⟩
theorem Fr.setCell (h : Fr S w w') {p : Addr} (hp : S p.block ∨ w.heap.size ≤ p.block) (u : Value) : Fr S w (w'.setCell p u) :=
  h.trans (S' := fun k => k = p.block) ⟨rfl, rfl, rfl, by simp [World.setCell], fun k hk hn => Below.heap_setCell _ _ _ _ hn⟩ (fun k hk s => by subst s; rcases hp with hp | hp; exact hp; omega)
theorem Fr.grown {row : Option Nat} (h : Fr S w w') (hg : w'.grownBy w'' row) (hr : ∀ k, row = some k → S k ∨ w.heap.size ≤ k) : Fr S w w'' :=
  h.trans (S' := fun k => some k = row) ⟨hg.os, hg.tape, hg.output, hg.size, fun k hk hn => hg.block k hk hn⟩ (fun k hk s => by rcases hr k s.symm with hp | hp; exact hp; omega)
theorem Fr.below {B : Nat} (h : Fr S w w') (hb : Below B w' w'') (hB : ∀ k, k < w.heap.size → B ≤ k → S k) : Fr S w w'' :=
  h.trans (S' := fun k => B ≤ k) ⟨hb.os, hb.tape, hb.output, hb.size, fun k _ hn => hb.block k (by omega)⟩ hB
theorem Fr.toBelow (h : Fr S w w') (hn : ∀ k, k < w.heap.size → ¬ S k) : Below w.heap.size w w' :=
  ⟨h.os, h.tape, h.output, h.size, fun k hk => h.block k hk (hn k hk)⟩
theorem Fr.none_toBelow (h : Fr (fun _ => False) w w') : Below w.heap.size w w' := h.toBelow fun _ _ s => s
theorem Fr.ofBelow (h : Below w.heap.size w w') : Fr S w w' := (Fr.refl S w).below h fun k hk hb => by omega
theorem Fr.cell (h : Fr S w w') {p : Addr} (hp : p.block < w.heap.size) (hn : ¬ S p.block) : w'.cell? p = w.cell? p := World.cell?_of_block (w := w) (h.block p.block hp hn)
theorem heap_setCells (b : Nat) : ∀ (vs : List Value) (o : Nat) (w : World) (k : Nat), k ≠ b → (w.setCells b o vs).heap[k]? = w.heap[k]?
  | [], _, _, _, _ => rfl
  | v :: vs, o, w, k, hk => by
    rw [World.setCells, heap_setCells b vs _ _ k hk]
    exact Below.heap_setCell w ⟨b, o, none⟩ v k hk
end

/-- Block g holds just the cells cs of the element type t, none of them frozen. -/
def Blk (w : World) (g : Nat) (t : TypeId) (cs : Array Value) : Prop := w.heap[g]? = some (.cells cs t (0, 0))

section
variable {w w' : World} {g : Nat} {t : TypeId} {cs : Array Value} {S : Nat → Prop}
theorem Blk.lt (h : Blk w g t cs) : g < w.heap.size := by
  rcases Nat.lt_or_ge g w.heap.size with hlt | hge
  · exact hlt
  · unfold Blk at h; rw [Array.getElem?_eq_none hge] at h; cases h
theorem Blk.cell (h : Blk w g t cs) (i : Nat) : w.cell? ⟨g, i, none⟩ = cs[i]? := cell_of_row w g i cs t (0, 0) h
theorem Blk.frozen (h : Blk w g t cs) (i : Nat) : w.frozen? ⟨g, i, none⟩ = false := by
  unfold Blk at h
  simp [World.frozen?, h]
theorem Blk.new (w : World) (t : TypeId) (cs : Array Value) : Blk (w.alloc (.cells cs t)) w.heap.size t cs := heap_alloc_new w _
theorem Blk.drew (h : Blk w g t cs) : Blk w.drew g t cs := h
theorem Blk.drewN (h : Blk w g t cs) (n : Nat) : Blk (w.drewN n) g t cs := h
theorem Blk.alloc (h : Blk w g t cs) (o : Obj) : Blk (w.alloc o) g t cs := (Below.heap_alloc w o g h.lt).trans h
theorem Blk.set_ (h : Blk w g t cs) (i : Nat) (u : Value) : Blk (w.setCell ⟨g, i, none⟩ u) g t (cs.setIfInBounds i u) := by
  unfold Blk at h ⊢
  simp [World.setCell, Array.getElem?_modify, h]
theorem Blk.far (h : Blk w g t cs) {p : Addr} (hp : g ≠ p.block) (u : Value) : Blk (w.setCell p u) g t cs := (Below.heap_setCell w p u g hp).trans h
theorem Blk.fr (h : Blk w g t cs) (hf : Fr S w w') (hn : ¬ S g) : Blk w' g t cs := (hf.block g h.lt hn).trans h
theorem Blk.grown {row : Option Nat} (h : Blk w g t cs) (hb : w.grownBy w' row) (hg : some g ≠ row) : Blk w' g t cs := (hb.block g h.lt hg).trans h
theorem Blk.tag {t' : TypeId} {cs' : Array Value} (h : Blk w g t cs) (h' : Blk w g t' cs') : t = t' ∧ cs = cs' := by
  unfold Blk at h h'
  rw [h] at h'
  injection h' with h'
  injection h' with hc ht
  exact ⟨ht, hc⟩
theorem Blk.ne_ {g' : Nat} {t' : TypeId} {cs' : Array Value} (h : Blk w g t cs) (h' : Blk w g' t' cs') (hne : t ≠ t') : g ≠ g' := by
  rintro rfl
  exact hne (h.tag h').1
/-- A row that a slice owns is a block of its element type. -/
theorem own_ne {base : Nat} {e : TypeId} {size n : Nat} {v : Value} {xs : List Value} (h : w.ownsRow base e size v n xs) (hg : Blk w g t cs) (hne : e ≠ t) : v.ownBlock ≠ some g := by
  rcases h.2 with ⟨rfl, _⟩ | ⟨g', cap, cur, rfl, _, hh, _⟩
  · simp [Value.ownBlock]
  · intro he
    have : g' = g := by simpa [Value.ownBlock] using he
    subst this
    exact Blk.ne_ (t := e) hh hg hne rfl
theorem own_lt {base : Nat} {e : TypeId} {size n : Nat} {v : Value} {xs : List Value} (h : w.ownsRow base e size v n xs) {k : Nat} (hk : v.ownBlock = some k) : k < w.heap.size := (h.lt k hk).2
end

/-- Bytes as cells. -/
abbrev bc (l : List UInt8) : List Value := Lib.byteCells l

theorem bc_len (l : List UInt8) : (bc l).length = l.length := by simp [bc, Lib.byteCells]
theorem bc_one (l : List UInt8) : ∀ v ∈ bc l, v.oneCell' = true := by
  intro v hv
  simp only [bc, Lib.byteCells, List.mem_map] at hv
  obtain ⟨c, _, rfl⟩ := hv
  rfl
theorem bc_append (a b : List UInt8) : bc (a ++ b) = bc a ++ bc b := by simp [bc, Lib.byteCells]
theorem bc_get (l : List UInt8) (j : Nat) : (bc l)[j]? = (l[j]?).map fun c => .int .u8 c.toNat := by simp [bc, Lib.byteCells]

end Go.Proofs.YtbkookiigkckdaaGreatDoor
