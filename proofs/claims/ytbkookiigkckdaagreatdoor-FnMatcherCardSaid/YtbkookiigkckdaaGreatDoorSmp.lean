/- Samples: slices that read as lists, impl.refSamples. -/
import Derived.Test.YtbkookiigkckdaaGreatDoorEnc
import Derived.LoopTactic

namespace Go.Proofs.YtbkookiigkckdaaGreatDoor
open Go.RowKit
set_option linter.unusedVariables false
set_option linter.unusedSimpArgs false

/-- A slice v of n elements of 'size' cells each, that reads as xs; its block is one of P. -/
def Sl (P : Nat → Prop) (w : World) (v : Value) (size n : Nat) (xs : List Value) : Prop :=
  ∃ A c, v = .slice A n c ∧ xs.length = n * size ∧ n ≤ c ∧ (0 < n → ∃ g off, A = some ⟨g, off, none⟩ ∧ P g ∧ ∀ j u, xs[j]? = some u → w.cell? ⟨g, off + j, none⟩ = some u)

theorem Sl.fr {P S : Nat → Prop} {w w' : World} {v : Value} {size n : Nat} {xs : List Value} (h : Sl P w v size n xs) (hf : Fr S w w') (hs : ∀ g, P g → ¬ S g) : Sl P w' v size n xs := by
  obtain ⟨A, c, hv, hl, hc, hr⟩ := h
  refine ⟨A, c, hv, hl, hc, fun hn => ?_⟩
  obtain ⟨g, off, hA, hP, hcell⟩ := hr hn
  exact ⟨g, off, hA, hP, fun j u hu => by
    have := hcell j u hu
    rw [hf.cell (p := ⟨g, off + j, none⟩) (World.block_lt_of_cell? w _ this) (hs g hP)]
    exact this⟩
theorem Sl.mono {P Q : Nat → Prop} {w : World} {v : Value} {size n : Nat} {xs : List Value} (h : Sl P w v size n xs) (hs : ∀ g, P g → Q g) : Sl Q w v size n xs := by
  obtain ⟨A, c, hv, hl, hc, hr⟩ := h
  exact ⟨A, c, hv, hl, hc, fun hn => let ⟨g, off, hA, hP, hcell⟩ := hr hn; ⟨g, off, hA, hs g hP, hcell⟩⟩
theorem Sl.ofOwn {w : World} {base : Nat} {e : TypeId} {size n : Nat} {v : Value} {xs : List Value} (h : w.ownsRow base e size v n xs) : Sl (fun g => v.ownBlock = some g) w v size n xs := by
  have hl := h.1
  rcases h.2 with ⟨rfl, rfl⟩ | ⟨g, cap, cur, rfl, _, hg, hc, _⟩
  · exact ⟨_, _, rfl, hl, Nat.le_refl _, fun h => absurd h (by omega)⟩
  · refine ⟨_, _, rfl, hl, hc, fun _ => ⟨g, 0, rfl, rfl, fun j u hu => ?_⟩⟩
    have := h.cells (g := g) rfl j u hu
    have e1 : (⟨g, 0, none⟩ : Addr).add j = ⟨g, 0 + j, none⟩ := by unfold Addr.add; split <;> simp_all
    rwa [e1] at this

/-- A sample: its reference, its time, its value's bits. -/
structure Smp where
  ref : Nat
  t : Int
  v : Nat
def Smp.wf (s : Smp) : Prop := s.ref < 18446744073709551616 ∧ -9223372036854775808 ≤ s.t ∧ s.t ≤ 9223372036854775807 ∧ s.v < 18446744073709551616
/-- Its cells in impl's form and in the package's. -/
def Smp.a (s : Smp) : List Value := [.int .u64 s.ref, .int .i64 s.t, .int .u64 s.v]
def Smp.b (s : Smp) : List Value := [.int .u64 s.ref, .int .i64 s.t, .float .f64 s.v]

theorem Tryz.info137 : (Tryz.prog.info? 137).map (fun i => (i.zero, i.size, i.bytes)) = some (some (.agg #[.int .u64 0, .int .i64 0, .float .f64 0]), 3, 24) := by kernel_rfl

set_option maxHeartbeats 400000 in
theorem float_any (b : Nat) (w : World) : Calls Tryz.prog 167 #[.int .u64 b] w fun r w' => r = .returned (.float .f64 b) ∧ w = w' := by
  have hr := run166
  go_enter Tryz.func167, Tryz.ntmps167
  go_wp2
  go_ret
  exact ⟨rfl, rfl⟩

theorem flat3 {α : Type} (f : α → List Value) (h3 : ∀ x, (f x).length = 3) : ∀ (l : List α) (k : Nat) (x : α), l[k]? = some x → ∀ j, j < 3 → (l.flatMap f)[k * 3 + j]? = (f x)[j]?
  | [], k, x, h, j, hj => by simp at h
  | y :: l, 0, x, h, j, hj => by
    simp at h; subst h
    rw [List.flatMap_cons, List.getElem?_append_left (by rw [h3]; omega)]
    simp
  | y :: l, k + 1, x, h, j, hj => by
    rw [List.flatMap_cons, List.getElem?_append_right (by rw [h3]; omega), h3, show (k + 1) * 3 + j - 3 = k * 3 + j by omega]
    exact flat3 f h3 l k x (by simpa using h) j hj

/-- One element, laid in a block of its own, as what is appended. -/
theorem src_blk {W : World} {g t tx e size : Nat} {cs : List Value} (hk : Tryz.prog.underlying tx = some (.slice e)) (hb : Blk W g t cs.toArray) (hl : cs.length = size) (h1 : ∀ u ∈ cs, u.oneCell' = true) : Src Tryz.prog size tx (.slice (some ⟨g, 0, none⟩) 1 1) 1 cs W :=
  Src.ofSlice (e' := e) _ hk _ 1 1 _ (by omega) (fun j u hj => by
    have e1 : (⟨g, 0, none⟩ : Addr).add j = ⟨g, j, none⟩ := by unfold Addr.add; split <;> simp_all
    rw [e1, hb.cell]
    simpa using hj) h1
theorem blk_new2 (w : World) (o : Obj) (t : Nat) (cs : Array Value) : Blk ((w.alloc o).alloc (.cells cs t)) (w.heap.size + 1) t cs := by
  have := Blk.new (w.alloc o) t cs
  simpa using this

theorem flatMap_take_succ {α : Type} (f : α → List Value) (l : List α) (k : Nat) (x : α) (h : l[k]? = some x) : (l.take (k + 1)).flatMap f = (l.take k).flatMap f ++ f x := by
  rw [List.take_add_one, h]; simp

def RefSamplesEnds (w : World) (l : List Smp) (r : Ending) (w' : World) : Prop :=
  ∃ v, r = .returned v ∧ w'.ownsRow w.heap.size 137 3 v l.length (l.flatMap Smp.b) ∧ Fr (fun _ => False) w w'

set_option maxHeartbeats 1000000 in
set_option maxRecDepth 100000 in
theorem refSamples_any (P : Nat → Prop) (v : Value) (l : List Smp) (w : World) (h : Sl P w v 3 l.length (l.flatMap Smp.a)) (hl : l.length ≤ 1099511627776) :
    Calls Tryz.prog 72 #[v] w (RefSamplesEnds w l) := by
  obtain ⟨A, c, rfl, hlen, hnc, hr⟩ := h
  obtain ⟨n, hn⟩ : ∃ n, l.length = n := ⟨_, rfl⟩
  rw [hn] at hr hnc hl ⊢
  have HN := Lib.hid hn
  have HR := Lib.hid hr
  obtain ⟨i0, hi0, hz0, hz1, hz2⟩ := info_parts Tryz.info137
  clear hn hr hlen
  go_enter Tryz.func72, Tryz.ntmps72
  go_wp2
  go_loopw [2, 7] (fun v i wr => ∃ k : Nat, k ≤ n ∧ i = .int .i64 k ∧ wr.ownsRow w.heap.size 137 3 v k ((l.take k).flatMap Smp.b) ∧ Fr (fun _ => False) w wr) (fun _ i _ => n - (intOf i).toNat)
  case atStart => exact ⟨0, Nat.zero_le _, rfl, World.ownsRow_nil _ _ _ _, Fr.refl _ _⟩
  case round =>
    obtain ⟨k, hk, rfl, hown, hf⟩ := hrel
    by_cases hlt : k < n
    · obtain ⟨g, off, rfl, _, hcell⟩ := HR.out (by omega)
      obtain ⟨x, hx⟩ : ∃ x, l[k]? = some x := ⟨_, List.getElem?_eq_getElem (by rw [HN.out]; exact hlt)⟩
      have cc : ∀ j, j < 3 → ∀ u, (Smp.a x)[j]? = some u → wr.cell? ⟨g, off + (k * 3 + j), none⟩ = some u := fun j hj u hu => by
        have := hcell (k * 3 + j) u (by rw [flat3 Smp.a (fun _ => rfl) l k x hx j hj]; exact hu)
        rw [hf.cell (p := ⟨g, off + (k * 3 + j), none⟩) (World.block_lt_of_cell? w _ this) (fun e => e)]
        exact this
      have c0 : wr.cell? ⟨g, off + k * 3, none⟩ = some (.int .u64 x.ref) := cc 0 (by omega) _ rfl
      have c1 : wr.cell? ⟨g, off + k * 3 + 1, none⟩ = some (.int .i64 x.t) := cc 1 (by omega) _ rfl
      have c2 : wr.cell? ⟨g, off + k * 3 + 2, none⟩ = some (.int .u64 x.v) := cc 2 (by omega) _ rfl
      have HC := Lib.hid hcell
      have HO := Lib.hid hown
      have HX := Lib.hid hx
      obtain ⟨a', n', k', rfl⟩ := own_slice hown
      clear hcell cc hown hx
      go_wp2_with fail
      have s0 : (wr.alloc (Obj.cells #[Value.int IntKind.u64 ↑x.ref, Value.int IntKind.i64 x.t, Value.int IntKind.u64 ↑x.v] 113)).cell? ⟨wr.heap.size, 0, none⟩ = some (.int .u64 x.ref) := by simp
      have s1 : (wr.alloc (Obj.cells #[Value.int IntKind.u64 ↑x.ref, Value.int IntKind.i64 x.t, Value.int IntKind.u64 ↑x.v] 113)).cell? ⟨wr.heap.size, 1, none⟩ = some (.int .i64 x.t) := by simp
      have s2 : (wr.alloc (Obj.cells #[Value.int IntKind.u64 ↑x.ref, Value.int IntKind.i64 x.t, Value.int IntKind.u64 ↑x.v] 113)).cell? ⟨wr.heap.size, 2, none⟩ = some (.int .u64 x.v) := by simp
      have hsz := hf.size
      have hne : some wr.heap.size ≠ (Value.slice a' n' k').ownBlock := fun e => by have := own_lt HO.out e.symm; omega
      go_region_held3 (fun w' => w'.cell? ⟨wr.heap.size, 0, none⟩ = some (.int .u64 x.ref) ∧ w'.cell? ⟨wr.heap.size, 1, none⟩ = some (.int .i64 x.t) ∧ w'.cell? ⟨wr.heap.size, 2, none⟩ = some (.int .u64 x.v)) ((first | (go_split_ands; refine ⟨?_, ?_, ?_⟩ <;> (rw [World.grownBy.cell_far hgrow _ (by simp; omega) hne]; assumption)) | go_keep))
        ((first
          | (go_at_call 167; refine (float_any _ _).mono ?_; rintro r w' ⟨rfl, rfl⟩)
          | (refine step_append_src _ (by rfl) _ _ 131 131 (by rfl) w.heap.size 137 i0 _ 3 24 Tryz.underlying131 hi0 hz0 hz1 hz2 rfl (by decide) (.slice a' n' k') k ((l.take k).flatMap Smp.b) (by rfl) ((HO.out.alloc _).alloc _).drew _ 1 (Smp.b x) (by rfl) (src_blk Tryz.underlying131 (blk_new2 wr _ 137 (Smp.b x).toArray).drew rfl (by simp [Smp.b, Value.oneCell'])) (by unfold maxLen; omega) (by omega) (by simp; omega) ?_; intro v' w2 hown' hgrow hat)))
      have hown2 : w2.ownsRow w.heap.size 137 3 v' (k + 1) ((l.take (k + 1)).flatMap Smp.b) := by rw [flatMap_take_succ Smp.b l k x HX.out]; exact hown'
      have hf2 : Fr (fun _ => False) w w2 := (((hf.alloc _).alloc _).drew).grown hgrow (fun g hg => .inr (((HO.out.lt g hg)).1))
      have HO2 := Lib.hid hown2
      have HF2 := Lib.hid hf2
      clear hown' hgrow hown2 hf2 hf c0 c1 c2 s0 s1 s2 hat hne hsz
      go_wp2
      go_roundw
      case rel => exact ⟨k + 1, by omega, by go_num, HO2.out, HF2.out⟩
      case measure => simp [intOf]; omega
    · go_wp2
      go_ret
      obtain rfl : k = n := by omega
      refine ⟨_, rfl, ?_, hf⟩
      rw [← HN.out] at hown ⊢
      rw [List.take_length] at hown
      exact hown

end Go.Proofs.YtbkookiigkckdaaGreatDoor
