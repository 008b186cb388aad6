/- slices.SortFunc at labels, by their names (labels.New's closure). -/
import Derived.Test.YtbkookiigkckdaaGreatDoorLq
import Derived.Test.YtbkookiigkckdaaGreatDoorSort
namespace Go.Proofs.YtbkookiigkckdaaGreatDoor
open Go.RowKit Go.Sort
set_option linter.unusedVariables false
set_option linter.unusedSimpArgs false

theorem cmp_lt : ∀ (a b : List UInt8), Lib.compareBytes a b < 0 ↔ a < b
  | [], [] => by simp [Lib.compareBytes]
  | [], _ :: _ => by simp [Lib.compareBytes]
  | _ :: _, [] => by simp [Lib.compareBytes]
  | a :: xs, b :: ys => by
    simp only [Lib.compareBytes, List.cons_lt_cons_iff]
    by_cases h1 : a < b
    · simp [h1]
    · by_cases h2 : b < a
      · simp only [if_neg h1, if_pos h2]
        constructor
        · intro h; exact absurd h (by decide)
        · rintro (h | ⟨rfl, _⟩)
          · exact absurd h h1
          · exact absurd h2 h1
      · rw [if_neg h1, if_neg h2, cmp_lt xs ys]
        have e : a = b := UInt8.le_antisymm (UInt8.not_lt.mp h2) (UInt8.not_lt.mp h1)
        simp [e]

/-- A name stands before another. -/
def nlt (a b : ByteArray) : Bool := decide (a.data.toList < b.data.toList)
def labCmp (x y : Lab) : Int := Lib.compareBytes x.1.data.toList y.1.data.toList
theorem lab_lt (x y : Lab) : ltOf labCmp x y = nlt x.1 y.1 := by
  unfold ltOf labCmp nlt
  exact decide_eq_decide.mpr (cmp_lt _ _)
theorem swoLab : SWO (ltOf labCmp) where
  irrefl x := by rw [lab_lt]; simp [nlt, List.lt_irrefl]
  trans x y z h1 h2 := by simp only [lab_lt, nlt, decide_eq_true_eq] at *; exact List.lt_trans h1 h2
  ntrans x y z h1 h2 := by
    simp only [lab_lt, nlt, decide_eq_false_iff_not, List.not_lt] at *
    exact List.le_trans h2 h1

theorem flat2_len (l : List Lab) : (l.flatMap labc).length = l.length * 2 := by
  induction l with
  | nil => rfl
  | cons x l ih => rw [List.flatMap_cons, List.length_append, ih, List.length_cons, Nat.add_mul]; show 2 + _ = _; omega
theorem flatK_labs (l : List Lab) : flatK labc 2 l.toArray = (l.flatMap labc).toArray := by
  have hl : (l.flatMap labc).length = l.length * 2 := flat2_len l
  refine ext_get! (by simp [hl]) fun t ht => ?_
  have ht' : t < l.length * 2 := by simpa using ht
  rw [get_flatK _ _ _ t (by simpa using ht')]
  have hk : t / 2 < l.length := by omega
  have h2 := flat2 labc (fun _ => rfl) l (t / 2) l[t / 2] (List.getElem?_eq_getElem hk) (t % 2) (by omega)
  rw [show t / 2 * 2 + t % 2 = t by omega] at h2
  rw [getElem!_pos l.toArray (t / 2) (by simpa using hk)]
  have ht2 : t < (l.flatMap labc).length := by omega
  rw [getElem!_pos (l.flatMap labc).toArray t (by simpa using ht2)]
  rw [List.getElem?_eq_getElem ht2] at h2
  have h3 : t % 2 < (labc l[t / 2]).length := by show t % 2 < 2; omega
  rw [List.getElem?_eq_getElem h3] at h2
  injection h2 with h2
  rw [show l.toArray[t / 2] = l[t / 2] from by simp, getElem!_pos (labc l[t / 2]) (t % 2) h3]
  simpa using h2.symm

set_option maxHeartbeats 1000000 in
theorem new1_any (x y : Lab) (W : World) : Calls Tryz.prog 219 #[.agg #[.string x.1, .string x.2], .agg #[.string y.1, .string y.2]] W fun e w' => e = .returned (.int .i64 (labCmp x y)) ∧ ∃ q os', w' = grow (W.drewN q) os' := by
  have hcon := fun W' => Tryz.strings_Compare x.1 y.1 W'
  unfold labCmp
  generalize Lib.compareBytes x.1.data.toList y.1.data.toList = r at hcon ⊢
  go_enter Tryz.func219, Tryz.ntmps219
  go_wp2_with (go_at_call 207; refine (hcon _).mono ?_; rintro e w' ⟨rfl, rfl⟩)
  go_ret
  exact ⟨rfl, 0, _, by rw [alloc_eq_grow, alloc_eq_grow, grow_grow]; rfl⟩

theorem len157 (n : Nat) (W : World) (h : n ≤ 12) : Calls Tryz.prog 157 #[.int .u64 n] W fun e w' => (∃ l : Int, e = .returned (.int .i64 l)) ∧ w' = W :=
  (Tryz.bits_Len n W (by omega) (by omega)).mono fun _ _ ⟨he, hw⟩ => ⟨⟨_, he⟩, hw⟩

theorem Fr.sortWorldK {w : World} (n blk off : Nat) (d : Array Lab) (os : Array Obj) (hb : blk < w.heap.size) : Fr (fun k => k = blk) w (sortWorldK labc 2 w blk off n d os) := by
  unfold Go.Proofs.sortWorldK
  refine ⟨rfl, rfl, rfl, ?_, ?_⟩
  · rw [size_grow, size_putRowK]
    exact Nat.le_add_right _ _
  · intro k hk hn
    rw [heap_grow_old _ _ (by rw [size_putRowK]; exact hk)]
    unfold putRowK putRow mapBlock
    show (Array.modify w.heap blk _)[k]? = _
    rw [Array.getElem?_modify, if_neg (fun e => hn e.symm)]

def SortEnds (v : Value) (l : List Lab) (w : World) (r : Ending) (w' : World) : Prop :=
  r = .returned (.tuple #[]) ∧ ∃ l' : List Lab, l'.Perm l ∧ l'.Pairwise (fun a b => nlt b.1 a.1 = false) ∧ Sl (fun g => v.ownBlock = some g) w' v 2 l'.length (l'.flatMap labc) ∧ Fr (fun g => v.ownBlock = some g) w w'

theorem sort_any (base : Nat) (v : Value) (l : List Lab) (w : World) (h : w.ownsRow base 108 2 v l.length (l.flatMap labc)) (hl : l.length ≤ 12) :
    Calls Tryz.prog 205 #[v, .func (.func 219) #[] #[]] w (SortEnds v l w) := by
  rcases h with ⟨hlen, ⟨rfl, hn⟩ | ⟨g, c, cur, rfl, hb, hh, hc, hm, hcs, ht⟩⟩
  · have e : l = [] := List.eq_nil_of_length_eq_zero hn
    subst e
    have hcon := AnyF.slices_SortFunc_none Tryz.sortLab none 0 (.func (.func 219) #[] #[]) w
    refine hcon.mono ?_
    rintro r w' ⟨rfl, rfl⟩
    refine ⟨rfl, [], List.Perm.refl _, List.Pairwise.nil, ?_, Fr.refl _ _⟩
    exact Sl.ofOwn (World.ownsRow_nil (base := base) (e := 108) (size := 2) (w := w'))
  · have eg : ∀ args w, (callFunc 219 args).run Tryz.prog w = .ok (.enter 219 args) w := enters_of Tryz.func219 (by kernel_rfl) rfl
    have hblk : g < w.heap.size := Blk.lt (t := 108) hh
    have hH : HoldsK labc 2 w g 0 l.toArray := by
      unfold HoldsK
      rw [flatK_labs]
      intro j hj
      have hj2 : j < (l.flatMap labc).length := by simpa using hj
      rw [Nat.zero_add, Blk.cell (t := 108) hh, getElem!_pos _ j hj]
      refine ⟨?_, Blk.frozen (t := 108) hh j⟩
      have e : (l.flatMap labc)[j]? = cur[j]? := by
        rw [← ht, List.getElem?_take, if_pos (by omega)]
        simp
      rw [← e, List.getElem?_eq_getElem hj2]
      simp
    have hcon := AnyQ.slices_SortFunc_small_sorted Tryz.sortLab 2 Tryz.isAgg108 Tryz.sizeOf108 labc (fun _ => rfl) (fun x v hv => by simp [labc] at hv; rcases hv with rfl | rfl <;> rfl) labCmp 219 #[] swoLab g 0 c l.toArray w eg (fun _ _ _ _ x y => new1_any x y _) hH hblk (by simpa using hl) len157
    change Calls Tryz.prog 205 #[.slice (some ⟨g, 0, none⟩) l.toArray.size c, _] _ _ at hcon
    rw [List.size_toArray] at hcon
    refine hcon.mono ?_
    rintro r w' ⟨rfl, d', n, os, hp, hs, rfl⟩
    obtain ⟨hsz, _, hperm⟩ := hp
    have hsz' : d'.size = l.length := by simpa using hsz
    have ed : d'.toList.toArray = d' := by simp
    refine ⟨rfl, d'.toList, ?_, ?_, ?_, (Fr.sortWorldK n g 0 d' os hblk).mono fun k _ e => by subst e; rfl⟩
    · have e1 : d'.extract 0 l.length = d' := by rw [← hsz']; simp
      have e2 : l.toArray.extract 0 l.length = l.toArray := by simp
      rw [e1, e2] at hperm
      exact hperm
    · rw [List.pairwise_iff_getElem]
      intro i j hi hj hij
      have hi' : i < d'.size := by simpa using hi
      have hj' : j < d'.size := by simpa using hj
      have := hs i j (Nat.zero_le _) hij (by omega)
      rw [getElem!_pos d' j hj', getElem!_pos d' i hi', lab_lt] at this
      simpa using this
    · have hH2 : HoldsK labc 2 (sortWorldK labc 2 w g 0 n d' os) g 0 d' := holdsK_sortWorldK_c labc 2 w g 0 l.toArray d' n os hH hblk (by simpa using hsz')
      have e9 : d'.toList.length = l.length := by simpa using hsz'
      show Sl (fun k => (Value.slice (some ⟨g, 0, none⟩) l.length c).ownBlock = some k) _ (.slice (some ⟨g, 0, none⟩) l.length c) 2 _ _
      rw [e9]
      refine ⟨some ⟨g, 0, none⟩, c, rfl, ?_, hc, fun _ => ⟨g, 0, rfl, rfl, ?_⟩⟩
      · rw [flat2_len, e9]
      · intro j u hu
        have hj : j < (d'.toList.flatMap labc).length := by
          rcases Nat.lt_or_ge j (d'.toList.flatMap labc).length with h | h
          · exact h
          · rw [List.getElem?_eq_none h] at hu; cases hu
        unfold HoldsK at hH2
        rw [← ed, flatK_labs, ed] at hH2
        have := (hH2 j (by simpa using hj)).1
        rw [this, getElem!_pos _ j (by simpa using hj)]
        rw [List.getElem?_eq_getElem hj] at hu
        simpa using hu
end Go.Proofs.YtbkookiigkckdaaGreatDoor
