/- Texts of this seat, merged: Ls, Ln, Lr, Lu, Lx, Le, Sa, Lt. -/
import Derived.Test.YtbkookiigkckdaaGreatDoorK09
import Derived.Test.YtbkookiigkckdaaGreatDoorK01
import Derived.Laws.IdiomStrings
import Derived.Deep.OwnRows
import Derived.BigRegion
/- slices.SortFunc at labels, by their names (labels.New's closure). -/
namespace Go.Proofs.YtbkookiigkckdaaGreatDoor
open Go.RowKit Go.Sort
set_option linter.unusedVariables false
set_option linter.unusedSimpArgs false

theorem cmp_lt : ∀ (a b : List UInt8), Lib.compareBytes a b < 0 ↔ a < b
  | [], [] => by simp [Lib.compareBytes]
  | [], _ :: _ => by simp [Lib.compareBytes]
  | _ :: _, [] => by simp [Lib.compareBytes]
  | a :: xs, b :: ys => by
    simp only [Lib.compareBytes, List.cons_lt_cons_iff]
    by_cases h1 : a < b
    · simp [h1]
    · by_cases h2 : b < a
      · simp only [if_neg h1, if_pos h2]
        constructor
        · intro h; exact absurd h (by decide)
        · rintro (h | ⟨rfl, _⟩)
          · exact absurd h h1
          · exact absurd h2 h1
      · rw [if_neg h1, if_neg h2, cmp_lt xs ys]
        have e : a = b := UInt8.le_antisymm (UInt8.not_lt.mp h2) (UInt8.not_lt.mp h1)
        simp [e]

/-- A name stands before another. -/
def nlt (a b : ByteArray) : Bool := decide (a.data.toList < b.data.toList)
def labCmp (x y : Lab) : Int := Lib.compareBytes x.1.data.toList y.1.data.toList
theorem lab_lt (x y : Lab) : ltOf labCmp x y = nlt x.1 y.1 := by
  unfold ltOf labCmp nlt
  exact decide_eq_decide.mpr (cmp_lt _ _)
theorem swoLab : SWO (ltOf labCmp) where
  irrefl x := by rw [lab_lt]; simp [nlt, List.lt_irrefl]
  trans x y z h1 h2 := by simp only [lab_lt, nlt, decide_eq_true_eq] at *; exact List.lt_trans h1 h2
  ntrans x y z h1 h2 := by
    simp only [lab_lt, nlt, decide_eq_false_iff_not, List.not_lt] at *
    exact List.le_trans h2 h1

theorem flat2_len (l : List Lab) : (l.flatMap labc).length = l.length * 2 := by
  induction l with
  | nil => rfl
  | cons x l ih => rw [List.flatMap_cons, List.length_append, ih, List.length_cons, Nat.add_mul]; show 2 + _ = _; omega
theorem flatK_labs (l : List Lab) : flatK labc 2 l.toArray = (l.flatMap labc).toArray := by
  have hl : (l.flatMap labc).length = l.length * 2 := flat2_len l
  refine ext_get! (by simp [hl]) fun t ht => ?_
  have ht' : t < l.length * 2 := by simpa using ht
  rw [get_flatK _ _ _ t (by simpa using ht')]
  have hk : t / 2 < l.length := by omega
  have h2 := flat2 labc (fun _ => rfl) l (t / 2) l[t / 2] (List.getElem?_eq_getElem hk) (t % 2) (by omega)
  rw [show t / 2 * 2 + t % 2 = t by omega] at h2
  rw [getElem!_pos l.toArray (t / 2) (by simpa using hk)]
  have ht2 : t < (l.flatMap labc).length := by omega
  rw [getElem!_pos (l.flatMap labc).toArray t (by simpa using ht2)]
  rw [List.getElem?_eq_getElem ht2] at h2
  have h3 : t % 2 < (labc l[t / 2]).length := by show t % 2 < 2; omega
  rw [List.getElem?_eq_getElem h3] at h2
  injection h2 with h2
  rw [show l.toArray[t / 2] = l[t / 2] from by simp, getElem!_pos (labc l[t / 2]) (t % 2) h3]
  simpa using h2.symm

set_option maxHeartbeats 1000000 in
theorem new1_any (x y : Lab) (W : World) : Calls Tryz.prog 219 #[.agg #[.string x.1, .string x.2], .agg #[.string y.1, .string y.2]] W fun e w' => e = .returned (.int .i64 (labCmp x y)) ∧ ∃ q os', w' = grow (W.drewN q) os' := by
  have hcon := fun W' => Tryz.strings_Compare x.1 y.1 W'
  unfold labCmp
  generalize Lib.compareBytes x.1.data.toList y.1.data.toList = r at hcon ⊢
  go_enter Tryz.func219, Tryz.ntmps219
  go_wp2_with (go_at_call 207; refine (hcon _).mono ?_; rintro e w' ⟨rfl, rfl⟩)
  go_ret
  exact ⟨rfl, 0, _, by rw [alloc_eq_grow, alloc_eq_grow, grow_grow]; rfl⟩

theorem len157 (n : Nat) (W : World) (h : n ≤ 12) : Calls Tryz.prog 157 #[.int .u64 n] W fun e w' => (∃ l : Int, e = .returned (.int .i64 l)) ∧ w' = W :=
  (Tryz.bits_Len n W (by omega) (by omega)).mono fun _ _ ⟨he, hw⟩ => ⟨⟨_, he⟩, hw⟩

theorem Fr.sortWorldK {w : World} (n blk off : Nat) (d : Array Lab) (os : Array Obj) (hb : blk < w.heap.size) : Fr (fun k => k = blk) w (sortWorldK labc 2 w blk off n d os) := by
  unfold Go.Proofs.sortWorldK
  refine ⟨rfl, rfl, rfl, ?_, ?_⟩
  · rw [size_grow, size_putRowK]
    exact Nat.le_add_right _ _
  · intro k hk hn
    rw [heap_grow_old _ _ (by rw [size_putRowK]; exact hk)]
    unfold putRowK putRow mapBlock
    show (Array.modify w.heap blk _)[k]? = _
    rw [Array.getElem?_modify, if_neg (fun e => hn e.symm)]

def SortEnds (v : Value) (l : List Lab) (w : World) (r : Ending) (w' : World) : Prop :=
  r = .returned (.tuple #[]) ∧ ∃ l' : List Lab, l'.Perm l ∧ l'.Pairwise (fun a b => nlt b.1 a.1 = false) ∧ Sl (fun g => v.ownBlock = some g) w' v 2 l'.length (l'.flatMap labc) ∧ Fr (fun g => v.ownBlock = some g) w w'

theorem sort_any (base : Nat) (v : Value) (l : List Lab) (w : World) (h : w.ownsRow base 108 2 v l.length (l.flatMap labc)) (hl : l.length ≤ 12) :
    Calls Tryz.prog 205 #[v, .func (.func 219) #[] #[]] w (SortEnds v l w) := by
  rcases h with ⟨hlen, ⟨rfl, hn⟩ | ⟨g, c, cur, rfl, hb, hh, hc, hm, hcs, ht⟩⟩
  · have e : l = [] := List.eq_nil_of_length_eq_zero hn
    subst e
    have hcon := AnyF.slices_SortFunc_none Tryz.sortLab none 0 (.func (.func 219) #[] #[]) w
    refine hcon.mono ?_
    rintro r w' ⟨rfl, rfl⟩
    refine ⟨rfl, [], List.Perm.refl _, List.Pairwise.nil, ?_, Fr.refl _ _⟩
    exact Sl.ofOwn (World.ownsRow_nil (base := base) (e := 108) (size := 2) (w := w'))
  · have eg : ∀ args w, (callFunc 219 args).run Tryz.prog w = .ok (.enter 219 args) w := enters_of Tryz.func219 (by kernel_rfl) rfl
    have hblk : g < w.heap.size := Blk.lt (t := 108) hh
    have hH : HoldsK labc 2 w g 0 l.toArray := by
      unfold HoldsK
      rw [flatK_labs]
      intro j hj
      have hj2 : j < (l.flatMap labc).length := by simpa using hj
      rw [Nat.zero_add, Blk.cell (t := 108) hh, getElem!_pos _ j hj]
      refine ⟨?_, Blk.frozen (t := 108) hh j⟩
      have e : (l.flatMap labc)[j]? = cur[j]? := by
        rw [← ht, List.getElem?_take, if_pos (by omega)]
        simp
      rw [← e, List.getElem?_eq_getElem hj2]
      simp
    have hcon := AnyQ.slices_SortFunc_small_sorted Tryz.sortLab 2 Tryz.isAgg108 Tryz.sizeOf108 labc (fun _ => rfl) (fun x v hv => by simp [labc] at hv; rcases hv with rfl | rfl <;> rfl) labCmp 219 #[] swoLab g 0 c l.toArray w eg (fun _ _ _ _ x y => new1_any x y _) hH hblk (by simpa using hl) len157
    change Calls Tryz.prog 205 #[.slice (some ⟨g, 0, none⟩) l.toArray.size c, _] _ _ at hcon
    rw [List.size_toArray] at hcon
    refine hcon.mono ?_
    rintro r w' ⟨rfl, d', n, os, hp, hs, rfl⟩
    obtain ⟨hsz, _, hperm⟩ := hp
    have hsz' : d'.size = l.length := by simpa using hsz
    have ed : d'.toList.toArray = d' := by simp
    refine ⟨rfl, d'.toList, ?_, ?_, ?_, (Fr.sortWorldK n g 0 d' os hblk).mono fun k _ e => by subst e; rfl⟩
    · have e1 : d'.extract 0 l.length = d' := by rw [← hsz']; simp
      have e2 : l.toArray.extract 0 l.length = l.toArray := by simp
      rw [e1, e2] at hperm
      exact hperm
    · rw [List.pairwise_iff_getElem]
      intro i j hi hj hij
      have hi' : i < d'.size := by simpa using hi
      have hj' : j < d'.size := by simpa using hj
      have := hs i j (Nat.zero_le _) hij (by omega)
      rw [getElem!_pos d' j hj', getElem!_pos d' i hi', lab_lt] at this
      simpa using this
    · have hH2 : HoldsK labc 2 (sortWorldK labc 2 w g 0 n d' os) g 0 d' := holdsK_sortWorldK_c labc 2 w g 0 l.toArray d' n os hH hblk (by simpa using hsz')
      have e9 : d'.toList.length = l.length := by simpa using hsz'
      show Sl (fun k => (Value.slice (some ⟨g, 0, none⟩) l.length c).ownBlock = some k) _ (.slice (some ⟨g, 0, none⟩) l.length c) 2 _ _
      rw [e9]
      refine ⟨some ⟨g, 0, none⟩, c, rfl, ?_, hc, fun _ => ⟨g, 0, rfl, rfl, ?_⟩⟩
      · rw [flat2_len, e9]
      · intro j u hu
        have hj : j < (d'.toList.flatMap labc).length := by
          rcases Nat.lt_or_ge j (d'.toList.flatMap labc).length with h | h
          · exact h
          · rw [List.getElem?_eq_none h] at hu; cases hu
        unfold HoldsK at hH2
        rw [← ed, flatK_labs, ed] at hH2
        have := (hH2 j (by simpa using hj)).1
        rw [this, getElem!_pos _ j (by simpa using hj)]
        rw [List.getElem?_eq_getElem hj] at hu
        simpa using hu
end Go.Proofs.YtbkookiigkckdaaGreatDoor

/- labels.New. -/
namespace Go.Proofs.YtbkookiigkckdaaGreatDoor
open Go.RowKit
set_option linter.unusedVariables false
set_option linter.unusedSimpArgs false

theorem yolo_any (g n c : Nat) (bs : List UInt8) (w : World) (h : Buf w g n 0 bs) : Calls Tryz.prog 210 #[.slice (some ⟨g, 0, none⟩) n c] w fun r w' => r = .returned (.string ⟨bs.toArray⟩) ∧ w = w' := by
  obtain ⟨_, cs, hb, hs, hd⟩ := h
  rw [List.drop_zero] at hd
  have hn : bs.length = n := by rw [← hs, ← bc_len bs, ← hd]; simp
  subst hn
  have hc := run_convert_bytes_back (P := Tryz.prog) w 44 9 5 ⟨g, 0, none⟩ c bs Tryz.underlying44 Tryz.underlying5 Tryz.underlying9 (fun j hj => by
    have e1 : (⟨g, 0, none⟩ : Addr).add j = ⟨g, 0 + j, none⟩ := by unfold Addr.add; split <;> simp_all
    rw [e1, Nat.zero_add, hb.cell]
    have e2 : cs[j]? = (bc bs)[j]? := by rw [← hd]; simp
    rw [e2, bc_get, List.getElem?_eq_getElem hj]
    rfl)
  go_enter Tryz.func210, Tryz.ntmps210
  go_wp2
  go_ret
  exact ⟨rfl, rfl⟩

/-- The text of labels, as it is kept. -/
def labStr (l : List Lab) : ByteArray := ⟨(labsBytes l).toArray⟩
def LabMade (l : List Lab) (S : Nat → Prop) (w : World) (r : Ending) (w' : World) : Prop :=
  ∃ l' : List Lab, l'.Perm l ∧ l'.Pairwise (fun a b => nlt b.1 a.1 = false) ∧ r = .returned (.agg #[.string (labStr l')]) ∧ Fr S w w'
theorem Tryz.info99 : (Tryz.prog.info? 99).map (fun i => (i.zero, i.size, i.bytes)) = some (some (.agg #[.string ⟨#[]⟩]), 1, 16) := by kernel_rfl

theorem buf_new (w : World) (n : Nat) : Buf (w.alloc (.cells (madeCells #[.int .u8 0] n) 5)) w.heap.size n n [] := by
  refine ⟨Nat.le_refl _, _, Blk.new w 5 _, size_madeCells _ _, ?_⟩
  rw [List.drop_of_length_le (by rw [Array.length_toList, size_madeCells]; exact Nat.le_refl _)]
  rfl

theorem perm_small {l l' : List Lab} (h : l'.Perm l) (hs : ∀ p ∈ l, p.1.size ≤ 1048576 ∧ p.2.size ≤ 1048576) : ∀ p ∈ l', p.1.size ≤ 1048576 ∧ p.2.size ≤ 1048576 := fun p hp => hs p (h.mem_iff.mp hp)

set_option maxRecDepth 100000 in
set_option maxHeartbeats 2000000 in
theorem new_any (base : Nat) (v : Value) (l : List Lab) (w : World) (h : w.ownsRow base 108 2 v l.length (l.flatMap labc)) (hl : l.length ≤ 12) (hs : ∀ p ∈ l, p.1.size ≤ 1048576 ∧ p.2.size ≤ 1048576) :
    Calls Tryz.prog 148 #[v] w (LabMade l (fun k => v.ownBlock = some k) w) := by
  have hA : w.alloc (.cells #[.string ⟨#[]⟩] 99) = w.alloc (.cells #[.string ⟨#[]⟩] 99) := rfl
  have hown : (w.alloc (.cells #[.string ⟨#[]⟩] 99)).ownsRow base 108 2 v l.length (l.flatMap labc) := h.alloc _
  have hSort := sort_any base v l _ hown hl
  have HO := Lib.hid h
  have HS := Lib.hid hs
  have hlt : ∀ k, v.ownBlock = some k → k < w.heap.size := fun k hk => own_lt h hk
  clear h hs hown hA
  go_enter Tryz.func148, Tryz.ntmps148
  go_wp2_with (go_at_call 205; refine hSort.mono ?_; rintro r w1 ⟨rfl, l', hperm, hsort, hsl, hf⟩)
  have hb0 : Blk w1 w.heap.size 99 #[.string ⟨#[]⟩] := (Blk.new w 99 _).fr hf (fun e => Nat.lt_irrefl _ (hlt _ e))
  have hs' := perm_small hperm HS.out
  have hl' : l'.length ≤ 12 := by rw [hperm.length_eq]; exact hl
  have hF1 : Fr (fun k => v.ownBlock = some k) w w1 := ((Fr.refl _ w).alloc _).same hf
  refine (labelsSize_any _ v l' w1 hsl (by omega) hs').mono ?_
  rintro r w2 ⟨rfl, hf2⟩
  have hsl2 := hsl.fr hf2 (fun _ _ e => e)
  have hb2 := hb0.fr hf2 (fun e => e)
  have hle := labsSize_le l' hs'
  obtain ⟨n, hn⟩ : ∃ n, labsSize l' = n := ⟨_, rfl⟩
  rw [hn] at hle ⊢
  have hnb : n ≤ 25165920 := by
    have : l'.length * 2097160 ≤ 12 * 2097160 := Nat.mul_le_mul_right _ hl'
    exact Nat.le_trans hle this
  have hmk : ∀ W : World, (Instr.makeSlice 44 (.int .i64 (n : Int)) (.int .i64 (n : Int))).run Tryz.prog W = .ok (.slice (some ⟨W.heap.size, 0, none⟩) n n) (W.alloc (.cells (madeCells #[.int .u8 0] n) 5)) := fun W =>
    run_make_row' (P := Tryz.prog) 44 5 (.int .u8 0) 1 Tryz.underlying44 Tryz.info5 rfl .i64 .i64 n (by omega) (by omega) W
  have hF2 : Fr (fun k => v.ownBlock = some k) w w2 := hF1.trans hf2 (fun _ _ e => e.elim)
  have hM := marshalLabels_any _ v l' w2.heap.size n n (w2.alloc (.cells (madeCells #[.int .u8 0] n) 5)) (hsl2.fr ((Fr.refl (fun _ => False) w2).alloc _) (fun _ _ e => e))
    (fun e => Nat.lt_irrefl _ (Nat.lt_of_lt_of_le (hlt _ e) hF2.size)) (by omega) hs' (buf_new w2 n) hn.symm (Nat.le_refl _) (by omega)
  have hbne : w.heap.size ≠ w2.heap.size := Nat.ne_of_lt hb2.lt
  have hF3 : Fr (fun k => v.ownBlock = some k) w (w2.alloc (.cells (madeCells #[.int .u8 0] n) 5)) := hF2.alloc _
  have hb3 := hb2.alloc (.cells (madeCells #[.int .u8 0] n) 5)
  have H := Lib.hid (And.intro hperm (And.intro hsort (And.intro hF3 (And.intro hb3 (And.intro hlt hF2.size)))))
  clear HO HS hsl hsl2 hF1 hF2 hb0 hb2 hf hf2 hs' hle hn hlt hperm hsort hF3 hb3 hSort hl'
  go_wp2_with (first | (go_at_call 209; refine hM.mono ?_; rintro r w3 ⟨rfl, hB3, hf3⟩; have hY := yolo_any w2.heap.size n n (labsBytes l') w3 hB3) | (go_at_call 210; refine hY.mono ?_; rintro r w4 ⟨rfl, rfl⟩; have hb4 := H.out.2.2.2.1.fr hf3 hbne; have c4 := hb4.cell 0; have f4 := hb4.frozen 0))
  have hb5 := hb4.set_ 0 (.string ⟨(labsBytes l').toArray⟩)
  obtain ⟨h1, h2, h3, _, hlt, hsz⟩ := H.out
  have hF4 : Fr (fun k => v.ownBlock = some k) w w3 := h3.trans (S' := fun k => k = w2.heap.size) hf3 (fun k hk e => by subst e; omega)
  have hF5 : Fr (fun k => v.ownBlock = some k) w (w3.setCell ⟨w.heap.size, 0, none⟩ (.string ⟨(labsBytes l').toArray⟩)) := hF4.setCell (p := ⟨w.heap.size, 0, none⟩) (.inr (Nat.le_refl _)) _
  have hb6 : Blk (w3.setCell ⟨w.heap.size, 0, none⟩ (.string ⟨(labsBytes l').toArray⟩)) w.heap.size 99 #[.string (labStr l')] := hb5
  clear hb5
  generalize w3.setCell ⟨w.heap.size, 0, none⟩ (.string ⟨(labsBytes l').toArray⟩) = w5 at hb6 hF5 ⊢
  refine bodyPost_ret (results_cell_row (P := Tryz.prog) rfl _ _ w.heap.size 99 #[.string (labStr l')] (0, 0) _ rfl hb6 Tryz.underlying99 rfl (by kernel_rfl)) rfl ?_
  exact ⟨l', h1, h2, rfl, hF5⟩

/-- impl.made. -/
theorem made_any (P : Nat → Prop) (v : Value) (l : List Lab) (w : World) (h : Sl P w v 2 l.length (l.flatMap labc)) (hl : l.length ≤ 12) (hs : ∀ p ∈ l, p.1.size ≤ 1048576 ∧ p.2.size ≤ 1048576) :
    Calls Tryz.prog 54 #[v] w (LabMade l (fun _ => False) w) := by
  have hw : ∀ o, Sl P (w.alloc o) v 2 l.length (l.flatMap labc) := fun o => h.fr ((Fr.refl (fun _ => False) w).alloc o) (fun _ _ e => e)
  have hP := pairs_any P v l _ (hw (.cells #[.string ⟨#[]⟩] 99)) (by omega)
  clear h hw
  go_enter Tryz.func54, Tryz.ntmps54
  go_wp2_with (go_at_call 149; refine hP.mono ?_; rintro r w1 ⟨v1, rfl, hown, hf⟩)
  refine (new_any _ v1 l w1 hown hl hs).mono ?_
  rintro r w2 ⟨l', h1, h2, rfl, hf2⟩
  have hb0 : Blk w1 w.heap.size 99 #[.string ⟨#[]⟩] := (Blk.new w 99 _).fr hf (fun e => e)
  have hlo : ∀ k, v1.ownBlock = some k → w.heap.size < k := fun k hk => by
    have := (hown.lt k hk).1
    rw [World.size_alloc] at this
    exact this
  have hb1 : Blk w2 w.heap.size 99 #[.string ⟨#[]⟩] := hb0.fr hf2 (fun e => Nat.lt_irrefl _ (hlo _ e))
  have c1 := hb1.cell 0
  have f1 := hb1.frozen 0
  have hF : Fr (fun _ => False) w w2 := ((Fr.refl _ w).alloc _).same hf |>.trans hf2 (fun k hk e => Nat.lt_asymm hk (hlo k e))
  go_wp2
  have hb5 := hb1.set_ 0 (.string (labStr l'))
  have hF5 : Fr (fun _ => False) w (w2.setCell ⟨w.heap.size, 0, none⟩ (.string (labStr l'))) := hF.setCell (p := ⟨w.heap.size, 0, none⟩) (.inr (Nat.le_refl _)) _
  have hb6 : Blk (w2.setCell ⟨w.heap.size, 0, none⟩ (.string (labStr l'))) w.heap.size 99 #[.string (labStr l')] := hb5
  clear hb5
  generalize w2.setCell ⟨w.heap.size, 0, none⟩ (.string (labStr l')) = w5 at hb6 hF5 ⊢
  refine bodyPost_ret (results_cell_row (P := Tryz.prog) rfl _ _ w.heap.size 99 #[.string (labStr l')] (0, 0) _ rfl hb6 Tryz.underlying99 rfl (by kernel_rfl)) rfl ?_
  exact ⟨l', h1, h2, rfl, hF5⟩
end Go.Proofs.YtbkookiigkckdaaGreatDoor

/- labels.Range over labels as New keeps them; unmade. -/
namespace Go.Proofs.YtbkookiigkckdaaGreatDoor
open Go.RowKit
set_option linter.unusedVariables false
set_option linter.unusedSimpArgs false

theorem byte_at {s : ByteArray} {i : Nat} {r : List UInt8} (h : s.data.toList.drop i = r) (j : Nat) (c : UInt8) (hj : r[j]? = some c) : ∃ h : i + j < s.size, s[i + j] = c := by
  subst h
  rw [List.getElem?_drop] at hj
  have hlt : i + j < s.data.toList.length := by
    rcases Nat.lt_or_ge (i + j) s.data.toList.length with h | h
    · exact h
    · rw [List.getElem?_eq_none h] at hj; cases hj
  have hlt2 : i + j < s.size := by rw [← Lib.size_eq] at hlt; exact hlt
  refine ⟨hlt2, ?_⟩
  rw [List.getElem?_eq_getElem hlt] at hj
  injection hj

set_option maxRecDepth 100000 in
set_option maxHeartbeats 1000000 in
theorem decodeSize_any (s : ByteArray) (i v : Nat) (r : List UInt8) (hv : v < 16777216) (hi : i ≤ 1099511627776) (h : s.data.toList.drop i = lenBytes v ++ r) (w : World) :
    Calls Tryz.prog 150 #[.string s, .int .i64 i] w fun e w' => e = .returned (.tuple #[.int .i64 v, .int .i64 (i + lenSize v : Nat)]) ∧ Fr (fun _ => False) w w' := by
  by_cases hlt : v < 255
  · have e1 : lenSize v = 1 := if_pos hlt
    rw [e1]
    have e2 : lenBytes v = [UInt8.ofNat v] := if_pos hlt
    rw [e2] at h
    obtain ⟨h0, hs0⟩ := byte_at h 0 (UInt8.ofNat v) rfl
    rw [Nat.add_zero] at h0
    have hs0' : s[i] = UInt8.ofNat v := hs0
    have e3 : ((UInt8.ofNat v).toNat : Int) = v := by simp; omega
    have h1 : ¬ (v : Int) = 255 := by omega
    clear h hs0
    go_enter Tryz.func150, Tryz.ntmps150
    go_wp2
    refine bodyPost_ret (results_tmp2 rfl _ _ _) rfl ?_
    refine ⟨?_, Fr.refl _ _⟩
    have e4 : (v : Int) % 256 = v := by omega
    simp [e4]
  · have e1 : lenSize v = 4 := if_neg hlt
    rw [e1]
    have e2 : lenBytes v = [255, UInt8.ofNat v, UInt8.ofNat (v / 256), UInt8.ofNat (v / 65536)] := if_neg hlt
    rw [e2] at h
    obtain ⟨h0, hs0⟩ := byte_at h 0 255 rfl
    obtain ⟨h1, hs1⟩ := byte_at h 1 (UInt8.ofNat v) rfl
    obtain ⟨h2, hs2⟩ := byte_at h 2 (UInt8.ofNat (v / 256)) rfl
    obtain ⟨h3, hs3⟩ := byte_at h 3 (UInt8.ofNat (v / 65536)) rfl
    rw [Nat.add_zero] at h0
    have hs0' : s[i] = 255 := hs0
    have ix : ∀ (a : Int) (j : Nat) (c : UInt8) (hj : j < s.size) (hc : s[j] = c) (ha : a = j) (W : World), (Instr.index 9 (.string s) (.int .i64 a)).run Tryz.prog W = .ok (.int .u8 c.toNat) W := by
      intro a j c hj hc ha W
      subst ha
      rw [run_index_string W 9 s .i64 j Tryz.underlying9]
      simp [hj, hc]
    have x1 := ix (i + 1) (i + 1) _ h1 hs1 (by omega)
    have x2 := ix (i + 1 + 1) (i + 2) _ h2 hs2 (by omega)
    have x3 := ix (i + 1 + 2) (i + 3) _ h3 hs3 (by omega)
    clear h hs0 ix
    go_enter Tryz.func150, Tryz.ntmps150
    go_wp2
    go_big_region
    all_goals go_wp2
    refine bodyPost_ret (results_tmp2 rfl _ _ _) rfl ?_
    refine ⟨?_, (Fr.refl _ _).drew⟩
    have e5 : (v : Int) % 256 + (v : Int) / 256 % 256 * 256 + (v : Int) / 65536 % 256 * 65536 = v := by omega
    have e6 : (i : Int) + 1 + 3 = ((i + 4 : Nat) : Int) := by omega
    simp [e5, e6]

theorem extract_at {s : ByteArray} {i : Nat} {a : ByteArray} {r : List UInt8} (h : s.data.toList.drop i = a.data.toList ++ r) : s.extract i (i + a.size) = a := by
  apply ByteArray.ext
  apply Array.toList_inj.1
  rw [Lib.extract_data, h, Nat.add_sub_cancel_left, Lib.size_eq, List.take_left']
  rfl
theorem drop_more {s : ByteArray} {i : Nat} {a r : List UInt8} (h : s.data.toList.drop i = a ++ r) : s.data.toList.drop (i + a.length) = r := by
  rw [← List.drop_drop, h, List.drop_left]
theorem drop_le {s : ByteArray} {i : Nat} {a r : List UInt8} (h : s.data.toList.drop i = a ++ r) (hi : i ≤ s.size) : i + a.length ≤ s.size := by
  have h2 : (s.data.toList.drop i).length = (a ++ r).length := by rw [h]
  rw [List.length_drop, List.length_append, ← Lib.size_eq] at h2
  omega

set_option maxRecDepth 100000 in
set_option maxHeartbeats 1000000 in
theorem decodeString_any (s a : ByteArray) (i : Nat) (r : List UInt8) (hv : a.size < 16777216) (hi : i ≤ s.size) (hs : s.size ≤ 1099511627776) (h : s.data.toList.drop i = lenBytes a.size ++ (a.data.toList ++ r)) (w : World) :
    Calls Tryz.prog 158 #[.string s, .int .i64 i] w fun e w' => e = .returned (.tuple #[.string a, .int .i64 (i + lenSize a.size + a.size : Nat)]) ∧ Fr (fun _ => False) w w' := by
  have hD := decodeSize_any s i a.size _ hv (by omega) h w
  have h2 := drop_more h
  have hl := drop_le h hi
  rw [lenBytes_len] at h2 hl
  have hE := extract_at h2
  have hl2 := drop_le h2 hl
  have e1 : a.data.toList.length = a.size := by rw [← Lib.size_eq]
  rw [e1] at hl2
  clear h h2 e1
  generalize i + lenSize a.size = j at hD hE hl hl2 ⊢
  have hsl : ∀ W : World, (Instr.slice 9 (.string s) (some (.int .i64 (j : Int))) (some (.int .i64 ((j : Int) + a.size))) none).run Tryz.prog W = .ok (.string a) W := fun W => by
    rw [run_slice_string W 9 s .i64 .i64 j (j + a.size) Tryz.underlying9 (by omega) (by omega) (by omega)]
    have e2 : ((j : Int) + a.size).toNat = j + a.size := by omega
    rw [e2, Int.toNat_natCast, hE]
  go_enter Tryz.func158, Tryz.ntmps158
  go_wp2_with (go_at_call 150; refine hD.mono ?_; rintro e w1 ⟨rfl, hf⟩)
  refine bodyPost_ret (results_tmp2 rfl _ _ _) rfl ?_
  exact ⟨by simp, hf⟩

theorem labStr_size (l : List Lab) : (labStr l).size = labsSize l := by
  rw [← labsBytes_len]
  rfl

set_option maxRecDepth 100000 in
set_option maxHeartbeats 2000000 in
theorem range_any (l : List Lab) (g : FuncId) (cb : Array Value) (eg : ∀ args w, (callFunc g args).run Tryz.prog w = .ok (.enter g args) w) (J : Nat → World → Prop) (w : World)
    (hs : ∀ p ∈ l, p.1.size < 16777216 ∧ p.2.size < 16777216) (hsz : labsSize l ≤ 1099511627776)
    (hJ : ∀ k W W', J k W → Fr (fun _ => False) W W' → J k W') (h0 : J 0 w)
    (step : ∀ k x W, l[k]? = some x → J k W → Blk W w.heap.size 99 #[.string (labStr l)] → Calls Tryz.prog g (#[.agg #[.string x.1, .string x.2]] ++ cb) W fun r w' => r = .returned (.tuple #[]) ∧ J (k + 1) w' ∧ Blk w' w.heap.size 99 #[.string (labStr l)]) :
    Calls Tryz.prog 152 #[.agg #[.string (labStr l)], .func (.func g) #[] cb] w fun r w' => r = .returned (.tuple #[]) ∧ J l.length w' := by
  have hss : (labStr l).size ≤ 1099511627776 := by rw [labStr_size]; exact hsz
  have hd0 : (labStr l).data.toList.drop 0 = labsBytes (l.drop 0) := by simp [labStr]
  have J1 : J 0 (w.alloc (.cells #[.string (labStr l)] 99)) := hJ 0 w _ h0 ((Fr.refl _ w).alloc _)
  have B1 : Blk (w.alloc (.cells #[.string (labStr l)] 99)) w.heap.size 99 #[.string (labStr l)] := Blk.new w 99 _
  generalize hS : labStr l = s at *
  have STEP := Lib.hid step
  have HJ := Lib.hid hJ
  have HS := Lib.hid hs
  have HJ1 := Lib.hid J1
  have HB1 := Lib.hid B1
  have HD0 := Lib.hid hd0
  clear step hJ hs J1 B1 hd0 h0 hS
  go_enter Tryz.func152, Tryz.ntmps152
  go_wp2
  go_loopw [4] (fun vi wr => ∃ (i k : Nat), vi = .int .i64 i ∧ k ≤ l.length ∧ i ≤ s.size ∧ Hid (s.data.toList.drop i = labsBytes (l.drop k)) ∧ Hid (J k wr) ∧ Hid (Blk wr w.heap.size 99 #[.string s])) (fun vi _ => s.size - (intOf vi).toNat)
  case atStart => exact ⟨0, 0, rfl, Nat.zero_le _, Nat.zero_le _, HD0, HJ1, HB1⟩
  case round =>
    obtain ⟨i, k, rfl, hk, hi, HD, HJk, HB⟩ := hrel
    have c0 : wr.cell? ⟨w.heap.size, 0, none⟩ = some (.string s) := HB.out.cell 0
    by_cases hlt : k < l.length
    · obtain ⟨x, hx⟩ : ∃ x, l[k]? = some x := ⟨_, List.getElem?_eq_getElem hlt⟩
      have hxs := HS.out x (List.mem_of_getElem? hx)
      have hD : s.data.toList.drop i = lenBytes x.1.size ++ (x.1.data.toList ++ (lenBytes x.2.size ++ (x.2.data.toList ++ labsBytes (l.drop (k + 1))))) := by
        rw [HD.out, labsBytes_drop l k x hx]
        simp [labBytes]
      have q1 := fun W => decodeString_any s x.1 i _ hxs.1 hi hss hD W
      have d1 := drop_le hD hi
      have h2 := drop_more hD
      have d2 := drop_le h2 d1
      have h3 := drop_more h2
      have e1 : x.1.data.toList.length = x.1.size := by rw [← Lib.size_eq]
      rw [lenBytes_len, e1] at h3 d2
      obtain ⟨i2, hi2⟩ : ∃ i2, i + lenSize x.1.size + x.1.size = i2 := ⟨_, rfl⟩
      rw [hi2] at h3 d2
      have q2 := fun W => decodeString_any s x.2 i2 _ hxs.2 d2 hss h3 W
      have d3 := drop_le h3 d2
      have h4 := drop_more h3
      have d4 := drop_le h4 d3
      have h5 := drop_more h4
      have e2 : x.2.data.toList.length = x.2.size := by rw [← Lib.size_eq]
      rw [lenBytes_len, e2] at h5 d4
      obtain ⟨i3, hi3⟩ : ∃ i3, i2 + lenSize x.2.size + x.2.size = i3 := ⟨_, rfl⟩
      rw [hi3] at h5 d4
      simp only [hi2] at q1
      simp only [hi3] at q2
      have hpos : 0 < lenSize x.1.size := by unfold lenSize; split <;> omega
      have hlt1 : i < s.size := by omega
      have hgo : i < i3 := by omega
      have H5 := Lib.hid h5
      have HX := Lib.hid hx
      clear hD d1 h2 h3 d2 d3 h4 h5 e1 e2 hx hi2 hi3 hxs hpos
      go_wp2_with (first
        | (go_at_call_of 158 (Value.int .i64 (i : Int)); refine (q1 _).mono ?_; rintro r w1 ⟨rfl, hf1⟩; have HB2 := Lib.hid (HB.out.fr hf1 (fun e => e)); have HJ2 := Lib.hid (HJ.out _ _ _ HJk.out hf1); have c1 := HB2.out.cell 0)
        | (go_at_call_of 158 (Value.int .i64 (i2 : Int)); refine (q2 _).mono ?_; rintro r w2 ⟨rfl, hf2⟩; have HB3 := Lib.hid (HB2.out.fr hf2 (fun e => e)); have HJ3 := Lib.hid (HJ.out _ _ _ HJ2.out hf2))
        | (go_at_fn g; refine (STEP.out k x _ HX.out HJ3.out HB3.out).mono ?_; rintro r w3 ⟨rfl, hj4, hb4⟩))
      exact ⟨⟨i3, k + 1, rfl, hlt, d4, H5, Lib.hid hj4, Lib.hid hb4⟩, by show s.size - ((i3 : Int)).toNat < s.size - ((i : Int)).toNat; omega⟩
    · obtain rfl : k = l.length := by omega
      have hD := HD.out
      rw [List.drop_length] at hD
      have hi2 : i = s.size := by
        have h := congrArg List.length hD
        rw [List.length_drop, ← Lib.size_eq] at h
        simp [labsBytes] at h
        omega
      subst hi2
      have hlt1 : ¬ ((s.size : Int) < s.size) := by omega
      go_wp2
      go_end0
      exact ⟨rfl, HJk.out⟩
end Go.Proofs.YtbkookiigkckdaaGreatDoor

/- impl.unmade: labels as a list again. -/
namespace Go.Proofs.YtbkookiigkckdaaGreatDoor
open Go.RowKit
set_option linter.unusedVariables false
set_option linter.unusedSimpArgs false

theorem cv_fr {S : Nat → Prop} {w w' : World} (h : Fr S w w') (s : ByteArray) : Fr S w (Lib.bytesWorld w' 5 s) := by
  refine h.trans (S' := fun _ => False) ⟨?_, ?_, ?_, by rw [Lib.bytesWorld_size]; omega, fun k hk _ => Lib.bytesWorld_at_old w' 5 s k hk⟩ (fun _ _ e => e.elim)
  all_goals rfl
theorem cv_go (w : World) (s : ByteArray) : (convert 9 44 (.string s)).run Tryz.prog w = .ok (.slice (some ⟨w.heap.size, 0, none⟩) s.size (grownCap w s.size 0 5)) (Lib.bytesWorld w 5 s) :=
  Lib.run_convert_string_bytes w 9 44 5 s Tryz.underlying9 Tryz.underlying44 Tryz.underlying5
theorem cv_back (w : World) (s : ByteArray) (c : Nat) : (convert 44 9 (.slice (some ⟨w.heap.size, 0, none⟩) s.size c)).run Tryz.prog (Lib.bytesWorld w 5 s) = .ok (.string s) (Lib.bytesWorld w 5 s) := by
  have h := run_convert_bytes_back (P := Tryz.prog) (Lib.bytesWorld w 5 s) 44 9 5 ⟨w.heap.size, 0, none⟩ c s.data.toList Tryz.underlying44 Tryz.underlying5 Tryz.underlying9 (fun j hj => by
    have e1 : (⟨w.heap.size, 0, none⟩ : Addr).add j = ⟨w.heap.size, 0 + j, none⟩ := by unfold Addr.add; split <;> simp_all
    have hj2 : j < s.size := by rw [Lib.size_eq]; exact hj
    rw [e1, Nat.zero_add, Lib.bytesWorld_cell w 5 s j hj2]
    simp [List.getD, List.getElem?_eq_getElem hj])
  rw [← Lib.size_eq] at h
  rw [h]

/-- The row that unmade's closure writes. -/
def UJ (w0 : World) (c : Nat) (l : List Lab) (k : Nat) (W : World) : Prop :=
  ∃ v, Blk W c 31 #[v] ∧ W.ownsRow w0.heap.size 40 2 v k ((l.take k).flatMap labc) ∧ Fr (fun _ => False) w0 W

set_option maxRecDepth 100000 in
set_option maxHeartbeats 2000000 in
theorem unmade1_any (w0 : World) (c b : Nat) (hc : w0.heap.size ≤ c) (cs : Array Value) (l : List Lab) (k : Nat) (x : Lab) (hx : l[k]? = some x) (hl : l.length ≤ 1099511627776) (W : World) (h : UJ w0 c l k W) (hb : Blk W b 99 cs) :
    Calls Tryz.prog 163 #[.agg #[.string x.1, .string x.2], .pointer (some ⟨c, 0, none⟩)] W fun r w' => r = .returned (.tuple #[]) ∧ UJ w0 c l (k + 1) w' ∧ Blk w' b 99 cs := by
  obtain ⟨v, hcb, hown, hf⟩ := h
  obtain ⟨i0, hi0, hz0, hz1, hz2⟩ := info_parts Tryz.info40
  have hk : k < l.length := (List.getElem?_eq_some_iff.mp hx).1
  obtain ⟨n, y⟩ := x
  obtain ⟨W1, hW1⟩ : ∃ W1, W.alloc (.cells #[.string n, .string y] 108) = W1 := ⟨_, rfl⟩
  have hB1 : Blk W1 W.heap.size 108 #[.string n, .string y] := by rw [← hW1]; exact Blk.new W 108 _
  have F1 : Fr (fun _ => False) W W1 := by rw [← hW1]; exact (Fr.refl _ W).alloc _
  obtain ⟨W2, hW2⟩ : ∃ W2, Lib.bytesWorld W1 5 n = W2 := ⟨_, rfl⟩
  have F2 : Fr (fun _ => False) W1 W2 := by rw [← hW2]; exact cv_fr (Fr.refl _ W1) n
  obtain ⟨W3, hW3⟩ : ∃ W3, Lib.bytesWorld W2 5 y = W3 := ⟨_, rfl⟩
  have F3 : Fr (fun _ => False) W2 W3 := by rw [← hW3]; exact cv_fr (Fr.refl _ W2) y
  have a1 := cv_go W1 n
  have a2 := cv_back W1 n (grownCap W1 n.size 0 5)
  have a3 := cv_go W2 y
  have a4 := cv_back W2 y (grownCap W2 y.size 0 5)
  rw [hW2] at a1 a2
  rw [hW3] at a3 a4
  have c1 : W1.cell? ⟨c, 0, none⟩ = some v := (hcb.fr F1 (fun e => e)).cell 0
  have c2 : W1.cell? ⟨W.heap.size, 0, none⟩ = some (.string n) := hB1.cell 0
  have c3 : W2.cell? ⟨W.heap.size, 1, none⟩ = some (.string y) := (hB1.fr F2 (fun e => e)).cell 1
  obtain ⟨a', n', k', rfl⟩ := own_slice hown
  have FF : Fr (fun _ => False) W W3 := (F1.same F2).same F3
  have HO := Lib.hid (own_fr hown FF (fun _ _ e => e))
  have HC := Lib.hid (hcb.fr FF (fun e => e))
  have HBb := Lib.hid (hb.fr FF (fun e => e))
  have HF := Lib.hid (hf.same FF)
  have HX := Lib.hid hx
  have hsz0 : w0.heap.size ≤ W3.heap.size := (hf.same FF).size
  clear hown hcb hb hf FF F1 F2 F3 hB1
  go_enter Tryz.func163, Tryz.ntmps163
  go_wp2_with (at_builtin; refine Hid.out ?_)
  refine Lib.hid ?_
  refine wpList_append_src _ rfl _ _ 31 31 rfl w0.heap.size 40 i0 _ 2 32 Tryz.underlying31 hi0 hz0 hz1 hz2 rfl (by decide) _ k ((l.take k).flatMap labc) rfl (HO.out.alloc _) _ 1 (labc (n, y)) rfl (src_blk Tryz.underlying31 (Blk.new W3 40 (labc (n, y)).toArray) rfl (by simp [labc, Value.oneCell'])) (by unfold maxLen; omega) (by omega) (by simp; omega) ?_
  intro v' w2 hown' hgrow hat
  have hg : (W3.alloc (.cells (labc (n, y)).toArray 40)).grownBy w2 (Value.slice a' n' k').ownBlock := hgrow
  have n1 := own_ne HO.out HC.out (by decide)
  have n2 := own_ne HO.out HBb.out (by decide)
  have hC2 : Blk w2 c 31 #[.slice a' n' k'] := (HC.out.alloc _).grown hg (fun e => n1 e.symm)
  have hB2 : Blk w2 b 99 cs := (HBb.out.alloc _).grown hg (fun e => n2 e.symm)
  have hF2 : Fr (fun _ => False) w0 w2 := (HF.out.alloc _).grown hg (fun k hk => .inr ((HO.out.lt k hk).1))
  have hown2 : w2.ownsRow w0.heap.size 40 2 v' (k + 1) ((l.take (k + 1)).flatMap labc) := by rw [flatMap_take_succ labc l k _ HX.out]; exact hown'
  obtain ⟨a5, n5, k5, rfl⟩ := own_slice hown2
  have c4 := hC2.cell 0
  have f4 := hC2.frozen 0
  have hne : b ≠ c := Blk.ne_ hB2 hC2 (by decide)
  have HH := Lib.hid (And.intro hC2 (And.intro hB2 (And.intro hF2 (And.intro hown2 hne))))
  clear hgrow hat hg hown' n1 n2 hC2 hB2 hF2 hown2 hne a1 a2 a3 a4 c1 c2 c3 hW1 hW2 hW3
  go_wp2
  go_end0
  obtain ⟨hC2, hB2, hF2, hown2, hne⟩ := HH.out
  refine ⟨rfl, ⟨_, hC2.set_ 0 _, ?_, hF2.setCell (p := ⟨c, 0, none⟩) (.inr hc) _⟩, hB2.far hne _⟩
  exact own_fr (S := fun k => k = c) hown2 (Fr.at_ w2 c 0 _) (fun g hg e => own_ne hown2 hC2 (by decide) (by rw [hg]; exact congrArg some e))

theorem UJ.fr {w0 : World} {c : Nat} {l : List Lab} {k : Nat} {W W' : World} (h : UJ w0 c l k W) (hf : Fr (fun _ => False) W W') : UJ w0 c l k W' := by
  obtain ⟨v, h1, h2, h3⟩ := h
  exact ⟨v, h1.fr hf (fun e => e), own_fr h2 hf (fun _ _ e => e), h3.same hf⟩

set_option maxRecDepth 100000 in
set_option maxHeartbeats 2000000 in
theorem unmade_any (l : List Lab) (w : World) (hl : l.length ≤ 1099511627776) (hs : ∀ p ∈ l, p.1.size < 16777216 ∧ p.2.size < 16777216) (hsz : labsSize l ≤ 1099511627776) :
    Calls Tryz.prog 70 #[.agg #[.string (labStr l)]] w (LabEnds 40 w l) := by
  have eg : ∀ args w, (callFunc 163 args).run Tryz.prog w = .ok (.enter 163 args) w := enters_of Tryz.func163 (by kernel_rfl) rfl
  obtain ⟨W, hW⟩ : ∃ W, (w.alloc (.cells #[.string (labStr l)] 99)).alloc (.cells #[.slice none 0 0] 31) = W := ⟨_, rfl⟩
  have hb1 : Blk W (w.heap.size + 1) 31 #[.slice none 0 0] := by rw [← hW]; exact blk_new2 w _ 31 _
  have hF : Fr (fun _ => False) w W := by rw [← hW]; exact ((Fr.refl _ w).alloc _).alloc _
  have hJ0 : UJ w (w.heap.size + 1) l 0 W := ⟨_, hb1, World.ownsRow_nil _ _ _ _, hF⟩
  have hR := range_any l 163 #[.pointer (some ⟨w.heap.size + 1, 0, none⟩)] eg (UJ w (w.heap.size + 1) l) W hs hsz (fun _ _ _ h hf => h.fr hf) hJ0
    (fun k x W' hx hj hb => unmade1_any w (w.heap.size + 1) W.heap.size (by omega) _ l k x hx hl W' hj hb)
  have c0 : W.cell? ⟨w.heap.size, 0, none⟩ = some (.string (labStr l)) := by rw [← hW]; exact ((Blk.new w 99 #[.string (labStr l)]).alloc _).cell 0
  generalize labStr l = s at hR hW c0 ⊢
  clear hJ0 hF hb1 hs hsz
  have hmf : ∀ (fn : Fn) (first cap : Array Value) (w : World), (Instr.makeFunc fn first cap).run Tryz.prog w = .ok (.func fn first cap) w := fun _ _ _ _ => rfl
  go_enter Tryz.func70, Tryz.ntmps70
  go_wp2_with (go_at_call 152; refine hR.mono ?_; rintro r w1 ⟨rfl, v, h1, h2, h3⟩; have c1 := h1.cell 0)
  go_ret
  rw [List.take_length] at h2
  exact ⟨v, rfl, h2, h3⟩
end Go.Proofs.YtbkookiigkckdaaGreatDoor

/- Insertion sort, in plain Lean: what spec.Sorted computes. -/
namespace Go.Proofs.YtbkookiigkckdaaGreatDoor
/-- Where an element is put, from behind. -/
def lpos {α} (lt : α → α → Bool) (x : α) (out : List α) : Nat → Nat
  | 0 => 0
  | k + 1 => match out[k]? with
    | some y => if lt x y = true then lpos lt x out k else k + 1
    | none => k + 1
def lins {α} (lt : α → α → Bool) (out : List α) (x : α) : List α := out.take (lpos lt x out out.length) ++ x :: out.drop (lpos lt x out out.length)
def lsort {α} (lt : α → α → Bool) (l : List α) : List α := l.foldl (lins lt) []

theorem lpos_le {α} (lt : α → α → Bool) (x : α) (out : List α) : ∀ k, lpos lt x out k ≤ k
  | 0 => Nat.le_refl _
  | k + 1 => by
    unfold lpos
    split
    · split
      · exact Nat.le_succ_of_le (lpos_le lt x out k)
      · exact Nat.le_refl _
    · exact Nat.le_refl _
theorem lpos_behind {α} (lt : α → α → Bool) (x : α) (out : List α) : ∀ k j y, lpos lt x out k ≤ j → j < k → out[j]? = some y → lt x y = true
  | 0, j, y, _, h, _ => by omega
  | k + 1, j, y, h1, h2, hy => by
    unfold lpos at h1
    split at h1
    · rename_i z hz
      split at h1
      · rename_i hlt
        by_cases e : j = k
        · subst e; rw [hy] at hz; injection hz with hz; subst hz; exact hlt
        · exact lpos_behind lt x out k j y h1 (by omega) hy
      · omega
    · omega
theorem lpos_before {α} (lt : α → α → Bool) (x : α) (out : List α) : ∀ k p, k ≤ out.length → lpos lt x out k = p + 1 → ∃ y, out[p]? = some y ∧ lt x y = false
  | 0, p, _, h => by simp [lpos] at h
  | k + 1, p, hk, h => by
    unfold lpos at h
    split at h
    · rename_i z hz
      split at h
      · exact lpos_before lt x out k p (by omega) h
      · rename_i hlt
        injection h with h
        subst h
        exact ⟨z, hz, by simpa using hlt⟩
    · rename_i hz
      rw [List.getElem?_eq_none_iff] at hz
      omega

theorem lins_perm {α} (lt : α → α → Bool) (out : List α) (x : α) : (lins lt out x).Perm (x :: out) := by
  unfold lins
  refine List.perm_middle.trans ?_
  rw [List.take_append_drop]
theorem lins_sorted {α} (lt : α → α → Bool) (ht : ∀ a b c, lt a b = true → lt b c = true → lt a c = true) (hi : ∀ a, lt a a = false) (hn : ∀ a b c, lt a b = false → lt b c = false → lt a c = false)
    (out : List α) (x : α) (h : out.Pairwise (fun a b => lt b a = false)) : (lins lt out x).Pairwise (fun a b => lt b a = false) := by
  have hasym : ∀ a b, lt a b = true → lt b a = false := fun a b hab => by
    cases e : lt b a with
    | false => rfl
    | true => have := ht a b a hab e; rw [hi] at this; cases this
  unfold lins
  obtain ⟨p, hp⟩ : ∃ p, lpos lt x out out.length = p := ⟨_, rfl⟩
  rw [hp]
  have hle := lpos_le lt x out out.length
  rw [hp] at hle
  have hbehind : ∀ y ∈ out.drop p, lt x y = true := fun y hy => by
    obtain ⟨j, hj⟩ := List.mem_iff_getElem?.mp hy
    rw [List.getElem?_drop] at hj
    have hlt := (List.getElem?_eq_some_iff.mp hj).1
    exact lpos_behind lt x out out.length (p + j) y (by omega) hlt hj
  have hbefore : ∀ y ∈ out.take p, lt x y = false := fun y hy => by
    obtain ⟨j, hj⟩ := List.mem_iff_getElem?.mp hy
    rw [List.getElem?_take] at hj
    split at hj
    · rename_i hjp
      obtain ⟨q, rfl⟩ : ∃ q, p = q + 1 := ⟨p - 1, by omega⟩
      obtain ⟨z, hz, hxz⟩ := lpos_before lt x out out.length q (Nat.le_refl _) hp
      by_cases e : j = q
      · subst e; rw [hj] at hz; injection hz with hz; subst hz; exact hxz
      · have hq := (List.getElem?_eq_some_iff.mp hz)
        have hjj := (List.getElem?_eq_some_iff.mp hj)
        obtain ⟨hq1, hq2⟩ := hq
        obtain ⟨hj1, hj2⟩ := hjj
        have := List.pairwise_iff_getElem.mp h j q hj1 hq1 (by omega)
        rw [hq2, hj2] at this
        exact hn x z y hxz this
    · cases hj
  have hsplit := h
  rw [← List.take_append_drop p out, List.pairwise_append] at hsplit
  obtain ⟨h1, h2, h3⟩ := hsplit
  rw [List.pairwise_append]
  refine ⟨h1, List.pairwise_cons.mpr ⟨fun y hy => hasym _ _ (hbehind y hy), h2⟩, ?_⟩
  intro a ha b hb
  rcases List.mem_cons.mp hb with rfl | hb
  · exact hbefore a ha
  · exact h3 a ha b hb
theorem fold_sorted {α} (lt : α → α → Bool) (ht : ∀ a b c, lt a b = true → lt b c = true → lt a c = true) (hi : ∀ a, lt a a = false) (hn : ∀ a b c, lt a b = false → lt b c = false → lt a c = false) :
    ∀ (l out : List α), out.Pairwise (fun a b => lt b a = false) → (l.foldl (lins lt) out).Pairwise (fun a b => lt b a = false) ∧ (l.foldl (lins lt) out).Perm (l ++ out)
  | [], out, h => ⟨h, List.Perm.refl _⟩
  | x :: l, out, h => by
    have ⟨h1, h2⟩ := fold_sorted lt ht hi hn l (lins lt out x) (lins_sorted lt ht hi hn out x h)
    refine ⟨h1, h2.trans ?_⟩
    refine (List.Perm.append_left l (lins_perm lt out x)).trans ?_
    exact List.perm_middle
theorem lsort_sorted {α} (lt : α → α → Bool) (ht : ∀ a b c, lt a b = true → lt b c = true → lt a c = true) (hi : ∀ a, lt a a = false) (hn : ∀ a b c, lt a b = false → lt b c = false → lt a c = false) (l : List α) :
    (lsort lt l).Pairwise (fun a b => lt b a = false) ∧ (lsort lt l).Perm l := by
  have h := fold_sorted lt ht hi hn l [] List.Pairwise.nil
  rw [List.append_nil] at h
  exact h
theorem sorted_one {α} (lt : α → α → Bool) : ∀ (l l' : List α), l'.Perm l → l.Pairwise (fun a b => lt b a = false) → l'.Pairwise (fun a b => lt b a = false) →
    (∀ a ∈ l, ∀ b ∈ l, lt a b = false → lt b a = false → a = b) → l' = l
  | [], l', hp, _, _, _ => List.Perm.eq_nil hp
  | x :: l, [], hp, _, _, _ => by have := hp.length_eq; simp at this
  | x :: l, y :: l', hp, h, h', ha => by
    have ey : y = x := by
      have hy : y ∈ x :: l := hp.mem_iff.mp (List.mem_cons_self)
      have hx : x ∈ y :: l' := hp.mem_iff.mpr (List.mem_cons_self)
      rcases List.mem_cons.mp hy with e | hy'
      · exact e
      rcases List.mem_cons.mp hx with e | hx'
      · exact e.symm
      exact ha y hy x List.mem_cons_self ((List.pairwise_cons.mp h).1 y hy') ((List.pairwise_cons.mp h').1 x hx')
    subst ey
    have hp' := (List.perm_cons y).mp hp
    rw [sorted_one lt l l' hp' (List.pairwise_cons.mp h).2 (List.pairwise_cons.mp h').2 (fun a h1 b h2 => ha a (List.mem_cons_of_mem _ h1) b (List.mem_cons_of_mem _ h2))]
theorem lsort_snoc {α} (lt : α → α → Bool) (l : List α) (k : Nat) (x : α) (h : l[k]? = some x) : lsort lt (l.take (k + 1)) = lins lt (lsort lt (l.take k)) x := by
  obtain ⟨hk, rfl⟩ := List.getElem?_eq_some_iff.mp h
  unfold lsort
  rw [List.take_succ_eq_append_getElem hk, List.foldl_append]
  rfl
theorem lins_length {α} (lt : α → α → Bool) (out : List α) (x : α) : (lins lt out x).length = out.length + 1 := by
  rw [(lins_perm lt out x).length_eq]; rfl
theorem lsort_length {α} (lt : α → α → Bool) (l : List α) : (lsort lt l).length = l.length := by
  unfold lsort
  have : ∀ (l out : List α), (l.foldl (lins lt) out).length = l.length + out.length := by
    intro l
    induction l with
    | nil => intro out; simp
    | cons x l ih => intro out; rw [List.foldl_cons, ih, lins_length, List.length_cons]; omega
  rw [this]; simp
end Go.Proofs.YtbkookiigkckdaaGreatDoor

/- What spec.Sorted computes of unique names is what New keeps, in plain Lean. -/
namespace Go.Proofs.YtbkookiigkckdaaGreatDoor
open Go.RowKit Go.Sort
set_option linter.unusedVariables false
set_option linter.unusedSimpArgs false

def ltL (a b : Lab) : Bool := nlt a.1 b.1
theorem ltL_irrefl (a : Lab) : ltL a a = false := by simp [ltL, nlt, List.lt_irrefl]
theorem ltL_trans (a b c : Lab) (h1 : ltL a b = true) (h2 : ltL b c = true) : ltL a c = true := by
  simp only [ltL, nlt, decide_eq_true_eq] at *; exact List.lt_trans h1 h2
theorem ltL_ntrans (a b c : Lab) (h1 : ltL a b = false) (h2 : ltL b c = false) : ltL a c = false := by
  simp only [ltL, nlt, decide_eq_false_iff_not, List.not_lt] at *
  exact List.le_trans h2 h1
abbrev sortL (l : List Lab) : List Lab := lsort ltL l

theorem names_one : ∀ (l : List Lab), l.Pairwise (fun a b => a.1 ≠ b.1) → ∀ a ∈ l, ∀ b ∈ l, a.1 = b.1 → a = b
  | [], _, a, ha, _, _, _ => by cases ha
  | x :: l, h, a, ha, b, hb, e => by
    obtain ⟨h1, h2⟩ := List.pairwise_cons.mp h
    rcases List.mem_cons.mp ha with ea | ha2
    · subst ea
      rcases List.mem_cons.mp hb with eb | hb2
      · exact eb.symm
      · exact absurd e (h1 b hb2)
    · rcases List.mem_cons.mp hb with eb | hb2
      · subst eb
        exact absurd e.symm (h1 a ha2)
      · exact names_one l h2 a ha2 b hb2 e

/-- What New keeps of labels with unique names is what spec.Sorted returns. -/
theorem sorted_same (l l' : List Lab) (hp : l'.Perm l) (hs : l'.Pairwise (fun a b => nlt b.1 a.1 = false)) (hu : l.Pairwise (fun a b => a.1 ≠ b.1)) : l' = sortL l := by
  obtain ⟨h1, h2⟩ := lsort_sorted ltL ltL_trans ltL_irrefl ltL_ntrans l
  refine sorted_one ltL (sortL l) l' (hp.trans h2.symm) h1 hs ?_
  intro a ha b hb h3 h4
  refine names_one l hu a (h2.mem_iff.mp ha) b (h2.mem_iff.mp hb) ?_
  simp only [ltL, nlt, decide_eq_false_iff_not, List.not_lt] at h3 h4
  have h5 : a.1.data.toList = b.1.data.toList := List.le_antisymm h4 h3
  exact ByteArray.ext (Array.toList_inj.1 h5)

end Go.Proofs.YtbkookiigkckdaaGreatDoor

/- SameParts: its callees at lists that are the same. -/
namespace Go.Proofs.YtbkookiigkckdaaGreatDoor
open Go.RowKit
set_option linter.unusedVariables false
set_option linter.unusedSimpArgs false

def TrueEnds (w : World) (r : Ending) (w' : World) : Prop := r = .returned (.bool true) ∧ Fr (fun _ => False) w w'

theorem same103_nil (A B : Option Addr) (c d : Nat) (w : World) : Calls Tryz.prog 103 #[.slice A 0 c, .slice B 0 d] w (TrueEnds w) := by
  go_enter Tryz.func103, Tryz.ntmps103
  go_wp2
  go_loopw [5] (fun i wr => i = .int .i64 0 ∧ wr = w) (fun i _ => 0)
  case atStart => exact ⟨rfl, rfl⟩
  case round =>
    obtain ⟨rfl, rfl⟩ := hrel
    go_wp2
    go_ret
    exact ⟨rfl, Fr.refl _ _⟩
theorem same104_nil (A B : Option Addr) (c d : Nat) (w : World) : Calls Tryz.prog 104 #[.slice A 0 c, .slice B 0 d] w (TrueEnds w) := by
  go_enter Tryz.func104, Tryz.ntmps104
  go_wp2
  go_loopw [5] (fun i wr => i = .int .i64 0 ∧ wr = w) (fun i _ => 0)
  case atStart => exact ⟨rfl, rfl⟩
  case round =>
    obtain ⟨rfl, rfl⟩ := hrel
    go_wp2
    go_ret
    exact ⟨rfl, Fr.refl _ _⟩
theorem same102_nil (A B : Option Addr) (c d : Nat) (w : World) : Calls Tryz.prog 102 #[.slice A 0 c, .slice B 0 d] w (TrueEnds w) := by
  go_enter Tryz.func102, Tryz.ntmps102
  go_wp2
  go_loopw [5] (fun i wr => i = .int .i64 0 ∧ wr = w) (fun i _ => 0)
  case atStart => exact ⟨rfl, rfl⟩
  case round =>
    obtain ⟨rfl, rfl⟩ := hrel
    go_wp2
    go_ret
    exact ⟨rfl, Fr.refl _ _⟩
theorem same37_nil (A B : Option Addr) (c d : Nat) (w : World) : Calls Tryz.prog 37 #[.slice A 0 c, .slice B 0 d] w (TrueEnds w) := by
  go_enter Tryz.func37, Tryz.ntmps37
  go_wp2
  go_loopw [5] (fun i wr => i = .int .i64 0 ∧ wr = w) (fun i _ => 0)
  case atStart => exact ⟨rfl, rfl⟩
  case round =>
    obtain ⟨rfl, rfl⟩ := hrel
    go_wp2
    go_ret
    exact ⟨rfl, Fr.refl _ _⟩

/-- The elements of two slices that read alike: same says true. -/
theorem same101_any (P Q : Nat → Prop) (u v : Value) (l : List Smp) (w : World) (hu : Sl P w u 3 l.length (l.flatMap Smp.a)) (hv : Sl Q w v 3 l.length (l.flatMap Smp.a)) (hl : l.length ≤ 1099511627776) : Calls Tryz.prog 101 #[u, v] w (TrueEnds w) := by
  obtain ⟨A, c, rfl, _, hc, hr⟩ := hu
  obtain ⟨B, d, rfl, _, hd, hs⟩ := hv
  obtain ⟨n, hn⟩ : ∃ n, l.length = n := ⟨_, rfl⟩
  rw [hn] at hr hs hc hd hl ⊢
  have HN := Lib.hid hn
  have HR := Lib.hid hr
  have HS := Lib.hid hs
  clear hn hr hs
  go_enter Tryz.func101, Tryz.ntmps101
  go_wp2
  go_loopw [5] (fun i wr => ∃ k : Nat, k ≤ n ∧ i = .int .i64 k ∧ Fr (fun _ => False) w wr) (fun i _ => n - (intOf i).toNat)
  case atStart => exact ⟨0, Nat.zero_le _, rfl, Fr.refl _ _⟩
  case round =>
    obtain ⟨k, hk, rfl, hf⟩ := hrel
    by_cases hlt : k < n
    · obtain ⟨g, off, rfl, _, hcell⟩ := HR.out (by omega)
      obtain ⟨g2, off2, rfl, _, hcell2⟩ := HS.out (by omega)
      obtain ⟨x, hx⟩ : ∃ x, l[k]? = some x := ⟨_, List.getElem?_eq_getElem (by rw [HN.out]; exact hlt)⟩
      have key : ∀ {g off : Nat}, (∀ j u, (l.flatMap Smp.a)[j]? = some u → w.cell? ⟨g, off + j, none⟩ = some u) → ∀ j, j < 3 → ∀ u, (Smp.a x)[j]? = some u → wr.drew.cell? ⟨g, off + (k * 3 + j), none⟩ = some u := fun {g off} hcell j hj u hu => by
        have := hcell (k * 3 + j) u (by rw [flat3 Smp.a (fun _ => rfl) l k x hx j hj]; exact hu)
        rw [hf.drew.cell (p := ⟨g, off + (k * 3 + j), none⟩) (World.block_lt_of_cell? w _ this) (fun e => e)]
        exact this
      have c0 : wr.drew.cell? ⟨g, off + k * 3, none⟩ = some (.int .u64 x.ref) := key hcell 0 (by omega) _ rfl
      have c1 : wr.drew.cell? ⟨g, off + k * 3 + 1, none⟩ = some (.int .i64 x.t) := key hcell 1 (by omega) _ rfl
      have c2 : wr.drew.cell? ⟨g, off + k * 3 + 2, none⟩ = some (.int .u64 x.v) := key hcell 2 (by omega) _ rfl
      have d0 : wr.drew.cell? ⟨g2, off2 + k * 3, none⟩ = some (.int .u64 x.ref) := key hcell2 0 (by omega) _ rfl
      have d1 : wr.drew.cell? ⟨g2, off2 + k * 3 + 1, none⟩ = some (.int .i64 x.t) := key hcell2 1 (by omega) _ rfl
      have d2 : wr.drew.cell? ⟨g2, off2 + k * 3 + 2, none⟩ = some (.int .u64 x.v) := key hcell2 2 (by omega) _ rfl
      have hf2 := Lib.hid hf.drew
      clear hcell hcell2 key hf hx
      go_wp2
      go_region
      go_wp2
      go_roundw
      case rel => exact ⟨k + 1, by omega, by go_num, hf2.out⟩
      case measure => simp [intOf]; omega
    · obtain rfl : k = n := by omega
      go_wp2
      go_ret
      exact ⟨rfl, hf⟩

set_option maxRecDepth 100000 in
set_option maxHeartbeats 2000000 in
theorem sameParts_of (A0 B0 A3 B3 : Option Addr) (c0 d0 c3 d3 : Nat) (p1 p2 p4 p5 p6 q1 q2 q4 q5 q6 : Value) (w : World)
    (hsl : ∀ s ∈ [p1, p2, p4, p5, p6, q1, q2, q4, q5, q6], ∃ A m c, s = .slice A m c)
    (h1 : ∀ W, Fr (fun _ => False) w W → Calls Tryz.prog 101 #[p1, q1] W (TrueEnds W)) (h2 : ∀ W, Fr (fun _ => False) w W → Calls Tryz.prog 102 #[p2, q2] W (TrueEnds W)) (h4 : ∀ W, Fr (fun _ => False) w W → Calls Tryz.prog 103 #[p4, q4] W (TrueEnds W))
    (h5 : ∀ W, Fr (fun _ => False) w W → Calls Tryz.prog 104 #[p5, q5] W (TrueEnds W)) (h6 : ∀ W, Fr (fun _ => False) w W → Calls Tryz.prog 37 #[p6, q6] W (TrueEnds W)) :
    Calls Tryz.prog 32 #[.agg #[.slice A0 0 c0, p1, p2, .slice A3 0 c3, p4, p5, p6], .agg #[.slice B0 0 d0, q1, q2, .slice B3 0 d3, q4, q5, q6]] w (TrueEnds w) := by
  obtain ⟨a1, m1, k1, rfl⟩ := hsl p1 (by simp)
  obtain ⟨a2, m2, k2, rfl⟩ := hsl p2 (by simp)
  obtain ⟨a4, m4, k4, rfl⟩ := hsl p4 (by simp)
  obtain ⟨a5, m5, k5, rfl⟩ := hsl p5 (by simp)
  obtain ⟨a6, m6, k6, rfl⟩ := hsl p6 (by simp)
  obtain ⟨b1, n1, j1, rfl⟩ := hsl q1 (by simp)
  obtain ⟨b2, n2, j2, rfl⟩ := hsl q2 (by simp)
  obtain ⟨b4, n4, j4, rfl⟩ := hsl q4 (by simp)
  obtain ⟨b5, n5, j5, rfl⟩ := hsl q5 (by simp)
  obtain ⟨b6, n6, j6, rfl⟩ := hsl q6 (by simp)
  have H1 := Lib.hid h1
  have H2 := Lib.hid h2
  have H4 := Lib.hid h4
  have H5 := Lib.hid h5
  have H6 := Lib.hid h6
  clear hsl h1 h2 h4 h5 h6
  go_enter Tryz.func32, Tryz.ntmps32
  go_wp2_with fail
  have hP := (Blk.new w 54 #[.slice A0 0 c0, .slice a1 m1 k1, .slice a2 m2 k2, .slice A3 0 c3, .slice a4 m4 k4, .slice a5 m5 k5, .slice a6 m6 k6]).alloc (.cells #[.slice B0 0 d0, .slice b1 n1 j1, .slice b2 n2 j2, .slice B3 0 d3, .slice b4 n4 j4, .slice b5 n5 j5, .slice b6 n6 j6] 54)
  have hQ := Blk.new (w.alloc (.cells #[.slice A0 0 c0, .slice a1 m1 k1, .slice a2 m2 k2, .slice A3 0 c3, .slice a4 m4 k4, .slice a5 m5 k5, .slice a6 m6 k6] 54)) 54 #[.slice B0 0 d0, .slice b1 n1 j1, .slice b2 n2 j2, .slice B3 0 d3, .slice b4 n4 j4, .slice b5 n5 j5, .slice b6 n6 j6]
  obtain ⟨W, hW⟩ : ∃ W, (w.alloc (.cells #[.slice A0 0 c0, .slice a1 m1 k1, .slice a2 m2 k2, .slice A3 0 c3, .slice a4 m4 k4, .slice a5 m5 k5, .slice a6 m6 k6] 54)).alloc (.cells #[.slice B0 0 d0, .slice b1 n1 j1, .slice b2 n2 j2, .slice B3 0 d3, .slice b4 n4 j4, .slice b5 n5 j5, .slice b6 n6 j6] 54) = W := ⟨_, rfl⟩
  have hF : Fr (fun _ => False) w W := hW ▸ ((Fr.refl _ w).alloc _).alloc _
  rw [hW] at hP hQ ⊢
  have e1 : ∀ (w : World) (o : Obj), (w.alloc o).heap.size = w.heap.size + 1 := fun w o => by simp
  rw [e1] at hQ
  have x0 := hP.cell 0
  have x1 := hP.cell 1
  have x2 := hP.cell 2
  have x3 := hP.cell 3
  have x4 := hP.cell 4
  have x5 := hP.cell 5
  have x6 := hP.cell 6
  have y0 := hQ.cell 0
  have y1 := hQ.cell 1
  have y2 := hQ.cell 2
  have y3 := hQ.cell 3
  have y4 := hQ.cell 4
  have y5 := hQ.cell 5
  have y6 := hQ.cell 6
  simp only [List.getElem?_toArray, List.getElem?_cons_zero, List.getElem?_cons_succ] at x0 x1 x2 x3 x4 x5 x6 y0 y1 y2 y3 y4 y5 y6
  have HP := Lib.hid hP
  have HQ := Lib.hid hQ
  have HF := Lib.hid hF
  clear hW hP hQ hF e1
  go_loopw [5] (fun i wr => i = .int .i64 0 ∧ wr = W) (fun i _ => 0)
  case atStart => exact ⟨rfl, rfl⟩
  case round =>
    obtain ⟨rfl, rfl⟩ := hrel
    go_wp2_with fail
    go_loopw [6] (fun i w' => i = .int .i64 0 ∧ w' = wr) (fun i _ => 0)
    case atStart => exact ⟨rfl, rfl⟩
    case round =>
      obtain ⟨rfl, rfl⟩ := hrel
      go_wp2_with (go_at_call 101; refine (H1.out _ HF.out).mono ?_; rintro r W1 ⟨rfl, hf1⟩; refine Hid.out ?_)
      have F1 := Lib.hid (HF.out.same hf1)
      have hP1 := HP.out.fr hf1 (fun e => e)
      have hQ1 := HQ.out.fr hf1 (fun e => e)
      have P1 := Lib.hid hP1
      have Q1 := Lib.hid hQ1
      have u1 := hP1.cell 2
      have v1 := hQ1.cell 2
      simp only [List.getElem?_toArray, List.getElem?_cons_zero, List.getElem?_cons_succ] at u1 v1
      clear hf1 hP1 hQ1
      refine Lib.hid ?_
      go_wp2_with (go_at_call 102; refine (H2.out _ F1.out).mono ?_; rintro r W2 ⟨rfl, hf2⟩; refine Hid.out ?_)
      have F2 := Lib.hid (F1.out.same hf2)
      have hP2 := P1.out.fr hf2 (fun e => e)
      have hQ2 := Q1.out.fr hf2 (fun e => e)
      have P2 := Lib.hid hP2
      have Q2 := Lib.hid hQ2
      have u2 := hP2.cell 4
      have v2 := hQ2.cell 4
      simp only [List.getElem?_toArray, List.getElem?_cons_zero, List.getElem?_cons_succ] at u2 v2
      clear hf2 hP2 hQ2
      refine Lib.hid ?_
      go_wp2_with (go_at_call 103; refine (H4.out _ F2.out).mono ?_; rintro r W3 ⟨rfl, hf3⟩; refine Hid.out ?_)
      have F3 := Lib.hid (F2.out.same hf3)
      have hP3 := P2.out.fr hf3 (fun e => e)
      have hQ3 := Q2.out.fr hf3 (fun e => e)
      have P3 := Lib.hid hP3
      have Q3 := Lib.hid hQ3
      have u3 := hP3.cell 5
      have v3 := hQ3.cell 5
      simp only [List.getElem?_toArray, List.getElem?_cons_zero, List.getElem?_cons_succ] at u3 v3
      clear hf3 hP3 hQ3
      refine Lib.hid ?_
      go_wp2_with (go_at_call 104; refine (H5.out _ F3.out).mono ?_; rintro r W4 ⟨rfl, hf4⟩; refine Hid.out ?_)
      have F4 := Lib.hid (F3.out.same hf4)
      have hP4 := P3.out.fr hf4 (fun e => e)
      have hQ4 := Q3.out.fr hf4 (fun e => e)
      have P4 := Lib.hid hP4
      have Q4 := Lib.hid hQ4
      have u4 := hP4.cell 6
      have v4 := hQ4.cell 6
      simp only [List.getElem?_toArray, List.getElem?_cons_zero, List.getElem?_cons_succ] at u4 v4
      clear hf4 hP4 hQ4
      refine Lib.hid ?_
      go_wp2_with (go_at_call 37; refine (H6.out _ F4.out).mono ?_; rintro r W5 ⟨rfl, hf5⟩; refine Hid.out ?_)
      have F5 := Lib.hid (F4.out.same hf5)
      have hP5 := P4.out.fr hf5 (fun e => e)
      have hQ5 := Q4.out.fr hf5 (fun e => e)
      have P5 := Lib.hid hP5
      have Q5 := Lib.hid hQ5
      clear hf5 hP5 hQ5
      refine Lib.hid ?_
      go_wp2
      go_ret
      exact ⟨rfl, F5.out⟩
end Go.Proofs.YtbkookiigkckdaaGreatDoor

/- spec.SameLabels at equal labels, spec.LabelsRight, spec.Sorted. -/
namespace Go.Proofs.YtbkookiigkckdaaGreatDoor
open Go.RowKit
set_option linter.unusedVariables false
set_option linter.unusedSimpArgs false

set_option maxHeartbeats 400000 in
/-- The elements of two slices that read alike: SameLabels says true. -/
theorem sameLabels_any (P Q : Nat → Prop) (u v : Value) (l : List Lab) (w : World) (hu : Sl P w u 2 l.length (l.flatMap labc)) (hv : Sl Q w v 2 l.length (l.flatMap labc)) (hl : l.length ≤ 1099511627776) : Calls Tryz.prog 25 #[u, v] w (TrueEnds w) := by
  obtain ⟨A, c, rfl, _, hc, hr⟩ := hu
  obtain ⟨B, d, rfl, _, hd, hs⟩ := hv
  obtain ⟨n, hn⟩ : ∃ n, l.length = n := ⟨_, rfl⟩
  rw [hn] at hr hs hc hd hl ⊢
  have HN := Lib.hid hn
  have HR := Lib.hid hr
  have HS := Lib.hid hs
  clear hn hr hs
  go_enter Tryz.func25, Tryz.ntmps25
  go_wp2
  go_loopw [5] (fun i wr => ∃ k : Nat, k ≤ n ∧ i = .int .i64 k ∧ Fr (fun _ => False) w wr) (fun i _ => n - (intOf i).toNat)
  case atStart => exact ⟨0, Nat.zero_le _, rfl, Fr.refl _ _⟩
  case round =>
    obtain ⟨k, hk, rfl, hf⟩ := hrel
    by_cases hlt : k < n
    · obtain ⟨g, off, rfl, _, hcell⟩ := HR.out (by omega)
      obtain ⟨g2, off2, rfl, _, hcell2⟩ := HS.out (by omega)
      obtain ⟨x, hx⟩ : ∃ x, l[k]? = some x := ⟨_, List.getElem?_eq_getElem (by rw [HN.out]; exact hlt)⟩
      have key : ∀ {g off : Nat}, (∀ j u, (l.flatMap labc)[j]? = some u → w.cell? ⟨g, off + j, none⟩ = some u) → ∀ j, j < 2 → ∀ u, (labc x)[j]? = some u → wr.drew.cell? ⟨g, off + (k * 2 + j), none⟩ = some u := fun {g off} hcell j hj u hu => by
        have := hcell (k * 2 + j) u (by rw [flat2 labc (fun _ => rfl) l k x hx j hj]; exact hu)
        rw [hf.drew.cell (p := ⟨g, off + (k * 2 + j), none⟩) (World.block_lt_of_cell? w _ this) (fun e => e)]
        exact this
      have c0 : wr.drew.cell? ⟨g, off + k * 2, none⟩ = some (.string x.1) := key hcell 0 (by omega) _ rfl
      have c1 : wr.drew.cell? ⟨g, off + k * 2 + 1, none⟩ = some (.string x.2) := key hcell 1 (by omega) _ rfl
      have d0 : wr.drew.cell? ⟨g2, off2 + k * 2, none⟩ = some (.string x.1) := key hcell2 0 (by omega) _ rfl
      have d1 : wr.drew.cell? ⟨g2, off2 + k * 2 + 1, none⟩ = some (.string x.2) := key hcell2 1 (by omega) _ rfl
      have hf2 := Lib.hid hf.drew
      clear hcell hcell2 key hf hx
      go_wp2
      go_region
      go_wp2
      go_roundw
      case rel => exact ⟨k + 1, by omega, by go_num, hf2.out⟩
      case measure => simp [intOf]; omega
    · obtain rfl : k = n := by omega
      go_wp2
      go_ret
      exact ⟨rfl, hf⟩

/-- Labels that are spoken of. -/
def LabOk (l : List Lab) (most bytes : Nat) : Prop := l.length ≤ most ∧ (∀ p ∈ l, p.1.size ≠ 0 ∧ p.1.size ≤ bytes ∧ p.2.size ≤ bytes) ∧ l.Pairwise (fun a b => a.1 ≠ b.1)
def RightEnds (l : List Lab) (most bytes : Nat) (w : World) (r : Ending) (w' : World) : Prop := ∃ b : Bool, r = .returned (.bool b) ∧ (b = true ↔ LabOk l most bytes) ∧ Fr (fun _ => False) w w'
def LabPre (l : List Lab) (bytes k : Nat) : Prop :=
  (∀ (i : Nat) (x : Lab), i < k → l[i]? = some x → x.1.size ≠ 0 ∧ x.1.size ≤ bytes ∧ x.2.size ≤ bytes) ∧ ∀ (i j : Nat) (x y : Lab), j < i → i < k → l[i]? = some x → l[j]? = some y → y.1 ≠ x.1
theorem LabPre.ok {l : List Lab} {most bytes : Nat} (h : LabPre l bytes l.length) (hl : l.length ≤ most) : LabOk l most bytes := by
  refine ⟨hl, fun p hp => ?_, ?_⟩
  · obtain ⟨i, hi⟩ := List.mem_iff_getElem?.mp hp
    exact h.1 i p (List.getElem?_eq_some_iff.mp hi).1 hi
  · rw [List.pairwise_iff_getElem]
    intro i j hi hj hij
    exact h.2 j i _ _ hij hj (List.getElem?_eq_getElem hj) (List.getElem?_eq_getElem hi)
theorem LabOk.at {l : List Lab} {most bytes : Nat} (h : LabOk l most bytes) (k : Nat) (x : Lab) (hx : l[k]? = some x) : x.1.size ≠ 0 ∧ x.1.size ≤ bytes ∧ x.2.size ≤ bytes := h.2.1 x (List.mem_of_getElem? hx)
theorem LabOk.ne {l : List Lab} {most bytes : Nat} (h : LabOk l most bytes) (k j : Nat) (x y : Lab) (hx : l[k]? = some x) (hy : l[j]? = some y) (hj : j < k) : y.1 ≠ x.1 := by
  obtain ⟨hk, rfl⟩ := List.getElem?_eq_some_iff.mp hx
  obtain ⟨hj', rfl⟩ := List.getElem?_eq_some_iff.mp hy
  exact List.pairwise_iff_getElem.mp h.2.2 j k hj' hk hj

theorem empty_iff (s : ByteArray) : s.toList.isEmpty = decide (s.size = 0) := by
  rw [Lib.toList_data, Lib.size_eq]
  cases s.data.toList <;> simp

set_option maxRecDepth 100000 in
set_option maxHeartbeats 2000000 in
theorem labelsRight_any (P : Nat → Prop) (v : Value) (l : List Lab) (most bytes : Nat) (w : World) (h : Sl P w v 2 l.length (l.flatMap labc)) (hl : l.length ≤ 1099511627776) (hm : most ≤ 1099511627776) (hb : bytes ≤ 1099511627776) :
    Calls Tryz.prog 53 #[v, .int .i64 most, .int .i64 bytes] w (RightEnds l most bytes w) := by
  obtain ⟨A, c, rfl, _, hc, hr⟩ := h
  obtain ⟨n, hn⟩ : ∃ n, l.length = n := ⟨_, rfl⟩
  rw [hn] at hr hc hl ⊢
  have HN := Lib.hid hn
  have HR := Lib.hid hr
  clear hn hr
  by_cases hmn : most < n
  · have hmn' : (most : Int) < n := by omega
    go_enter Tryz.func53, Tryz.ntmps53
    go_wp2
    go_ret
    exact ⟨false, rfl, ⟨fun h => (by cases h), fun h => absurd h.1 (by rw [HN.out]; omega)⟩, Fr.refl _ _⟩
  · have hmn' : ¬ (most : Int) < n := by omega
    go_enter Tryz.func53, Tryz.ntmps53
    go_wp2
    go_loopw [7] (fun i wr => ∃ k : Nat, k ≤ n ∧ i = .int .i64 k ∧ Hid (LabPre l bytes k) ∧ Hid (Fr (fun _ => False) w wr)) (fun i _ => n - (intOf i).toNat)
    case atStart => exact ⟨0, Nat.zero_le _, rfl, Lib.hid ⟨fun i x h => absurd h (Nat.not_lt_zero _), fun i j x y _ h => absurd h (Nat.not_lt_zero _)⟩, Lib.hid (Fr.refl _ _)⟩
    case round =>
      obtain ⟨k, hk, rfl, HP, HF⟩ := hrel
      by_cases hlt : k < n
      · obtain ⟨g, off, rfl, _, hcell⟩ := HR.out (by omega)
        obtain ⟨x, hx⟩ : ∃ x, l[k]? = some x := ⟨_, List.getElem?_eq_getElem (by rw [HN.out]; exact hlt)⟩
        have key : ∀ (i : Nat) (z : Lab), l[i]? = some z → ∀ W, Fr (fun _ => False) w W → W.cell? ⟨g, off + i * 2, none⟩ = some (.string z.1) ∧ W.cell? ⟨g, off + i * 2 + 1, none⟩ = some (.string z.2) := fun i z hz W hF => by
          have cc : ∀ j, j < 2 → ∀ u, (labc z)[j]? = some u → W.cell? ⟨g, off + (i * 2 + j), none⟩ = some u := fun j hj u hu => by
            have := hcell (i * 2 + j) u (by rw [flat2 labc (fun _ => rfl) l i z hz j hj]; exact hu)
            rw [hF.cell (p := ⟨g, off + (i * 2 + j), none⟩) (World.block_lt_of_cell? w _ this) (fun e => e)]
            exact this
          exact ⟨cc 0 (by omega) _ rfl, cc 1 (by omega) _ rfl⟩
        obtain ⟨c0, c1⟩ := key k x hx wr HF.out
        have HK := Lib.hid key
        have HX := Lib.hid hx
        clear key hcell hx
        by_cases e0 : x.1.size = 0
        · have e0' : x.1.toList.isEmpty = true := by rw [empty_iff]; exact decide_eq_true e0
          go_wp2
          go_ret
          exact ⟨false, rfl, ⟨fun h => (by cases h), fun h => absurd e0 (h.at k x HX.out).1⟩, HF.out⟩
        · have e0' : x.1.toList.isEmpty = false := by rw [empty_iff]; exact decide_eq_false e0
          by_cases h1 : bytes < x.1.size
          · have h1' : (bytes : Int) < x.1.size := by omega
            go_wp2
            go_ret
            exact ⟨false, rfl, ⟨fun h => (by cases h), fun h => absurd h1 (by have := (h.at k x HX.out).2.1; omega)⟩, HF.out⟩
          · have h1' : ¬ (bytes : Int) < x.1.size := by omega
            by_cases h2 : bytes < x.2.size
            · have h2' : (bytes : Int) < x.2.size := by omega
              go_wp2
              go_ret
              exact ⟨false, rfl, ⟨fun h => (by cases h), fun h => absurd h2 (by have := (h.at k x HX.out).2.2; omega)⟩, HF.out⟩
            · have h2' : ¬ (bytes : Int) < x.2.size := by omega
              go_wp2
              clear c0 c1
              go_loopw [8] (fun i w' => ∃ j : Nat, j ≤ k ∧ i = .int .i64 j ∧ Hid (∀ (i : Nat) (y : Lab), i < j → l[i]? = some y → y.1 ≠ x.1) ∧ Hid (Fr (fun _ => False) w w')) (fun i _ => k - (intOf i).toNat)
              case atStart => exact ⟨0, Nat.zero_le _, rfl, Lib.hid (fun i y h => absurd h (Nat.not_lt_zero _)), HF⟩
              case round =>
                obtain ⟨j, hj, rfl, HJ, HF2⟩ := hrel
                by_cases hlt2 : j < k
                · obtain ⟨y, hy⟩ : ∃ y, l[j]? = some y := ⟨_, List.getElem?_eq_getElem (by rw [HN.out]; omega)⟩
                  obtain ⟨c0, _⟩ := HK.out k x HX.out wr HF2.out
                  obtain ⟨b0, _⟩ := HK.out j y hy wr HF2.out
                  obtain ⟨d0, _⟩ := HK.out k x HX.out wr.drew HF2.out.drew
                  obtain ⟨d1, _⟩ := HK.out j y hy wr.drew HF2.out.drew
                  have HY := Lib.hid hy
                  have HF3 := Lib.hid HF2.out.drew
                  clear hy
                  by_cases he : y.1 = x.1
                  · have HE := Lib.hid he
                    go_wp2
                    go_region
                    all_goals go_wp2
                    go_ret
                    exact ⟨false, rfl, ⟨fun h => (by cases h), fun h => absurd HE.out (h.ne k j x y HX.out HY.out hlt2)⟩, HF3.out⟩
                  · have he1 : (y.1.toList == x.1.toList) = false := by rw [beq_eq_false_iff_ne, Lib.toList_data, Lib.toList_data]; exact fun e => he (ByteArray.ext (Array.toList_inj.1 e))
                    have HE := Lib.hid he
                    go_wp2
                    go_region
                    all_goals go_wp2
                    refine ⟨⟨j + 1, hlt2, rfl, Lib.hid ?_, HF3⟩, ?_⟩
                    · intro i z hi hz
                      by_cases e : i = j
                      · subst e
                        have := HY.out
                        rw [hz] at this
                        injection this with this
                        rw [this]; exact HE.out
                      · exact HJ.out i z (by omega) hz
                    · show k - ((j : Int) + 1).toNat < k - (j : Int).toNat; omega
                · obtain rfl : j = k := by omega
                  go_wp2
                  go_roundw
                  case rel =>
                    refine ⟨j + 1, by omega, by go_num, Lib.hid ?_, HF2⟩
                    have hp := HP.out
                    refine ⟨fun i z hi hz => ?_, fun i j' z y hji hi hz hy => ?_⟩
                    · by_cases e : i = j
                      · subst e
                        have := HX.out
                        rw [hz] at this
                        injection this with this
                        rw [this]; exact ⟨e0, by omega, by omega⟩
                      · exact hp.1 i z (by omega) hz
                    · by_cases e : i = j
                      · subst e
                        have := HX.out
                        rw [hz] at this
                        injection this with this
                        rw [this]; exact HJ.out j' y hji hy
                      · exact hp.2 i j' z y hji (by omega) hz hy
                  case measure => simp [intOf]; omega
      · obtain rfl : k = n := by omega
        go_wp2
        go_ret
        refine ⟨true, rfl, ⟨fun _ => ?_, fun _ => rfl⟩, HF.out⟩
        have hp := HP.out
        rw [← HN.out] at hp
        exact hp.ok (by rw [HN.out]; omega)
end Go.Proofs.YtbkookiigkckdaaGreatDoor

