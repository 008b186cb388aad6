/- labels.New. -/
import Derived.Test.YtbkookiigkckdaaGreatDoorLs
import Derived.Laws.IdiomStrings
import Derived.Deep.OwnRows
namespace Go.Proofs.YtbkookiigkckdaaGreatDoor
open Go.RowKit
set_option linter.unusedVariables false
set_option linter.unusedSimpArgs false

theorem yolo_any (g n c : Nat) (bs : List UInt8) (w : World) (h : Buf w g n 0 bs) : Calls Tryz.prog 210 #[.slice (some ⟨g, 0, none⟩) n c] w fun r w' => r = .returned (.string ⟨bs.toArray⟩) ∧ w = w' := by
  obtain ⟨_, cs, hb, hs, hd⟩ := h
  rw [List.drop_zero] at hd
  have hn : bs.length = n := by rw [← hs, ← bc_len bs, ← hd]; simp
  subst hn
  have hc := run_convert_bytes_back (P := Tryz.prog) w 44 9 5 ⟨g, 0, none⟩ c bs Tryz.underlying44 Tryz.underlying5 Tryz.underlying9 (fun j hj => by
    have e1 : (⟨g, 0, none⟩ : Addr).add j = ⟨g, 0 + j, none⟩ := by unfold Addr.add; split <;> simp_all
    rw [e1, Nat.zero_add, hb.cell]
    have e2 : cs[j]? = (bc bs)[j]? := by rw [← hd]; simp
    rw [e2, bc_get, List.getElem?_eq_getElem hj]
    rfl)
  go_enter Tryz.func210, Tryz.ntmps210
  go_wp2
  go_ret
  exact ⟨rfl, rfl⟩

/-- The text of labels, as it is kept. -/
def labStr (l : List Lab) : ByteArray := ⟨(labsBytes l).toArray⟩
def LabMade (l : List Lab) (S : Nat → Prop) (w : World) (r : Ending) (w' : World) : Prop :=
  ∃ l' : List Lab, l'.Perm l ∧ l'.Pairwise (fun a b => nlt b.1 a.1 = false) ∧ r = .returned (.agg #[.string (labStr l')]) ∧ Fr S w w'
theorem Tryz.info99 : (Tryz.prog.info? 99).map (fun i => (i.zero, i.size, i.bytes)) = some (some (.agg #[.string ⟨#[]⟩]), 1, 16) := by kernel_rfl

theorem buf_new (w : World) (n : Nat) : Buf (w.alloc (.cells (madeCells #[.int .u8 0] n) 5)) w.heap.size n n [] := by
  refine ⟨Nat.le_refl _, _, Blk.new w 5 _, size_madeCells _ _, ?_⟩
  rw [List.drop_of_length_le (by rw [Array.length_toList, size_madeCells]; exact Nat.le_refl _)]
  rfl

theorem perm_small {l l' : List Lab} (h : l'.Perm l) (hs : ∀ p ∈ l, p.1.size ≤ 1048576 ∧ p.2.size ≤ 1048576) : ∀ p ∈ l', p.1.size ≤ 1048576 ∧ p.2.size ≤ 1048576 := fun p hp => hs p (h.mem_iff.mp hp)

set_option maxRecDepth 100000 in
set_option maxHeartbeats 2000000 in
theorem new_any (base : Nat) (v : Value) (l : List Lab) (w : World) (h : w.ownsRow base 108 2 v l.length (l.flatMap labc)) (hl : l.length ≤ 12) (hs : ∀ p ∈ l, p.1.size ≤ 1048576 ∧ p.2.size ≤ 1048576) :
    Calls Tryz.prog 148 #[v] w (LabMade l (fun k => v.ownBlock = some k) w) := by
  have hA : w.alloc (.cells #[.string ⟨#[]⟩] 99) = w.alloc (.cells #[.string ⟨#[]⟩] 99) := rfl
  have hown : (w.alloc (.cells #[.string ⟨#[]⟩] 99)).ownsRow base 108 2 v l.length (l.flatMap labc) := h.alloc _
  have hSort := sort_any base v l _ hown hl
  have HO := Lib.hid h
  have HS := Lib.hid hs
  have hlt : ∀ k, v.ownBlock = some k → k < w.heap.size := fun k hk => own_lt h hk
  clear h hs hown hA
  go_enter Tryz.func148, Tryz.ntmps148
  go_wp2_with (go_at_call 205; refine hSort.mono ?_; rintro r w1 ⟨rfl, l', hperm, hsort, hsl, hf⟩)
  have hb0 : Blk w1 w.heap.size 99 #[.string ⟨#[]⟩] := (Blk.new w 99 _).fr hf (fun e => Nat.lt_irrefl _ (hlt _ e))
  have hs' := perm_small hperm HS.out
  have hl' : l'.length ≤ 12 := by rw [hperm.length_eq]; exact hl
  have hF1 : Fr (fun k => v.ownBlock = some k) w w1 := ((Fr.refl _ w).alloc _).same hf
  refine (labelsSize_any _ v l' w1 hsl (by omega) hs').mono ?_
  rintro r w2 ⟨rfl, hf2⟩
  have hsl2 := hsl.fr hf2 (fun _ _ e => e)
  have hb2 := hb0.fr hf2 (fun e => e)
  have hle := labsSize_le l' hs'
  obtain ⟨n, hn⟩ : ∃ n, labsSize l' = n := ⟨_, rfl⟩
  rw [hn] at hle ⊢
  have hnb : n ≤ 25165920 := by
    have : l'.length * 2097160 ≤ 12 * 2097160 := Nat.mul_le_mul_right _ hl'
    exact Nat.le_trans hle this
  have hmk : ∀ W : World, (Instr.makeSlice 44 (.int .i64 (n : Int)) (.int .i64 (n : Int))).run Tryz.prog W = .ok (.slice (some ⟨W.heap.size, 0, none⟩) n n) (W.alloc (.cells (madeCells #[.int .u8 0] n) 5)) := fun W =>
    run_make_row' (P := Tryz.prog) 44 5 (.int .u8 0) 1 Tryz.underlying44 Tryz.info5 rfl .i64 .i64 n (by omega) (by omega) W
  have hF2 : Fr (fun k => v.ownBlock = some k) w w2 := hF1.trans hf2 (fun _ _ e => e.elim)
  have hM := marshalLabels_any _ v l' w2.heap.size n n (w2.alloc (.cells (madeCells #[.int .u8 0] n) 5)) (hsl2.fr ((Fr.refl (fun _ => False) w2).alloc _) (fun _ _ e => e))
    (fun e => Nat.lt_irrefl _ (Nat.lt_of_lt_of_le (hlt _ e) hF2.size)) (by omega) hs' (buf_new w2 n) hn.symm (Nat.le_refl _) (by omega)
  have hbne : w.heap.size ≠ w2.heap.size := Nat.ne_of_lt hb2.lt
  have hF3 : Fr (fun k => v.ownBlock = some k) w (w2.alloc (.cells (madeCells #[.int .u8 0] n) 5)) := hF2.alloc _
  have hb3 := hb2.alloc (.cells (madeCells #[.int .u8 0] n) 5)
  have H := Lib.hid (And.intro hperm (And.intro hsort (And.intro hF3 (And.intro hb3 (And.intro hlt hF2.size)))))
  clear HO HS hsl hsl2 hF1 hF2 hb0 hb2 hf hf2 hs' hle hn hlt hperm hsort hF3 hb3 hSort hl'
  go_wp2_with (first | (go_at_call 209; refine hM.mono ?_; rintro r w3 ⟨rfl, hB3, hf3⟩; have hY := yolo_any w2.heap.size n n (labsBytes l') w3 hB3) | (go_at_call 210; refine hY.mono ?_; rintro r w4 ⟨rfl, rfl⟩; have hb4 := H.out.2.2.2.1.fr hf3 hbne; have c4 := hb4.cell 0; have f4 := hb4.frozen 0))
  have hb5 := hb4.set_ 0 (.string ⟨(labsBytes l').toArray⟩)
  obtain ⟨h1, h2, h3, _, hlt, hsz⟩ := H.out
  have hF4 : Fr (fun k => v.ownBlock = some k) w w3 := h3.trans (S' := fun k => k = w2.heap.size) hf3 (fun k hk e => by subst e; omega)
  have hF5 : Fr (fun k => v.ownBlock = some k) w (w3.setCell ⟨w.heap.size, 0, none⟩ (.string ⟨(labsBytes l').toArray⟩)) := hF4.setCell (p := ⟨w.heap.size, 0, none⟩) (.inr (Nat.le_refl _)) _
  have hb6 : Blk (w3.setCell ⟨w.heap.size, 0, none⟩ (.string ⟨(labsBytes l').toArray⟩)) w.heap.size 99 #[.string (labStr l')] := hb5
  clear hb5
  generalize w3.setCell ⟨w.heap.size, 0, none⟩ (.string ⟨(labsBytes l').toArray⟩) = w5 at hb6 hF5 ⊢
  refine bodyPost_ret (results_cell_row (P := Tryz.prog) rfl _ _ w.heap.size 99 #[.string (labStr l')] (0, 0) _ rfl hb6 Tryz.underlying99 rfl (by kernel_rfl)) rfl ?_
  exact ⟨l', h1, h2, rfl, hF5⟩

/-- impl.made. -/
theorem made_any (P : Nat → Prop) (v : Value) (l : List Lab) (w : World) (h : Sl P w v 2 l.length (l.flatMap labc)) (hl : l.length ≤ 12) (hs : ∀ p ∈ l, p.1.size ≤ 1048576 ∧ p.2.size ≤ 1048576) :
    Calls Tryz.prog 54 #[v] w (LabMade l (fun _ => False) w) := by
  have hw : ∀ o, Sl P (w.alloc o) v 2 l.length (l.flatMap labc) := fun o => h.fr ((Fr.refl (fun _ => False) w).alloc o) (fun _ _ e => e)
  have hP := pairs_any P v l _ (hw (.cells #[.string ⟨#[]⟩] 99)) (by omega)
  clear h hw
  go_enter Tryz.func54, Tryz.ntmps54
  go_wp2_with (go_at_call 149; refine hP.mono ?_; rintro r w1 ⟨v1, rfl, hown, hf⟩)
  refine (new_any _ v1 l w1 hown hl hs).mono ?_
  rintro r w2 ⟨l', h1, h2, rfl, hf2⟩
  have hb0 : Blk w1 w.heap.size 99 #[.string ⟨#[]⟩] := (Blk.new w 99 _).fr hf (fun e => e)
  have hlo : ∀ k, v1.ownBlock = some k → w.heap.size < k := fun k hk => by
    have := (hown.lt k hk).1
    rw [World.size_alloc] at this
    exact this
  have hb1 : Blk w2 w.heap.size 99 #[.string ⟨#[]⟩] := hb0.fr hf2 (fun e => Nat.lt_irrefl _ (hlo _ e))
  have c1 := hb1.cell 0
  have f1 := hb1.frozen 0
  have hF : Fr (fun _ => False) w w2 := ((Fr.refl _ w).alloc _).same hf |>.trans hf2 (fun k hk e => Nat.lt_asymm hk (hlo k e))
  go_wp2
  have hb5 := hb1.set_ 0 (.string (labStr l'))
  have hF5 : Fr (fun _ => False) w (w2.setCell ⟨w.heap.size, 0, none⟩ (.string (labStr l'))) := hF.setCell (p := ⟨w.heap.size, 0, none⟩) (.inr (Nat.le_refl _)) _
  have hb6 : Blk (w2.setCell ⟨w.heap.size, 0, none⟩ (.string (labStr l'))) w.heap.size 99 #[.string (labStr l')] := hb5
  clear hb5
  generalize w2.setCell ⟨w.heap.size, 0, none⟩ (.string (labStr l')) = w5 at hb6 hF5 ⊢
  refine bodyPost_ret (results_cell_row (P := Tryz.prog) rfl _ _ w.heap.size 99 #[.string (labStr l')] (0, 0) _ rfl hb6 Tryz.underlying99 rfl (by kernel_rfl)) rfl ?_
  exact ⟨l', h1, h2, rfl, hF5⟩
end Go.Proofs.YtbkookiigkckdaaGreatDoor
