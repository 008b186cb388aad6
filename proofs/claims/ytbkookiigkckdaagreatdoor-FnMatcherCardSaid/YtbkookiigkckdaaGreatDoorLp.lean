/- Labels in memory; impl.pairs; the sizes of labels. The first theorem printed by gen_lp.py. -/
import Derived.Test.YtbkookiigkckdaaGreatDoorMk
import Derived.Test.YtbkookiigkckdaaGreatDoorTy
namespace Go.Proofs.YtbkookiigkckdaaGreatDoor
open Go.RowKit
set_option linter.unusedVariables false
set_option linter.unusedSimpArgs false

/-- A label: its name and its value. -/
abbrev Lab := ByteArray × ByteArray
def labc (p : Lab) : List Value := [.string p.1, .string p.2]
theorem Tryz.info40 : (Tryz.prog.info? 40).map (fun i => (i.zero, i.size, i.bytes)) = some (some (.agg #[.string ⟨#[]⟩, .string ⟨#[]⟩]), 2, 32) := by kernel_rfl

def LabEnds (t : TypeId) (w : World) (l : List Lab) (r : Ending) (w' : World) : Prop :=
  ∃ v, r = .returned v ∧ w'.ownsRow w.heap.size t 2 v l.length (l.flatMap labc) ∧ Fr (fun _ => False) w w'


set_option maxHeartbeats 1000000 in
set_option maxRecDepth 100000 in
theorem pairs_any (P : Nat → Prop) (v : Value) (l : List Lab) (w : World) (h : Sl P w v 2 l.length (l.flatMap labc)) (hl : l.length ≤ 1099511627776) :
    Calls Tryz.prog 149 #[v] w (LabEnds 108 w l) := by
  obtain ⟨A, c, rfl, hlen, hnc, hr⟩ := h
  obtain ⟨n, hn⟩ : ∃ n, l.length = n := ⟨_, rfl⟩
  rw [hn] at hr hnc hl ⊢
  have HN := Lib.hid hn
  have HR := Lib.hid hr
  obtain ⟨i0, hi0, hz0, hz1, hz2⟩ := info_parts Tryz.info108
  clear hn hr hlen
  go_enter Tryz.func149, Tryz.ntmps149
  go_wp2
  go_loopw [3, 8] (fun v i wr => ∃ k : Nat, k ≤ n ∧ i = .int .i64 k ∧ wr.ownsRow w.heap.size 108 2 v k ((l.take k).flatMap labc) ∧ Fr (fun _ => False) w wr) (fun _ i _ => n - (intOf i).toNat)
  case atStart => exact ⟨0, Nat.zero_le _, rfl, World.ownsRow_nil _ _ _ _, Fr.refl _ _⟩
  case round =>
    obtain ⟨k, hk, rfl, hown, hf⟩ := hrel
    by_cases hlt : k < n
    · obtain ⟨g, off, rfl, _, hcell⟩ := HR.out (by omega)
      obtain ⟨x, hx⟩ : ∃ x, l[k]? = some x := ⟨_, List.getElem?_eq_getElem (by rw [HN.out]; exact hlt)⟩
      have cc : ∀ j, j < 2 → ∀ u, (labc x)[j]? = some u → wr.cell? ⟨g, off + (k * 2 + j), none⟩ = some u := fun j hj u hu => by
        have := hcell (k * 2 + j) u (by rw [flat2 labc (fun _ => rfl) l k x hx j hj]; exact hu)
        rw [hf.cell (p := ⟨g, off + (k * 2 + j), none⟩) (World.block_lt_of_cell? w _ this) (fun e => e)]
        exact this
      have c0 : wr.cell? ⟨g, off + k * 2, none⟩ = some (.string x.1) := cc 0 (by omega) _ rfl
      have c1 : wr.cell? ⟨g, off + k * 2 + 1, none⟩ = some (.string x.2) := cc 1 (by omega) _ rfl
      have HC := Lib.hid hcell
      have HO := Lib.hid hown
      have HX := Lib.hid hx
      obtain ⟨a', n', k', rfl⟩ := own_slice hown
      clear hcell cc hown hx
      go_wp2_with (at_builtin; refine Hid.out ?_)
      refine Lib.hid ?_
      refine wpList_append_src _ rfl _ _ 115 115 rfl w.heap.size 108 i0 _ 2 32 Tryz.underlying115 hi0 hz0 hz1 hz2 rfl (by decide) _ k ((l.take k).flatMap labc) rfl ((HO.out.alloc _).alloc _) _ 1 (labc x) rfl (src_blk Tryz.underlying115 (blk_new2 wr _ 108 (labc x).toArray) rfl (by simp [labc, Value.oneCell'])) (by unfold maxLen; omega) (by omega) (by have := hf.size; simp; omega) ?_
      intro v' w2 hown' hgrow hat
      have hown2 : w2.ownsRow w.heap.size 108 2 v' (k + 1) ((l.take (k + 1)).flatMap labc) := by rw [flatMap_take_succ labc l k x HX.out]; exact hown'
      have hf2 : Fr (fun _ => False) w w2 := ((hf.alloc _).alloc _).grown hgrow (fun g hg => .inr (((HO.out.lt g hg)).1))
      have HO2 := Lib.hid hown2
      have HF2 := Lib.hid hf2
      clear hown' hgrow hown2 hf2 hf c0 c1 hat
      go_wp2
      go_roundw
      case rel => exact ⟨k + 1, by omega, by go_num, HO2.out, HF2.out⟩
      case measure => simp [intOf]; omega
    · go_wp2
      go_ret
      obtain rfl : k = n := by omega
      refine ⟨_, rfl, ?_, hf⟩
      rw [← HN.out] at hown ⊢
      rw [List.take_length] at hown
      exact hown


/-- How many bytes a length takes. -/
def lenSize (n : Nat) : Nat := if n < 255 then 1 else 4
def labSize (p : Lab) : Nat := (p.1.size + lenSize p.1.size) + (p.2.size + lenSize p.2.size)
def labsSize (l : List Lab) : Nat := (l.map labSize).sum

theorem sizeWhen_any (n : Nat) (hn : n ≤ 16777216) (w : World) : Calls Tryz.prog 271 #[.int .u64 n] w fun r w' => r = .returned (.int .i64 (lenSize n)) ∧ w = w' := by
  by_cases h : n < 255
  · have e : lenSize n = 1 := if_pos h
    have h1 : (n : Int) < 255 := by omega
    rw [e]
    go_enter Tryz.func271, Tryz.ntmps271
    go_wp2
    go_ret
    exact ⟨rfl, rfl⟩
  · have e : lenSize n = 4 := if_neg h
    have h1 : ¬ (n : Int) < 255 := by omega
    have h2 : (n : Int) ≤ 16777216 := by omega
    rw [e]
    go_enter Tryz.func271, Tryz.ntmps271
    go_wp2
    go_ret
    exact ⟨rfl, rfl⟩

set_option maxRecDepth 100000 in
theorem labelSize_any (g off : Nat) (p : Lab) (h1 : p.1.size ≤ 1048576) (h2 : p.2.size ≤ 1048576) (w : World) (c0 : w.cell? ⟨g, off, none⟩ = some (.string p.1)) (c1 : w.cell? ⟨g, off + 1, none⟩ = some (.string p.2)) :
    Calls Tryz.prog 248 #[.pointer (some ⟨g, off, none⟩)] w fun r w' => r = .returned (.int .i64 (labSize p)) ∧ w = w' := by
  have e1 : labSize p = (p.1.size + lenSize p.1.size) + (p.2.size + lenSize p.2.size) := rfl
  have hs1 : lenSize p.1.size ≤ 4 := by unfold lenSize; split <;> omega
  have hs2 : lenSize p.2.size ≤ 4 := by unfold lenSize; split <;> omega
  have q1 := sizeWhen_any p.1.size (by omega) w
  have q2 := sizeWhen_any p.2.size (by omega) w
  generalize labSize p = s at e1 ⊢
  obtain ⟨a, b⟩ := p
  simp only [] at c0 c1 h1 h2 hs1 hs2 q1 q2 e1
  generalize lenSize a.size = x at hs1 q1 e1
  generalize lenSize b.size = y at hs2 q2 e1
  have hs : (s : Int) = (a.size : Int) + x + ((b.size : Int) + y) := by omega
  clear e1
  go_enter Tryz.func248, Tryz.ntmps248
  go_wp2_with (go_at_call 271; first | (refine q1.mono ?_; rintro r w1 ⟨rfl, rfl⟩) | (refine q2.mono ?_; rintro r w1 ⟨rfl, rfl⟩))
  go_ret
  exact ⟨by rw [hs]; rfl, rfl⟩

theorem labSize_le (p : Lab) (h1 : p.1.size ≤ 1048576) (h2 : p.2.size ≤ 1048576) : labSize p ≤ 2097160 := by
  have hs1 : lenSize p.1.size ≤ 4 := by unfold lenSize; split <;> omega
  have hs2 : lenSize p.2.size ≤ 4 := by unfold lenSize; split <;> omega
  unfold labSize
  omega
theorem labsSize_take (l : List Lab) (k : Nat) (x : Lab) (h : l[k]? = some x) : labsSize (l.take (k + 1)) = labsSize (l.take k) + labSize x := by
  unfold labsSize
  rw [List.take_add_one, h]
  simp
theorem labsSize_le : ∀ (l : List Lab), (∀ p ∈ l, p.1.size ≤ 1048576 ∧ p.2.size ≤ 1048576) → labsSize l ≤ l.length * 2097160
  | [], _ => by simp [labsSize]
  | p :: l, h => by
    have h1 := labsSize_le l (fun q hq => h q (by simp [hq]))
    have h2 := labSize_le p (h p (by simp)).1 (h p (by simp)).2
    have e : labsSize (p :: l) = labSize p + labsSize l := rfl
    rw [e, List.length_cons, Nat.add_mul]
    omega

theorem sum_small (s k : Nat) (h : s ≤ k * 2097160) (hk : k ≤ 4096) : s ≤ 8589967360 := by omega

set_option maxRecDepth 100000 in
set_option maxHeartbeats 1000000 in
theorem labelsSize_any (P : Nat → Prop) (v : Value) (l : List Lab) (w : World) (h : Sl P w v 2 l.length (l.flatMap labc)) (hl : l.length ≤ 4096) (hs : ∀ p ∈ l, p.1.size ≤ 1048576 ∧ p.2.size ≤ 1048576) :
    Calls Tryz.prog 208 #[v] w fun r w' => r = .returned (.int .i64 (labsSize l)) ∧ Fr (fun _ => False) w w' := by
  obtain ⟨A, c, rfl, hlen, hnc, hr⟩ := h
  obtain ⟨n, hn⟩ : ∃ n, l.length = n := ⟨_, rfl⟩
  rw [hn] at hr hnc hl ⊢
  have HN := Lib.hid hn
  have HR := Lib.hid hr
  have HS := Lib.hid hs
  clear hn hr hlen hs
  go_enter Tryz.func208, Tryz.ntmps208
  go_wp2
  go_loopw [2, 7] (fun v i wr => ∃ k s : Nat, k ≤ n ∧ i = .int .i64 k ∧ v = .int .i64 s ∧ Hid (labsSize (l.take k) = s) ∧ s ≤ k * 2097160 ∧ Hid (Fr (fun _ => False) w wr)) (fun _ i _ => n - (intOf i).toNat)
  case atStart => exact ⟨0, 0, Nat.zero_le _, rfl, rfl, Lib.hid rfl, Nat.zero_le _, Lib.hid (Fr.refl _ _)⟩
  case round =>
    obtain ⟨k, s, hk, rfl, rfl, HM, hsb, HF⟩ := hrel
    by_cases hlt : k < n
    · obtain ⟨g, off, rfl, _, hcell⟩ := HR.out (by omega)
      obtain ⟨x, hx⟩ : ∃ x, l[k]? = some x := ⟨_, List.getElem?_eq_getElem (by rw [HN.out]; exact hlt)⟩
      have cc : ∀ j, j < 2 → ∀ u, (labc x)[j]? = some u → wr.cell? ⟨g, off + (k * 2 + j), none⟩ = some u := fun j hj u hu => by
        have := hcell (k * 2 + j) u (by rw [flat2 labc (fun _ => rfl) l k x hx j hj]; exact hu)
        rw [HF.out.cell (p := ⟨g, off + (k * 2 + j), none⟩) (World.block_lt_of_cell? w _ this) (fun e => e)]
        exact this
      have c0 : wr.cell? ⟨g, off + k * 2, none⟩ = some (.string x.1) := cc 0 (by omega) _ rfl
      have c1 : wr.cell? ⟨g, off + k * 2 + 1, none⟩ = some (.string x.2) := cc 1 (by omega) _ rfl
      have hxs := HS.out x (List.mem_of_getElem? hx)
      have hle := labSize_le x hxs.1 hxs.2
      have hB := Blk.new wr 108 #[.string x.1, .string x.2]
      have hC := labelSize_any wr.heap.size 0 x hxs.1 hxs.2 (wr.alloc (.cells #[.string x.1, .string x.2] 108)) (hB.cell 0) (hB.cell 1)
      have HT := Lib.hid (labsSize_take l k x hx)
      have hs2 : s + 2097160 ≤ (k + 1) * 2097160 := by rw [Nat.add_mul]; omega
      have hk4 : s ≤ 8589967360 := sum_small s k hsb (by omega)
      generalize labSize x = z at hle hC HT
      clear cc hx hB hxs hcell
      go_wp2_with (go_at_call 248; refine hC.mono ?_; rintro r w1 ⟨rfl, rfl⟩)
      go_roundw
      case rel => exact ⟨k + 1, s + z, by omega, by go_num, by first | rfl | go_num | (congr 1; omega), Lib.hid (by rw [HT.out, HM.out]), by omega, Lib.hid (HF.out.alloc _)⟩
      case measure => simp [intOf]; omega
    · go_wp2
      go_ret
      obtain rfl : k = n := by omega
      refine ⟨?_, HF.out⟩
      have e1 : l.take k = l := List.take_of_length_le (by rw [HN.out]; exact Nat.le_refl _)
      have h := HM.out
      rw [e1] at h
      rw [h]
      rfl
end Go.Proofs.YtbkookiigkckdaaGreatDoor

