/- Tombstones in memory: a slice of stones, each with a slice of intervals; impl.refStones. -/
import Derived.Test.YtbkookiigkckdaaGreatDoorIv
import Derived.Test.YtbkookiigkckdaaGreatDoorRr
namespace Go.Proofs.YtbkookiigkckdaaGreatDoor
open Go.RowKit
set_option linter.unusedVariables false
set_option linter.unusedSimpArgs false

structure Ston where
  ref : Nat
  ivs : List (Int × Int)
/-- A stone and the slice of its intervals: its two cells. -/
def stc (p : Ston × Value) : List Value := [.int .u64 p.1.ref, p.2]
/-- A slice that reads as stones. -/
def SlS (P : Nat → Prop) (w : World) (v : Value) (lv : List (Ston × Value)) : Prop :=
  Sl P w v 2 lv.length (lv.flatMap stc) ∧ ∀ p ∈ lv, Sl P w p.2 2 p.1.ivs.length (p.1.ivs.flatMap ivc)
/-- .. that a call owns: te: the stones' type, ti: the intervals'. -/
def OwnS (base te ti : Nat) (w : World) (v : Value) (lv : List (Ston × Value)) : Prop :=
  w.ownsRow base te 2 v lv.length (lv.flatMap stc) ∧ ∀ p ∈ lv, w.ownsRow base ti 2 p.2 p.1.ivs.length (p.1.ivs.flatMap ivc)

theorem Tryz.info147 : (Tryz.prog.info? 147).map (fun i => (i.zero, i.size, i.bytes)) = some (some (.agg #[.int .u64 0, .slice none 0 0]), 2, 32) := by kernel_rfl
theorem Tryz.info151 : (Tryz.prog.info? 151).map (fun i => (i.zero, i.size, i.bytes)) = some (some (.agg #[.int .u64 0, .slice none 0 0]), 2, 32) := by kernel_rfl

theorem SlS.fr {P S : Nat → Prop} {w w' : World} {v : Value} {lv : List (Ston × Value)} (h : SlS P w v lv) (hf : Fr S w w') (hs : ∀ g, P g → ¬ S g) : SlS P w' v lv :=
  ⟨h.1.fr hf hs, fun p hp => (h.2 p hp).fr hf hs⟩
theorem OwnS.fr {S : Nat → Prop} {base te ti : Nat} {w w' : World} {v : Value} {lv : List (Ston × Value)} (h : OwnS base te ti w v lv) (hf : Fr S w w') (hs : ∀ k, base ≤ k → k < w.heap.size → ¬ S k) : OwnS base te ti w' v lv :=
  ⟨own_fr h.1 hf (fun g hg => hs g (h.1.lt g hg).1 (own_lt h.1 hg)), fun p hp => own_fr (h.2 p hp) hf (fun g hg => hs g ((h.2 p hp).lt g hg).1 (own_lt (h.2 p hp) hg))⟩
theorem OwnS.mono {base base' te ti : Nat} {w : World} {v : Value} {lv : List (Ston × Value)} (h : OwnS base te ti w v lv) (hb : base' ≤ base) : OwnS base' te ti w v lv :=
  ⟨own_mono h.1 hb, fun p hp => own_mono (h.2 p hp) hb⟩
theorem OwnS.nil (base te ti : Nat) (w : World) : OwnS base te ti w (.slice none 0 0) [] := ⟨World.ownsRow_nil _ _ _ _, fun p hp => by cases hp⟩
theorem OwnS.sl {base te ti : Nat} {w : World} {v : Value} {lv : List (Ston × Value)} (h : OwnS base te ti w v lv) : SlS (fun g => base ≤ g ∧ g < w.heap.size) w v lv :=
  ⟨(Sl.ofOwn h.1).mono (fun g hg => ⟨(h.1.lt g hg).1, own_lt h.1 hg⟩), fun p hp => (Sl.ofOwn (h.2 p hp)).mono (fun g hg => ⟨((h.2 p hp).lt g hg).1, own_lt (h.2 p hp) hg⟩)⟩
theorem OwnS.push {base te ti : Nat} {w w2 : World} {v v' : Value} {lv : List (Ston × Value)} {p : Ston × Value} (h : OwnS base te ti w v lv) (hp : w.ownsRow base ti 2 p.2 p.1.ivs.length (p.1.ivs.flatMap ivc)) (hg : w.grownBy w2 v.ownBlock)
    (ho : w2.ownsRow base te 2 v' (lv.length + 1) (lv.flatMap stc ++ stc p)) (hne : ti ≠ te) : OwnS base te ti w2 v' (lv ++ [p]) := by
  have hf : Fr (fun k => some k = v.ownBlock) w w2 := (Fr.refl (fun k => some k = v.ownBlock) w).grown hg (fun k hk => .inl hk.symm)
  refine ⟨by simpa using ho, fun q hq => ?_⟩
  rcases List.mem_append.1 hq with hq | hq
  · exact own_fr (h.2 q hq) hf (fun g hgq e => own_own (h.2 q hq) h.1 hne g hgq e.symm)
  · rw [List.mem_singleton] at hq
    subst hq
    exact own_fr hp hf (fun g hgq e => own_own hp h.1 hne g hgq e.symm)

def RefStonesEnds (w : World) (l : List Ston) (r : Ending) (w' : World) : Prop :=
  ∃ v lv, r = .returned v ∧ lv.map Prod.fst = l ∧ OwnS w.heap.size 147 279 w' v lv ∧ Fr (fun _ => False) w w'

set_option maxHeartbeats 2000000 in
set_option maxRecDepth 100000 in
theorem refStones_any (P : Nat → Prop) (v : Value) (lv : List (Ston × Value)) (w : World) (h : SlS P w v lv) (hl : lv.length ≤ 1099511627776) (hil : ∀ p ∈ lv, p.1.ivs.length ≤ 1099511627776) :
    Calls Tryz.prog 75 #[v] w (RefStonesEnds w (lv.map Prod.fst)) := by
  obtain ⟨⟨A, c, rfl, hlen, hnc, hr⟩, hin⟩ := h
  obtain ⟨n, hn⟩ : ∃ n, lv.length = n := ⟨_, rfl⟩
  rw [hn] at hr hnc hl ⊢
  have HN := Lib.hid hn
  have HR := Lib.hid hr
  have HI := Lib.hid hin
  have HIL := Lib.hid hil
  obtain ⟨i0, hi0, hz0, hz1, hz2⟩ := info_parts Tryz.info147
  clear hn hr hlen hin hil
  go_enter Tryz.func75, Tryz.ntmps75
  go_wp2
  go_loopw [2, 7] (fun v i wr => ∃ (k : Nat) (lo : List (Ston × Value)), k ≤ n ∧ i = .int .i64 k ∧ Hid (lo.map Prod.fst = (lv.take k).map Prod.fst) ∧ Hid (lo.length = k) ∧ Hid (OwnS w.heap.size 147 279 wr v lo) ∧ Hid (Fr (fun _ => False) w wr)) (fun _ i _ => n - (intOf i).toNat)
  case atStart => exact ⟨0, [], Nat.zero_le _, rfl, Lib.hid rfl, Lib.hid rfl, Lib.hid (OwnS.nil _ _ _ _), Lib.hid (Fr.refl _ _)⟩
  case round =>
    obtain ⟨k, lo, hk, rfl, HM, HLO, HO, HF⟩ := hrel
    by_cases hlt : k < n
    · obtain ⟨g, off, rfl, _, hcell⟩ := HR.out (by omega)
      obtain ⟨x, hx⟩ : ∃ x, lv[k]? = some x := ⟨_, List.getElem?_eq_getElem (by rw [HN.out]; exact hlt)⟩
      have cc : ∀ j, j < 2 → ∀ u, (stc x)[j]? = some u → wr.cell? ⟨g, off + (k * 2 + j), none⟩ = some u := fun j hj u hu => by
        have := hcell (k * 2 + j) u (by rw [flat2 stc (fun _ => rfl) lv k x hx j hj]; exact hu)
        rw [HF.out.cell (p := ⟨g, off + (k * 2 + j), none⟩) (World.block_lt_of_cell? w _ this) (fun e => e)]
        exact this
      have c0 : wr.cell? ⟨g, off + k * 2, none⟩ = some (.int .u64 x.1.ref) := cc 0 (by omega) _ rfl
      have c1 : wr.cell? ⟨g, off + k * 2 + 1, none⟩ = some x.2 := cc 1 (by omega) _ rfl
      have hxm := List.mem_of_getElem? hx
      have hiv := HI.out x hxm
      have hivl := HIL.out x hxm
      obtain ⟨⟨ref, ivs⟩, iv⟩ := x
      simp only [] at c0 c1 hiv hivl
      have hiv1 : ∃ A m c, iv = .slice A m c := let ⟨A, c, h, _⟩ := hiv; ⟨A, _, c, h⟩
      obtain ⟨Ai, mi, ci, rfl⟩ := hiv1
      have HX := Lib.hid hx
      obtain ⟨a', n', k', rfl⟩ := own_slice HO.out.1
      clear hcell cc hx hxm
      go_wp2_with fail
      have hB8 := Blk.new wr 151 #[.int .u64 ref, .slice Ai mi ci]
      have s0 := hB8.cell 0
      have s1 := hB8.cell 1
      simp only [List.getElem?_toArray, List.getElem?_cons_zero, List.getElem?_cons_succ] at s0 s1
      have hsz := HF.out.size
      have HB8 := Lib.hid hB8
      have hC := intervals_any P (.slice Ai mi ci) ivs (wr.alloc (.cells #[.int .u64 ref, .slice Ai mi ci] 151)).drew (hiv.fr (HF.out.alloc _).drew (fun _ _ e => e)) hivl
      have HLO2 := HLO.out
      clear hB8 hiv
      have hwz : (wr.alloc (.cells #[.int .u64 ref, .slice Ai mi ci] 151)).drew.heap.size = wr.heap.size + 1 := by simp
      have hloz : lo.length ≤ 1099511627776 := by omega
      go_region_held3 (fun w' => w'.cell? ⟨wr.heap.size, 0, none⟩ = some (.int .u64 ref) ∧ w'.cell? ⟨wr.heap.size, 1, none⟩ = some (.slice Ai mi ci))
        ((first | (go_split_ands; refine ⟨?_, ?_⟩ <;> first | exact KX9.out.cell 0 | exact KX9.out.cell 1) | (go_split_ands; refine ⟨?_, ?_⟩ <;> first | exact (KX5.out.alloc _).cell 0 | exact (KX5.out.alloc _).cell 1) | (go_split_ands; refine ⟨?_, ?_⟩ <;> first | exact KX5.out.cell 0 | exact KX5.out.cell 1) | go_keep))
        ((first
          | (go_at_call 169; refine hC.mono ?_; rintro r5 w5 ⟨v5, rfl, hown5, hf5⟩; obtain ⟨a5, k5, rfl⟩ := own_slice' hown5; have KX5 := Lib.hid (HB8.out.drew.fr hf5 (fun e => e)); have F5 := Lib.hid (((Fr.refl (fun _ => False) wr).alloc (.cells #[.int .u64 ref, .slice Ai mi ci] 151)).drew.same hf5); have O5 := Lib.hid (HO.out.fr F5.out (fun _ _ _ e => e)); have HN5 := Lib.hid (own_mono hown5 (base' := w.heap.size) (by rw [hwz]; omega)); have hz5 := F5.out.size)
          | (refine step_append_src _ (by rfl) _ _ 139 139 (by rfl) w.heap.size 147 i0 _ 2 32 Tryz.underlying139 hi0 hz0 hz1 hz2 rfl (by decide) (.slice a' n' k') lo.length (lo.flatMap stc) (by rfl) (O5.out.1.alloc _) _ 1 (stc (⟨ref, ivs⟩, .slice a5 ivs.length k5)) (by rfl) (src_blk Tryz.underlying139 (Blk.new w5 147 (stc (⟨ref, ivs⟩, .slice a5 ivs.length k5)).toArray) rfl (by simp [stc, Value.oneCell'])) (by unfold maxLen; omega) (by omega) (by simp; omega) ?_; intro v' w2 hown' hgrow hat; have KX9 := Lib.hid ((KX5.out.alloc (.cells (stc (⟨ref, ivs⟩, .slice a5 ivs.length k5)).toArray 147)).grown hgrow (fun e => Nat.lt_irrefl _ (own_lt HO.out.1 e.symm))))))
      have newO : OwnS w.heap.size 147 279 w2 v' (lo ++ [(⟨ref, ivs⟩, .slice a5 ivs.length k5)]) :=
        OwnS.push (p := (⟨ref, ivs⟩, .slice a5 ivs.length k5)) (O5.out.fr ((Fr.refl (fun _ => False) w5).alloc (.cells (stc (⟨ref, ivs⟩, .slice a5 ivs.length k5)).toArray 147)) (fun _ _ _ e => e)) (HN5.out.alloc _) hgrow hown' (by decide)
      have newF : Fr (fun _ => False) w w2 := ((HF.out.same F5.out).alloc _).grown hgrow (fun g hg => .inr ((HO.out.1.lt g hg).1))
      have newM : (lo ++ [((⟨ref, ivs⟩ : Ston), Value.slice a5 ivs.length k5)]).map Prod.fst = (lv.take (k + 1)).map Prod.fst := by
        rw [List.take_add_one, HX.out, List.map_append, List.map_append, HM.out]
        rfl
      have newN : (lo ++ [((⟨ref, ivs⟩ : Ston), Value.slice a5 ivs.length k5)]).length = k + 1 := by rw [List.length_append, HLO.out]; rfl
      have NO := Lib.hid newO
      have NF := Lib.hid newF
      have NM := Lib.hid newM
      have NN := Lib.hid newN
      clear newO newF newM newN hown' hgrow hat c0 c1 s0 s1 hC hown5 hf5 KX9 O5 HN5
      go_wp2
      go_roundw
      case rel => exact ⟨k + 1, _, by omega, by go_num, NM, NN, NO, NF⟩
      case measure => simp [intOf]; omega
    · go_wp2
      go_ret
      obtain rfl : k = n := by omega
      refine ⟨_, lo, rfl, ?_, HO.out, HF.out⟩
      rw [HM.out, ← HN.out, List.take_length]
end Go.Proofs.YtbkookiigkckdaaGreatDoor
