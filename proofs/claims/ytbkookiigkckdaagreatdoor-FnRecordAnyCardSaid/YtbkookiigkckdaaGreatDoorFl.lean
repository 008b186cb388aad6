/- spec.Flat, spec.Written, spec.SameStones. -/
import Derived.Test.YtbkookiigkckdaaGreatDoorSe
import Derived.Test.YtbkookiigkckdaaGreatDoorTd
import Derived.Test.YtbkookiigkckdaaGreatDoorSa
namespace Go.Proofs.YtbkookiigkckdaaGreatDoor
open Go.RowKit
set_option linter.unusedVariables false
set_option linter.unusedSimpArgs false

theorem flatS_one (l : List Stn) : flatS (l.map one) = l := by
  unfold flatS
  induction l with
  | nil => rfl
  | cons s l ih => rw [List.map_cons, List.flatMap_cons, ih]; rfl
theorem flat_take (l : List Ston) (k : Nat) (x : Ston) (h : l[k]? = some x) : flatS (l.take (k + 1)) = flatS (l.take k) ++ flatIvs x := by
  unfold flatS
  rw [List.take_add_one, h, List.flatMap_append]
  simp

def FlatEnds (w : World) (l : List Ston) (r : Ending) (w' : World) : Prop :=
  ∃ v lo, r = .returned v ∧ lo.map Prod.fst = (flatS l).map one ∧ OwnS w.heap.size 151 281 w' v lo ∧ Fr (fun _ => False) w w'

theorem flat_nil (c : Nat) (A : Option Addr) (w : World) : Calls Tryz.prog 105 #[.slice A 0 c] w fun r w' => r = .returned (.slice none 0 0) ∧ w = w' := by
  go_enter Tryz.func105, Tryz.ntmps105
  go_wp2
  go_loopw [3, 4] (fun v i wr => v = .slice none 0 0 ∧ i = .int .i64 0 ∧ wr = w) (fun _ i _ => 0)
  case atStart => exact ⟨rfl, rfl, rfl⟩
  case round =>
    obtain ⟨rfl, rfl, rfl⟩ := hrel
    go_wp2
    go_ret
    exact ⟨rfl, rfl⟩

set_option maxRecDepth 100000 in
set_option maxHeartbeats 4000000 in
theorem flat_any (P : Nat → Prop) (v : Value) (lv : List (Ston × Value)) (w : World) (h : SlS P w v lv) (hl : lv.length ≤ 4096) (hil : ∀ p ∈ lv, p.1.ivs.length ≤ 4096) :
    Calls Tryz.prog 105 #[v] w (FlatEnds w (lv.map Prod.fst)) := by
  obtain ⟨⟨A, c, rfl, hlen, hnc, hr⟩, hin⟩ := h
  obtain ⟨n, hn⟩ : ∃ n, lv.length = n := ⟨_, rfl⟩
  rw [hn] at hr hnc hl ⊢
  have HN := Lib.hid hn
  have HR := Lib.hid hr
  have HI := Lib.hid hin
  have HIL := Lib.hid hil
  obtain ⟨i0, hi0, hz0, hz1, hz2⟩ := info_parts Tryz.info151
  clear hn hr hlen hin hil
  go_enter Tryz.func105, Tryz.ntmps105
  go_wp2
  go_loopw [3, 4] (fun v i wr => ∃ (k : Nat) (lo : List (Ston × Value)), k ≤ n ∧ i = .int .i64 k ∧ Hid (lo.map Prod.fst = (flatS ((lv.take k).map Prod.fst)).map one) ∧ Hid (lo.length ≤ k * 4096) ∧ Hid (OwnS w.heap.size 151 281 wr v lo) ∧ Hid (Fr (fun _ => False) w wr)) (fun _ i _ => n - (intOf i).toNat)
  case atStart => exact ⟨0, [], Nat.zero_le _, rfl, Lib.hid rfl, Lib.hid (by simp), Lib.hid (OwnS.nil _ _ _ _), Lib.hid (Fr.refl _ _)⟩
  case round =>
    obtain ⟨k, lo, hk, rfl, HM, HLO, HO, HF⟩ := hrel
    by_cases hlt : k < n
    · obtain ⟨g, off, rfl, _, hcell⟩ := HR.out (by omega)
      obtain ⟨x, hx⟩ : ∃ x, lv[k]? = some x := ⟨_, List.getElem?_eq_getElem (by rw [HN.out]; exact hlt)⟩
      have cw : ∀ j, j < 2 → ∀ u, (stc x)[j]? = some u → w.cell? ⟨g, off + (k * 2 + j), none⟩ = some u := fun j hj u hu =>
        hcell (k * 2 + j) u (by rw [flat2 stc (fun _ => rfl) lv k x hx j hj]; exact hu)
      have hxm := List.mem_of_getElem? hx
      have hiv := HI.out x hxm
      have hivl := HIL.out x hxm
      have hx1 : (lv.map Prod.fst)[k]? = some x.1 := by rw [List.getElem?_map, hx]; rfl
      obtain ⟨⟨ref, ivs⟩, iv⟩ := x
      simp only [] at hiv hivl hx1
      obtain ⟨Ai, ci, rfl, _, hci, hri⟩ := hiv
      have C0 : Hid (w.cell? ⟨g, off + k * 2, none⟩ = some (.int .u64 ref)) := Lib.hid (cw 0 (by omega) _ rfl)
      have C1 : Hid (w.cell? ⟨g, off + k * 2 + 1, none⟩ = some (.slice Ai ivs.length ci)) := Lib.hid (cw 1 (by omega) _ rfl)
      obtain ⟨m, hm⟩ : ∃ m, ivs.length = m := ⟨_, rfl⟩
      rw [hm] at C1 hci hri hivl
      have HX1 := Lib.hid hx1
      have HRI := Lib.hid hri
      have HMM := Lib.hid hm
      clear hx cw hxm hx1 hri hm hcell
      have hsz := HF.out.size
      go_wp2_with fail
      obtain ⟨f0, hf0⟩ : ∃ f0, flatS ((lv.take k).map Prod.fst) = f0 := ⟨_, rfl⟩
      rw [hf0] at HM
      have HF0 := Lib.hid hf0
      clear hf0
      go_loopw [3, 5] (fun v i w' => ∃ (j : Nat) (lo2 : List (Ston × Value)), j ≤ m ∧ i = .int .i64 j ∧ Hid (lo2.map Prod.fst = (f0 ++ (ivs.take j).map (fun p => (⟨ref, p.1, p.2⟩ : Stn))).map one) ∧ Hid (lo2.length ≤ k * 4096 + j) ∧ Hid (OwnS w.heap.size 151 281 w' v lo2) ∧ Hid (Fr (fun _ => False) w w')) (fun _ i _ => m - (intOf i).toNat)
      case atStart => exact ⟨0, lo, Nat.zero_le _, rfl, Lib.hid (by rw [HM.out]; simp), Lib.hid (by have := HLO.out; omega), HO, HF⟩
      case round =>
        obtain ⟨j, lo2, hj, rfl, HM2, HL2, HO2, HF2⟩ := hrel
        have c1 : wr.cell? ⟨g, off + k * 2 + 1, none⟩ = some (.slice Ai m ci) := by
          rw [HF2.out.cell (p := ⟨g, off + k * 2 + 1, none⟩) (World.block_lt_of_cell? w _ C1.out) (fun e => e)]; exact C1.out
        by_cases hlt2 : j < m
        · obtain ⟨g2, off2, rfl, _, hcell2⟩ := HRI.out (by omega)
          obtain ⟨y, hy⟩ : ∃ y, ivs[j]? = some y := ⟨_, List.getElem?_eq_getElem (by rw [HMM.out]; exact hlt2)⟩
          have cw : ∀ i, i < 2 → ∀ u, (ivc y)[i]? = some u → w.cell? ⟨g2, off2 + (j * 2 + i), none⟩ = some u := fun i hi u hu =>
            hcell2 (j * 2 + i) u (by rw [flat2 ivc (fun _ => rfl) ivs j y hy i hi]; exact hu)
          have D0 : w.cell? ⟨g2, off2 + j * 2, none⟩ = some (.int .i64 y.1) := cw 0 (by omega) _ rfl
          have D1 : w.cell? ⟨g2, off2 + j * 2 + 1, none⟩ = some (.int .i64 y.2) := cw 1 (by omega) _ rfl
          have HC : Hid (∀ W', Fr (fun _ => False) w W' → W'.cell? ⟨g, off + k * 2, none⟩ = some (.int .u64 ref) ∧ W'.cell? ⟨g, off + k * 2 + 1, none⟩ = some (.slice (some ⟨g2, off2, none⟩) m ci) ∧ W'.cell? ⟨g2, off2 + j * 2, none⟩ = some (.int .i64 y.1) ∧ W'.cell? ⟨g2, off2 + j * 2 + 1, none⟩ = some (.int .i64 y.2)) := Lib.hid (fun W' hF => by
            refine ⟨?_, ?_, ?_, ?_⟩
            · rw [hF.cell (p := ⟨g, off + k * 2, none⟩) (World.block_lt_of_cell? w _ C0.out) (fun e => e)]; exact C0.out
            · rw [hF.cell (p := ⟨g, off + k * 2 + 1, none⟩) (World.block_lt_of_cell? w _ C1.out) (fun e => e)]; exact C1.out
            · rw [hF.cell (p := ⟨g2, off2 + j * 2, none⟩) (World.block_lt_of_cell? w _ D0) (fun e => e)]; exact D0
            · rw [hF.cell (p := ⟨g2, off2 + j * 2 + 1, none⟩) (World.block_lt_of_cell? w _ D1) (fun e => e)]; exact D1)
          have HY := Lib.hid hy
          obtain ⟨a6, k6, rfl⟩ := own_slice' HO2.out.1
          have hsz2 := HF2.out.size
          have hl2 : lo2.length ≤ 4096 * 4096 + 4096 := by
            have h1 := HL2.out
            have h2 : k * 4096 ≤ 4096 * 4096 := Nat.mul_le_mul_right _ (by omega)
            omega
          clear hy cw D0 D1 hcell2
          go_wp2_with fail
          go_region_held3 (fun w' => w'.cell? ⟨g, off + k * 2, none⟩ = some (.int .u64 ref) ∧ w'.cell? ⟨g, off + k * 2 + 1, none⟩ = some (.slice (some ⟨g2, off2, none⟩) m ci) ∧ w'.cell? ⟨g2, off2 + j * 2, none⟩ = some (.int .i64 y.1) ∧ w'.cell? ⟨g2, off2 + j * 2 + 1, none⟩ = some (.int .i64 y.2))
            ((first | exact HC.out _ F9.out | exact HC.out _ HF2.out.drew | exact HC.out _ (HF2.out.drew.alloc _) | exact HC.out _ (HF2.out.alloc _).drew | exact HC.out _ ((HF2.out.drew.alloc _).alloc _) | exact HC.out _ ((HF2.out.alloc _).alloc _).drew | go_keep))
            ((first
              | (refine step_append_src _ (by rfl) _ _ 48 48 (by rfl) w.heap.size 151 i0 _ 2 32 Tryz.underlying48 hi0 hz0 hz1 hz2 rfl (by decide) (.slice a6 lo2.length k6) lo2.length (lo2.flatMap stc) (by rfl) ((HO2.out.alloc (.cells (ivc y).toArray 281)).alloc (.cells (stc (⟨ref, [(y.1, y.2)]⟩, .slice (some ⟨wr.heap.size, 0, none⟩) 1 1)).toArray 151)).1 _ 1 (stc (⟨ref, [(y.1, y.2)]⟩, .slice (some ⟨wr.heap.size, 0, none⟩) 1 1)) (by rfl) (src_blk Tryz.underlying48 (blk_new2 wr (.cells (ivc y).toArray 281) 151 (stc (⟨ref, [(y.1, y.2)]⟩, .slice (some ⟨wr.heap.size, 0, none⟩) 1 1)).toArray).drew rfl (by simp [stc, Value.oneCell'])) (by unfold maxLen; omega) (by omega) (by simp; omega) ?_; intro v' w2 hown' hgrow hat; have F9 := Lib.hid (((HF2.out.alloc (.cells (ivc y).toArray 281)).alloc (.cells (stc (⟨ref, [(y.1, y.2)]⟩, .slice (some ⟨wr.heap.size, 0, none⟩) 1 1)).toArray 151)).drew.grown hgrow (fun g hg => .inr ((HO2.out.1.lt g hg).1))))))
          all_goals
            have hown1 := own_one (w := wr) (base := w.heap.size) (e := 281) (a := .int .i64 y.1) (b := .int .i64 y.2) hsz2
            have newO : OwnS w.heap.size 151 281 w2 v' (lo2 ++ [(⟨ref, [(y.1, y.2)]⟩, .slice (some ⟨wr.heap.size, 0, none⟩) 1 1)]) :=
              OwnS.push (p := (⟨ref, [(y.1, y.2)]⟩, .slice (some ⟨wr.heap.size, 0, none⟩) 1 1)) (HO2.out.fr ((((Fr.refl (fun _ => False) wr).alloc (.cells (ivc y).toArray 281)).alloc (.cells (stc (⟨ref, [(y.1, y.2)]⟩, .slice (some ⟨wr.heap.size, 0, none⟩) 1 1)).toArray 151)).drew) (fun _ _ _ e => e)) ((World.ownsRow.alloc hown1 _).drew) hgrow hown' (by decide)
            have newM : (lo2 ++ [((⟨ref, [(y.1, y.2)]⟩ : Ston), Value.slice (some ⟨wr.heap.size, 0, none⟩) 1 1)]).map Prod.fst = (f0 ++ (ivs.take (j + 1)).map (fun p => (⟨ref, p.1, p.2⟩ : Stn))).map one := by
              rw [List.map_append, HM2.out, List.take_add_one, HY.out]
              simp [one]
            have newL : (lo2 ++ [((⟨ref, [(y.1, y.2)]⟩ : Ston), Value.slice (some ⟨wr.heap.size, 0, none⟩) 1 1)]).length ≤ k * 4096 + (j + 1) := by
              have := HL2.out
              rw [List.length_append, List.length_singleton]; omega
            have NO := Lib.hid newO
            have NM := Lib.hid newM
            have NL := Lib.hid newL
            clear newO newM newL hown' hgrow hat hown1 HC
            go_wp2
            go_roundw
            case rel => exact ⟨j + 1, _, by omega, by go_num, NM, NL, NO, F9⟩
            case measure => simp [intOf]; omega
        · obtain rfl : j = m := by omega
          go_wp2
          go_roundw
          case rel =>
            refine ⟨k + 1, lo2, by omega, by go_num, Lib.hid ?_, Lib.hid ?_, HO2, HF2⟩
            · have e1 : ivs.take j = ivs := List.take_of_length_le (by rw [HMM.out]; exact Nat.le_refl _)
              have e2 : (lv.take (k + 1)).map Prod.fst = (lv.map Prod.fst).take (k + 1) := by simp [List.map_take]
              have e3 : (lv.take k).map Prod.fst = (lv.map Prod.fst).take k := by simp [List.map_take]
              have e4 := HF0.out
              rw [e3] at e4
              rw [HM2.out, e1, e2, flat_take _ _ _ HX1.out, e4]
              rfl
            · have := HL2.out; omega
          case measure => simp [intOf]; omega
    · go_wp2
      go_ret
      obtain rfl : k = n := by omega
      refine ⟨_, lo, rfl, ?_, HO.out, HF.out⟩
      rw [HM.out, ← HN.out, List.take_length]

set_option maxRecDepth 100000 in
set_option maxHeartbeats 4000000 in
/-- Stones that read alike: SameStones says true. -/
theorem same102_any (P Q : Nat → Prop) (u v : Value) (la lb : List (Ston × Value)) (w : World) (hu : SlS P w u la) (hv : SlS Q w v lb) (hm : la.map Prod.fst = lb.map Prod.fst) (hl : la.length ≤ 1099511627776) (hil : ∀ p ∈ la, p.1.ivs.length ≤ 1099511627776) : Calls Tryz.prog 102 #[u, v] w (TrueEnds w) := by
  have hln : lb.length = la.length := by have := congrArg List.length hm; simpa using this.symm
  obtain ⟨⟨A, c, rfl, _, hc, hr⟩, hri⟩ := hu
  obtain ⟨⟨B, d, rfl, _, hd, hs⟩, hsi⟩ := hv
  obtain ⟨n, hn⟩ : ∃ n, la.length = n := ⟨_, rfl⟩
  rw [hln] at hs hd ⊢
  rw [hn] at hr hs hc hd hl ⊢
  rw [hn] at hln
  have HN := Lib.hid hn
  have HNB := Lib.hid hln
  have HR := Lib.hid hr
  have HS := Lib.hid hs
  have HRI := Lib.hid hri
  have HSI := Lib.hid hsi
  have HM := Lib.hid hm
  have HIL := Lib.hid hil
  clear hn hr hs hri hsi hm hil hln
  go_enter Tryz.func102, Tryz.ntmps102
  go_wp2
  go_loopw [5] (fun i wr => ∃ k : Nat, k ≤ n ∧ i = .int .i64 k ∧ Hid (Fr (fun _ => False) w wr)) (fun i _ => n - (intOf i).toNat)
  case atStart => exact ⟨0, Nat.zero_le _, rfl, Lib.hid (Fr.refl _ _)⟩
  case round =>
    obtain ⟨k, hk, rfl, HF⟩ := hrel
    by_cases hlt : k < n
    · obtain ⟨g, off, rfl, _, hcell⟩ := HR.out (by omega)
      obtain ⟨g2, off2, rfl, _, hcell2⟩ := HS.out (by omega)
      obtain ⟨x, hx⟩ : ∃ x, la[k]? = some x := ⟨_, List.getElem?_eq_getElem (by rw [HN.out]; exact hlt)⟩
      obtain ⟨y, hy⟩ : ∃ y, lb[k]? = some y := ⟨_, List.getElem?_eq_getElem (by rw [HNB.out]; exact hlt)⟩
      have hxy : x.1 = y.1 := by
        have h1 : (la.map Prod.fst)[k]? = some x.1 := by rw [List.getElem?_map, hx]; rfl
        have h2 : (lb.map Prod.fst)[k]? = some y.1 := by rw [List.getElem?_map, hy]; rfl
        rw [HM.out, h2] at h1
        exact (Option.some.inj h1).symm
      have hix := HRI.out x (List.mem_of_getElem? hx)
      have hiy := HSI.out y (List.mem_of_getElem? hy)
      have hil := HIL.out x (List.mem_of_getElem? hx)
      obtain ⟨⟨ref, ivs⟩, iv⟩ := x
      obtain ⟨sy, iv2⟩ := y
      simp only [] at hxy hix hiy hil
      subst hxy
      obtain ⟨Ai, ci, rfl, _, hci, hri⟩ := hix
      obtain ⟨Bi, di, rfl, _, hdi, hsi⟩ := hiy
      simp only [] at hdi hsi
      obtain ⟨m, hm⟩ : ∃ m, ivs.length = m := ⟨_, rfl⟩
      rw [hm] at hci hri hdi hsi hil
      have key : ∀ {l : List (Ston × Value)} {g off : Nat} {z : Ston × Value}, l[k]? = some z → (∀ j u, (l.flatMap stc)[j]? = some u → w.cell? ⟨g, off + j, none⟩ = some u) → ∀ W', Fr (fun _ => False) w W' → ∀ j, j < 2 → ∀ u, (stc z)[j]? = some u → W'.cell? ⟨g, off + (k * 2 + j), none⟩ = some u := fun {l g off z} hz hcell W' hF j hj u hu => by
        have := hcell (k * 2 + j) u (by rw [flat2 stc (fun _ => rfl) l k z hz j hj]; exact hu)
        rw [hF.cell (p := ⟨g, off + (k * 2 + j), none⟩) (World.block_lt_of_cell? w _ this) (fun e => e)]
        exact this
      have HC : Hid (∀ W', Fr (fun _ => False) w W' → (W'.cell? ⟨g, off + k * 2, none⟩ = some (.int .u64 ref) ∧ W'.cell? ⟨g, off + k * 2 + 1, none⟩ = some (.slice Ai m ci)) ∧ (W'.cell? ⟨g2, off2 + k * 2, none⟩ = some (.int .u64 ref) ∧ W'.cell? ⟨g2, off2 + k * 2 + 1, none⟩ = some (.slice Bi m di))) := Lib.hid (fun W' hF =>
        ⟨⟨key hx hcell W' hF 0 (by omega) _ rfl, key hx hcell W' hF 1 (by omega) _ (by rw [← hm]; rfl)⟩, ⟨key hy hcell2 W' hF 0 (by omega) _ rfl, key hy hcell2 W' hF 1 (by omega) _ (by rw [← hm]; rfl)⟩⟩)
      obtain ⟨⟨c0, c1⟩, ⟨d0, d1⟩⟩ := HC.out wr.drew HF.out.drew
      have HMM := Lib.hid hm
      have HRI2 := Lib.hid hri
      have HSI2 := Lib.hid hsi
      clear key hx hy hcell hcell2 hm hri hsi
      go_wp2
      go_region
      go_wp2
      clear c0 c1 d0 d1
      have HFD := Lib.hid HF.out.drew
      generalize wr.drew = W6 at HFD ⊢
      clear HF
      go_loopw [6] (fun i w' => ∃ j : Nat, j ≤ m ∧ i = .int .i64 j ∧ Hid (Fr (fun _ => False) w w')) (fun i _ => m - (intOf i).toNat)
      case atStart => exact ⟨0, Nat.zero_le _, rfl, HFD⟩
      case round =>
        obtain ⟨j, hj, rfl, HF2⟩ := hrel
        obtain ⟨⟨c0, c1⟩, ⟨d0, d1⟩⟩ := HC.out _ HF2.out
        by_cases hlt2 : j < m
        · obtain ⟨g3, off3, rfl, _, hcell3⟩ := HRI2.out (by omega)
          obtain ⟨g4, off4, rfl, _, hcell4⟩ := HSI2.out (by omega)
          obtain ⟨y, hy⟩ : ∃ y, ivs[j]? = some y := ⟨_, List.getElem?_eq_getElem (by rw [HMM.out]; exact hlt2)⟩
          have key : ∀ {g off : Nat}, (∀ j u, (ivs.flatMap ivc)[j]? = some u → w.cell? ⟨g, off + j, none⟩ = some u) → ∀ W', Fr (fun _ => False) w W' → ∀ i, i < 2 → ∀ u, (ivc y)[i]? = some u → W'.cell? ⟨g, off + (j * 2 + i), none⟩ = some u := fun {g off} hcell W' hF i hi u hu => by
            have := hcell (j * 2 + i) u (by rw [flat2 ivc (fun _ => rfl) ivs j y hy i hi]; exact hu)
            rw [hF.cell (p := ⟨g, off + (j * 2 + i), none⟩) (World.block_lt_of_cell? w _ this) (fun e => e)]
            exact this
          obtain ⟨⟨c0', c1'⟩, ⟨d0', d1'⟩⟩ := HC.out _ HF2.out.drew
          have e0 := key hcell3 _ HF2.out.drew 0 (by omega) _ rfl
          have e1 : wr.drew.cell? ⟨g3, off3 + j * 2 + 1, none⟩ = some (.int .i64 y.2) := key hcell3 _ HF2.out.drew 1 (by omega) _ rfl
          have f0 := key hcell4 _ HF2.out.drew 0 (by omega) _ rfl
          have f1 : wr.drew.cell? ⟨g4, off4 + j * 2 + 1, none⟩ = some (.int .i64 y.2) := key hcell4 _ HF2.out.drew 1 (by omega) _ rfl
          simp only [Nat.add_zero] at e0 f0
          have HF3 := Lib.hid HF2.out.drew
          clear key hcell3 hcell4 hy
          go_wp2
          go_region
          go_wp2
          go_roundw
          case rel => exact ⟨j + 1, by omega, by go_num, HF3⟩
          case measure => simp [intOf]; omega
        · obtain rfl : j = m := by omega
          go_wp2
          go_roundw
          case rel => exact ⟨k + 1, by omega, by go_num, HF2⟩
          case measure => simp [intOf]; omega
    · obtain rfl : k = n := by omega
      go_wp2
      go_ret
      exact ⟨rfl, HF.out⟩
end Go.Proofs.YtbkookiigkckdaaGreatDoor
