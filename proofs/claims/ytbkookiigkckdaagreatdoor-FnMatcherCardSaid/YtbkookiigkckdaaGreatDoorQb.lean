/- utf8.AppendRune into another's block. -/
import Derived.Test.YtbkookiigkckdaaGreatDoorQa
namespace Go.Proofs.YtbkookiigkckdaaGreatDoor
open Go.RowKit
set_option linter.unusedVariables false
set_option linter.unusedSimpArgs false

theorem src_ic (W : World) (g : Nat) (ys : List Int) (c : Nat) (hb : Blk W g 5 (ic ys).toArray) : Src Tryz.prog 1 44 (.slice (some ⟨g, 0, none⟩) ys.length c) ys.length (ic ys) W :=
  Src.ofSlice (e' := 5) _ Tryz.underlying44 _ _ c _ (by rw [ic_len]; omega) (fun j u hj => by
    have e1 : (⟨g, 0, none⟩ : Addr).add j = ⟨g, 0 + j, none⟩ := by unfold Addr.add; split <;> simp_all
    rw [e1, Nat.zero_add, hb.cell]
    simpa using hj) (ic_one ys)

theorem src_new (W : World) (cs : Array Value) (ys : List Int) (n c : Nat) (hn : ys.length = n) (h : cs.toList = ic ys) : Src Tryz.prog 1 44 (.slice (some ⟨W.heap.size, 0, none⟩) n c) ys.length (ic ys) (W.alloc (.cells cs 5)) := by
  subst hn
  have e : cs = (ic ys).toArray := by rw [← h]
  subst e
  exact src_ic _ _ ys c (Blk.new W 5 _)

/-- What an appending function hands back. -/
def AqEnds (w0 : World) (g off c0 N : Nat) (t : TypeId) (low : List Value) (xs : List Int) (Z : List Int → Prop) (r : Ending) (w' : World) : Prop :=
  ∃ v' zs, r = .returned v' ∧ Z zs ∧ Dst w0 g off c0 N t low w' v' (xs ++ zs)

section
variable {w0 : World} {g off c0 N : Nat} {t : TypeId} {low : List Value} {xs : List Int}

set_option maxRecDepth 100000 in
set_option maxHeartbeats 4000000 in
theorem appendNonASCII_any (v : Value) (r : Int) (h0 : 128 ≤ r) (h1 : r ≤ 1114111) (w : World) (hD : Dst w0 g off c0 N t low w v xs) (hb : xs.length ≤ 549755813888) :
    Calls Tryz.prog 298 #[v, .int .i32 r] w (AqEnds w0 g off c0 N t low xs (fun zs => zs.length ≤ 10)) := by
  obtain ⟨i5, hi, hz0, hz1, hz2⟩ := info_parts Tryz.info5
  have HD := Lib.hid hD
  clear hD
  by_cases hA : r ≤ 2047
  · go_enter Tryz.func298, Tryz.ntmps298
    go_wp2_with (at_builtin; refine Hid.out ?_)
    refine Lib.hid ?_
    refine wpList_append_dst hi hz0 hz1 hz2 rfl _ _ 44 rfl rfl (HD.out.still ((Fr.refl _ w).alloc _)) _ [_, _] rfl (src_new w _ [_, _] _ _ rfl rfl) (by simp; omega) ?_
    intro v' w' hD'
    go_wp2_with fail
    go_ret
    exact ⟨_, _, rfl, by simp, hD'⟩
  by_cases hB : r < 55296
  · go_enter Tryz.func298, Tryz.ntmps298
    go_wp2_with (at_builtin; refine Hid.out ?_)
    refine Lib.hid ?_
    refine wpList_append_dst hi hz0 hz1 hz2 rfl _ _ 44 rfl rfl (HD.out.still ((Fr.refl _ w).alloc _)) _ [_, _, _] rfl (src_new w _ [_, _, _] _ _ rfl rfl) (by simp; omega) ?_
    intro v' w' hD'
    go_wp2_with fail
    go_ret
    exact ⟨_, _, rfl, by simp, hD'⟩
  by_cases hC : r ≤ 57343
  · go_enter Tryz.func298, Tryz.ntmps298
    go_wp2_with (at_builtin; refine Hid.out ?_)
    refine Lib.hid ?_
    refine wpList_append_dst hi hz0 hz1 hz2 rfl _ _ 44 rfl rfl (HD.out.still ((Fr.refl _ w).alloc _)) _ [_, _, _] rfl (src_new w _ [_, _, _] _ _ rfl rfl) (by simp; omega) ?_
    intro v' w' hD'
    go_wp2_with fail
    go_ret
    exact ⟨_, _, rfl, by simp, hD'⟩
  by_cases hE : r ≤ 65535
  · go_enter Tryz.func298, Tryz.ntmps298
    go_wp2_with (at_builtin; refine Hid.out ?_)
    refine Lib.hid ?_
    refine wpList_append_dst hi hz0 hz1 hz2 rfl _ _ 44 rfl rfl (HD.out.still ((Fr.refl _ w).alloc _)) _ [_, _, _] rfl (src_new w _ [_, _, _] _ _ rfl rfl) (by simp; omega) ?_
    intro v' w' hD'
    go_wp2_with fail
    go_ret
    exact ⟨_, _, rfl, by simp, hD'⟩
  · go_enter Tryz.func298, Tryz.ntmps298
    go_wp2_with (at_builtin; refine Hid.out ?_)
    refine Lib.hid ?_
    refine wpList_append_dst hi hz0 hz1 hz2 rfl _ _ 44 rfl rfl (HD.out.still ((Fr.refl _ w).alloc _)) _ [_, _, _, _] rfl (src_new w _ [_, _, _, _] _ _ rfl rfl) (by simp; omega) ?_
    intro v' w' hD'
    go_wp2_with fail
    go_ret
    exact ⟨_, _, rfl, by simp, hD'⟩

set_option maxRecDepth 100000 in
set_option maxHeartbeats 1000000 in
theorem appendRune_any (v : Value) (r : Int) (h0 : 0 ≤ r) (h1 : r ≤ 1114111) (w : World) (hD : Dst w0 g off c0 N t low w v xs) (hb : xs.length ≤ 549755813888) :
    Calls Tryz.prog 286 #[v, .int .i32 r] w (AqEnds w0 g off c0 N t low xs (fun zs => zs.length ≤ 10 ∧ (r ≤ 127 → zs = [r]))) := by
  by_cases hA : r ≤ 127
  · obtain ⟨i5, hi, hz0, hz1, hz2⟩ := info_parts Tryz.info5
    have HD := Lib.hid hD
    clear hD
    go_enter Tryz.func286, Tryz.ntmps286
    go_wp2_with (at_builtin; refine Hid.out ?_)
    refine Lib.hid ?_
    refine wpList_append_dst hi hz0 hz1 hz2 rfl _ _ 44 rfl rfl (HD.out.still ((Fr.refl _ w).alloc _)) _ [_] rfl (src_new w _ [_] _ _ rfl rfl) (by simp; omega) ?_
    intro v' w' hD'
    go_wp2_with fail
    go_ret
    exact ⟨_, _, rfl, ⟨by simp, fun _ => by first | rfl | (congr 1; omega)⟩, hD'⟩
  · have hq := appendNonASCII_any v r (by omega) h1 w hD hb
    clear hD
    go_enter Tryz.func286, Tryz.ntmps286
    go_wp2_with (go_at_call 298; refine hq.mono ?_; rintro e w1 ⟨v1, zs, rfl, hz, hD1⟩)
    go_ret
    exact ⟨_, _, rfl, ⟨hz, fun h => absurd h (by omega)⟩, hD1⟩
end
end Go.Proofs.YtbkookiigkckdaaGreatDoor
