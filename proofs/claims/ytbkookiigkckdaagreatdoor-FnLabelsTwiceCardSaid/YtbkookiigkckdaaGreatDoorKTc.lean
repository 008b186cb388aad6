/- spec.Among 64 and spec.Kept 27, at one name. -/
import Derived.Test.YtbkookiigkckdaaGreatDoorK25
import Derived.Test.YtbkookiigkckdaaGreatDoorK15
namespace Go.Proofs.YtbkookiigkckdaaGreatDoor
open Go.RowKit
set_option linter.unusedVariables false
set_option linter.unusedSimpArgs false

def hasName (t : ByteArray) (x : Lab) : Bool := decide (x.1 = t)
theorem name_beq {a b : ByteArray} (h : a = b) : (a.toList == b.toList) = true := by rw [h]; simp

set_option maxRecDepth 100000 in
set_option maxHeartbeats 4000000 in
theorem among_any (g c : Nat) (t nm : ByteArray) (w : World) (hc : w.cell? ⟨g, 0, none⟩ = some (.string t)) : Calls Tryz.prog 64 #[.slice (some ⟨g, 0, none⟩) 1 c, .string nm] w fun r w' => r = .returned (.bool (decide (nm = t))) ∧ w' = w := by
  by_cases h : nm = t
  · have e : decide (nm = t) = true := decide_eq_true h
    have ht : (t.toList == nm.toList) = true := name_beq h.symm
    rw [e]
    clear e h
    go_enter Tryz.func64, Tryz.ntmps64
    go_wp2
    refine wp_loop_rounds 1 ?_
    rw [rounds_succ]
    go_wp2
    go_ret
    exact ⟨rfl, rfl⟩
  · have e : decide (nm = t) = false := decide_eq_false h
    have ht : (t.toList == nm.toList) = false := bytes_beq (fun e => h e.symm)
    rw [e]
    clear e h
    go_enter Tryz.func64, Tryz.ntmps64
    go_wp2
    go_loop [5] (fun vi => ∃ i : Nat, i ≤ 1 ∧ vi = .int .i64 i) (fun vi => 1 - (intOf vi).toNat)
    case atStart => exact ⟨0, by omega, rfl⟩
    case round =>
      obtain ⟨i, hi, rfl⟩ := hrel
      by_cases h0 : i = 0
      · subst h0
        go_wp2
        go_round
        case rel => exact ⟨1, by omega, rfl⟩
        case measure => simp [intOf]
      · obtain rfl : i = 1 := by omega
        go_wp2
        go_ret
        exact ⟨rfl, rfl⟩

set_option maxRecDepth 100000 in
set_option maxHeartbeats 4000000 in
theorem kept_any (P : Nat → Prop) (v : Value) (l : List Lab) (t : ByteArray) (g c0 : Nat) (w : World) (h : Sl P w v 2 l.length (l.flatMap labc)) (hl : l.length ≤ 4096) (hg : w.cell? ⟨g, 0, none⟩ = some (.string t)) :
    Calls Tryz.prog 27 #[v, .slice (some ⟨g, 0, none⟩) 1 c0, .bool true] w (LabEnds 40 w (l.filter (hasName t))) := by
  obtain ⟨A, c, rfl, hlen, hnc, hr⟩ := h
  obtain ⟨n, hn⟩ : ∃ n, l.length = n := ⟨_, rfl⟩
  rw [hn] at hr hnc hl
  have HN := Lib.hid hn
  have HR := Lib.hid hr
  have HG := Lib.hid hg
  obtain ⟨i0, hi0, hz0, hz1, hz2⟩ := info_parts Tryz.info40
  rw [hn]
  clear hn hr hlen hg
  go_enter Tryz.func27, Tryz.ntmps27
  go_wp2
  go_loopw [7, 8] (fun v i wr => ∃ k : Nat, k ≤ n ∧ i = .int .i64 k ∧ Hid (wr.ownsRow w.heap.size 40 2 v ((l.take k).filter (hasName t)).length (((l.take k).filter (hasName t)).flatMap labc)) ∧ Hid (Fr (fun _ => False) w wr)) (fun _ i _ => n - (intOf i).toNat)
  case atStart => exact ⟨0, Nat.zero_le _, rfl, Lib.hid (World.ownsRow_nil _ _ _ _), Lib.hid (Fr.refl _ _)⟩
  case round =>
    obtain ⟨k, hk, rfl, HO, HF⟩ := hrel
    by_cases hlt : k < n
    · obtain ⟨gg, off, rfl, _, hcell⟩ := HR.out (by omega)
      obtain ⟨x, hx⟩ : ∃ x, l[k]? = some x := ⟨_, List.getElem?_eq_getElem (by rw [HN.out]; exact hlt)⟩
      have cc : ∀ j, j < 2 → ∀ u, (labc x)[j]? = some u → wr.cell? ⟨gg, off + (k * 2 + j), none⟩ = some u := fun j hj u hu => by
        have := hcell (k * 2 + j) u (by rw [flat2 labc (fun _ => rfl) l k x hx j hj]; exact hu)
        rw [HF.out.cell (p := ⟨gg, off + (k * 2 + j), none⟩) (World.block_lt_of_cell? w _ this) (fun e => e)]
        exact this
      have c0' : wr.cell? ⟨gg, off + k * 2, none⟩ = some (.string x.1) := cc 0 (by omega) _ rfl
      have c1 : wr.cell? ⟨gg, off + k * 2 + 1, none⟩ = some (.string x.2) := cc 1 (by omega) _ rfl
      have hgw : wr.cell? ⟨g, 0, none⟩ = some (.string t) := by rw [HF.out.cell (p := ⟨g, 0, none⟩) (World.block_lt_of_cell? w _ HG.out) (fun e => e)]; exact HG.out
      have HAM := Lib.hid (among_any g c0 t x.1 wr hgw)
      have etake : l.take (k + 1) = l.take k ++ [x] := by rw [List.take_add_one, hx]; rfl
      have hkl : ((l.take k).filter (hasName t)).length ≤ k := by
        have h1 := List.length_filter_le (hasName t) (l.take k)
        have h2 : (l.take k).length ≤ k := List.length_take_le _ _
        omega
      by_cases hne : x.1 = t
      · have e : decide (x.1 = t) = true := decide_eq_true hne
        rw [e] at HAM
        have HFI : Hid ((l.take (k + 1)).filter (hasName t) = (l.take k).filter (hasName t) ++ [x]) := Lib.hid (by rw [etake, List.filter_append, List.filter_cons, if_pos (by unfold hasName; exact e)]; rfl)
        clear cc hx hcell etake e hne hgw
        generalize (l.take k).filter (hasName t) = out at HO HFI hkl
        obtain ⟨a', n', k', rfl⟩ := own_slice HO.out
        go_wp2_with (first | (go_at_call 64; refine HAM.out.mono ?_; rintro r w1 ⟨rfl, rfl⟩) | (at_builtin; refine Hid.out ?_))
        refine Lib.hid ?_
        refine wpList_append_src _ rfl _ _ 31 31 rfl w.heap.size 40 i0 _ 2 32 Tryz.underlying31 hi0 hz0 hz1 hz2 rfl (by decide) _ out.length (out.flatMap labc) rfl (HO.out.alloc _) _ 1 (labc x) rfl (src_blk Tryz.underlying31 (Blk.new _ 40 (labc x).toArray) rfl (by simp [labc, Value.oneCell'])) (by unfold maxLen; omega) (by omega) (by have := HF.out.size; simp; omega) ?_
        intro v' w2 hown' hgrow hat
        have HO2 : Hid (w2.ownsRow w.heap.size 40 2 v' ((l.take (k + 1)).filter (hasName t)).length (((l.take (k + 1)).filter (hasName t)).flatMap labc)) := Lib.hid (by rw [HFI.out, List.length_append, List.flatMap_append]; simpa using hown')
        have HF2 : Hid (Fr (fun _ => False) w w2) := Lib.hid ((HF.out.alloc _).grown hgrow (fun q hq => .inr ((HO.out.lt q hq).1)))
        clear hown' hgrow hat
        go_wp2
        go_roundw
        case rel => exact ⟨k + 1, by omega, by go_num, HO2, HF2⟩
        case measure => simp [intOf]; omega
      · have e : decide (x.1 = t) = false := decide_eq_false hne
        rw [e] at HAM
        have HO2 : ∀ v, Hid (wr.ownsRow w.heap.size 40 2 v ((l.take k).filter (hasName t)).length (((l.take k).filter (hasName t)).flatMap labc)) → Hid (wr.ownsRow w.heap.size 40 2 v ((l.take (k + 1)).filter (hasName t)).length (((l.take (k + 1)).filter (hasName t)).flatMap labc)) := fun v h => Lib.hid (by rw [etake, List.filter_append, List.filter_cons, if_neg (by unfold hasName; rw [e]; simp)]; simpa using h.out)
        have HO3 := HO2 _ HO
        clear cc hx hcell etake e hne hgw HO2
        go_wp2_with (go_at_call 64; refine HAM.out.mono ?_; rintro r w1 ⟨rfl, rfl⟩)
        go_roundw
        case rel => exact ⟨k + 1, by omega, by go_num, HO3, HF⟩
        case measure => simp [intOf]; omega
    · obtain rfl : k = n := by omega
      go_wp2
      go_ret
      have h := HO.out
      rw [← HN.out, List.take_length] at h
      exact ⟨_, rfl, h, HF.out⟩
end Go.Proofs.YtbkookiigkckdaaGreatDoor
