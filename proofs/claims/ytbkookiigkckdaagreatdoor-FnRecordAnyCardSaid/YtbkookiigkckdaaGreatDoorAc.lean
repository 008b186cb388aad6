/- The walk of FnRecordAny at tombstones. -/
import Derived.Test.YtbkookiigkckdaaGreatDoorAa
namespace Go.Proofs.YtbkookiigkckdaaGreatDoor
open Go.RowKit
set_option linter.unusedVariables false
set_option linter.unusedSimpArgs false

theorem outS_nil (xs : List UInt8) : outS [] xs = ((decStones xs).getD []).map one := by
  unfold outS
  split
  · rename_i h; rw [h]; rfl
  · rename_i h; rw [h]; rfl
theorem decStones_len (xs : List UInt8) : ((decStones xs).getD []).length ≤ xs.length := by
  have := outS_len [] xs
  rw [outS_nil] at this
  simpa using this
theorem encStones_one (l : List Stn) : encStones (l.map one) = encFlat l := by rw [encStones, flatS_one]
theorem one_wf {s : Stn} (h : s.wf) : (one s).wf := ⟨h.1, fun p hp => by
  simp only [one, List.mem_singleton] at hp
  subst hp
  exact h.2⟩
theorem encFlat_len (l : List Stn) (hw : ∀ s ∈ l, s.wf) : (encFlat l).length ≤ 1 + l.length * 28 := by
  have h := flatMap_len' encStn 28 l (fun s hs => encIv_len s.ref (s.lo, s.hi) (hw s hs).2)
  simp only [encFlat, List.length_cons]
  omega
theorem recordRead_stones0 (te : TypeId) (pe : Value) (q0 q1 q2 q3 q4 q5 q6 bv : Value) (xs : List UInt8) (P : Nat → Prop) (w : World) (hb : Sl P w bv 1 xs.length (bc xs)) (hxl : xs.length ≤ 1073741824) (hP : ∀ g, P g → g < w.heap.size)
    (hsl : ∀ s ∈ [q0, q1, q2, q3, q4, q5, q6], ∃ A m c, s = .slice A m c) (hs : SlS P w q2 []) (hE : w.cell? ⟨2, 0, none⟩ = some (.iface te pe)) :
    Calls Tryz.prog 29 #[.int .i64 3, bv, .agg #[q0, q1, q2, q3, q4, q5, q6]] w (ReadDone (StnParts w.heap.size (((decStones xs).getD []).map one)) (decStones xs).isSome w) := by
  rw [← outS_nil]
  exact recordRead_stones te pe q0 q1 q2 q3 q4 q5 q6 bv [] xs P w hb hxl hP hsl hs (by simp) (by simp) hE

set_option maxRecDepth 100000 in
set_option maxHeartbeats 8000000 in
theorem any_3 (te : TypeId) (pe : Value) (P : Nat → Prop) (k : Nat) (hk : (k : Int) % 3 = 1) (v : Value) (xs : List UInt8) (w : World) (hv : Sl P w v 1 xs.length (bc xs)) (hP : ∀ g, P g → g < w.heap.size) (hE : w.cell? ⟨2, 0, none⟩ = some (.iface te pe)) (hl : xs.length ≤ 400) : Calls Tryz.prog 7 #[.int .u8 k, v] w (TrueEnds w) := by
  have hC1 := recordRead_stones0 te pe (.slice none 0 0) (.slice none 0 0) (.slice none 0 0) (.slice none 0 0) (.slice none 0 0) (.slice none 0 0) (.slice none 0 0) v xs P w hv (by omega) hP slices7 (nilSlS P w) hE
  obtain ⟨A, c, rfl, _, hc, _⟩ := hv
  have hlen : ((decStones xs).getD []).length ≤ xs.length := decStones_len xs
  have hwf := decStones_wf xs
  obtain ⟨n, hn⟩ : ∃ n, xs.length = n := ⟨_, rfl⟩
  rw [hn] at hl hc hlen ⊢
  rw [hn] at hC1
  have h400 : ¬ (400 : Int) < (n : Int) := by omega
  have hz : ¬ (2147483647 : Int) < (n : Int) := by omega
  have k0 := kind_at1
  have HA : Hid (∀ W, Fr (fun _ => False) w W → Calls Tryz.prog 28 #[] W (TrueEnds W)) := Lib.hid (fun W hF => recordAlive_any te pe W (by rw [hF.cell (p := ⟨2, 0, none⟩) (World.block_lt_of_cell? w _ hE) (fun e => e)]; exact hE))
  have HEW : Hid (∀ W, Fr (fun _ => False) w W → W.cell? ⟨2, 0, none⟩ = some (.iface te pe)) := Lib.hid (fun W hF => by rw [hF.cell (p := ⟨2, 0, none⟩) (World.block_lt_of_cell? w _ hE) (fun e => e)]; exact hE)
  have HWF := Lib.hid hwf
  clear hE hn hwf
  generalize decStones xs = D at hC1 hlen HWF
  rcases D with _ | l
  · go_enter Tryz.func7, Tryz.ntmps7
    go_wp2_with (first
      | (go_at_call 29; refine hC1.mono ?_; rintro r w1 ⟨ps, rfl, hps, _, hnil, hf1⟩; obtain rfl := hnil rfl; unfold nils)
      | (go_at_call 28; refine (HA.out _ (hf1.alloc _)).mono ?_; rintro r w2 ⟨rfl, hf2⟩))
    go_ret
    exact ⟨rfl, (hf1.alloc _).same hf2⟩
  · have hll : l.length ≤ n := hlen
    go_enter Tryz.func7, Tryz.ntmps7
    go_wp2_with (first
      | (go_at_call 29; refine hC1.mono ?_; rintro r w1 ⟨ps, rfl, hps, hL, _, hf1⟩; obtain ⟨lv, lo1, rfl, hm1, hown1⟩ := hL rfl; refine Hid.out ?_))
    clear hL hps hC1
    have hdl1 : (some l).getD [] = l := rfl
    rw [hdl1] at hm1
    have hl1 : lo1.length ≤ n := by have h := congrArg List.length hm1; rw [List.length_map, List.length_map] at h; omega
    obtain ⟨a1, k1, rfl⟩ := own_slice' hown1.1
    have hi1 : ∀ p ∈ lo1, p.1.ivs.length ≤ 6 := fun p hp => by
      have h : p.1 ∈ l.map one := by rw [← hm1]; exact List.mem_map.2 ⟨p, hp, rfl⟩
      obtain ⟨t, _, ht⟩ := List.mem_map.1 h
      rw [← ht]; simp [one]
    have hw1 : ∀ s ∈ lo1.map Prod.fst, s.wf := by
      rw [hm1]
      intro s hs
      obtain ⟨t, ht, rfl⟩ := List.mem_map.1 hs
      exact one_wf (HWF.out l rfl t ht)
    have hb1 : ∀ s ∈ lo1.map Prod.fst, s.ivs.length ≤ 4096 := fun s hs => by
      obtain ⟨p, hp, rfl⟩ := List.mem_map.1 hs
      have := hi1 p hp; omega
    have hR := right_3 none none a1 none none none none 0 0 k1 0 0 0 0 lo1.length _ lo1 (w1.alloc (.cells #[.slice none 0 0, .slice none 0 0, .slice a1 lo1.length k1, .slice none 0 0, .slice none 0 0, .slice none 0 0, .slice none 0 0] 54)) (hown1.sl.fr ((Fr.refl (fun _ => False) w1).alloc _) (fun _ _ e => e)) rfl (by omega) hi1
    have F1 := Lib.hid hf1
    have O1 := Lib.hid hown1
    have HM1 := Lib.hid hm1
    have HI1 := Lib.hid hi1
    have HW1 := Lib.hid hw1
    have HB1 := Lib.hid hb1
    have hz1 := hf1.size
    clear hf1 hown1 hm1 hi1 hw1 hb1 hdl1
    by_cases h12 : lo1.length ≤ 12
    · rw [is12 h12] at hR
      refine Lib.hid ?_
      go_wp2_with (go_at_call 30; refine hR.mono ?_; rintro r w2 ⟨rfl, hf2⟩; refine Hid.out ?_)
      have F2 := Lib.hid ((F1.out.alloc (.cells #[.slice none 0 0, .slice none 0 0, .slice a1 lo1.length k1, .slice none 0 0, .slice none 0 0, .slice none 0 0, .slice none 0 0] 54)).same hf2)
      have F12 := Lib.hid (((Fr.refl (fun _ => False) w1).alloc (.cells #[.slice none 0 0, .slice none 0 0, .slice a1 lo1.length k1, .slice none 0 0, .slice none 0 0, .slice none 0 0, .slice none 0 0] 54)).same hf2)
      have hP2 := (Blk.new w1 54 #[.slice none 0 0, .slice none 0 0, .slice a1 lo1.length k1, .slice none 0 0, .slice none 0 0, .slice none 0 0, .slice none 0 0]).fr hf2 (fun e => e)
      have HP2 := Lib.hid hP2
      obtain ⟨x0, x1, x2, x3, x4, x5, x6⟩ := seven_cells hP2
      have hC2 := recordWrite_stones (.slice none 0 0) (.slice none 0 0) (.slice a1 lo1.length k1) (.slice none 0 0) (.slice none 0 0) (.slice none 0 0) (.slice none 0 0) (.slice none 0 0) [] lo1 _ w2 (nilSl _ _ 1) (by simp) slices7 (O1.out.sl.fr F12.out (fun _ _ e => e)) (by omega) HB1.out HW1.out
      rw [List.nil_append, HM1.out, encStones_one] at hC2
      clear hR hf2 hP2
      refine Lib.hid ?_
      go_wp2_with (go_at_call 31; refine hC2.mono ?_; rintro r w3 ⟨v3, lv3, rfl, rfl, hown3, hf3⟩; refine Hid.out ?_)
      obtain ⟨a3, k3, rfl⟩ := own_slice' hown3
      have F3 := Lib.hid (F2.out.same hf3)
      have hel := encFlat_len l (HWF.out l rfl)
      have hC3 := recordRead_stones0 te pe (.slice none 0 0) (.slice none 0 0) (.slice none 0 0) (.slice none 0 0) (.slice none 0 0) (.slice none 0 0) (.slice none 0 0) _ (encFlat l) _ w3 (Sl.ofOwn hown3) (by omega) (fun g hg => own_lt hown3 hg) slices7 (nilSlS _ w3) (HEW.out _ F3.out)
      rw [decStones_enc l (HWF.out l rfl)] at hC3
      have HP3 := Lib.hid (HP2.out.fr hf3 (fun e => e))
      have F13 := Lib.hid (F12.out.same hf3)
      clear hC2 hown3 hf3 x0 x1 x2 x3 x4 x5 x6
      generalize encFlat l = ys at hel hC3 ⊢
      refine Lib.hid ?_
      go_wp2_with (go_at_call 29; refine hC3.mono ?_; rintro r w4 ⟨ps, rfl, hps, hL, _, hf4⟩; refine Hid.out ?_)
      obtain ⟨lv, lo4, rfl, hm4, hown4⟩ := hL rfl
      obtain ⟨a4, k4, rfl⟩ := own_slice' hown4.1
      have hdl : (some l).getD [] = l := rfl
      rw [hdl] at hm4
      have hl4 : lo4.length ≤ n := by have h := congrArg List.length hm4; rw [List.length_map, List.length_map] at h; omega
      have hi4 : ∀ p ∈ lo4, p.1.ivs.length ≤ 6 := fun p hp => by
        have h : p.1 ∈ l.map one := by rw [← hm4]; exact List.mem_map.2 ⟨p, hp, rfl⟩
        obtain ⟨t, _, ht⟩ := List.mem_map.1 h
        rw [← ht]; simp [one]
      have HM4 := Lib.hid hm4
      have HI4 := Lib.hid hi4
      clear hm4 hi4
      have F14 := Lib.hid (F13.out.same hf4)
      have F4 := Lib.hid (F3.out.same hf4)
      have HP5 := Lib.hid ((HP3.out.fr hf4 (fun e => e)).alloc (.cells #[.slice none 0 0, .slice none 0 0, .slice a4 lo4.length k4, .slice none 0 0, .slice none 0 0, .slice none 0 0, .slice none 0 0] 54))
      have HQ5 := Lib.hid (Blk.new w4 54 #[.slice none 0 0, .slice none 0 0, .slice a4 lo4.length k4, .slice none 0 0, .slice none 0 0, .slice none 0 0, .slice none 0 0])
      have O4 := Lib.hid hown4
      have hz4 := hf4.size
      have hz3 := F13.out.size
      obtain ⟨x0, x1, x2, x3, x4, x5, x6⟩ := seven_cells HP5.out
      obtain ⟨y0, y1, y2, y3, y4, y5, y6⟩ := seven_cells HQ5.out
      clear hf4 hown4 hps hL hC3 hdl
      refine Lib.hid ?_
      go_wp2_with fail
      have F5 := Lib.hid (F4.out.alloc (.cells #[.slice none 0 0, .slice none 0 0, .slice a4 lo4.length k4, .slice none 0 0, .slice none 0 0, .slice none 0 0, .slice none 0 0] 54)).drew
      go_region_held3 (fun w' => (w'.cell? ⟨w1.heap.size, 0, none⟩ = some (.slice none 0 0) ∧ w'.cell? ⟨w1.heap.size, 1, none⟩ = some (.slice none 0 0) ∧ w'.cell? ⟨w1.heap.size, 2, none⟩ = some (.slice a1 lo1.length k1) ∧ w'.cell? ⟨w1.heap.size, 3, none⟩ = some (.slice none 0 0) ∧ w'.cell? ⟨w1.heap.size, 4, none⟩ = some (.slice none 0 0) ∧ w'.cell? ⟨w1.heap.size, 5, none⟩ = some (.slice none 0 0) ∧ w'.cell? ⟨w1.heap.size, 6, none⟩ = some (.slice none 0 0)) ∧ (w'.cell? ⟨w4.heap.size, 0, none⟩ = some (.slice none 0 0) ∧ w'.cell? ⟨w4.heap.size, 1, none⟩ = some (.slice none 0 0) ∧ w'.cell? ⟨w4.heap.size, 2, none⟩ = some (.slice a4 lo4.length k4) ∧ w'.cell? ⟨w4.heap.size, 3, none⟩ = some (.slice none 0 0) ∧ w'.cell? ⟨w4.heap.size, 4, none⟩ = some (.slice none 0 0) ∧ w'.cell? ⟨w4.heap.size, 5, none⟩ = some (.slice none 0 0) ∧ w'.cell? ⟨w4.heap.size, 6, none⟩ = some (.slice none 0 0)))
        ((first | exact ⟨seven_cells KP8.out, seven_cells KQ8.out⟩ | exact ⟨seven_cells KP7.out, seven_cells KQ7.out⟩ | exact ⟨seven_cells KP6.out, seven_cells KQ6.out⟩ | exact ⟨seven_cells HP5.out.drew, seven_cells HQ5.out.drew⟩ | go_keep))
        ((first
          | (go_at_call 28; refine (HA.out _ F5.out).mono ?_; rintro r6 w6 ⟨rfl, hf6⟩; have KP6 := Lib.hid (HP5.out.drew.fr hf6 (fun e => e)); have KQ6 := Lib.hid (HQ5.out.drew.fr hf6 (fun e => e)))
          | (go_at_call 33; refine (written_stones _ lo1 none none a1 none none none none 0 0 lo1.length 0 0 0 0 0 0 k1 0 0 0 0 w6 (O1.out.sl.fr (F14.out.same (((Fr.refl (fun _ => False) w4).alloc (.cells #[.slice none 0 0, .slice none 0 0, .slice a4 lo4.length k4, .slice none 0 0, .slice none 0 0, .slice none 0 0, .slice none 0 0] 54)).drew.same hf6)) (fun _ _ e => e)) (by omega) (fun p hp => by have := HI1.out p hp; omega)).mono ?_; rintro r7 w7 ⟨v7, rfl, ⟨a7, m7, k7, rfl⟩, ⟨lo7, hm7, hown7⟩, hf7⟩; rw [HM1.out, flatS_one] at hm7; have KP7 := Lib.hid (KP6.out.fr hf7 (fun e => e)); have KQ7 := Lib.hid (KQ6.out.fr hf7 (fun e => e)); have F47 := Lib.hid ((((Fr.refl (fun _ => False) w4).alloc (.cells #[.slice none 0 0, .slice none 0 0, .slice a4 lo4.length k4, .slice none 0 0, .slice none 0 0, .slice none 0 0, .slice none 0 0] 54)).drew.same hf6).same hf7))
          | (go_at_call 32; refine (sameParts_of none none none none 0 0 0 0 (.slice none 0 0) (.slice a4 lo4.length k4) (.slice none 0 0) (.slice none 0 0) (.slice none 0 0) (.slice none 0 0) (.slice a7 m7 k7) (.slice none 0 0) (.slice none 0 0) (.slice none 0 0) w7 ten_slices (fun W' _ => same101_any (fun _ => True) (fun _ => True) _ _ [] W' (nilSl _ _ 3) (nilSl _ _ 3) (by decide)) (fun W' hW' => same102_any _ _ _ _ lo4 lo7 W' (O4.out.sl.fr (F47.out.same hW') (fun _ _ e => e)) (hown7.sl.fr hW' (fun _ _ e => e)) (HM4.out.trans hm7.symm) (by omega) (fun p hp => by have := HI4.out p hp; omega)) (fun W' _ => same103_nil _ _ _ _ W') (fun W' _ => same104_nil _ _ _ _ W') (fun W' _ => same37_nil _ _ _ _ W')).mono ?_; rintro r8 w8 ⟨rfl, hf8⟩; have KP8 := Lib.hid (KP7.out.fr hf8 (fun e => e)); have KQ8 := Lib.hid (KQ7.out.fr hf8 (fun e => e)))))
      go_wp2
      go_ret
      exact ⟨rfl, ((F5.out.same hf6).same hf7).same hf8⟩
    · rw [not12 h12] at hR
      refine Lib.hid ?_
      go_wp2_with (first
        | (go_at_call 30; refine hR.mono ?_; rintro r w2 ⟨rfl, hf2⟩)
        | (go_at_call 28; refine (HA.out _ ((F1.out.alloc _).same hf2)).mono ?_; rintro r w3 ⟨rfl, hf3⟩))
      go_ret
      exact ⟨rfl, ((F1.out.alloc _).same hf2).same hf3⟩
end Go.Proofs.YtbkookiigkckdaaGreatDoor
