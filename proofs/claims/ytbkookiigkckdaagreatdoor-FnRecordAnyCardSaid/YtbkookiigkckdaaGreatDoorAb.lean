/- The walk of FnRecordAny at markers. -/
import Derived.Test.YtbkookiigkckdaaGreatDoorAa
namespace Go.Proofs.YtbkookiigkckdaaGreatDoor
open Go.RowKit
set_option linter.unusedVariables false
set_option linter.unusedSimpArgs false

theorem outM_nil (xs : List UInt8) : outM [] xs = (decMarkers xs).getD [] := by
  unfold outM
  split
  · rename_i h; rw [h]; rfl
  · rename_i h; rw [h]; rfl
theorem decMarkers_len (xs : List UInt8) : ((decMarkers xs).getD []).length ≤ xs.length := by
  have := outM_len [] xs
  rw [outM_nil] at this
  simpa using this
theorem encMarkers_len (l : List Mrk) : (encMarkers l).length ≤ 1 + l.length * 16 := by
  have h := flatMap_len encMrk 16 (fun s => Nat.le_of_eq (encMrk_len s)) l
  simp only [encMarkers, List.length_cons]
  omega
theorem recordRead_markers0 (te : TypeId) (pe : Value) (q0 q1 q2 q3 q4 q5 q6 bv : Value) (xs : List UInt8) (P : Nat → Prop) (w : World) (hb : Sl P w bv 1 xs.length (bc xs)) (hxl : xs.length ≤ 1073741824) (hP : ∀ g, P g → g < w.heap.size)
    (hsl : ∀ s ∈ [q0, q1, q2, q3, q4, q5, q6], ∃ A m c, s = .slice A m c) (hs : Sl P w q5 2 0 []) (hE : w.cell? ⟨2, 0, none⟩ = some (.iface te pe)) :
    Calls Tryz.prog 29 #[.int .i64 5, bv, .agg #[q0, q1, q2, q3, q4, q5, q6]] w (ReadDone (MrkParts w.heap.size ((decMarkers xs).getD [])) (decMarkers xs).isSome w) := by
  rw [← outM_nil]
  exact recordRead_markers te pe q0 q1 q2 q3 q4 q5 q6 bv [] xs P w hb hxl hP hsl hs (by simp) hE

set_option maxRecDepth 100000 in
set_option maxHeartbeats 8000000 in
theorem any_5 (te : TypeId) (pe : Value) (P : Nat → Prop) (k : Nat) (hk : (k : Int) % 3 = 2) (v : Value) (xs : List UInt8) (w : World) (hv : Sl P w v 1 xs.length (bc xs)) (hP : ∀ g, P g → g < w.heap.size) (hE : w.cell? ⟨2, 0, none⟩ = some (.iface te pe)) (hl : xs.length ≤ 400) : Calls Tryz.prog 7 #[.int .u8 k, v] w (TrueEnds w) := by
  have hC1 := recordRead_markers0 te pe (.slice none 0 0) (.slice none 0 0) (.slice none 0 0) (.slice none 0 0) (.slice none 0 0) (.slice none 0 0) (.slice none 0 0) v xs P w hv (by omega) hP slices7 (nilSl P w 2) hE
  obtain ⟨A, c, rfl, _, hc, _⟩ := hv
  have hlen : ((decMarkers xs).getD []).length ≤ xs.length := decMarkers_len xs
  have hwf := decMarkers_wf xs
  obtain ⟨n, hn⟩ : ∃ n, xs.length = n := ⟨_, rfl⟩
  rw [hn] at hl hc hlen ⊢
  rw [hn] at hC1
  have h400 : ¬ (400 : Int) < (n : Int) := by omega
  have hz : ¬ (2147483647 : Int) < (n : Int) := by omega
  have k0 := kind_at2
  have HA : Hid (∀ W, Fr (fun _ => False) w W → Calls Tryz.prog 28 #[] W (TrueEnds W)) := Lib.hid (fun W hF => recordAlive_any te pe W (by rw [hF.cell (p := ⟨2, 0, none⟩) (World.block_lt_of_cell? w _ hE) (fun e => e)]; exact hE))
  have HEW : Hid (∀ W, Fr (fun _ => False) w W → W.cell? ⟨2, 0, none⟩ = some (.iface te pe)) := Lib.hid (fun W hF => by rw [hF.cell (p := ⟨2, 0, none⟩) (World.block_lt_of_cell? w _ hE) (fun e => e)]; exact hE)
  have HWF := Lib.hid hwf
  clear hE hn hwf
  generalize decMarkers xs = D at hC1 hlen HWF
  rcases D with _ | l
  · go_enter Tryz.func7, Tryz.ntmps7
    go_wp2_with (first
      | (go_at_call 29; refine hC1.mono ?_; rintro r w1 ⟨ps, rfl, hps, _, hnil, hf1⟩; obtain rfl := hnil rfl; unfold nils)
      | (go_at_call 28; refine (HA.out _ (hf1.alloc _)).mono ?_; rintro r w2 ⟨rfl, hf2⟩))
    go_ret
    exact ⟨rfl, (hf1.alloc _).same hf2⟩
  · have hll : l.length ≤ n := hlen
    go_enter Tryz.func7, Tryz.ntmps7
    go_wp2_with (first
      | (go_at_call 29; refine hC1.mono ?_; rintro r w1 ⟨ps, rfl, hps, hL, _, hf1⟩; obtain ⟨lv, rfl, hown1⟩ := hL rfl; refine Hid.out ?_))
    clear hL hps hC1
    obtain ⟨a1, k1, rfl⟩ := own_slice' hown1
    have hR := right_5 none none none none none a1 none 0 0 0 0 0 k1 0 l.length (by omega) (w1.alloc (.cells #[.slice none 0 0, .slice none 0 0, .slice none 0 0, .slice none 0 0, .slice none 0 0, .slice a1 l.length k1, .slice none 0 0] 54))
    have F1 := Lib.hid hf1
    have O1 := Lib.hid hown1
    have hz1 := hf1.size
    clear hf1 hown1
    by_cases h12 : l.length ≤ 12
    · rw [is12 h12] at hR
      refine Lib.hid ?_
      go_wp2_with (go_at_call 30; refine hR.mono ?_; rintro r w2 ⟨rfl, hf2⟩; refine Hid.out ?_)
      have F2 := Lib.hid ((F1.out.alloc (.cells #[.slice none 0 0, .slice none 0 0, .slice none 0 0, .slice none 0 0, .slice none 0 0, .slice a1 l.length k1, .slice none 0 0] 54)).same hf2)
      have F12 := Lib.hid (((Fr.refl (fun _ => False) w1).alloc (.cells #[.slice none 0 0, .slice none 0 0, .slice none 0 0, .slice none 0 0, .slice none 0 0, .slice a1 l.length k1, .slice none 0 0] 54)).same hf2)
      have hP2 := (Blk.new w1 54 #[.slice none 0 0, .slice none 0 0, .slice none 0 0, .slice none 0 0, .slice none 0 0, .slice a1 l.length k1, .slice none 0 0]).fr hf2 (fun e => e)
      have HP2 := Lib.hid hP2
      obtain ⟨x0, x1, x2, x3, x4, x5, x6⟩ := seven_cells hP2
      have hC2 := recordWrite_markers (.slice none 0 0) (.slice none 0 0) (.slice none 0 0) (.slice none 0 0) (.slice none 0 0) (.slice a1 l.length k1) (.slice none 0 0) (.slice none 0 0) [] l _ w2 (nilSl _ _ 1) (by simp) slices7 ((Sl.ofOwn O1.out).fr F12.out (fun _ _ e => e)) (by omega) (HWF.out l rfl)
      rw [List.nil_append] at hC2
      clear hR hf2 hP2
      refine Lib.hid ?_
      go_wp2_with (go_at_call 31; refine hC2.mono ?_; rintro r w3 ⟨v3, lv3, rfl, rfl, hown3, hf3⟩; refine Hid.out ?_)
      obtain ⟨a3, k3, rfl⟩ := own_slice' hown3
      have F3 := Lib.hid (F2.out.same hf3)
      have hel := encMarkers_len l
      have hC3 := recordRead_markers0 te pe (.slice none 0 0) (.slice none 0 0) (.slice none 0 0) (.slice none 0 0) (.slice none 0 0) (.slice none 0 0) (.slice none 0 0) _ (encMarkers l) _ w3 (Sl.ofOwn hown3) (by omega) (fun g hg => own_lt hown3 hg) slices7 (nilSl _ w3 2) (HEW.out _ F3.out)
      rw [decMarkers_enc l (HWF.out l rfl)] at hC3
      have HP3 := Lib.hid (HP2.out.fr hf3 (fun e => e))
      have F13 := Lib.hid (F12.out.same hf3)
      clear hC2 hown3 hf3 x0 x1 x2 x3 x4 x5 x6
      generalize encMarkers l = ys at hel hC3 ⊢
      refine Lib.hid ?_
      go_wp2_with (go_at_call 29; refine hC3.mono ?_; rintro r w4 ⟨ps, rfl, hps, hL, _, hf4⟩; refine Hid.out ?_)
      obtain ⟨lv, rfl, hown4⟩ := hL rfl
      obtain ⟨a4, k4, rfl⟩ := own_slice' hown4
      have hdl : (some l).getD [] = l := rfl
      rw [hdl] at hown4 ⊢
      have F14 := Lib.hid (F13.out.same hf4)
      have F4 := Lib.hid (F3.out.same hf4)
      have HP5 := Lib.hid ((HP3.out.fr hf4 (fun e => e)).alloc (.cells #[.slice none 0 0, .slice none 0 0, .slice none 0 0, .slice none 0 0, .slice none 0 0, .slice a4 l.length k4, .slice none 0 0] 54))
      have HQ5 := Lib.hid (Blk.new w4 54 #[.slice none 0 0, .slice none 0 0, .slice none 0 0, .slice none 0 0, .slice none 0 0, .slice a4 l.length k4, .slice none 0 0])
      have O4 := Lib.hid hown4
      have hz4 := hf4.size
      have hz3 := F13.out.size
      obtain ⟨x0, x1, x2, x3, x4, x5, x6⟩ := seven_cells HP5.out
      obtain ⟨y0, y1, y2, y3, y4, y5, y6⟩ := seven_cells HQ5.out
      clear hf4 hown4 hps hL hC3 hdl
      refine Lib.hid ?_
      go_wp2_with fail
      have F5 := Lib.hid (F4.out.alloc (.cells #[.slice none 0 0, .slice none 0 0, .slice none 0 0, .slice none 0 0, .slice none 0 0, .slice a4 l.length k4, .slice none 0 0] 54)).drew
      go_region_held3 (fun w' => (w'.cell? ⟨w1.heap.size, 0, none⟩ = some (.slice none 0 0) ∧ w'.cell? ⟨w1.heap.size, 1, none⟩ = some (.slice none 0 0) ∧ w'.cell? ⟨w1.heap.size, 2, none⟩ = some (.slice none 0 0) ∧ w'.cell? ⟨w1.heap.size, 3, none⟩ = some (.slice none 0 0) ∧ w'.cell? ⟨w1.heap.size, 4, none⟩ = some (.slice none 0 0) ∧ w'.cell? ⟨w1.heap.size, 5, none⟩ = some (.slice a1 l.length k1) ∧ w'.cell? ⟨w1.heap.size, 6, none⟩ = some (.slice none 0 0)) ∧ (w'.cell? ⟨w4.heap.size, 0, none⟩ = some (.slice none 0 0) ∧ w'.cell? ⟨w4.heap.size, 1, none⟩ = some (.slice none 0 0) ∧ w'.cell? ⟨w4.heap.size, 2, none⟩ = some (.slice none 0 0) ∧ w'.cell? ⟨w4.heap.size, 3, none⟩ = some (.slice none 0 0) ∧ w'.cell? ⟨w4.heap.size, 4, none⟩ = some (.slice none 0 0) ∧ w'.cell? ⟨w4.heap.size, 5, none⟩ = some (.slice a4 l.length k4) ∧ w'.cell? ⟨w4.heap.size, 6, none⟩ = some (.slice none 0 0)))
        ((first | exact ⟨seven_cells KP8.out, seven_cells KQ8.out⟩ | exact ⟨seven_cells KP7.out, seven_cells KQ7.out⟩ | exact ⟨seven_cells KP6.out, seven_cells KQ6.out⟩ | exact ⟨seven_cells HP5.out.drew, seven_cells HQ5.out.drew⟩ | go_keep))
        ((first
          | (go_at_call 28; refine (HA.out _ F5.out).mono ?_; rintro r6 w6 ⟨rfl, hf6⟩; have KP6 := Lib.hid (HP5.out.drew.fr hf6 (fun e => e)); have KQ6 := Lib.hid (HQ5.out.drew.fr hf6 (fun e => e)))
          | (go_at_call 33; refine (written_none 5 (.inr (.inr rfl)) none none none none none a1 none 0 0 0 0 l.length 0 0 0 0 0 0 k1 0 w6).mono ?_; rintro r7 w7 ⟨v7, rfl, _, rfl, hf7⟩; have KP7 := Lib.hid (KP6.out.fr hf7 (fun e => e)); have KQ7 := Lib.hid (KQ6.out.fr hf7 (fun e => e)); have F47 := Lib.hid ((((Fr.refl (fun _ => False) w4).alloc (.cells #[.slice none 0 0, .slice none 0 0, .slice none 0 0, .slice none 0 0, .slice none 0 0, .slice a4 l.length k4, .slice none 0 0] 54)).drew.same hf6).same hf7))
          | (go_at_call 32; refine (sameParts_of none none none none 0 0 0 0 (.slice none 0 0) (.slice none 0 0) (.slice none 0 0) (.slice a4 l.length k4) (.slice none 0 0) (.slice none 0 0) (.slice none 0 0) (.slice none 0 0) (.slice a1 l.length k1) (.slice none 0 0) w7 ten_slices (fun W' _ => same101_any (fun _ => True) (fun _ => True) _ _ [] W' (nilSl _ _ 3) (nilSl _ _ 3) (by decide)) (fun W' _ => same102_nil _ _ _ _ W') (fun W' _ => same103_nil _ _ _ _ W') (fun W' hW' => same104_any _ _ _ _ l W' ((Sl.ofOwn O4.out).fr (F47.out.same hW') (fun _ _ e => e)) ((Sl.ofOwn O1.out).fr ((F14.out.same F47.out).same hW') (fun _ _ e => e)) (by omega)) (fun W' _ => same37_nil _ _ _ _ W')).mono ?_; rintro r8 w8 ⟨rfl, hf8⟩; have KP8 := Lib.hid (KP7.out.fr hf8 (fun e => e)); have KQ8 := Lib.hid (KQ7.out.fr hf8 (fun e => e)))))
      go_wp2
      go_ret
      exact ⟨rfl, ((F5.out.same hf6).same hf7).same hf8⟩
    · rw [not12 h12] at hR
      refine Lib.hid ?_
      go_wp2_with (first
        | (go_at_call 30; refine hR.mono ?_; rintro r w2 ⟨rfl, hf2⟩)
        | (go_at_call 28; refine (HA.out _ ((F1.out.alloc _).same hf2)).mono ?_; rintro r w3 ⟨rfl, hf3⟩))
      go_ret
      exact ⟨rfl, ((F1.out.alloc _).same hf2).same hf3⟩
end Go.Proofs.YtbkookiigkckdaaGreatDoor
