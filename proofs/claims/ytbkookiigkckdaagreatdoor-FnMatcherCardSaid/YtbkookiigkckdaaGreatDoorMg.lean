/- 'laws.FnMatcher', function 3: the walk. -/
import Derived.Test.YtbkookiigkckdaaGreatDoorMb
import Derived.Test.YtbkookiigkckdaaGreatDoorGb
namespace Go.Proofs.YtbkookiigkckdaaGreatDoor
open Go.RowKit
set_option linter.unusedVariables false
set_option linter.unusedSimpArgs false

set_option maxHeartbeats 4000000 in
set_option maxRecDepth 100000 in
/-- Arguments beyond the guards. -/
theorem fnMatcher_unfit (k : Int) (nm vl s : ByteArray) (w : World) (hm : nm.size ≤ 9223372036854775807) (hm2 : vl.size ≤ 9223372036854775807) (hm3 : s.size ≤ 9223372036854775807) (h : ¬ ((nm.size ≤ 2147483647 ∧ vl.size ≤ 2147483647) ∧ s.size ≤ 2147483647)) :
    Calls Tryz.prog 3 #[.agg #[.int .i64 k, .string nm, .string vl], .string s] w fun e w' => e = .returned (.bool true) ∧ Fr (fun _ => False) w w' := by
  have HF := Lib.hid ((Fr.refl (fun _ => False) w).alloc (.cells #[.int .i64 k, .string nm, .string vl] 23))
  by_cases hf : nm.size ≤ 2147483647 ∧ vl.size ≤ 2147483647
  · have h3 : (2147483647 : Int) < s.size := by omega
    have HT := Lib.hid (fun w => fits23_any k nm vl hf.1 hf.2 w)
    clear h hf hm hm2
    go_enter Tryz.func3, Tryz.ntmps3
    go_wp2_with (go_at_call 15; refine (HT.out _).mono ?_; rintro e w1 ⟨rfl, hf⟩; have HF1 := Lib.hid (HF.out.trans hf (fun _ _ e => e)); clear hf)
    go_ret
    exact ⟨rfl, HF1.out⟩
  · have HT := Lib.hid (fun w => fits23_no k nm vl hf hm hm2 w)
    clear h hf hm hm2 hm3
    go_enter Tryz.func3, Tryz.ntmps3
    go_wp2_with (go_at_call 15; refine (HT.out _).mono ?_; rintro e w1 ⟨rfl, hf⟩; have HF1 := Lib.hid (HF.out.trans hf (fun _ _ e => e)); clear hf)
    go_ret
    exact ⟨rfl, HF1.out⟩
/-- What the text of a plain matcher is. -/
theorem text_eq (nm op vl : ByteArray) : strOfNums (nums nm ++ nums op ++ 34 :: (nums vl ++ [34])) = nm ++ op ++ ⟨#[34]⟩ ++ vl ++ ⟨#[34]⟩ := by
  apply ByteArray.ext
  apply Array.ext'
  have hn : ∀ x : ByteArray, (nums x).map (fun n => UInt8.ofNat n.toNat) = x.data.toList := fun x => by
    unfold nums
    rw [List.map_map]
    exact (List.map_congr_left (fun b _ => by simp)).trans (List.map_id _)
  rw [strOfNums_data]
  simp [List.map_append, hn]

set_option maxHeartbeats 8000000 in
set_option maxRecDepth 100000 in
/-- Arguments beyond the matcher's own bounds: labelsAlive's answer. -/
theorem fnMatcher_other (k : Int) (nm vl s : ByteArray) (w : World) (hk0 : -9223372036854775808 ≤ k) (hk1 : k ≤ 9223372036854775807) (hn : nm.size ≤ 2147483647) (hv : vl.size ≤ 2147483647) (hs : s.size ≤ 2147483647) (h : ¬ (0 ≤ k ∧ k ≤ 1 ∧ nm.size ≤ 600 ∧ vl.size ≤ 600 ∧ s.size ≤ 600)) :
    Calls Tryz.prog 3 #[.agg #[.int .i64 k, .string nm, .string vl], .string s] w fun e w' => e = .returned (.bool true) ∧ Fr (fun _ => False) w w' := by
  have hs3 : (s.size : Int) ≤ 2147483647 := by omega
  have hf0 := (Fr.refl (fun _ => False) w).alloc (.cells #[.int .i64 k, .string nm, .string vl] 23)
  have HF := Lib.hid hf0
  have HT := Lib.hid (fun w => fits23_any k nm vl hn hv w)
  have HM := Lib.hid (matAt_new w k nm vl 23)
  have hcase : (k < 0) ∨ (0 ≤ k ∧ 1 < k) ∨ (0 ≤ k ∧ k ≤ 1 ∧ (600 : Int) < nm.size) ∨ (0 ≤ k ∧ k ≤ 1 ∧ (nm.size : Int) ≤ 600 ∧ (600 : Int) < vl.size) ∨ (0 ≤ k ∧ k ≤ 1 ∧ (nm.size : Int) ≤ 600 ∧ (vl.size : Int) ≤ 600 ∧ (600 : Int) < s.size) := by omega
  clear h hn hv hs hf0
  rcases hcase with h1 | ⟨h1, h2⟩ | ⟨h1, h2, h3⟩ | ⟨h1, h2, h3, h4⟩ | ⟨h1, h2, h3, h4, h5⟩
  · go_enter Tryz.func3, Tryz.ntmps3
    go_wp2_with (first
      | (go_at_call 15; refine (HT.out _).mono ?_; rintro e w1 ⟨rfl, hf⟩
         have HF1 := Lib.hid (HF.out.trans hf (fun _ _ e => e))
         obtain ⟨m0, m1, m2, m3⟩ := HM.out.fr hf
         clear hf)
      | (go_at_call 16; refine (labelsAlive_any _).mono ?_; rintro e w2 ⟨rfl, hf⟩; have HF2 := Lib.hid (HF1.out.trans hf (fun _ _ e => e)); clear hf))
    all_goals first
      | (exfalso; omega)
      | (go_ret; exact ⟨rfl, HF2.out⟩)
  · go_enter Tryz.func3, Tryz.ntmps3
    go_wp2_with (first
      | (go_at_call 15; refine (HT.out _).mono ?_; rintro e w1 ⟨rfl, hf⟩
         have HF1 := Lib.hid (HF.out.trans hf (fun _ _ e => e))
         obtain ⟨m0, m1, m2, m3⟩ := HM.out.fr hf
         clear hf)
      | (go_at_call 16; refine (labelsAlive_any _).mono ?_; rintro e w2 ⟨rfl, hf⟩; have HF2 := Lib.hid (HF1.out.trans hf (fun _ _ e => e)); clear hf))
    all_goals first
      | (exfalso; omega)
      | (go_ret; exact ⟨rfl, HF2.out⟩)
  · go_enter Tryz.func3, Tryz.ntmps3
    go_wp2_with (first
      | (go_at_call 15; refine (HT.out _).mono ?_; rintro e w1 ⟨rfl, hf⟩
         have HF1 := Lib.hid (HF.out.trans hf (fun _ _ e => e))
         obtain ⟨m0, m1, m2, m3⟩ := HM.out.fr hf
         clear hf)
      | (go_at_call 16; refine (labelsAlive_any _).mono ?_; rintro e w2 ⟨rfl, hf⟩; have HF2 := Lib.hid (HF1.out.trans hf (fun _ _ e => e)); clear hf))
    all_goals first
      | (exfalso; omega)
      | (go_ret; exact ⟨rfl, HF2.out⟩)
  · go_enter Tryz.func3, Tryz.ntmps3
    go_wp2_with (first
      | (go_at_call 15; refine (HT.out _).mono ?_; rintro e w1 ⟨rfl, hf⟩
         have HF1 := Lib.hid (HF.out.trans hf (fun _ _ e => e))
         obtain ⟨m0, m1, m2, m3⟩ := HM.out.fr hf
         clear hf)
      | (go_at_call 16; refine (labelsAlive_any _).mono ?_; rintro e w2 ⟨rfl, hf⟩; have HF2 := Lib.hid (HF1.out.trans hf (fun _ _ e => e)); clear hf))
    all_goals first
      | (exfalso; omega)
      | (go_ret; exact ⟨rfl, HF2.out⟩)
  · go_enter Tryz.func3, Tryz.ntmps3
    go_wp2_with (first
      | (go_at_call 15; refine (HT.out _).mono ?_; rintro e w1 ⟨rfl, hf⟩
         have HF1 := Lib.hid (HF.out.trans hf (fun _ _ e => e))
         obtain ⟨m0, m1, m2, m3⟩ := HM.out.fr hf
         clear hf)
      | (go_at_call 16; refine (labelsAlive_any _).mono ?_; rintro e w2 ⟨rfl, hf⟩; have HF2 := Lib.hid (HF1.out.trans hf (fun _ _ e => e)); clear hf))
    all_goals first
      | (exfalso; omega)
      | (go_ret; exact ⟨rfl, HF2.out⟩)

theorem onlyIf_yes {P : Prop} (h : P) {e : Ending} (he : OnlyIf P e) : e = .returned (.bool true) := by
  obtain ⟨q, rfl, hq⟩ := he
  rw [hq.mpr h]
theorem onlyIf_no {P : Prop} (h : ¬ P) {e : Ending} (he : OnlyIf P e) : e = .returned (.bool false) := by
  obtain ⟨q, rfl, hq⟩ := he
  cases q with
  | false => rfl
  | true => exact absurd (hq.mp rfl) h
theorem mq_not (K : Int) (hK : Kind01 K) (vl s : ByteArray) : mq (1 - K) vl s = !mq K vl s := by
  rcases hK with rfl | rfl <;> simp [mq]

set_option maxHeartbeats 8000000 in
set_option maxRecDepth 100000 in
theorem fnMatcher_fit0n (T : Lib.PrintTabs) (nm vl s : ByteArray) (w : World) (hT : TabsAt T w) (hMt : MtAt w) (hn : nm.size ≤ 600) (hv : vl.size ≤ 600) (hs : s.size ≤ 600) (hL : ¬ LegacyS nm) :
    Calls Tryz.prog 3 #[.agg #[.int .i64 0, .string nm, .string vl], .string s] w fun e w' => e = .returned (.bool true) ∧ Fr (fun _ => False) w w' := by
  have mixed : Tryz.prog.follows .mixedOrders = true := by kernel_rfl
  have hs3 : (s.size : Int) ≤ 600 := by omega
  have hn3 : (nm.size : Int) ≤ 600 := by omega
  have hv3 : (vl.size : Int) ≤ 600 := by omega
  have HF := Lib.hid ((Fr.refl (fun _ => False) w).alloc (.cells #[.int .i64 0, .string nm, .string vl] 23))
  have HT := Lib.hid (fun w => fits23_any 0 nm vl (by omega) (by omega) w)
  have HM := Lib.hid (matAt_new w 0 nm vl 23)
  have HA := Lib.hid (fun (W : World) (hf : Fr (fun _ => False) w W) => matcherAsk_any T 0 (.inl rfl) nm vl s W (tabs_fr hT hf (fun _ _ e => e)) (mt_fr hMt hf) hn hv)
  have HQ := Lib.hid (mq_not 0 (.inl rfl) vl s)
  have HSM := Lib.hid (fun W => specMatches_any 0 (.inl rfl) nm vl s W)
  have HLN := Lib.hid (fun W => (legacyName_any nm (by omega) W).mono (fun e w' h => And.intro (onlyIf_no hL h.1) h.2.out))
  clear hT hMt hn hv hs hL
  generalize mq 0 vl s = y at HA HQ HSM
  go_enter Tryz.func3, Tryz.ntmps3
  go_wp2_with (first
    | (go_at_call 15; refine (HT.out _).mono ?_; rintro e w1 ⟨rfl, hf⟩
       have HF1 := Lib.hid (HF.out.trans hf (fun _ _ e => e))
       have HM1 := Lib.hid (HM.out.fr hf)
       obtain ⟨m0, m1, m2, m3⟩ := HM1.out
       clear hf)
    | (go_at_call 17; refine (HA.out _ HF1.out).mono ?_; rintro e w2 ⟨⟨r, rfl, hr⟩, hf⟩
       have HR := Lib.hid hr
       have HF2 := Lib.hid (HF1.out.trans hf (fun _ _ e => e))
       have HM2 := Lib.hid (HM1.out.fr hf)
       obtain ⟨n0, n1, n2, n3⟩ := HM2.out
       rw [HQ.out]
       clear hr hf))
  all_goals first | (exfalso; omega) | skip

  go_quiet ((go_at_call 18; refine Calls.quiet_of_same (HLN.out _)))
  go_wp2_with (first
    | (go_at_call 16; refine (labelsAlive_any _).mono ?_; rintro e w5 ⟨rfl, hf⟩
       have HF5 := Lib.hid ((HF2.out.drewN _).trans hf (fun _ _ e => e))
       obtain ⟨r0, r1, r2, r3⟩ := HM2.out.fr (((Fr.refl (fun _ => False) w2).drewN _).trans hf (fun _ _ e => e))
       clear hf)
    | (go_at_call 20; refine (HSM.out _).mono ?_; rintro e w6 ⟨rfl, hf⟩; have HF6 := Lib.hid (HF5.out.trans hf (fun _ _ e => e)); clear hf))
  go_ret
  exact ⟨by simp, HF6.out⟩

set_option maxHeartbeats 8000000 in
set_option maxRecDepth 100000 in
theorem fnMatcher_fit0p (T : Lib.PrintTabs) (nm vl s : ByteArray) (w : World) (hT : TabsAt T w) (hMt : MtAt w) (hn : nm.size ≤ 600) (hv : vl.size ≤ 600) (hs : s.size ≤ 600) (hL : LegacyS nm) (hP : ¬ PlainS vl) :
    Calls Tryz.prog 3 #[.agg #[.int .i64 0, .string nm, .string vl], .string s] w fun e w' => e = .returned (.bool true) ∧ Fr (fun _ => False) w w' := by
  have mixed : Tryz.prog.follows .mixedOrders = true := by kernel_rfl
  have hs3 : (s.size : Int) ≤ 600 := by omega
  have hn3 : (nm.size : Int) ≤ 600 := by omega
  have hv3 : (vl.size : Int) ≤ 600 := by omega
  have HF := Lib.hid ((Fr.refl (fun _ => False) w).alloc (.cells #[.int .i64 0, .string nm, .string vl] 23))
  have HT := Lib.hid (fun w => fits23_any 0 nm vl (by omega) (by omega) w)
  have HM := Lib.hid (matAt_new w 0 nm vl 23)
  have HA := Lib.hid (fun (W : World) (hf : Fr (fun _ => False) w W) => matcherAsk_any T 0 (.inl rfl) nm vl s W (tabs_fr hT hf (fun _ _ e => e)) (mt_fr hMt hf) hn hv)
  have HQ := Lib.hid (mq_not 0 (.inl rfl) vl s)
  have HSM := Lib.hid (fun W => specMatches_any 0 (.inl rfl) nm vl s W)
  have HLN := Lib.hid (fun W => (legacyName_any nm (by omega) W).mono (fun e w' h => And.intro (onlyIf_yes hL h.1) h.2.out))
  have HPN := Lib.hid (fun W => (plain_any vl (by omega) W).mono (fun e w' h => And.intro (onlyIf_no hP h.1) h.2.out))
  clear hT hMt hn hv hs hL hP
  generalize mq 0 vl s = y at HA HQ HSM
  go_enter Tryz.func3, Tryz.ntmps3
  go_wp2_with (first
    | (go_at_call 15; refine (HT.out _).mono ?_; rintro e w1 ⟨rfl, hf⟩
       have HF1 := Lib.hid (HF.out.trans hf (fun _ _ e => e))
       have HM1 := Lib.hid (HM.out.fr hf)
       obtain ⟨m0, m1, m2, m3⟩ := HM1.out
       clear hf)
    | (go_at_call 17; refine (HA.out _ HF1.out).mono ?_; rintro e w2 ⟨⟨r, rfl, hr⟩, hf⟩
       have HR := Lib.hid hr
       have HF2 := Lib.hid (HF1.out.trans hf (fun _ _ e => e))
       have HM2 := Lib.hid (HM1.out.fr hf)
       obtain ⟨n0, n1, n2, n3⟩ := HM2.out
       rw [HQ.out]
       clear hr hf))
  all_goals first | (exfalso; omega) | skip

  go_quiet (first | (go_at_call 18; refine Calls.quiet_of_same (HLN.out _)) | (go_at_call 19; refine Calls.quiet_of_same (HPN.out _)))
  go_wp2_with (first
    | (go_at_call 16; refine (labelsAlive_any _).mono ?_; rintro e w5 ⟨rfl, hf⟩
       have HF5 := Lib.hid ((HF2.out.drewN _).trans hf (fun _ _ e => e))
       obtain ⟨r0, r1, r2, r3⟩ := HM2.out.fr (((Fr.refl (fun _ => False) w2).drewN _).trans hf (fun _ _ e => e))
       clear hf)
    | (go_at_call 20; refine (HSM.out _).mono ?_; rintro e w6 ⟨rfl, hf⟩; have HF6 := Lib.hid (HF5.out.trans hf (fun _ _ e => e)); clear hf))
  go_ret
  exact ⟨by simp, HF6.out⟩

set_option maxHeartbeats 8000000 in
set_option maxRecDepth 100000 in
theorem fnMatcher_fit0y (T : Lib.PrintTabs) (nm vl s : ByteArray) (w : World) (hT : TabsAt T w) (hMt : MtAt w) (hn : nm.size ≤ 600) (hv : vl.size ≤ 600) (hs : s.size ≤ 600) (hL : LegacyS nm) (hP : PlainS vl) :
    Calls Tryz.prog 3 #[.agg #[.int .i64 0, .string nm, .string vl], .string s] w fun e w' => e = .returned (.bool true) ∧ Fr (fun _ => False) w w' := by
  have mixed : Tryz.prog.follows .mixedOrders = true := by kernel_rfl
  have hs3 : (s.size : Int) ≤ 600 := by omega
  have hn3 : (nm.size : Int) ≤ 600 := by omega
  have hv3 : (vl.size : Int) ≤ 600 := by omega
  have HF := Lib.hid ((Fr.refl (fun _ => False) w).alloc (.cells #[.int .i64 0, .string nm, .string vl] 23))
  have HT := Lib.hid (fun w => fits23_any 0 nm vl (by omega) (by omega) w)
  have HM := Lib.hid (matAt_new w 0 nm vl 23)
  have HA := Lib.hid (fun (W : World) (hf : Fr (fun _ => False) w W) => matcherAsk_any T 0 (.inl rfl) nm vl s W (tabs_fr hT hf (fun _ _ e => e)) (mt_fr hMt hf) hn hv)
  have HQ := Lib.hid (mq_not 0 (.inl rfl) vl s)
  have HSM := Lib.hid (fun W => specMatches_any 0 (.inl rfl) nm vl s W)
  have HLN := Lib.hid (fun W => (legacyName_any nm (by omega) W).mono (fun e w' h => And.intro (onlyIf_yes hL h.1) h.2.out))
  have HPN := Lib.hid (fun W => (plain_any vl (by omega) W).mono (fun e w' h => And.intro (onlyIf_yes hP h.1) h.2.out))
  have HL := Lib.hid hL
  have HP := Lib.hid hP
  clear hT hMt hn hv hs hL hP
  have hidx : ∀ W : World, (Instr.index 29 (.agg #[.string ⟨#[61]⟩, .string ⟨#[33, 61]⟩]) (.int .i64 0)).run Tryz.prog W = .ok (.string ⟨#[61]⟩) W := fun W => by
    simp [Instr.index, run_underlying Tryz.underlying29, go_sem]
  generalize mq 0 vl s = y at HA HQ HSM
  go_enter Tryz.func3, Tryz.ntmps3
  go_wp2_with (first
    | (go_at_call 15; refine (HT.out _).mono ?_; rintro e w1 ⟨rfl, hf⟩
       have HF1 := Lib.hid (HF.out.trans hf (fun _ _ e => e))
       have HM1 := Lib.hid (HM.out.fr hf)
       obtain ⟨m0, m1, m2, m3⟩ := HM1.out
       clear hf)
    | (go_at_call 17; refine (HA.out _ HF1.out).mono ?_; rintro e w2 ⟨⟨r, rfl, hr⟩, hf⟩
       have HR := Lib.hid hr
       have HF2 := Lib.hid (HF1.out.trans hf (fun _ _ e => e))
       have HM2 := Lib.hid (HM1.out.fr hf)
       obtain ⟨n0, n1, n2, n3⟩ := HM2.out
       rw [HQ.out]
       clear hr hf))
  all_goals first | (exfalso; omega) | skip

  obtain rfl : r = nm ++ ⟨#[61]⟩ ++ ⟨#[34]⟩ ++ vl ++ ⟨#[34]⟩ := (HR.out HL.out HP.out).trans (text_eq nm ⟨#[61]⟩ vl)
  go_quiet (first | (go_at_call 18; refine Calls.quiet_of_same (HLN.out _)) | (go_at_call 19; refine Calls.quiet_of_same (HPN.out _)))
  go_wp2_with (first
    | (go_at_call 16; refine (labelsAlive_any _).mono ?_; rintro e w5 ⟨rfl, hf⟩
       have HF5 := Lib.hid ((HF2.out.drewN _).trans hf (fun _ _ e => e))
       obtain ⟨r0, r1, r2, r3⟩ := HM2.out.fr (((Fr.refl (fun _ => False) w2).drewN _).trans hf (fun _ _ e => e))
       clear hf)
    | (go_at_call 20; refine (HSM.out _).mono ?_; rintro e w6 ⟨rfl, hf⟩; have HF6 := Lib.hid (HF5.out.trans hf (fun _ _ e => e)); clear hf))
  go_ret
  exact ⟨by simp, HF6.out⟩

set_option maxHeartbeats 8000000 in
set_option maxRecDepth 100000 in
theorem fnMatcher_fit1n (T : Lib.PrintTabs) (nm vl s : ByteArray) (w : World) (hT : TabsAt T w) (hMt : MtAt w) (hn : nm.size ≤ 600) (hv : vl.size ≤ 600) (hs : s.size ≤ 600) (hL : ¬ LegacyS nm) :
    Calls Tryz.prog 3 #[.agg #[.int .i64 1, .string nm, .string vl], .string s] w fun e w' => e = .returned (.bool true) ∧ Fr (fun _ => False) w w' := by
  have mixed : Tryz.prog.follows .mixedOrders = true := by kernel_rfl
  have hs3 : (s.size : Int) ≤ 600 := by omega
  have hn3 : (nm.size : Int) ≤ 600 := by omega
  have hv3 : (vl.size : Int) ≤ 600 := by omega
  have HF := Lib.hid ((Fr.refl (fun _ => False) w).alloc (.cells #[.int .i64 1, .string nm, .string vl] 23))
  have HT := Lib.hid (fun w => fits23_any 1 nm vl (by omega) (by omega) w)
  have HM := Lib.hid (matAt_new w 1 nm vl 23)
  have HA := Lib.hid (fun (W : World) (hf : Fr (fun _ => False) w W) => matcherAsk_any T 1 (.inr rfl) nm vl s W (tabs_fr hT hf (fun _ _ e => e)) (mt_fr hMt hf) hn hv)
  have HQ := Lib.hid (mq_not 1 (.inr rfl) vl s)
  have HSM := Lib.hid (fun W => specMatches_any 1 (.inr rfl) nm vl s W)
  have HLN := Lib.hid (fun W => (legacyName_any nm (by omega) W).mono (fun e w' h => And.intro (onlyIf_no hL h.1) h.2.out))
  clear hT hMt hn hv hs hL
  generalize mq 1 vl s = y at HA HQ HSM
  go_enter Tryz.func3, Tryz.ntmps3
  go_wp2_with (first
    | (go_at_call 15; refine (HT.out _).mono ?_; rintro e w1 ⟨rfl, hf⟩
       have HF1 := Lib.hid (HF.out.trans hf (fun _ _ e => e))
       have HM1 := Lib.hid (HM.out.fr hf)
       obtain ⟨m0, m1, m2, m3⟩ := HM1.out
       clear hf)
    | (go_at_call 17; refine (HA.out _ HF1.out).mono ?_; rintro e w2 ⟨⟨r, rfl, hr⟩, hf⟩
       have HR := Lib.hid hr
       have HF2 := Lib.hid (HF1.out.trans hf (fun _ _ e => e))
       have HM2 := Lib.hid (HM1.out.fr hf)
       obtain ⟨n0, n1, n2, n3⟩ := HM2.out
       rw [HQ.out]
       clear hr hf))
  all_goals first | (exfalso; omega) | skip

  go_quiet ((go_at_call 18; refine Calls.quiet_of_same (HLN.out _)))
  go_wp2_with (first
    | (go_at_call 16; refine (labelsAlive_any _).mono ?_; rintro e w5 ⟨rfl, hf⟩
       have HF5 := Lib.hid ((HF2.out.drewN _).trans hf (fun _ _ e => e))
       obtain ⟨r0, r1, r2, r3⟩ := HM2.out.fr (((Fr.refl (fun _ => False) w2).drewN _).trans hf (fun _ _ e => e))
       clear hf)
    | (go_at_call 20; refine (HSM.out _).mono ?_; rintro e w6 ⟨rfl, hf⟩; have HF6 := Lib.hid (HF5.out.trans hf (fun _ _ e => e)); clear hf))
  go_ret
  exact ⟨by simp, HF6.out⟩

set_option maxHeartbeats 8000000 in
set_option maxRecDepth 100000 in
theorem fnMatcher_fit1p (T : Lib.PrintTabs) (nm vl s : ByteArray) (w : World) (hT : TabsAt T w) (hMt : MtAt w) (hn : nm.size ≤ 600) (hv : vl.size ≤ 600) (hs : s.size ≤ 600) (hL : LegacyS nm) (hP : ¬ PlainS vl) :
    Calls Tryz.prog 3 #[.agg #[.int .i64 1, .string nm, .string vl], .string s] w fun e w' => e = .returned (.bool true) ∧ Fr (fun _ => False) w w' := by
  have mixed : Tryz.prog.follows .mixedOrders = true := by kernel_rfl
  have hs3 : (s.size : Int) ≤ 600 := by omega
  have hn3 : (nm.size : Int) ≤ 600 := by omega
  have hv3 : (vl.size : Int) ≤ 600 := by omega
  have HF := Lib.hid ((Fr.refl (fun _ => False) w).alloc (.cells #[.int .i64 1, .string nm, .string vl] 23))
  have HT := Lib.hid (fun w => fits23_any 1 nm vl (by omega) (by omega) w)
  have HM := Lib.hid (matAt_new w 1 nm vl 23)
  have HA := Lib.hid (fun (W : World) (hf : Fr (fun _ => False) w W) => matcherAsk_any T 1 (.inr rfl) nm vl s W (tabs_fr hT hf (fun _ _ e => e)) (mt_fr hMt hf) hn hv)
  have HQ := Lib.hid (mq_not 1 (.inr rfl) vl s)
  have HSM := Lib.hid (fun W => specMatches_any 1 (.inr rfl) nm vl s W)
  have HLN := Lib.hid (fun W => (legacyName_any nm (by omega) W).mono (fun e w' h => And.intro (onlyIf_yes hL h.1) h.2.out))
  have HPN := Lib.hid (fun W => (plain_any vl (by omega) W).mono (fun e w' h => And.intro (onlyIf_no hP h.1) h.2.out))
  clear hT hMt hn hv hs hL hP
  generalize mq 1 vl s = y at HA HQ HSM
  go_enter Tryz.func3, Tryz.ntmps3
  go_wp2_with (first
    | (go_at_call 15; refine (HT.out _).mono ?_; rintro e w1 ⟨rfl, hf⟩
       have HF1 := Lib.hid (HF.out.trans hf (fun _ _ e => e))
       have HM1 := Lib.hid (HM.out.fr hf)
       obtain ⟨m0, m1, m2, m3⟩ := HM1.out
       clear hf)
    | (go_at_call 17; refine (HA.out _ HF1.out).mono ?_; rintro e w2 ⟨⟨r, rfl, hr⟩, hf⟩
       have HR := Lib.hid hr
       have HF2 := Lib.hid (HF1.out.trans hf (fun _ _ e => e))
       have HM2 := Lib.hid (HM1.out.fr hf)
       obtain ⟨n0, n1, n2, n3⟩ := HM2.out
       rw [HQ.out]
       clear hr hf))
  all_goals first | (exfalso; omega) | skip

  go_quiet (first | (go_at_call 18; refine Calls.quiet_of_same (HLN.out _)) | (go_at_call 19; refine Calls.quiet_of_same (HPN.out _)))
  go_wp2_with (first
    | (go_at_call 16; refine (labelsAlive_any _).mono ?_; rintro e w5 ⟨rfl, hf⟩
       have HF5 := Lib.hid ((HF2.out.drewN _).trans hf (fun _ _ e => e))
       obtain ⟨r0, r1, r2, r3⟩ := HM2.out.fr (((Fr.refl (fun _ => False) w2).drewN _).trans hf (fun _ _ e => e))
       clear hf)
    | (go_at_call 20; refine (HSM.out _).mono ?_; rintro e w6 ⟨rfl, hf⟩; have HF6 := Lib.hid (HF5.out.trans hf (fun _ _ e => e)); clear hf))
  go_ret
  exact ⟨by simp, HF6.out⟩

set_option maxHeartbeats 8000000 in
set_option maxRecDepth 100000 in
theorem fnMatcher_fit1y (T : Lib.PrintTabs) (nm vl s : ByteArray) (w : World) (hT : TabsAt T w) (hMt : MtAt w) (hn : nm.size ≤ 600) (hv : vl.size ≤ 600) (hs : s.size ≤ 600) (hL : LegacyS nm) (hP : PlainS vl) :
    Calls Tryz.prog 3 #[.agg #[.int .i64 1, .string nm, .string vl], .string s] w fun e w' => e = .returned (.bool true) ∧ Fr (fun _ => False) w w' := by
  have mixed : Tryz.prog.follows .mixedOrders = true := by kernel_rfl
  have hs3 : (s.size : Int) ≤ 600 := by omega
  have hn3 : (nm.size : Int) ≤ 600 := by omega
  have hv3 : (vl.size : Int) ≤ 600 := by omega
  have HF := Lib.hid ((Fr.refl (fun _ => False) w).alloc (.cells #[.int .i64 1, .string nm, .string vl] 23))
  have HT := Lib.hid (fun w => fits23_any 1 nm vl (by omega) (by omega) w)
  have HM := Lib.hid (matAt_new w 1 nm vl 23)
  have HA := Lib.hid (fun (W : World) (hf : Fr (fun _ => False) w W) => matcherAsk_any T 1 (.inr rfl) nm vl s W (tabs_fr hT hf (fun _ _ e => e)) (mt_fr hMt hf) hn hv)
  have HQ := Lib.hid (mq_not 1 (.inr rfl) vl s)
  have HSM := Lib.hid (fun W => specMatches_any 1 (.inr rfl) nm vl s W)
  have HLN := Lib.hid (fun W => (legacyName_any nm (by omega) W).mono (fun e w' h => And.intro (onlyIf_yes hL h.1) h.2.out))
  have HPN := Lib.hid (fun W => (plain_any vl (by omega) W).mono (fun e w' h => And.intro (onlyIf_yes hP h.1) h.2.out))
  have HL := Lib.hid hL
  have HP := Lib.hid hP
  clear hT hMt hn hv hs hL hP
  have hidx : ∀ W : World, (Instr.index 29 (.agg #[.string ⟨#[61]⟩, .string ⟨#[33, 61]⟩]) (.int .i64 1)).run Tryz.prog W = .ok (.string ⟨#[33, 61]⟩) W := fun W => by
    simp [Instr.index, run_underlying Tryz.underlying29, go_sem]
  generalize mq 1 vl s = y at HA HQ HSM
  go_enter Tryz.func3, Tryz.ntmps3
  go_wp2_with (first
    | (go_at_call 15; refine (HT.out _).mono ?_; rintro e w1 ⟨rfl, hf⟩
       have HF1 := Lib.hid (HF.out.trans hf (fun _ _ e => e))
       have HM1 := Lib.hid (HM.out.fr hf)
       obtain ⟨m0, m1, m2, m3⟩ := HM1.out
       clear hf)
    | (go_at_call 17; refine (HA.out _ HF1.out).mono ?_; rintro e w2 ⟨⟨r, rfl, hr⟩, hf⟩
       have HR := Lib.hid hr
       have HF2 := Lib.hid (HF1.out.trans hf (fun _ _ e => e))
       have HM2 := Lib.hid (HM1.out.fr hf)
       obtain ⟨n0, n1, n2, n3⟩ := HM2.out
       rw [HQ.out]
       clear hr hf))
  all_goals first | (exfalso; omega) | skip

  obtain rfl : r = nm ++ ⟨#[33, 61]⟩ ++ ⟨#[34]⟩ ++ vl ++ ⟨#[34]⟩ := (HR.out HL.out HP.out).trans (text_eq nm ⟨#[33, 61]⟩ vl)
  go_quiet (first | (go_at_call 18; refine Calls.quiet_of_same (HLN.out _)) | (go_at_call 19; refine Calls.quiet_of_same (HPN.out _)))
  go_wp2_with (first
    | (go_at_call 16; refine (labelsAlive_any _).mono ?_; rintro e w5 ⟨rfl, hf⟩
       have HF5 := Lib.hid ((HF2.out.drewN _).trans hf (fun _ _ e => e))
       obtain ⟨r0, r1, r2, r3⟩ := HM2.out.fr (((Fr.refl (fun _ => False) w2).drewN _).trans hf (fun _ _ e => e))
       clear hf)
    | (go_at_call 20; refine (HSM.out _).mono ?_; rintro e w6 ⟨rfl, hf⟩; have HF6 := Lib.hid (HF5.out.trans hf (fun _ _ e => e)); clear hf))
  go_ret
  exact ⟨by simp, HF6.out⟩

theorem fnMatcher_walk (T : Lib.PrintTabs) (k : Int) (nm vl s : ByteArray) (w : World) (hT : TabsAt T w) (hMt : MtAt w) (hk0 : -9223372036854775808 ≤ k) (hk1 : k ≤ 9223372036854775807) (hn : nm.size ≤ maxLen) (hv : vl.size ≤ maxLen) (hs : s.size ≤ maxLen) :
    Calls Tryz.prog 3 #[.agg #[.int .i64 k, .string nm, .string vl], .string s] w fun e w' => e = .returned (.bool true) ∧ Fr (fun _ => False) w w' := by
  have e : maxLen = 9223372036854775807 := by unfold maxLen; omega
  rw [e] at hn hv hs
  clear e
  by_cases hf : (nm.size ≤ 2147483647 ∧ vl.size ≤ 2147483647) ∧ s.size ≤ 2147483647
  · by_cases hg : 0 ≤ k ∧ k ≤ 1 ∧ nm.size ≤ 600 ∧ vl.size ≤ 600 ∧ s.size ≤ 600
    · obtain ⟨g0, g1, g2, g3, g4⟩ := hg
      have hk : k = 0 ∨ k = 1 := by omega
      rcases hk with rfl | rfl
      · by_cases hL : LegacyS nm
        · by_cases hP : PlainS vl
          · exact fnMatcher_fit0y T nm vl s w hT hMt g2 g3 g4 hL hP
          · exact fnMatcher_fit0p T nm vl s w hT hMt g2 g3 g4 hL hP
        · exact fnMatcher_fit0n T nm vl s w hT hMt g2 g3 g4 hL
      · by_cases hL : LegacyS nm
        · by_cases hP : PlainS vl
          · exact fnMatcher_fit1y T nm vl s w hT hMt g2 g3 g4 hL hP
          · exact fnMatcher_fit1p T nm vl s w hT hMt g2 g3 g4 hL hP
        · exact fnMatcher_fit1n T nm vl s w hT hMt g2 g3 g4 hL
    · exact fnMatcher_other k nm vl s w hk0 hk1 hf.1.1 hf.1.2 hf.2 hg
  · exact fnMatcher_unfit k nm vl s w hn hv hs hf
end Go.Proofs.YtbkookiigkckdaaGreatDoor
