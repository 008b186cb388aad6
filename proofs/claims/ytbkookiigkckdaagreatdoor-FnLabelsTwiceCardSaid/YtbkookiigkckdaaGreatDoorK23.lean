/- Texts of this seat, merged: Ms. -/
import Derived.Test.YtbkookiigkckdaaGreatDoorK20
/- Matcher.String 51. -/
namespace Go.Proofs.YtbkookiigkckdaaGreatDoor
open Go.RowKit
set_option linter.unusedVariables false
set_option linter.unusedSimpArgs false

/-- A matcher lies at block mb. -/
def MatAt (mb : Nat) (K : Int) (nm vl : ByteArray) (W : World) : Prop := W.cell? ⟨mb, 0, none⟩ = some (.int .i64 K) ∧ W.cell? ⟨mb, 1, none⟩ = some (.string nm) ∧ W.cell? ⟨mb, 2, none⟩ = some (.string vl) ∧ mb < W.heap.size
theorem MatAt.fr {mb : Nat} {K : Int} {nm vl : ByteArray} {W W' : World} (h : MatAt mb K nm vl W) (hf : Fr (fun _ => False) W W') : MatAt mb K nm vl W' := by
  obtain ⟨h0, h1, h2, h3⟩ := h
  exact ⟨(hf.cell (p := ⟨mb, 0, none⟩) h3 (fun e => e)).trans h0, (hf.cell (p := ⟨mb, 1, none⟩) h3 (fun e => e)).trans h1, (hf.cell (p := ⟨mb, 2, none⟩) h3 (fun e => e)).trans h2, Nat.lt_of_lt_of_le h3 hf.size⟩

theorem avail_fr {w0 W : World} {b : Nat} {xs : List Int} {v : Value} (h : Avail w0 b xs v W) : Fr (fun _ => False) w0 W := by
  obtain ⟨_, _, _, _, _, _, _, _, h3, _⟩ := h
  exact h3
theorem zero252 : Tryz.zeroCells252.size = 1024 := by kernel_rfl
/-- NewBuffer over a new array of bytes, of which nothing is taken. -/
theorem buf_start (w0 : World) : BufIn w0 ((w0.alloc (.cells Tryz.zeroCells252 252)).alloc (.cells #[.slice (some ⟨w0.heap.size, 0, none⟩) 0 1024, .int .i64 0, .int .i8 0] 340)) (w0.heap.size + 1) [] := by
  have hs : (w0.alloc (.cells Tryz.zeroCells252 252)).heap.size = w0.heap.size + 1 := by simp
  have hb := Blk.new (w0.alloc (.cells Tryz.zeroCells252 252)) 340 #[.slice (some ⟨w0.heap.size, 0, none⟩) 0 1024, .int .i64 0, .int .i8 0]
  rw [hs] at hb
  exact ⟨((Fr.refl _ w0).alloc _).alloc _, Nat.le_succ _, w0.heap.size, 1024, 252, 0, Tryz.zeroCells252, Nat.le_refl _, hb, (Blk.new w0 252 _).alloc _, zero252, Nat.zero_le _, by unfold maxLen; omega, by omega, rfl⟩
theorem bufString_in {w0 W : World} {b : Nat} {xs : List Int} (h : BufIn w0 W b xs) : Calls Tryz.prog 147 #[.pointer (some ⟨b, 0, none⟩)] W fun e w' => e = .returned (.string (strOfNums xs)) ∧ Fr (fun _ => False) w0 w' := by
  obtain ⟨h1, _, g, c, t, lr, cur, _, h4⟩ := h
  exact (bufString_any h4).mono fun e w' ⟨he, hf⟩ => ⟨he, h1.trans hf (fun _ _ e => e)⟩

set_option maxHeartbeats 16000000 in
set_option maxRecDepth 100000 in
theorem matString_any (T : Lib.PrintTabs) (mb : Nat) (K : Int) (nm vl op : ByteArray) (w0 : World) (hT : TabsAt T w0) (hM : MatAt mb K nm vl w0) (hn : nm.size ≤ 600) (hv : vl.size ≤ 600) (ho1 : 1 ≤ op.size) (ho2 : op.size ≤ 2)
    (hmt : ∀ W, Fr (fun _ => False) w0 W → Calls Tryz.prog 146 #[.int .i64 K] W fun e w' => e = .returned (.string op) ∧ w' = W) :
    Calls Tryz.prog 51 #[.pointer (some ⟨mb, 0, none⟩)] w0 fun e w' => ∃ r : ByteArray, e = .returned (.string r) ∧ Fr (fun _ => False) w0 w' ∧ (LegacyS nm → PlainS vl → r = strOfNums (nums nm ++ nums op ++ 34 :: (nums vl ++ [34]))) := by
  have mixed : Tryz.prog.follows .mixedOrders = true := by kernel_rfl
  have HM := Lib.hid hM
  have HT := Lib.hid hT
  have HMT := Lib.hid hmt
  clear hM hT hmt
  have hol : Hid ((nums op).length = op.size) := Lib.hid (by unfold nums; rw [List.length_map, ← Lib.size_eq])
  have hnl : Hid ((nums nm).length = nm.size) := Lib.hid (by unfold nums; rw [List.length_map, ← Lib.size_eq])
  have hst := buf_start w0
  obtain ⟨w1, hw1⟩ : ∃ w1, (w0.alloc (.cells Tryz.zeroCells252 252)).alloc (.cells #[.slice (some ⟨w0.heap.size, 0, none⟩) 0 1024, .int .i64 0, .int .i8 0] 340) = w1 := ⟨_, rfl⟩
  rw [hw1] at hst
  have HW1 := Lib.hid hw1
  have HB := Lib.hid hst
  have hM1 := HM.out.fr hst.fr
  have HQ := Lib.hid (shouldQuote_any mb nm (by omega) w1 hM1.2.2.2 hM1.2.1)
  clear hw1 hst hM1
  go_enter Tryz.func51, Tryz.ntmps51
  go_wp2_with (first
    | (go_at_call 140; refine (newBuffer_any _ _ _ _).mono ?_; rintro e w9 ⟨rfl, hw9⟩; rw [HW1.out] at hw9; subst hw9)
    | (go_at_call 141; refine Hid.out ?_))
  refine Lib.hid ?_
  refine HQ.out.mono ?_
  rintro e w2 ⟨⟨q, rfl, hq1, hq2⟩, hf2⟩
  have HB2 := Lib.hid (HB.out.still hf2)
  obtain ⟨m0, m1, m2, m3⟩ := HM.out.fr HB2.out.fr
  have HQ1 := Lib.hid hq1
  have HQ2 := Lib.hid hq2
  clear hq1 hq2 hf2 HQ HB
  generalize w0.heap.size + 1 = b at *
  cases q with
  | false =>
    have hqs : 1 ≤ nm.size := HQ2.out rfl
    clear HQ1 HQ2
    go_wp2_with (first
      | (go_at_call 146; refine (HMT.out _ HB3.out.fr).mono ?_; refine Hid.out ?_)
      | (go_at_call 145; refine (bufWriteString_any w0 b [] nm _ HB2.out hqs (by simp only [List.length_nil]; omega)).mono ?_; rintro e w3 ⟨⟨r3, rfl⟩, hB3⟩
         obtain ⟨xs, hxs⟩ : ∃ xs, [] ++ nm.data.toList.map (fun b => (b.toNat : Int)) = xs := ⟨_, rfl⟩
         rw [hxs] at hB3
         have HX : Hid (LegacyS nm → xs = nums nm) := Lib.hid (fun _ => hxs.symm)
         have hxl : xs.length ≤ 6002 := by rw [← hxs, List.nil_append, List.length_map, ← Lib.size_eq]; omega
         have HB3 := Lib.hid hB3
         have hM3 := HM.out.fr hB3.fr
         have n0 := hM3.1
         have n2 := hM3.2.2.1
         clear hxs hB3 hM3))
    refine Lib.hid ?_
    rintro e w4 ⟨rfl, rfl⟩
    go_wp2_with (first
      | (go_at_call 146; refine (HMT.out _ HB3.out.fr).mono ?_; rintro e w4 ⟨rfl, rfl⟩)
      | (go_at_call 145; refine (bufWriteString_any w0 b xs op _ HB3.out ho1 (by omega)).mono ?_; rintro e w5 ⟨⟨r5, rfl⟩, hB5⟩
         obtain ⟨ys, hys⟩ : ∃ ys, xs ++ op.data.toList.map (fun b => (b.toNat : Int)) = ys := ⟨_, rfl⟩
         rw [hys] at hB5
         have HY : Hid (ys = xs ++ nums op) := Lib.hid hys.symm
         have hyl : ys.length ≤ 6004 := by rw [← hys, List.length_append, List.length_map, ← Lib.size_eq]; omega
         have HB5 := Lib.hid hB5
         have hM5 := HM.out.fr hB5.fr
         have k2 := hM5.2.2.1
         clear hys hB5 hM5))
    go_region_with_o (first
      | (go_at_call 144; refine (avail_step (w0 := w0) (b := b) (xs := ys) ?_).mono ?_; exact HB5.out.still ((Fr.refl _ _).drew); rintro e W6 ⟨v6, rfl, hA6, hf6⟩
         have hM6 := HM.out.fr (avail_fr hA6)
         have k6 := hM6.2.2.1
         have HA6 := Lib.hid hA6
         clear hM6 hA6 hf6)
      | (go_at_call 143; refine (quote_step (w0 := w0) (b := b) (xs := ys) (s := vl) HT.out ?_ (by omega)).mono ?_; exact HA6.out; rintro e W7 ⟨v7, rfl, hQ7, hf7⟩; have HQ7 := Lib.hid hQ7; clear hQ7 hf7)
      | (go_at_call 142; refine (write_step (w0 := w0) (xs := ys) (s := vl) ?_ (by omega) (by omega)).mono ?_; exact HQ7.out; rintro e w8 ⟨⟨r8, rfl⟩, zs8, hz8, hB8⟩
         have HB8 := Lib.hid hB8
         have HZ8 := Lib.hid hz8.2.2
         clear hz8 hB8))
    all_goals (
      go_wp2_with (go_at_call 147; refine (bufString_in HB8.out).mono ?_; rintro e w9 ⟨rfl, hf9⟩)
      go_ret
      refine ⟨_, rfl, hf9, fun h1 h2 => ?_⟩
      rw [HY.out, HX.out h1, HZ8.out h2])
  | true =>
    have HNL : Hid (¬ LegacyS nm) := Lib.hid (fun h => by have := HQ1.out h; cases this)
    clear HQ1 HQ2
    go_wp2
    go_region_with_o (first
      | (go_at_call 144; refine (avail_step (w0 := w0) (xs := []) ?_).mono ?_; exact HB2.out.still ((Fr.refl _ _).drew); rintro e W1 ⟨v, rfl, hA, hf⟩
         have hM1 := HM.out.fr (avail_fr hA)
         have m1 := hM1.2.1
         have HA := Lib.hid hA
         clear hM1 hA hf)
      | (go_at_call 143; refine (quote_step (w0 := w0) (b := b) (xs := []) (s := nm) HT.out ?_ (by omega)).mono ?_; exact HA.out; rintro e W2 ⟨v2, rfl, hQ, hf⟩; have HQ := Lib.hid hQ; clear hQ hf)
      | (go_at_call 142; refine (write_step (w0 := w0) (xs := []) (s := nm) ?_ (by simp only [List.length_nil]; omega) (by omega)).mono ?_; exact HQ.out; rintro e w3 ⟨⟨r3, rfl⟩, xs, hz, hB3⟩
         rw [List.nil_append] at hB3
         have HX : Hid (LegacyS nm → xs = nums nm) := Lib.hid (fun h => absurd h HNL.out)
         have hxl : xs.length ≤ 6002 := by have := hz.2.1; omega
         have HB3 := Lib.hid hB3
         have hM3 := HM.out.fr hB3.fr
         have n0 := hM3.1
         have n2 := hM3.2.2.1
         clear hz hB3 hM3))
    all_goals (
      go_wp2_with (first
        | (go_at_call 146; refine (HMT.out _ HB3.out.fr).mono ?_; rintro e w4 ⟨rfl, rfl⟩)
        | (go_at_call 145; refine (bufWriteString_any w0 b xs op _ HB3.out ho1 (by omega)).mono ?_; rintro e w5 ⟨⟨r5, rfl⟩, hB5⟩
           obtain ⟨ys, hys⟩ : ∃ ys, xs ++ op.data.toList.map (fun b => (b.toNat : Int)) = ys := ⟨_, rfl⟩
           rw [hys] at hB5
           have HY : Hid (ys = xs ++ nums op) := Lib.hid hys.symm
           have hyl : ys.length ≤ 6004 := by rw [← hys, List.length_append, List.length_map, ← Lib.size_eq]; omega
           have HB5 := Lib.hid hB5
           have hM5 := HM.out.fr hB5.fr
           have k2 := hM5.2.2.1
           clear hys hB5 hM5))
      go_region_with_o (first
        | (go_at_call 144; refine (avail_step (w0 := w0) (b := b) (xs := ys) ?_).mono ?_; exact HB5.out.still ((Fr.refl _ _).drew); rintro e W6 ⟨v6, rfl, hA6, hf6⟩
           have hM6 := HM.out.fr (avail_fr hA6)
           have k6 := hM6.2.2.1
           have HA6 := Lib.hid hA6
           clear hM6 hA6 hf6)
        | (go_at_call 143; refine (quote_step (w0 := w0) (b := b) (xs := ys) (s := vl) HT.out ?_ (by omega)).mono ?_; exact HA6.out; rintro e W7 ⟨v7, rfl, hQ7, hf7⟩; have HQ7 := Lib.hid hQ7; clear hQ7 hf7)
        | (go_at_call 142; refine (write_step (w0 := w0) (xs := ys) (s := vl) ?_ (by omega) (by omega)).mono ?_; exact HQ7.out; rintro e w8 ⟨⟨r8, rfl⟩, zs8, hz8, hB8⟩
           have HB8 := Lib.hid hB8
           have HZ8 := Lib.hid hz8.2.2
           clear hz8 hB8))
      all_goals (
        go_wp2_with (go_at_call 147; refine (bufString_in HB8.out).mono ?_; rintro e w9 ⟨rfl, hf9⟩)
        go_ret
        refine ⟨_, rfl, hf9, fun h1 h2 => ?_⟩
        rw [HY.out, HX.out h1, HZ8.out h2]))
end Go.Proofs.YtbkookiigkckdaaGreatDoor

