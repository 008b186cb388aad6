/- impl.MatcherAsk 17, zzFits23 15. -/
import Derived.Test.YtbkookiigkckdaaGreatDoorMa
import Derived.Handy
namespace Go.Proofs.YtbkookiigkckdaaGreatDoor
open Go.RowKit
set_option linter.unusedVariables false
set_option linter.unusedSimpArgs false

theorem mt_fr {W W' : World} (h : MtAt W) (hf : Fr (fun _ => False) W W') : MtAt W' :=
  ⟨(hf.cell (p := ⟨1, 0, none⟩) (World.block_lt_of_cell? _ _ h.1) (fun e => e)).trans h.1, (hf.cell (p := ⟨1, 1, none⟩) (World.block_lt_of_cell? _ _ h.2) (fun e => e)).trans h.2⟩
def opOf (K : Int) : ByteArray := if K = 0 then ⟨#[61]⟩ else ⟨#[33, 61]⟩
theorem matString_01 (T : Lib.PrintTabs) (mb : Nat) (K : Int) (hK : Kind01 K) (nm vl : ByteArray) (w0 : World) (hT : TabsAt T w0) (hMt : MtAt w0) (hM : MatAt mb K nm vl w0) (hn : nm.size ≤ 600) (hv : vl.size ≤ 600) :
    Calls Tryz.prog 51 #[.pointer (some ⟨mb, 0, none⟩)] w0 fun e w' => ∃ r : ByteArray, e = .returned (.string r) ∧ Fr (fun _ => False) w0 w' ∧ (LegacyS nm → PlainS vl → r = strOfNums (nums nm ++ nums (opOf K) ++ 34 :: (nums vl ++ [34]))) := by
  rcases hK with rfl | rfl
  · exact matString_any T mb 0 nm vl ⟨#[61]⟩ w0 hT hM hn hv (by decide) (by decide) (fun W hf => mtString_0 W (mt_fr hMt hf))
  · exact matString_any T mb 1 nm vl ⟨#[33, 61]⟩ w0 hT hM hn hv (by decide) (by decide) (fun W hf => mtString_1 W (mt_fr hMt hf))

set_option maxHeartbeats 8000000 in
set_option maxRecDepth 100000 in
theorem matcherAsk_any (T : Lib.PrintTabs) (K : Int) (hK : Kind01 K) (nm vl s : ByteArray) (w : World) (hT : TabsAt T w) (hMt : MtAt w) (hn : nm.size ≤ 600) (hv : vl.size ≤ 600) :
    Calls Tryz.prog 17 #[.agg #[.int .i64 K, .string nm, .string vl], .string s] w fun e w' => (∃ r : ByteArray, e = .returned (.tuple #[.bool (mq K vl s), .bool (mq (1 - K) vl s), .string r, .bool true]) ∧ (LegacyS nm → PlainS vl → r = strOfNums (nums nm ++ nums (opOf K) ++ 34 :: (nums vl ++ [34])))) ∧ Fr (fun _ => False) w w' := by
  have HT := Lib.hid hT
  have HMt := Lib.hid hMt
  have HK := Lib.hid hK
  have hf0 := (Fr.refl (fun _ => False) w).alloc (.cells #[.int .i64 K, .string nm, .string vl] 23)
  have HF0 := Lib.hid hf0
  have HN := Lib.hid (matcher_any K hK nm vl (w.alloc (.cells #[.int .i64 K, .string nm, .string vl] 23)))
  have hK1 : Kind01 (1 - K) := by rcases hK with rfl | rfl; exact .inr rfl; exact .inl rfl
  have HK1 := Lib.hid hK1
  clear hT hMt hK hf0 hK1
  go_enter Tryz.func17, Tryz.ntmps17
  go_wp2_with (first
    | (go_at_call 48; refine HN.out.mono ?_; rintro e w1 ⟨⟨mb, rfl, hm⟩, hf⟩
       have HM1 := Lib.hid hm
       have HF1 := Lib.hid (HF0.out.trans hf (fun _ _ e => e))
       clear hm hf)
    | (go_at_call 49; refine (inverse_any mb K HK.out nm vl _ HM1.out).mono ?_; rintro e w2 ⟨⟨mb2, rfl, hm⟩, hf⟩
       have HM2 := Lib.hid hm
       have HM1b := Lib.hid (HM1.out.fr hf)
       have HF2 := Lib.hid (HF1.out.trans hf (fun _ _ e => e))
       clear hm hf)
    | (go_at_call 50; refine (matches_any mb2 (1 - K) HK1.out nm vl s _ HM3.out).mono ?_; rintro e w4 ⟨rfl, hf⟩
       have HM4 := Lib.hid (HM3b.out.fr hf)
       have HF4 := Lib.hid (HF3.out.trans hf (fun _ _ e => e))
       clear hf)
    | (go_at_call 50; refine (matches_any mb K HK.out nm vl s _ HM1b.out).mono ?_; rintro e w3 ⟨rfl, hf⟩
       have HM3 := Lib.hid (HM2.out.fr hf)
       have HM3b := Lib.hid (HM1b.out.fr hf)
       have HF3 := Lib.hid (HF2.out.trans hf (fun _ _ e => e))
       clear hf)
    | (go_at_call 51; refine (matString_01 T mb K HK.out nm vl _ (tabs_fr HT.out HF4.out (fun _ _ e => e)) (mt_fr HMt.out HF4.out) HM4.out hn hv).mono ?_; rintro e w5 ⟨r, rfl, hf, hr⟩
       have HR := Lib.hid hr
       have HF5 := Lib.hid (HF4.out.trans hf (fun _ _ e => e))
       clear hr hf))
  refine bodyPost_ret (by simp [results, Tryz.results17, go_sem]; try rfl) rfl ?_
  exact ⟨⟨r, rfl, HR.out⟩, HF5.out⟩

set_option maxHeartbeats 4000000 in
set_option maxRecDepth 100000 in
theorem fits23_any (K : Int) (nm vl : ByteArray) (hn : nm.size ≤ 2147483647) (hv : vl.size ≤ 2147483647) (w : World) : Calls Tryz.prog 15 #[.agg #[.int .i64 K, .string nm, .string vl]] w fun e w' => e = .returned (.bool true) ∧ Fr (fun _ => False) w w' := by
  have HF := Lib.hid ((Fr.refl (fun _ => False) w).alloc (.cells #[.int .i64 K, .string nm, .string vl] 23))
  have h1 : (nm.size : Int) ≤ 2147483647 := by omega
  have h2 : (vl.size : Int) ≤ 2147483647 := by omega
  go_enter Tryz.func15, Tryz.ntmps15
  go_wp2
  go_ret
  exact ⟨rfl, HF.out⟩
/-- A part is longer than it may be: 'false'. -/
theorem fits23_no (K : Int) (nm vl : ByteArray) (hn : ¬ (nm.size ≤ 2147483647 ∧ vl.size ≤ 2147483647)) (hm : nm.size ≤ 9223372036854775807) (hm2 : vl.size ≤ 9223372036854775807) (w : World) : Calls Tryz.prog 15 #[.agg #[.int .i64 K, .string nm, .string vl]] w fun e w' => e = .returned (.bool false) ∧ Fr (fun _ => False) w w' := by
  have HF := Lib.hid ((Fr.refl (fun _ => False) w).alloc (.cells #[.int .i64 K, .string nm, .string vl] 23))
  by_cases h1 : nm.size ≤ 2147483647
  · have h2 : (2147483647 : Int) < vl.size := by omega
    have h1' : (nm.size : Int) ≤ 2147483647 := by omega
    go_enter Tryz.func15, Tryz.ntmps15
    go_wp2
    go_ret
    exact ⟨rfl, HF.out⟩
  · have h1' : (2147483647 : Int) < nm.size := by omega
    go_enter Tryz.func15, Tryz.ntmps15
    go_wp2
    go_ret
    exact ⟨rfl, HF.out⟩
end Go.Proofs.YtbkookiigkckdaaGreatDoor
