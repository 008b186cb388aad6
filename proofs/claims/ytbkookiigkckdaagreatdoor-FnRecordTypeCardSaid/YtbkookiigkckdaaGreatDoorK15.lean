/- Texts of this seat, merged: H15. -/
import Derived.Test.YtbkookiigkckdaaGreatDoorK14
import Derived.Test.YtbkookiigkckdaaGreatDoorK13
/- FnRecordType 12 at one kind. Printed by gen_h15.py. -/
namespace Go.Proofs.YtbkookiigkckdaaGreatDoor
open Go.RowKit
set_option linter.unusedVariables false
set_option linter.unusedSimpArgs false

set_option maxHeartbeats 4000000 in
set_option maxRecDepth 100000 in
theorem type_kind (k code : Nat) (hk : 1 + (code : Int) % 10 = (k : Int)) (hk10 : 1 ≤ k ∧ k ≤ 10) (hc : code < 256) (pred fits : Prop) (A0 A1 A2 A3 A4 A5 A6 : Option Addr) (c0 c1 c2 c3 c4 c5 c6 n0 n1 n2 n3 n4 n5 n6 : Nat) (av : Value) (ys : List UInt8) (Q : Nat → Prop) (w : World) (te : TypeId) (pe : Value)
    (hS : Sl Q w av 1 ys.length (bc ys)) (hE : w.cell? ⟨2, 0, none⟩ = some (.iface te pe))
    (h34 : ∀ W, Fr (fun _ => False) w W → Calls Tryz.prog 34 #[.agg #[.slice A0 n0 c0, .slice A1 n1 c1, .slice A2 n2 c2, .slice A3 n3 c3, .slice A4 n4 c4, .slice A5 n5 c5, .slice A6 n6 c6]] W (BoolEnds fits W))
    (h30 : fits → ∀ W, Fr (fun _ => False) w W → Calls Tryz.prog 30 #[.int .i64 k, .agg #[.slice A0 n0 c0, .slice A1 n1 c1, .slice A2 n2 c2, .slice A3 n3 c3, .slice A4 n4 c4, .slice A5 n5 c5, .slice A6 n6 c6]] W (BoolEnds pred W))
    (h31 : fits → pred → ∀ W, Fr (fun _ => False) w W → ∃ (L : Value → World → Prop) (zs : List UInt8), typeOf zs = k ∧ (∀ u V, L u V → ∃ A m c, u = .slice A m c) ∧ Calls Tryz.prog 31 #[.int .i64 k, .agg #[.slice A0 n0 c0, .slice A1 n1 c1, .slice A2 n2 c2, .slice A3 n3 c3, .slice A4 n4 c4, .slice A5 n5 c5, .slice A6 n6 c6], .slice none 0 0] W (WriteEnds L W zs)) :
    Calls Tryz.prog 12 #[.int .u8 code, .agg #[.slice A0 n0 c0, .slice A1 n1 c1, .slice A2 n2 c2, .slice A3 n3 c3, .slice A4 n4 c4, .slice A5 n5 c5, .slice A6 n6 c6], av] w (TrueEnds w) := by
  have HA : Hid (∀ W, Fr (fun _ => False) w W → Calls Tryz.prog 28 #[] W (TrueEnds W)) := Lib.hid (fun W hF => recordAlive_any te pe W (by rw [hF.cell (p := ⟨2, 0, none⟩) (World.block_lt_of_cell? w _ hE) (fun e => e)]; exact hE))
  have HK : Hid (∀ W, Calls Tryz.prog 35 #[.int .u8 code] W (IntEnds (k : Int) W)) := Lib.hid (fun W => by have := recordKind_any code hc W; rwa [hk] at this)
  obtain ⟨A9, c9, rfl⟩ := hS.shape
  obtain ⟨m, hm⟩ : ∃ m, typeOf ys = m := ⟨_, rfl⟩
  have HT2 : Hid (∀ W, Fr (fun _ => False) w W → Calls Tryz.prog 42 #[.slice A9 ys.length c9] W (NewEnds (fun u _ => u = .tuple #[.int .i64 m, .string (typeName m)]) W)) := Lib.hid (fun W hF => by have := recordType_any _ Q ys W (hS.fr hF (fun _ _ e => e)); rwa [hm] at this)
  obtain ⟨n, hn⟩ : ∃ n, ys.length = n := ⟨_, rfl⟩
  rw [hn] at HT2 hS ⊢
  have HN := Lib.hid hn
  have HM := Lib.hid hm
  have HS := Lib.hid hS
  have H34 := Lib.hid h34
  have H30 := Lib.hid h30
  have H31 := Lib.hid h31
  clear hn hm hS h34 h30 h31 hE hk hc
  go_enter Tryz.func12, Tryz.ntmps12
  have HB := Lib.hid (Blk.new w 54 #[.slice A0 n0 c0, .slice A1 n1 c1, .slice A2 n2 c2, .slice A3 n3 c3, .slice A4 n4 c4, .slice A5 n5 c5, .slice A6 n6 c6])
  have HF0 := Lib.hid ((Fr.refl (fun _ => False) w).alloc (.cells #[.slice A0 n0 c0, .slice A1 n1 c1, .slice A2 n2 c2, .slice A3 n3 c3, .slice A4 n4 c4, .slice A5 n5 c5, .slice A6 n6 c6] 54))
  go_wp2_with (go_at_call 34; refine (H34.out _ HF0.out).mono ?_; rintro r w1 ⟨b, rfl, hb, hf⟩; refine Hid.out ?_)
  have HF1 := Lib.hid (HF0.out.same hf)
  have HBB := Lib.hid hb
  have HB1 := Lib.hid (HB.out.fr hf (fun e => e))
  clear hb hf HB
  rcases b with _ | _
  · refine Lib.hid ?_
    go_wp2
    go_ret
    exact ⟨rfl, HF1.out⟩
  have HFI : Hid fits := Lib.hid (HBB.out.1 (by first | rfl | trivial))
  by_cases g9 : 2147483647 < n
  · have g9' : (2147483647 : Int) < (n : Int) := by omega
    refine Lib.hid ?_
    go_wp2
    go_ret
    exact ⟨rfl, HF1.out⟩
  have g9' : ¬ (2147483647 : Int) < (n : Int) := by omega
  clear g9
  obtain ⟨y0, y1, y2, y3, y4, y5, y6⟩ := seven_cells HB1.out
  refine Lib.hid ?_
  go_wp2_with (first
    | (go_at_call 35; refine (HK.out _).mono ?_; rintro r w2 ⟨rfl, hf⟩; clear y0 y1 y2 y3 y4 y5 y6; have HF2 := Lib.hid (HF1.out.same hf); have HB2 := Lib.hid (HB1.out.fr hf (fun e => e)); clear hf HB1; obtain ⟨y0, y1, y2, y3, y4, y5, y6⟩ := seven_cells HB2.out)
    | (go_at_call 30; refine (H30.out HFI.out _ HF2.out).mono ?_; rintro r w3 ⟨b, rfl, hb, hf⟩; refine Hid.out ?_))
  have HF3 := Lib.hid (HF2.out.same hf)
  have HB3 := Lib.hid (HB2.out.fr hf (fun e => e))
  have HBC := Lib.hid hb
  clear hb hf HB2 y0 y1 y2 y3 y4 y5 y6
  obtain ⟨y0, y1, y2, y3, y4, y5, y6⟩ := seven_cells HB3.out
  rcases b with _ | _
  · refine Lib.hid ?_
    go_wp2_with (go_at_call 28; refine (HA.out _ HF3.out).mono ?_; rintro r w4 ⟨rfl, hf⟩)
    go_ret
    exact ⟨rfl, HF3.out.same hf⟩
  obtain ⟨L, zs, hz, hLs, hW⟩ := H31.out HFI.out (HBC.out.1 (by first | rfl | trivial)) w3 HF3.out
  have HW := Lib.hid hW
  have HT1 : Hid (∀ (v : Value) (P : Nat → Prop) W, Sl P W v 1 zs.length (bc zs) → Calls Tryz.prog 42 #[v] W (NewEnds (fun u _ => u = .tuple #[.int .i64 k, .string (typeName k)]) W)) := Lib.hid (fun v P W hS => by have := recordType_any v P zs W hS; rwa [hz] at this)
  clear hW hz
  rcases ys with _ | ⟨c, r⟩
  · have h0 : n = 0 := HN.out.symm
    have hm : m = 255 := by have := HM.out; rw [← this]; rfl
    subst hm
    subst h0
    refine Lib.hid ?_
    go_wp2_with (first
      | (go_at_call 31; refine HW.out.mono ?_; rintro r w4 ⟨bv, lv, rfl, hL, hown, hf⟩; obtain ⟨b1, b2, b3, rfl⟩ := hLs lv w4 hL; obtain ⟨d1, d2, d3, rfl⟩ := own_slice hown; have HF4 := Lib.hid (HF3.out.same hf); have HO := Lib.hid hown; clear hf hL hown)
      | (go_at_call 42; refine (HT2.out _ HF5.out).mono ?_; rintro r w6 ⟨u, rfl, rfl, hf⟩; have HF6 := Lib.hid (HF5.out.same hf); clear hf)
      | (go_at_call 42; refine (HT1.out _ _ w4 (Sl.ofOwn HO.out)).mono ?_; rintro r w5 ⟨u, rfl, rfl, hf⟩; have HF5 := Lib.hid (HF4.out.same hf); clear hf)
      | (go_at_call 28; refine (HA.out _ HF6.out).mono ?_; rintro r w7 ⟨rfl, hf⟩; have HF7 := Lib.hid (HF6.out.same hf); clear hf))
    go_ret
    exact ⟨rfl, HF7.out⟩
  · have hnp : 0 < n := by have := HN.out; simp at this; omega
    have g0 : (0 : Int) < (n : Int) := by omega
    obtain ⟨g, off, rfl, _, hcell⟩ := HS.out.at hnp
    have hoc : w.cell? ⟨g, off, none⟩ = some (.int .u8 c.toNat) := hcell 0 _ (by rw [bc_get]; rfl)
    have HOC := Lib.hid hoc
    have HGL := Lib.hid (World.block_lt_of_cell? w _ hoc)
    have hct : c.toNat < 256 := c.toNat_lt
    have HMC : Hid (m = if 1 ≤ c.toNat ∧ c.toNat ≤ 10 then c.toNat else 255) := Lib.hid HM.out.symm
    obtain ⟨q, hq⟩ : ∃ q, c.toNat = q := ⟨_, rfl⟩
    rw [hq] at HOC hct HMC
    clear hcell hoc hnp
    have HQ := Lib.hid hq
    clear hq
    by_cases hq1 : 1 ≤ q
    · by_cases hq2 : q ≤ 10
      · have hm : m = q := by have := HMC.out; rwa [if_pos ⟨hq1, hq2⟩] at this
        subst hm
        have i1 : (1 : Int) ≤ (m : Int) := by omega
        have i2 : (m : Int) ≤ 10 := by omega
        refine Lib.hid ?_
        go_wp2_with (first
          | (go_at_call 31; refine HW.out.mono ?_; rintro r w4 ⟨bv, lv, rfl, hL, hown, hf⟩; obtain ⟨b1, b2, b3, rfl⟩ := hLs lv w4 hL; obtain ⟨d1, d2, d3, rfl⟩ := own_slice hown; have HF4 := Lib.hid (HF3.out.same hf); have HO := Lib.hid hown; clear hf hL hown)
          | (go_at_call 42; refine (HT2.out _ HF5.out).mono ?_; rintro r w6 ⟨u, rfl, rfl, hf⟩; have HF6 := Lib.hid (HF5.out.same hf); clear hf; have oc : w6.cell? ⟨g, off, none⟩ = some (.int .u8 m) := by rw [HF6.out.cell (p := ⟨g, off, none⟩) HGL.out (fun e => e)]; exact HOC.out)
          | (go_at_call 42; refine (HT1.out _ _ w4 (Sl.ofOwn HO.out)).mono ?_; rintro r w5 ⟨u, rfl, rfl, hf⟩; have HF5 := Lib.hid (HF4.out.same hf); clear hf)
          | (go_at_call 28; refine (HA.out _ HF6.out).mono ?_; rintro r w7 ⟨rfl, hf⟩; have HF7 := Lib.hid (HF6.out.same hf); clear hf))
        go_ret
        exact ⟨rfl, HF7.out⟩
      · have hm : m = 255 := by have := HMC.out; rwa [if_neg (by omega)] at this
        subst hm
        have i1 : (1 : Int) ≤ (q : Int) := by omega
        have i2 : ¬ (q : Int) ≤ 10 := by omega
        refine Lib.hid ?_
        go_wp2_with (first
          | (go_at_call 31; refine HW.out.mono ?_; rintro r w4 ⟨bv, lv, rfl, hL, hown, hf⟩; obtain ⟨b1, b2, b3, rfl⟩ := hLs lv w4 hL; obtain ⟨d1, d2, d3, rfl⟩ := own_slice hown; have HF4 := Lib.hid (HF3.out.same hf); have HO := Lib.hid hown; clear hf hL hown)
          | (go_at_call 42; refine (HT2.out _ HF5.out).mono ?_; rintro r w6 ⟨u, rfl, rfl, hf⟩; have HF6 := Lib.hid (HF5.out.same hf); clear hf; have oc : w6.cell? ⟨g, off, none⟩ = some (.int .u8 q) := by rw [HF6.out.cell (p := ⟨g, off, none⟩) HGL.out (fun e => e)]; exact HOC.out)
          | (go_at_call 42; refine (HT1.out _ _ w4 (Sl.ofOwn HO.out)).mono ?_; rintro r w5 ⟨u, rfl, rfl, hf⟩; have HF5 := Lib.hid (HF4.out.same hf); clear hf)
          | (go_at_call 28; refine (HA.out _ HF6.out).mono ?_; rintro r w7 ⟨rfl, hf⟩; have HF7 := Lib.hid (HF6.out.same hf); clear hf))
        go_ret
        exact ⟨rfl, HF7.out⟩
    · have hm : m = 255 := by have := HMC.out; rwa [if_neg (by omega)] at this
      subst hm
      have i1 : ¬ (1 : Int) ≤ (q : Int) := by omega
      refine Lib.hid ?_
      go_wp2_with (first
        | (go_at_call 31; refine HW.out.mono ?_; rintro r w4 ⟨bv, lv, rfl, hL, hown, hf⟩; obtain ⟨b1, b2, b3, rfl⟩ := hLs lv w4 hL; obtain ⟨d1, d2, d3, rfl⟩ := own_slice hown; have HF4 := Lib.hid (HF3.out.same hf); have HO := Lib.hid hown; clear hf hL hown)
        | (go_at_call 42; refine (HT2.out _ HF5.out).mono ?_; rintro r w6 ⟨u, rfl, rfl, hf⟩; have HF6 := Lib.hid (HF5.out.same hf); clear hf; have oc : w6.cell? ⟨g, off, none⟩ = some (.int .u8 q) := by rw [HF6.out.cell (p := ⟨g, off, none⟩) HGL.out (fun e => e)]; exact HOC.out)
        | (go_at_call 42; refine (HT1.out _ _ w4 (Sl.ofOwn HO.out)).mono ?_; rintro r w5 ⟨u, rfl, rfl, hf⟩; have HF5 := Lib.hid (HF4.out.same hf); clear hf)
        | (go_at_call 28; refine (HA.out _ HF6.out).mono ?_; rintro r w7 ⟨rfl, hf⟩; have HF7 := Lib.hid (HF6.out.same hf); clear hf))
      go_ret
      exact ⟨rfl, HF7.out⟩
end Go.Proofs.YtbkookiigkckdaaGreatDoor

