/- Texts of this seat, merged: H16, H17. -/
import Derived.Test.YtbkookiigkckdaaGreatDoorK15
import Derived.Test.YtbkookiigkckdaaGreatDoorK19
import Derived.Test.YtbkookiigkckdaaGreatDoorK20
import Derived.Test.YtbkookiigkckdaaGreatDoorK21
import Derived.Test.YtbkookiigkckdaaGreatDoorK13
import Derived.ChangeSlices
import Derived.ChangeOld
import Derived.Below
/- FnRecordType: the walk, all kinds. Printed by gen_h16.py. -/
namespace Go.Proofs.YtbkookiigkckdaaGreatDoor
open Go.RowKit
set_option linter.unusedVariables false
set_option linter.unusedSimpArgs false

theorem nil_sl (P : Nat → Prop) (W : World) : Sl P W (.slice none 0 0) 1 ([] : List UInt8).length (bc []) := ⟨none, 0, rfl, rfl, Nat.le_refl _, fun h => absurd h (Nat.lt_irrefl _)⟩
theorem LabOk.wide {l : List Lab} (h : LabOk l 8 300) : LabOk l 12 600 := ⟨Nat.le_trans h.1 (by omega), fun p hp => by have := h.2.1 p hp; exact ⟨this.1, by omega, by omega⟩, h.2.2⟩
theorem few_big {h : Hst} (k : h.few 2147483647) : h.few 1099511627776 := by
  obtain ⟨a, b, c, d, e, f, g⟩ := k
  exact ⟨by omega, by omega, by omega, by omega, by omega, by omega, by omega⟩
theorem rhs_ok {p : Rhs} {fl : Bool} (h : (p.ref < 18446744073709551616 ∧ -9223372036854775808 ≤ p.t ∧ p.t ≤ 9223372036854775807) ∧ p.h.wide) (hs : ShortH fl p.h) : p.ok :=
  ⟨h.1.1, h.1.2.1, h.1.2.2, h.2.ok (by have h1 := hs.1; unfold Hst.total at h1; exact ⟨by omega, by omega, by omega, by omega, by omega, by omega, by omega⟩)⟩


set_option maxRecDepth 100000 in
theorem type_walk (te : TypeId) (pe : Value) (P Q : Nat → Prop) (code : Nat) (hc : code ≤ 255) (q : Prt) (s0 s1 s2 s3 s4 s5 s6 av : Value) (ys : List UInt8) (w : World) (hq : q.At P w s0 s1 s2 s3 s4 s5 s6) (hw : q.Wide)
    (hS : Sl Q w av 1 ys.length (bc ys)) (hE : w.cell? ⟨2, 0, none⟩ = some (.iface te pe)) :
    Calls Tryz.prog 12 #[.int .u8 code, .agg #[s0, s1, s2, s3, s4, s5, s6], av] w (TrueEnds w) := by
  have h34 : ∀ W, Fr (fun _ => False) w W → Calls Tryz.prog 34 #[.agg #[s0, s1, s2, s3, s4, s5, s6]] W (BoolEnds q.Fits W) := fun W hF => fits34_any P q s0 s1 s2 s3 s4 s5 s6 W (hq.fr hF (fun _ _ e => e)) hw
  obtain ⟨A0, c0, rfl⟩ := hq.ser.1.shape
  obtain ⟨A1, c1, rfl⟩ := hq.smp.shape
  obtain ⟨A2, c2, rfl⟩ := hq.sto.1.shape
  obtain ⟨A3, c3, rfl⟩ := hq.exm.1.shape
  obtain ⟨A4, c4, rfl⟩ := hq.mta.shape
  obtain ⟨A5, c5, rfl⟩ := hq.mrk.shape
  obtain ⟨A6, c6, rfl⟩ := hq.his.1.shape
  have b0 : q.Fits → q.ser.length ≤ 1099511627776 := fun hf => by have := hf.ser.1; omega
  have b1 : q.Fits → q.smp.length ≤ 1099511627776 := fun hf => by have := hf.smp; omega
  have b2 : q.Fits → q.sto.length ≤ 1099511627776 := fun hf => by have := hf.sto.1; omega
  have b3 : q.Fits → q.exm.length ≤ 1099511627776 := fun hf => by have := hf.exm.1; omega
  have b4 : q.Fits → q.mta.length ≤ 1099511627776 := fun hf => by have := hf.mta.1; omega
  have b5 : q.Fits → q.mrk.length ≤ 1099511627776 := fun hf => by have := hf.mrk; omega
  have b6 : q.Fits → q.his.length ≤ 1099511627776 := fun hf => by have := hf.his.1; omega
  have sh : ∀ s ∈ [Value.slice A0 q.ser.length c0, .slice A1 q.smp.length c1, .slice A2 q.sto.length c2, .slice A3 q.exm.length c3, .slice A4 q.mta.length c4, .slice A5 q.mrk.length c5, .slice A6 q.his.length c6], ∃ A m c, s = .slice A m c := by
    intro s hs
    simp only [List.mem_cons, List.not_mem_nil, or_false] at hs
    rcases hs with rfl | rfl | rfl | rfl | rfl | rfl | rfl <;> exact ⟨_, _, _, rfl⟩
  have hm : code % 10 = 0 ∨ code % 10 = 1 ∨ code % 10 = 2 ∨ code % 10 = 3 ∨ code % 10 = 4 ∨ code % 10 = 5 ∨ code % 10 = 6 ∨ code % 10 = 7 ∨ code % 10 = 8 ∨ code % 10 = 9 := by omega
  rcases hm with hm | hm | hm | hm | hm | hm | hm | hm | hm | hm
  · exact type_kind 1 code (by omega) (by omega) (by omega) _ q.Fits A0 A1 A2 A3 A4 A5 A6 c0 c1 c2 c3 c4 c5 c6 _ _ _ _ _ _ _ av ys Q w te pe hS hE h34
      (fun hf W hF => rightG_1 A0 A1 A2 A3 A4 A5 A6 c0 c1 c2 c3 c4 c5 c6 _ _ _ _ _ _ _ _ (b0 hf) (b1 hf) (b2 hf) (b3 hf) (b4 hf) (b5 hf) (b6 hf) rfl W P q.ser (hq.ser.fr hF (fun _ _ e => e)) rfl (fun p hp => by have := (hf.ser.2 p hp).1; omega))
      (fun hf hp W hF => ⟨fun lv _ => lv = .slice none 0 0, [] ++ encSers (q.ser.map Prod.fst), rfl, (by rintro u V rfl; exact ⟨_, _, _, rfl⟩), recordWrite_series _ _ _ _ _ _ _ _ [] q.ser P W (nil_sl P W) (by simp) sh (hq.ser.fr hF (fun _ _ e => e)) (by rw [List.length_map]; have := hp.1; have := hp.2.1; omega) (fun s hs => by obtain ⟨p, hp2, rfl⟩ := List.mem_map.1 hs; exact ⟨(hw.ser p hp2).1, (hp.2.2 p hp2).wide⟩)⟩)
  · exact type_kind 2 code (by omega) (by omega) (by omega) _ q.Fits A0 A1 A2 A3 A4 A5 A6 c0 c1 c2 c3 c4 c5 c6 _ _ _ _ _ _ _ av ys Q w te pe hS hE h34
      (fun hf W hF => rightG_2 A0 A1 A2 A3 A4 A5 A6 c0 c1 c2 c3 c4 c5 c6 _ _ _ _ _ _ _ _ (b0 hf) (b1 hf) (b2 hf) (b3 hf) (b4 hf) (b5 hf) (b6 hf) rfl W)
      (fun hf hp W hF => ⟨fun lv _ => lv = .slice none 0 0, [] ++ encSamples q.smp, by cases q.smp <;> rfl, (by rintro u V rfl; exact ⟨_, _, _, rfl⟩), recordWrite_samples _ _ _ _ _ _ _ _ [] q.smp P W (nil_sl P W) (by simp) sh (hq.smp.fr hF (fun _ _ e => e)) (by have := hp.1; have := hp.2; omega) hw.smp⟩)
  · exact type_kind 3 code (by omega) (by omega) (by omega) _ q.Fits A0 A1 A2 A3 A4 A5 A6 c0 c1 c2 c3 c4 c5 c6 _ _ _ _ _ _ _ av ys Q w te pe hS hE h34
      (fun hf W hF => rightG_3 A0 A1 A2 A3 A4 A5 A6 c0 c1 c2 c3 c4 c5 c6 _ _ _ _ _ _ _ _ (b0 hf) (b1 hf) (b2 hf) (b3 hf) (b4 hf) (b5 hf) (b6 hf) rfl W P q.sto (hq.sto.fr hF (fun _ _ e => e)) rfl (fun p hp => by have := hf.sto.2 p hp; omega))
      (fun hf hp W hF => ⟨fun lv _ => lv = .slice none 0 0, [] ++ encStones (q.sto.map Prod.fst), rfl, (by rintro u V rfl; exact ⟨_, _, _, rfl⟩), recordWrite_stones _ _ _ _ _ _ _ _ [] q.sto P W (nil_sl P W) (by simp) sh (hq.sto.fr hF (fun _ _ e => e)) (by have := hp.1; have := hp.2.1; omega) (fun s hs => by obtain ⟨p, hp2, rfl⟩ := List.mem_map.1 hs; have := hp.2.2 p hp2; omega) (fun s hs => by obtain ⟨p, hp2, rfl⟩ := List.mem_map.1 hs; exact ⟨(hw.sto p hp2).1, (hw.sto p hp2).2.2⟩)⟩)
  · exact type_kind 4 code (by omega) (by omega) (by omega) _ q.Fits A0 A1 A2 A3 A4 A5 A6 c0 c1 c2 c3 c4 c5 c6 _ _ _ _ _ _ _ av ys Q w te pe hS hE h34
      (fun hf W hF => rightG_4 A0 A1 A2 A3 A4 A5 A6 c0 c1 c2 c3 c4 c5 c6 _ _ _ _ _ _ _ _ (b0 hf) (b1 hf) (b2 hf) (b3 hf) (b4 hf) (b5 hf) (b6 hf) rfl W P q.exm (hq.exm.fr hF (fun _ _ e => e)) rfl (fun p hp => by have := (hf.exm.2 p hp).1; omega))
      (fun hf hp W hF => ⟨fun lv _ => lv = .slice none 0 0, [] ++ encExms (q.exm.map Prod.fst), rfl, (by rintro u V rfl; exact ⟨_, _, _, rfl⟩), recordWrite_exemplars _ _ _ _ _ _ _ _ [] q.exm P W (nil_sl P W) (by simp) sh (hq.exm.fr hF (fun _ _ e => e)) (by rw [List.length_map]; have := hp.1; have := hp.2.1; omega) (fun s hs => by obtain ⟨p, hp2, rfl⟩ := List.mem_map.1 hs; exact ⟨(hw.exm p hp2).1, (hp.2.2 p hp2).wide⟩)⟩)
  · exact type_kind 5 code (by omega) (by omega) (by omega) _ q.Fits A0 A1 A2 A3 A4 A5 A6 c0 c1 c2 c3 c4 c5 c6 _ _ _ _ _ _ _ av ys Q w te pe hS hE h34
      (fun hf W hF => rightG_5 A0 A1 A2 A3 A4 A5 A6 c0 c1 c2 c3 c4 c5 c6 _ _ _ _ _ _ _ _ (b0 hf) (b1 hf) (b2 hf) (b3 hf) (b4 hf) (b5 hf) (b6 hf) rfl W)
      (fun hf hp W hF => ⟨fun lv _ => lv = .slice none 0 0, [] ++ encMarkers q.mrk, rfl, (by rintro u V rfl; exact ⟨_, _, _, rfl⟩), recordWrite_markers _ _ _ _ _ _ _ _ [] q.mrk P W (nil_sl P W) (by simp) sh (hq.mrk.fr hF (fun _ _ e => e)) (by have := hp.1; have := hp.2; omega) hw.mrk⟩)
  · exact type_kind 6 code (by omega) (by omega) (by omega) _ q.Fits A0 A1 A2 A3 A4 A5 A6 c0 c1 c2 c3 c4 c5 c6 _ _ _ _ _ _ _ av ys Q w te pe hS hE h34
      (fun hf W hF => rightG_6 A0 A1 A2 A3 A4 A5 A6 c0 c1 c2 c3 c4 c5 c6 _ _ _ _ _ _ _ _ (b0 hf) (b1 hf) (b2 hf) (b3 hf) (b4 hf) (b5 hf) (b6 hf) rfl W P q.mta (hq.mta.fr hF (fun _ _ e => e)) rfl (fun p hp => by have h1 := (hf.mta.2 p hp).1; have h2 := (hf.mta.2 p hp).2; exact ⟨by omega, by omega⟩))
      (fun hf hp W hF => ⟨fun lv _ => lv = .slice none 0 0, [] ++ encMetas q.mta, rfl, (by rintro u V rfl; exact ⟨_, _, _, rfl⟩), recordWrite_metadata _ _ _ _ _ _ _ _ [] q.mta P W (nil_sl P W) (by simp) sh (hq.mta.fr hF (fun _ _ e => e)) (by have := hp.1; have := hp.2.1; omega) (fun s hs => by have := hp.2.2 s hs; exact ⟨(hw.mta s hs).1, by omega, by omega⟩)⟩)
  · exact type_kind 7 code (by omega) (by omega) (by omega) _ q.Fits A0 A1 A2 A3 A4 A5 A6 c0 c1 c2 c3 c4 c5 c6 _ _ _ _ _ _ _ av ys Q w te pe hS hE h34
      (fun hf W hF => rightG_7 A0 A1 A2 A3 A4 A5 A6 c0 c1 c2 c3 c4 c5 c6 _ _ _ _ _ _ _ _ (b0 hf) (b1 hf) (b2 hf) (b3 hf) (b4 hf) (b5 hf) (b6 hf) rfl W P q.his (hq.his.fr hF (fun _ _ e => e)) rfl (fun p hp => few_big (hf.his.2 p hp)))
      (fun hf hp W hF => ⟨_, [] ++ encRecW 7 (fun s => !isCus s) (q.his.map Prod.fst), by cases q.his <;> rfl, fun u V h => h.shape, recordWrite_hsW _ _ _ _ _ _ _ _ [] q.his P W (nil_sl P W) (by simp) sh (hq.his.fr hF (fun _ _ e => e)) (by have := hp.1; have := hp.2.1; omega) (fun s hs => by obtain ⟨p, hp2, rfl⟩ := List.mem_map.1 hs; exact rhs_ok (hw.his p hp2) (hp.2.2.1 p hp2)) (by rcases hp.2.2.2 with h | ⟨p, h1, h2⟩; exact .inl (by rw [h]; rfl); exact .inr ⟨p.1, List.mem_map.2 ⟨p, h1, rfl⟩, h2⟩)⟩)
  · exact type_kind 8 code (by omega) (by omega) (by omega) _ q.Fits A0 A1 A2 A3 A4 A5 A6 c0 c1 c2 c3 c4 c5 c6 _ _ _ _ _ _ _ av ys Q w te pe hS hE h34
      (fun hf W hF => rightG_8 A0 A1 A2 A3 A4 A5 A6 c0 c1 c2 c3 c4 c5 c6 _ _ _ _ _ _ _ _ (b0 hf) (b1 hf) (b2 hf) (b3 hf) (b4 hf) (b5 hf) (b6 hf) rfl W P q.his (hq.his.fr hF (fun _ _ e => e)) rfl (fun p hp => few_big (hf.his.2 p hp)))
      (fun hf hp W hF => ⟨_, [] ++ encRecF 8 (fun s => !isCus s) (q.his.map Prod.fst), by cases q.his <;> rfl, fun u V h => h.shape, recordWrite_hsF _ _ _ _ _ _ _ _ [] q.his P W (nil_sl P W) (by simp) sh (hq.his.fr hF (fun _ _ e => e)) (by have := hp.1; have := hp.2.1; omega) (fun s hs => by obtain ⟨p, hp2, rfl⟩ := List.mem_map.1 hs; exact rhs_ok (hw.his p hp2) (hp.2.2.1 p hp2)) (by rcases hp.2.2.2 with h | ⟨p, h1, h2⟩; exact .inl (by rw [h]; rfl); exact .inr ⟨p.1, List.mem_map.2 ⟨p, h1, rfl⟩, h2⟩)⟩)
  · exact type_kind 9 code (by omega) (by omega) (by omega) _ q.Fits A0 A1 A2 A3 A4 A5 A6 c0 c1 c2 c3 c4 c5 c6 _ _ _ _ _ _ _ av ys Q w te pe hS hE h34
      (fun hf W hF => rightG_9 A0 A1 A2 A3 A4 A5 A6 c0 c1 c2 c3 c4 c5 c6 _ _ _ _ _ _ _ _ (b0 hf) (b1 hf) (b2 hf) (b3 hf) (b4 hf) (b5 hf) (b6 hf) rfl W P q.his (hq.his.fr hF (fun _ _ e => e)) rfl (fun p hp => few_big (hf.his.2 p hp)))
      (fun hf hp W hF => ⟨fun lv _ => lv = .slice none 0 0, [] ++ encRecW 9 (fun _ => true) (q.his.map Prod.fst), by cases q.his <;> rfl, (by rintro u V rfl; exact ⟨_, _, _, rfl⟩), recordWrite_cusW _ _ _ _ _ _ _ _ [] q.his P W (nil_sl P W) (by simp) sh (hq.his.fr hF (fun _ _ e => e)) (by have := hp.1; have := hp.2.1; omega) (fun s hs => by obtain ⟨p, hp2, rfl⟩ := List.mem_map.1 hs; exact rhs_ok (hw.his p hp2) (hp.2.2.1 p hp2))⟩)
  · exact type_kind 10 code (by omega) (by omega) (by omega) _ q.Fits A0 A1 A2 A3 A4 A5 A6 c0 c1 c2 c3 c4 c5 c6 _ _ _ _ _ _ _ av ys Q w te pe hS hE h34
      (fun hf W hF => rightG_10 A0 A1 A2 A3 A4 A5 A6 c0 c1 c2 c3 c4 c5 c6 _ _ _ _ _ _ _ _ (b0 hf) (b1 hf) (b2 hf) (b3 hf) (b4 hf) (b5 hf) (b6 hf) rfl W P q.his (hq.his.fr hF (fun _ _ e => e)) rfl (fun p hp => few_big (hf.his.2 p hp)))
      (fun hf hp W hF => ⟨fun lv _ => lv = .slice none 0 0, [] ++ encRecF 10 (fun _ => true) (q.his.map Prod.fst), by cases q.his <;> rfl, (by rintro u V rfl; exact ⟨_, _, _, rfl⟩), recordWrite_cusF _ _ _ _ _ _ _ _ [] q.his P W (nil_sl P W) (by simp) sh (hq.his.fr hF (fun _ _ e => e)) (by have := hp.1; have := hp.2.1; omega) (fun s hs => by obtain ⟨p, hp2, rfl⟩ := List.mem_map.1 hs; exact rhs_ok (hw.his p hp2) (hp.2.2.1 p hp2))⟩)
end Go.Proofs.YtbkookiigkckdaaGreatDoor

/- FnRecordType: parts that came in; the row's step. -/
namespace Go.Proofs.YtbkookiigkckdaaGreatDoor
open Go Go.ChangeShapes Go.WideShapes Go.ChangeAt Go.RowKit
set_option linter.unusedVariables false
set_option linter.unusedSimpArgs false

theorem c46 : Tryz.prog.cellsOf 46 = 1 := by kernel_rfl
theorem c47 : Tryz.prog.cellsOf 47 = 1 := by kernel_rfl
theorem c48 : Tryz.prog.cellsOf 48 = 1 := by kernel_rfl
theorem c49 : Tryz.prog.cellsOf 49 = 1 := by kernel_rfl
theorem c50 : Tryz.prog.cellsOf 50 = 1 := by kernel_rfl
theorem c51 : Tryz.prog.cellsOf 51 = 1 := by kernel_rfl
theorem c52 : Tryz.prog.cellsOf 52 = 1 := by kernel_rfl
set_option maxRecDepth 100000 in
/-- The argument 'impl.Parts', opened. -/
theorem parts_in {H : Type} {enc : TypeId × Value → H} {W : World} {cs : Array Value} {d : DataW H} {p : List MemPlace}
    (h : DataW.Trod enc Tryz.prog W 0 (fun _ => true) true 54 (.agg cs) d p) (hsz : cs.size = 7) : ∃ (q : Prt) (s0 s1 s2 s3 s4 s5 s6 : Value), cs = #[s0, s1, s2, s3, s4, s5, s6] ∧ q.At (Old W) W s0 s1 s2 s3 s4 s5 s6 ∧ q.Wide := by
  obtain ⟨fuel, hf0⟩ := h
  have hf1 : Reads_ enc W fuel 54 cs.toList (d, p) := hf0
  obtain ⟨n, _, hf⟩ := struct_at Tryz.underlying54 hf1
  obtain ⟨l⟩ := cs
  have hl : l.length = 7 := by simpa using hsz
  match l, hl with
  | [a0, a1, a2, a3, a4, a5, a6], _ =>
    obtain ⟨y0, h0⟩ := hf 0 _ a0 rfl c46 rfl
    obtain ⟨y1, h1⟩ := hf 1 _ a1 rfl c47 rfl
    obtain ⟨y2, h2⟩ := hf 2 _ a2 rfl c48 rfl
    obtain ⟨y3, h3⟩ := hf 3 _ a3 rfl c49 rfl
    obtain ⟨y4, h4⟩ := hf 4 _ a4 rfl c50 rfl
    obtain ⟨y5, h5⟩ := hf 5 _ a5 rfl c51 rfl
    obtain ⟨y6, h6⟩ := hf 6 _ a6 rfl c52 rfl
    obtain ⟨l0, m0, w0, z0⟩ := in_series h0
    obtain ⟨l1, m1, w1, z1⟩ := in_samples h1
    obtain ⟨l2, m2, w2, z2⟩ := in_stones h2
    obtain ⟨l3, m3, w3, z3⟩ := in_exemplars h3
    obtain ⟨l4, m4, w4, z4⟩ := in_metadata h4
    obtain ⟨l5, m5, w5, z5⟩ := in_markers h5
    obtain ⟨l6, m6, w6, z6⟩ := in_histograms h6
    exact ⟨⟨l0, l1, l2, l3, l4, l5, l6⟩, a0, a1, a2, a3, a4, a5, a6, rfl, ⟨z0, z1, z2, z3, z4, z5, z6⟩, ⟨m0, m1, m2, m3, m4, m5, m6, w0, w1, w2, w3, w4, w5, w6⟩⟩

set_option maxRecDepth 100000 in
theorem rectype_lifted (os : Os) (started : os.Started) (H : Type) (enc : TypeId × Value → H) :
    ReturnsInHanded {} Tryz.checked os 12 .any (fun w args => (Rows.fnRecordTypeSpec.pre enc Tryz.prog Tryz.f12 [] false w args ∧ laidMetH Tryz.prog Rows.fnRecordTypeRow.laid w) ∧ sizedMet enc Tryz.prog Tryz.f12 (OpenSpec.ofChange Rows.fnRecordTypeSpec) false w args)
      (Rows.fnRecordTypeSpec.post enc Tryz.prog Tryz.f12 false true false false) := by
  refine returnsInHanded_of_change_and (C := Tryz.checked) (X := fun w _ => laidMetH Tryz.prog Rows.fnRecordTypeRow.laid w) (fun _ _ _ hh h => h.of_heap hh) ownKnobs started (by kernel_rfl) Tryz.func12
    (ChangeSpec.witness_shaped (enc := enc) (C := Tryz.checked) (os := os) (X := fun w _ => laidMetH Tryz.prog Rows.fnRecordTypeRow.laid w) false (World.doorLaid Tryz.prog 400 os) #[.int .u8 0, .agg #[.slice none 0 0, .slice none 0 0, .slice none 0 0, .slice none 0 0, .slice none 0 0, .slice none 0 0, .slice none 0 0], .slice none 0 0] 8 rfl (World.shaped_of_RefB (by kernel_rfl) (by kernel_rfl)) (by kernel_rfl) (by kernel_rfl) (by kernel_rfl) (door_met os _)) ?_
  intro W base args ds gs before hval0 hW _ _ hL _
  have hval : ∀ (j : Nat) t v, Tryz.f12.params[j]? = some t → args[j]? = some v → Value.okWide Tryz.prog W .any base t v := hval0
  have hW' := hW
  obtain ⟨p, q, hA0, hV, rfl, hfz, hnd⟩ := hW
  have hA : DataW.TrodAll enc Tryz.prog W 0 (fun _ => true) true Tryz.f12.params.toList args.toList ds p := hA0
  rw [Tryz.params12] at hA hval
  obtain ⟨v0, vs0, d0, ds0, p0, q0, hargs, rfl, rfl, h0, r0⟩ := trodAll_cons hA
  obtain ⟨v1, vs1, d1, ds1, p1, q1, rfl, rfl, rfl, h1, r1⟩ := trodAll_cons r0
  obtain ⟨v2, vs2, d2, ds2, p2, q2, rfl, rfl, rfl, h2, r2⟩ := trodAll_cons r1
  obtain ⟨rfl, rfl, rfl⟩ := trodAll_nil r2
  obtain rfl : args = #[v0, v1, v2] := by cases args; simp_all
  obtain ⟨rfl, rfl⟩ := trodVars_none hV
  obtain ⟨k, rfl, rfl, rfl, wk⟩ := open_int Tryz.underlying5 (hval 0 5 v0 rfl rfl) h0
  obtain ⟨cs, rfl, hsz⟩ := okWide_struct Tryz.underlying54 (hval 1 54 v1 rfl rfl)
  obtain ⟨A, len, cap, rfl⟩ := okWide_slice Tryz.underlying44 (hval 2 44 v2 rfl rfl)
  have k1 := h1
  have k2 := h2
  have lt1 : ∀ x ∈ p1, x.block < W.heap.size := by obtain ⟨m, hm⟩ := k1; exact DataW.trod_lt m _ _ _ hm
  have lt2 : ∀ x ∈ p2, x.block < W.heap.size := by obtain ⟨m, hm⟩ := k2; exact DataW.trod_lt m _ _ _ hm
  obtain ⟨qq, s0, s1, s2, s3, s4, s5, s6, rfl, hq, hw⟩ := parts_in h1 (hsz.trans (by kernel_rfl))
  obtain ⟨xs, hS⟩ := bytes_in h2
  obtain ⟨te, pe, hE⟩ := errCell hL
  have hk0 := u8_wf wk
  obtain ⟨m, rfl⟩ : ∃ m : Nat, k = m := ⟨k.toNat, by omega⟩
  clear hA0 hval0
  refine (type_walk te pe _ _ m (by omega) qq s0 s1 s2 s3 s4 s5 s6 (.slice A len cap) xs W hq hw hS hE).mono fun e W' ⟨he, hf⟩ => ?_
  subst he
  have hB := hf.none_toBelow
  exact ⟨_, rfl, _, _, _, [], _, [], hW', trodAll_mk1 (shut_bool Tryz.underlying4 _), (trodAll_cons_mk (shut_int Tryz.underlying5 wk) (trodAll_cons_mk (Below.trod laidOutAll (by kernel_rfl) (of_decide_eq_true (by kernel_rfl)) k1 hB lt1) (trodAll_cons_mk (Below.trod laidOutAll (by kernel_rfl) (of_decide_eq_true (by kernel_rfl)) k2 hB lt2) trodAll_mk0))), rfl, hB.frame _, fun h => by cases h⟩
end Go.Proofs.YtbkookiigkckdaaGreatDoor

