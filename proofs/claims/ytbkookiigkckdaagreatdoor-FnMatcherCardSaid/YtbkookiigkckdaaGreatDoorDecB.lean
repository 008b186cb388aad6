/- The Decbuf: its varints, its numbers, its error and its length. -/
import Derived.Test.YtbkookiigkckdaaGreatDoorDec
import Derived.Test.YtbkookiigkckdaaGreatDoorUv
import Derived.Test.YtbkookiigkckdaaGreatDoorEnc
import Derived.Lib.Zigzag
import Derived.Shelf.Bin.PutVarint

namespace Go.Proofs.YtbkookiigkckdaaGreatDoor
open Go.RowKit
set_option linter.unusedVariables false
set_option linter.unusedSimpArgs false

theorem uvFrom_le : ∀ (l : List UInt8) (i acc : Nat), (Lib.uvarintFrom i acc l).2 ≤ i + l.length
  | [], i, acc => by simp only [Lib.uvarintFrom, List.length_nil]; omega
  | b :: r, i, acc => by
    rw [Lib.uvarintFrom]
    have := uvFrom_le r (i + 1) (acc + b.toNat % 128 * 2 ^ (7 * i))
    simp only [List.length_cons]
    repeat' split
    all_goals first | omega | (simp only []; omega)
theorem uvDec_le (l : List UInt8) : (Lib.uvarintDec l).2 ≤ l.length := by have := uvFrom_le l 0 0; rw [Lib.uvarintDec]; omega

def gUv : St → Nat × St
  | some l => if 1 ≤ (Lib.uvarintDec l).2 then ((Lib.uvarintDec l).1, some (l.drop (Lib.uvarintDec l).2.toNat)) else (0, none)
  | none => (0, none)

/-- The world and the values of a Uvarint over a Decbuf's bytes. -/
theorem uv_read {w : World} {g off c n : Nat} {cur : Array Value} {l : List UInt8} (hg : Blk w g 5 cur) (hr : ∀ j u, (bc l)[j]? = some u → cur[off + j]? = some u) (hn : l.length = n) (hl : n ≤ c) (hm : c ≤ 9223372036854775807) :
    Calls Tryz.prog 231 #[.slice (some ⟨g, off, none⟩) n c] w (UvEnds w l) :=
  uvAny g off n c w l hn hl hm (fun j b hb => by
    have := hr j (.int .u8 b.toNat) (by rw [bc_get, hb]; rfl)
    rw [hg.cell, this])

set_option maxHeartbeats 1000000 in
theorem decUv (te : TypeId) (pe : Value) (d g : Nat) (cur : Array Value) (st : St) (w : World) (h : Dec te pe w d g cur st) :
    Calls Tryz.prog 171 #[.pointer (some ⟨d, 0, none⟩)] w (DecEnds te pe w d g cur (.int .u64 (gUv st).1) (gUv st).2) := by
  rcases st with _ | l
  · obtain ⟨rest, h⟩ := h
    have H := Lib.hid h
    obtain ⟨off, c, hb, hg, hl, hm, hr, hE⟩ := h
    have hc1 := hb.cell 1
    simp at hc1
    clear hb hr hg
    go_enter Tryz.func171, Tryz.ntmps171
    go_wp2
    go_ret
    exact ⟨rfl, ⟨_, H.out⟩, Fr.refl _ _⟩
  · have h : DecOk (.iface te pe) w d g cur l .nilIface := h
    have H := Lib.hid h
    obtain ⟨off, c, hb, hg, hl, hm, hr, hE⟩ := h
    obtain ⟨n, hn⟩ : ∃ n, l.length = n := ⟨_, rfl⟩
    rw [hn] at hb hl
    have hc0 := hb.cell 0
    have hc1 := hb.cell 1
    simp at hc0 hc1
    have HB := Lib.hid hb
    have HR := Lib.hid hr
    have HN := Lib.hid hn
    have hP := uv_read (c := c) hg hr hn hl hm.1
    have hle := uvDec_le l
    have hf0 := hb.frozen 0
    have hf1 := hb.frozen 1
    by_cases hk : 1 ≤ (Lib.uvarintDec l).2
    · obtain ⟨k, hK⟩ : ∃ k : Nat, (Lib.uvarintDec l).2 = k := ⟨(Lib.uvarintDec l).2.toNat, by omega⟩
      have hP' : Calls Tryz.prog 231 #[.slice (some ⟨g, off, none⟩) n c] w fun r w' => r = .returned (.tuple #[.int .u64 (Lib.uvarintDec l).1, .int .i64 k]) ∧ w = w' :=
        hP.mono fun r w' ⟨x, y, h1, h2, h3, _⟩ => ⟨by rw [h1, (h3 hk).1, (h3 hk).2, hK], h2⟩
      have hg2 : gUv (some l) = ((Lib.uvarintDec l).1, some (l.drop k)) := by show (if 1 ≤ (Lib.uvarintDec l).2 then ((Lib.uvarintDec l).1, some (l.drop (Lib.uvarintDec l).2.toNat)) else (0, none)) = _; rw [if_pos hk, hK]; rfl
      rw [hg2]
      simp only []
      have hkn : k ≤ n := by omega
      have hk1 : (1 : Int) ≤ (k : Int) := by omega
      obtain ⟨off', ho, hoff⟩ := cut44 g off n c k .i64 k rfl hkn
      have HO := Lib.hid ho
      have HK := Lib.hid hK
      clear hb hr hg hn ho hP hle hk hg2 hK
      generalize (Lib.uvarintDec l).1 = x at hP' ⊢
      go_enter Tryz.func171, Tryz.ntmps171
      go_wp2_with (go_at_call 231; refine hP'.mono ?_; rintro r w' ⟨rfl, rfl⟩)
      go_ret
      exact ⟨rfl, DecOk.cut H.out (Fr.refl _ _) HB.out HR.out HN.out hl ⟨hm.1, HN.out ▸ hm.2⟩ hkn HO.out, Fr.at_ _ _ _ _⟩
    · have hP' : Calls Tryz.prog 231 #[.slice (some ⟨g, off, none⟩) n c] w fun r w' => ∃ y : Int, r = .returned (.tuple #[.int .u64 0, .int .i64 y]) ∧ y < 1 ∧ w = w' :=
        hP.mono fun r w' ⟨x, y, h1, h2, _, h4⟩ => ⟨y, by rw [h1, (h4 (by omega)).1], (h4 (by omega)).2, h2⟩
      have hg2 : gUv (some l) = (0, none) := by show (if 1 ≤ (Lib.uvarintDec l).2 then ((Lib.uvarintDec l).1, some (l.drop (Lib.uvarintDec l).2.toNat)) else (0, none)) = _; rw [if_neg hk]
      rw [hg2]
      simp only []
      clear hb hr hg hn hP hle hk hg2
      go_enter Tryz.func171, Tryz.ntmps171
      go_wp2_with (go_at_call 231; refine hP'.mono ?_; rintro r w' ⟨y, rfl, hy, rfl⟩)
      go_ret
      refine ⟨rfl, ⟨l, H.out.move (Fr.at_ _ _ _ _) (off' := off) (c' := c) ?_ (by rw [HN.out]; exact hl) hm HR.out⟩, Fr.at_ _ _ _ _⟩
      rw [HN.out]
      simpa using HB.out.set_ 1 (Value.iface te pe)

def gVar (st : St) : Int × St := (Lib.unzigzag (gUv st).1, (gUv st).2)

set_option maxHeartbeats 1000000 in
theorem decVar (te : TypeId) (pe : Value) (d g : Nat) (cur : Array Value) (st : St) (w : World) (h : Dec te pe w d g cur st) :
    Calls Tryz.prog 165 #[.pointer (some ⟨d, 0, none⟩)] w (DecEnds te pe w d g cur (.int .i64 (gVar st).1) (gVar st).2) := by
  rcases st with _ | l
  · obtain ⟨rest, h⟩ := h
    have H := Lib.hid h
    obtain ⟨off, c, hb, hg, hl, hm, hr, hE⟩ := h
    have hc1 := hb.cell 1
    simp at hc1
    clear hb hr hg
    go_enter Tryz.func165, Tryz.ntmps165
    go_wp2
    go_ret
    exact ⟨rfl, ⟨_, H.out⟩, Fr.refl _ _⟩
  · have h : DecOk (.iface te pe) w d g cur l .nilIface := h
    have H := Lib.hid h
    obtain ⟨off, c, hb, hg, hl, hm, hr, hE⟩ := h
    obtain ⟨n, hn⟩ : ∃ n, l.length = n := ⟨_, rfl⟩
    rw [hn] at hb hl
    have hc0 := hb.cell 0
    have hc1 := hb.cell 1
    simp at hc0 hc1
    have HB := Lib.hid hb
    have HR := Lib.hid hr
    have HN := Lib.hid hn
    have hP := uv_read (c := c) hg hr hn hl hm.1
    have hle := uvDec_le l
    have hf0 := hb.frozen 0
    have hf1 := hb.frozen 1
    by_cases hk : 1 ≤ (Lib.uvarintDec l).2
    · obtain ⟨k, hK⟩ : ∃ k : Nat, (Lib.uvarintDec l).2 = k := ⟨(Lib.uvarintDec l).2.toNat, by omega⟩
      have hP' : Calls Tryz.prog 231 #[.slice (some ⟨g, off, none⟩) n c] w fun r w' => r = .returned (.tuple #[.int .u64 (Lib.uvarintDec l).1, .int .i64 k]) ∧ w = w' :=
        hP.mono fun r w' ⟨x, y, h1, h2, h3, _⟩ => ⟨by rw [h1, (h3 hk).1, (h3 hk).2, hK], h2⟩
      have hg2 : gVar (some l) = (Lib.unzigzag (Lib.uvarintDec l).1, some (l.drop k)) := by
        show (Lib.unzigzag (if 1 ≤ (Lib.uvarintDec l).2 then ((Lib.uvarintDec l).1, some (l.drop (Lib.uvarintDec l).2.toNat)) else (0, none)).1, (if 1 ≤ (Lib.uvarintDec l).2 then ((Lib.uvarintDec l).1, some (l.drop (Lib.uvarintDec l).2.toNat)) else (0, none)).2) = _
        rw [if_pos hk, hK]; rfl
      rw [hg2]
      simp only []
      have hkn : k ≤ n := by omega
      have hk1 : (1 : Int) ≤ (k : Int) := by omega
      obtain ⟨off', ho, hoff⟩ := cut44 g off n c k .i64 k rfl hkn
      have HO := Lib.hid ho
      have HK := Lib.hid hK
      have hu := Lib.uvarintDec_lt l
      clear hb hr hg hn ho hP hle hk hg2 hK
      generalize (Lib.uvarintDec l).1 = u at hP' hu ⊢
      have hand := Lib.u64_and1 (u : Int) (by omega) (by omega)
      by_cases hodd : u % 2 = 0
      · have hand0 : bits .and .u64 (u : Int) 1 = 0 := by rw [hand]; omega
        have hz : Lib.unzigzag u = (u : Int) / 2 := by simp [Lib.unzigzag, hodd]
        rw [hz]
        clear hand hz
        go_enter Tryz.func165, Tryz.ntmps165
        go_wp2_with (go_at_call 231; refine hP'.mono ?_; rintro r w' ⟨rfl, rfl⟩)
        go_ret
        exact ⟨rfl, DecOk.cut H.out (Fr.refl _ _) HB.out HR.out HN.out hl ⟨hm.1, HN.out ▸ hm.2⟩ hkn HO.out, Fr.at_ _ _ _ _⟩
      · have hand1 : bits .and .u64 (u : Int) 1 = 1 := by rw [hand]; omega
        have hnot : bits .xor .i64 (-1) ((u : Int) / 2) = -((u : Int) / 2) - 1 := by
          have h3 := Lib.i64_not (u / 2) (by omega)
          rw [show (((u / 2 : Nat) : Int)) = (u : Int) / 2 by omega] at h3
          exact h3
        have hz : Lib.unzigzag u = -((u : Int) / 2) - 1 := by simp [Lib.unzigzag, hodd]
        rw [hz]
        clear hand hz
        go_enter Tryz.func165, Tryz.ntmps165
        go_wp2_with (go_at_call 231; refine hP'.mono ?_; rintro r w' ⟨rfl, rfl⟩)
        go_ret
        exact ⟨rfl, DecOk.cut H.out (Fr.refl _ _) HB.out HR.out HN.out hl ⟨hm.1, HN.out ▸ hm.2⟩ hkn HO.out, Fr.at_ _ _ _ _⟩
    · have hP' : Calls Tryz.prog 231 #[.slice (some ⟨g, off, none⟩) n c] w fun r w' => ∃ y : Int, r = .returned (.tuple #[.int .u64 0, .int .i64 y]) ∧ y < 1 ∧ w = w' :=
        hP.mono fun r w' ⟨x, y, h1, h2, _, h4⟩ => ⟨y, by rw [h1, (h4 (by omega)).1], (h4 (by omega)).2, h2⟩
      have hg2 : gVar (some l) = (0, none) := by
        show (Lib.unzigzag (if 1 ≤ (Lib.uvarintDec l).2 then ((Lib.uvarintDec l).1, some (l.drop (Lib.uvarintDec l).2.toNat)) else (0, none)).1, (if 1 ≤ (Lib.uvarintDec l).2 then ((Lib.uvarintDec l).1, some (l.drop (Lib.uvarintDec l).2.toNat)) else (0, none)).2) = _
        rw [if_neg hk]; rfl
      rw [hg2]
      simp only []
      clear hb hr hg hn hP hle hk hg2
      go_enter Tryz.func165, Tryz.ntmps165
      go_wp2_with (go_at_call 231; refine hP'.mono ?_; rintro r w' ⟨y, rfl, hy, rfl⟩)
      go_ret
      refine ⟨rfl, ⟨l, H.out.move (Fr.at_ _ _ _ _) (off' := off) (c' := c) ?_ (by rw [HN.out]; exact hl) hm HR.out⟩, Fr.at_ _ _ _ _⟩
      rw [HN.out]
      simpa using HB.out.set_ 1 (Value.iface te pe)

/-- A uint64 as an int64. -/
def i64 (n : Nat) : Int := wrap64 n
def gBe64i (st : St) : Int × St := (i64 (gBe64 st).1, (gBe64 st).2)

set_option maxHeartbeats 400000 in
theorem decBe64i (te : TypeId) (pe : Value) (d g : Nat) (cur : Array Value) (st : St) (w : World) (h : Dec te pe w d g cur st) :
    Calls Tryz.prog 164 #[.pointer (some ⟨d, 0, none⟩)] w (DecEnds te pe w d g cur (.int .i64 (gBe64i st).1) (gBe64i st).2) := by
  have hP := decBe64 te pe d g cur st w h
  have he : gBe64i st = (i64 (gBe64 st).1, (gBe64 st).2) := rfl
  rw [he]
  clear h he
  obtain ⟨⟨x, st'⟩, hx⟩ : ∃ x, gBe64 st = x := ⟨_, rfl⟩
  rw [hx] at hP ⊢
  clear hx
  simp only [] at hP ⊢
  unfold i64
  go_enter Tryz.func164, Tryz.ntmps164
  go_wp2_with (go_at_call 162; refine hP.mono ?_; rintro r w1 ⟨rfl, hd, hf⟩)
  go_ret
  exact ⟨rfl, hd, hf⟩

set_option maxHeartbeats 400000 in
theorem decUvarint (te : TypeId) (pe : Value) (d g : Nat) (cur : Array Value) (st : St) (w : World) (h : Dec te pe w d g cur st) :
    Calls Tryz.prog 172 #[.pointer (some ⟨d, 0, none⟩)] w (DecEnds te pe w d g cur (.int .i64 (i64 (gUv st).1)) (gUv st).2) := by
  have hP := decUv te pe d g cur st w h
  clear h
  obtain ⟨⟨x, st'⟩, hx⟩ : ∃ x, gUv st = x := ⟨_, rfl⟩
  rw [hx] at hP ⊢
  clear hx
  simp only [] at hP ⊢
  unfold i64
  go_enter Tryz.func172, Tryz.ntmps172
  go_wp2_with (go_at_call 171; refine hP.mono ?_; rintro r w1 ⟨rfl, hd, hf⟩)
  go_ret
  exact ⟨rfl, hd, hf⟩

set_option maxHeartbeats 400000 in
theorem decUvarint32 (te : TypeId) (pe : Value) (d g : Nat) (cur : Array Value) (st : St) (w : World) (h : Dec te pe w d g cur st) :
    Calls Tryz.prog 232 #[.pointer (some ⟨d, 0, none⟩)] w (DecEnds te pe w d g cur (.int .u32 (IntKind.u32.wrap (gUv st).1)) (gUv st).2) := by
  have hP := decUv te pe d g cur st w h
  clear h
  obtain ⟨⟨x, st'⟩, hx⟩ : ∃ x, gUv st = x := ⟨_, rfl⟩
  rw [hx] at hP ⊢
  clear hx
  simp only [] at hP ⊢
  go_enter Tryz.func232, Tryz.ntmps232
  go_wp2_with (go_at_call 171; refine hP.mono ?_; rintro r w1 ⟨rfl, hd, hf⟩)
  go_ret
  exact ⟨rfl, hd, hf⟩

set_option maxHeartbeats 400000 in
theorem decBe64f (te : TypeId) (pe : Value) (d g : Nat) (cur : Array Value) (st : St) (w : World) (h : Dec te pe w d g cur st) :
    Calls Tryz.prog 234 #[.pointer (some ⟨d, 0, none⟩)] w (DecEnds te pe w d g cur (.float .f64 (gBe64 st).1) (gBe64 st).2) := by
  have hP := decBe64 te pe d g cur st w h
  have hr := run166
  clear h
  obtain ⟨⟨x, st'⟩, hx⟩ : ∃ x, gBe64 st = x := ⟨_, rfl⟩
  rw [hx] at hP ⊢
  clear hx
  simp only [] at hP ⊢
  go_enter Tryz.func234, Tryz.ntmps234
  go_wp2_with (go_at_call 162; refine hP.mono ?_; rintro r w1 ⟨rfl, hd, hf⟩)
  go_ret
  exact ⟨rfl, hd, hf⟩

/-- The error as a value: nil, or that of the variable. -/
def errV (te : TypeId) (pe : Value) : St → Value
  | some _ => .nilIface
  | none => .iface te pe

set_option maxHeartbeats 400000 in
theorem decErr (te : TypeId) (pe : Value) (d g : Nat) (cur : Array Value) (st : St) (w : World) (h : Dec te pe w d g cur st) :
    Calls Tryz.prog 119 #[.pointer (some ⟨d, 0, none⟩)] w fun r w' => r = .returned (errV te pe st) ∧ w = w' := by
  rcases st with _ | l
  · obtain ⟨rest, off, c, hb, hg, hl, hm, hr, hE⟩ := h
    have hc1 := hb.cell 1
    simp at hc1
    clear hb hr hg
    go_enter Tryz.func119, Tryz.ntmps119
    go_wp2
    go_ret
    exact ⟨rfl, rfl⟩
  · obtain ⟨off, c, hb, hg, hl, hm, hr, hE⟩ := h
    have hc1 := hb.cell 1
    simp at hc1
    clear hb hr hg
    go_enter Tryz.func119, Tryz.ntmps119
    go_wp2
    go_ret
    exact ⟨rfl, rfl⟩

/-- The length that is left: known where there is no error. -/
def lenEnds (w : World) (st : St) (r : Ending) (w' : World) : Prop := ∃ n : Nat, r = .returned (.int .i64 n) ∧ (∀ l, st = some l → n = l.length) ∧ n ≤ 9223372036854775807 ∧ w = w'

set_option maxHeartbeats 400000 in
theorem decLen (te : TypeId) (pe : Value) (d g : Nat) (cur : Array Value) (st : St) (w : World) (h : Dec te pe w d g cur st) :
    Calls Tryz.prog 118 #[.pointer (some ⟨d, 0, none⟩)] w (lenEnds w st) := by
  have hx : ∃ (n off c : Nat) (E : Value), Blk w d 229 #[.slice (some ⟨g, off, none⟩) n c, E] ∧ (∀ l, st = some l → n = l.length) ∧ n ≤ 9223372036854775807 := by
    rcases st with _ | l
    · obtain ⟨rest, off, c, hb, hg, hl, hm, _⟩ := h
      exact ⟨_, _, _, _, hb, (fun _ e => by cases e), by omega⟩
    · obtain ⟨off, c, hb, hg, hl, hm, _⟩ := h
      exact ⟨_, _, _, _, hb, (fun _ e => by cases e; rfl), by omega⟩
  obtain ⟨n, off, c, E, hb, H1, H2⟩ := hx
  have hc0 := hb.cell 0
  simp at hc0
  have HH := Lib.hid H1
  clear hb h H1
  go_enter Tryz.func118, Tryz.ntmps118
  go_wp2
  go_ret
  exact ⟨n, rfl, HH.out, H2, rfl⟩

end Go.Proofs.YtbkookiigkckdaaGreatDoor
