/- bytes.Buffer's AvailableBuffer and String; strconv.AppendQuote; the match types' names. -/
import Derived.Test.YtbkookiigkckdaaGreatDoorBw
import Derived.Test.YtbkookiigkckdaaGreatDoorQd
import Derived.Laws.BytesArg
namespace Go.Proofs.YtbkookiigkckdaaGreatDoor
open Go.RowKit
set_option linter.unusedVariables false
set_option linter.unusedSimpArgs false

section
variable {w : World} {b g c : Nat} {t : TypeId} {lr : Int} {cur : Array Value} {xs : List Int}

set_option maxHeartbeats 2000000 in
set_option maxRecDepth 100000 in
theorem availBuf_any (h : BufAt w b g c t lr cur xs) : Calls Tryz.prog 144 #[.pointer (some ⟨b, 0, none⟩)] w fun e w' => (∃ off', e = .returned (.slice (some ⟨g, off', none⟩) 0 (c - xs.length)) ∧ (off' = xs.length ∨ c - xs.length = 0)) ∧ Fr (fun _ => False) w w' := by
  have mixed : Tryz.prog.follows .mixedOrders = true := by kernel_rfl
  have c0 : w.cell? ⟨b, 0, none⟩ = some (.slice (some ⟨g, 0, none⟩) xs.length c) := h.hb.cell 0
  have hle := h.le
  have hcm := h.cm
  unfold maxLen at hcm
  clear h
  generalize xs.length = L at *
  by_cases hc : c = L
  · go_enter Tryz.func144, Tryz.ntmps144
    go_wp2
    go_region_o
    have e0 : c - L = 0 := by omega
    all_goals (go_wp2; go_ret; exact ⟨⟨0, by rw [e0]; rfl, .inr e0⟩, ((Fr.refl _ w).drew)⟩)
  · go_enter Tryz.func144, Tryz.ntmps144
    go_wp2
    go_region_o
    all_goals (go_wp2; go_ret; exact ⟨⟨_, rfl, .inl rfl⟩, ((Fr.refl _ w).drew)⟩)

set_option maxHeartbeats 2000000 in
set_option maxRecDepth 100000 in
theorem bufString_any (h : BufAt w b g c t lr cur xs) : Calls Tryz.prog 147 #[.pointer (some ⟨b, 0, none⟩)] w fun e w' => e = .returned (.string (strOfNums xs)) ∧ Fr (fun _ => False) w w' := by
  have mixed : Tryz.prog.follows .mixedOrders = true := by kernel_rfl
  have c0 : w.cell? ⟨b, 0, none⟩ = some (.slice (some ⟨g, 0, none⟩) xs.length c) := h.hb.cell 0
  have c1 : w.cell? ⟨b, 1, none⟩ = some (.int .i64 0) := h.hb.cell 1
  have hle := h.le
  have hcm := h.cm
  have hcv := run_convert_bytes_arg (P := Tryz.prog) w.drew 44 5 Tryz.underlying44 Tryz.underlying5 g 0 xs.length c xs rfl (fun i hi => by
    rw [h.hg.drew.cell, Nat.zero_add, ← Array.getElem?_toList]
    have e := congrArg (fun l => l[i]?) h.tk
    rw [List.getElem?_take_of_lt hi] at e
    rw [e]
    simp [ic, List.getElem?_eq_getElem hi]) 9 Tryz.underlying9
  unfold maxLen at hcm
  clear h
  go_enter Tryz.func147, Tryz.ntmps147
  go_wp2
  go_region_o
  all_goals (go_wp2; go_ret; exact ⟨rfl, ((Fr.refl _ w).drew)⟩)
end

set_option maxHeartbeats 2000000 in
set_option maxRecDepth 100000 in
theorem newBuffer_any (a : Option Addr) (n c : Nat) (w : World) : Calls Tryz.prog 140 #[.slice a n c] w fun e w' => e = .returned (.pointer (some ⟨w.heap.size, 0, none⟩)) ∧ w' = w.alloc (.cells #[.slice a n c, .int .i64 0, .int .i8 0] 340) := by
  go_enter Tryz.func140, Tryz.ntmps140
  go_wp2
  go_ret
  exact ⟨rfl, rfl⟩

/-- The match types' names as they were laid. -/
def MtAt (w : World) : Prop := w.cell? ⟨1, 0, none⟩ = some (.string ⟨#[61]⟩) ∧ w.cell? ⟨1, 1, none⟩ = some (.string ⟨#[33, 61]⟩)

set_option maxHeartbeats 2000000 in
set_option maxRecDepth 100000 in
theorem mtString_0 (w : World) (h : MtAt w) : Calls Tryz.prog 146 #[.int .i64 0] w fun e w' => e = .returned (.string ⟨#[61]⟩) ∧ w' = w := by
  obtain ⟨h0, h1⟩ := h
  go_enter Tryz.func146, Tryz.ntmps146
  go_wp2
  go_ret
  exact ⟨rfl, rfl⟩
set_option maxHeartbeats 2000000 in
set_option maxRecDepth 100000 in
theorem mtString_1 (w : World) (h : MtAt w) : Calls Tryz.prog 146 #[.int .i64 1] w fun e w' => e = .returned (.string ⟨#[33, 61]⟩) ∧ w' = w := by
  obtain ⟨h0, h1⟩ := h
  go_enter Tryz.func146, Tryz.ntmps146
  go_wp2
  go_ret
  exact ⟨rfl, rfl⟩

set_option maxHeartbeats 2000000 in
set_option maxRecDepth 100000 in
theorem appendQuote_any (T : Lib.PrintTabs) (w0 wT : World) (g off c0 N : Nat) (t : TypeId) (low : List Value) (hT : TabsAt T wT) (hwT : Fr (fun _ => False) wT w0) (hg : wT.heap.size ≤ g) (off' : Nat) (s : ByteArray) (hs : s.size ≤ 1073741824) (hc : c0 ≤ 9223372036854775807) (hD : Dst w0 g off c0 N t low w0 (.slice (some ⟨g, off', none⟩) 0 c0) []) :
    Calls Tryz.prog 143 #[.slice (some ⟨g, off', none⟩) 0 c0, .string s] w0
      (AqEnds w0 g off c0 N t low [] (fun zs => 2 ≤ zs.length ∧ zs.length ≤ 10 * s.size + 2 ∧ (PlainS s → zs = 34 :: (nums s ++ [34])))) := by
  have hq := quoted_any T wT hT hwT hg off' s hs hc hD
  clear hD hT hwT
  go_enter Tryz.func143, Tryz.ntmps143
  go_wp2_with (go_at_call 218; refine hq.mono ?_; rintro e w1 ⟨v', zs, rfl, hz, hD1⟩)
  go_ret
  exact ⟨_, _, rfl, hz, hD1⟩
end Go.Proofs.YtbkookiigkckdaaGreatDoor
