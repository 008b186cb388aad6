/- impl.safe over a closure that returns, and over one that panics. -/
import Derived.Test.YtbkookiigkckdaaGreatDoorAppend
import Derived.Test.YtbkookiigkckdaaGreatDoorProg
import Derived.Defers
import Derived.Recover

namespace Go.Proofs.YtbkookiigkckdaaGreatDoor
open Go.RowKit
set_option linter.unusedVariables false
set_option linter.unusedSimpArgs false

/-- The deferred closure of 'safe', behind a body that returned. -/
theorem safe_idle (p : Addr) (x : Value) (w : World) (hc : w.cell? p = some x) (hz : w.frozen? p = false) :
    CallsD Tryz.prog 159 #[.pointer (some p)] .returning w fun e u' w' => e = .returned (.tuple #[]) ∧ u' = .returning ∧ w' = w.setCell p (.bool true) := by
  refine callsD_of_wpS Tryz.func159 rfl fun c₀ cs hu => ?_
  apply wpS_region
  simp [wpOpsS, go_sem, recoverD, hu, Tryz.ntmps159, Exit.thenS, hc, hz]
  cases c₀
  simp_all [bodyPostS, results, Tryz.results159]

theorem safe_caught (p : Addr) (x : Value) (u : TypeId) (pv : Value) (older : List PanicEntry) (w : World) (hc : w.cell? p = some x) (hz : w.frozen? p = false) :
    CallsD Tryz.prog 159 #[.pointer (some p)] (.panicking ({ v := .iface u pv, recovered := false } :: older)) w fun e u' w' =>
      e = .returned (.tuple #[]) ∧ u' = .panicking ({ v := .iface u pv, recovered := true } :: older) ∧ w' = w.setCell p (.bool false) := by
  refine callsD_of_wpS Tryz.func159 rfl fun c₀ cs hu => ?_
  apply wpS_region
  simp [wpOpsS, go_sem, recoverD, hu, Tryz.ntmps159, Exit.thenS, hc, hz]
  cases c₀
  simp_all [bodyPostS, results, Tryz.results159]

/-- 'safe' over a closure that returns: it says true; two stores into its own variable besides. -/
theorem safe_ok (g : FuncId) (cb : Array Value) (w : World) (Q : World → Prop) (eg : ∀ args w, (callFunc g args).run Tryz.prog w = .ok (.enter g args) w)
    (hf : Calls Tryz.prog g cb (w.alloc (.cells #[.bool false] 4)) fun e w' => e = .returned (.tuple #[]) ∧ Q w' ∧ Blk w' w.heap.size 4 #[.bool false]) :
    Calls Tryz.prog 65 #[.func (.func g) #[] cb] w fun e w' => e = .returned (.bool true) ∧ ∃ w1, Q w1 ∧ Blk w1 w.heap.size 4 #[.bool false] ∧ w' = (w1.setCell ⟨w.heap.size, 0, none⟩ (.bool true)).setCell ⟨w.heap.size, 0, none⟩ (.bool true) := by
  have hmf : ∀ (fn : Fn) (first cap : Array Value) (w : World), (Instr.makeFunc fn first cap).run Tryz.prog w = .ok (.func fn first cap) w := fun _ _ _ _ => rfl
  go_enter_defers Tryz.func65, Tryz.ntmps65
  go_wp2_with (refine hf.mono ?_; rintro e w1 ⟨rfl, hq, hb⟩; have HB := Lib.hid hb; have HQ := Lib.hid hq; have hc1 := hb.cell 0; simp at hc1; have hz1 := hb.frozen 0; clear hb hq)
  refine leaves_cons (f := 159) (args := #[.pointer (some ⟨w.heap.size, 0, none⟩)]) (by simp) (by simp [go_sem]) ?_
  refine (safe_idle ⟨w.heap.size, 0, none⟩ (.bool true) _ ?_ ?_).mono ?_
  · simpa using ((HB.out.set_ 0 (.bool true)).cell 0)
  · exact (HB.out.set_ 0 (.bool true)).frozen 0
  rintro e u' w'' ⟨rfl, rfl, rfl⟩
  have hX := (((HB.out.set_ 0 (.bool true)).set_ 0 (.bool true)).cell 0)
  simp at hX
  simp [Leaves, settle, results, Tryz.results65, go_sem, hX]
  exact ⟨w1, HQ.out, HB.out, rfl⟩

/-- 'safe' over a closure that panics: it says false. -/
theorem safe_no (g : FuncId) (cb : Array Value) (w : World) (Q : World → Prop) (eg : ∀ args w, (callFunc g args).run Tryz.prog w = .ok (.enter g args) w)
    (hf : Calls Tryz.prog g cb (w.alloc (.cells #[.bool false] 4)) fun e w' => (∃ u pv, e = .panicked [{ v := .iface u pv, recovered := false }]) ∧ Q w' ∧ Blk w' w.heap.size 4 #[.bool false]) :
    Calls Tryz.prog 65 #[.func (.func g) #[] cb] w fun e w' => e = .returned (.bool false) ∧ ∃ w1, Q w1 ∧ Blk w1 w.heap.size 4 #[.bool false] ∧ w' = w1.setCell ⟨w.heap.size, 0, none⟩ (.bool false) := by
  have hmf : ∀ (fn : Fn) (first cap : Array Value) (w : World), (Instr.makeFunc fn first cap).run Tryz.prog w = .ok (.func fn first cap) w := fun _ _ _ _ => rfl
  go_enter_defers Tryz.func65, Tryz.ntmps65
  go_wp2_with (refine hf.mono ?_; rintro e w1 ⟨⟨u, pv, rfl⟩, hq, hb⟩; have HB := Lib.hid hb; have HQ := Lib.hid hq; have hc1 := hb.cell 0; simp at hc1; have hz1 := hb.frozen 0; clear hb hq)
  refine leaves_cons (f := 159) (args := #[.pointer (some ⟨w.heap.size, 0, none⟩)]) (by simp) (by simp [go_sem]) ?_
  refine (safe_caught ⟨w.heap.size, 0, none⟩ (.bool false) _ _ _ _ ?_ ?_).mono ?_
  · simpa using HB.out.cell 0
  · exact HB.out.frozen 0
  rintro e u' w'' ⟨rfl, rfl, rfl⟩
  have hX := ((HB.out.set_ 0 (.bool false)).cell 0)
  simp at hX
  simp [Leaves, settle, results, Tryz.results65, go_sem, hX]
  exact ⟨w1, HQ.out, HB.out, rfl⟩

end Go.Proofs.YtbkookiigkckdaaGreatDoor
