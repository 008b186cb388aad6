/- Merged. -/
import Derived.Test.YtbkookiigkckdaaGreatDoorKD01
import Derived.OrdersHeld
import Derived.StillTail
import Derived.RowKit
set_option linter.unusedVariables false
set_option linter.unusedSimpArgs false
set_option maxRecDepth 100000
set_option maxHeartbeats 8000000
namespace Go.Proofs.YtbkookiigkckdaaGreatDoor
open Go.RowKit Go.Proofs.Tryz
def zgW (V : Value -> World -> Prop) (w : World) (r : Ending) (w' : World) : Prop := ∃ v, r = .returned v /\ V v w' /\ z_F w w'
theorem zh7 : (prog.info? 108).map (fun i => (i.zero, i.size, i.bytes)) = some (some (.agg #[.string ⟨#[]⟩, .string ⟨#[]⟩]), 2, 32) := by kernel_rfl
theorem zjN (w : World) : Calls prog 129 #[.int .i64 0] w (zgW (fun v _ => ∃ a, v = .agg #[.slice (some a) 0 0, .string ⟨#[]⟩, .slice none 0 0]) w) := by
 obtain ⟨i0, aC, az, ay, aB⟩ := info_parts zh7; have ms : ∀ W : World, (Instr.makeSlice 115 (.int .i64 0) (.int .i64 0)).run prog W = .ok (.slice (some ⟨W.heap.size, 0, none⟩) 0 0) (W.alloc (.cells #[] 108)) := fun W => by
  have h := run_make (P := prog) W 115 108 i0 _ underlying115 aC az .i64 .i64 0 0 (by omega) (by omega) (by omega) (by omega); simp [madeCells, ay, Array.range_zero'] at h; exact h
 go_enter func129, ntmps129; go_wp2_with fail
 simp [Exit.then, bodyPost, results, results129, go_sem]; exact ⟨_, rfl, ⟨_, rfl⟩, (((znl _ w).alloc _).alloc _)⟩
theorem type_none (d : Value) (P : Nat -> Prop) (v : Value) (w : World) (h : Sl P w v 1 0 []) : Calls prog 112 #[d, v] w fun r w' => r = .returned (.int .u8 255) /\ w = w' := by
 obtain ⟨A, c, rfl, _⟩ := h; go_enter func112, ntmps112; go_wp2_with fail
 go_ret; exact ⟨rfl, rfl⟩
def zcg : List UInt8 -> Nat
 | [] => 255
 | c :: _ => if 1 <= c.toNat /\ c.toNat <= 10 then c.toNat else 255
theorem type_ten (k : Nat) (hk : 1 <= k /\ k <= 10) (d : Value) (a : Addr) (n c : Nat) (hn : 0 < n) (w : World) (h : w.cell? a = some (.int .u8 k)) : Calls prog 112 #[d, .slice (some a) n c] w fun r w' => r = .returned (.int .u8 k) /\ w = w' := by
 have fT : ¬ ((n : Int) < 1) := by omega
 have eM : (0 : Int) < (n : Int) := by omega
 obtain ⟨g, off, x⟩ := a; obtain rfl | rfl | rfl | rfl | rfl | rfl | rfl | rfl | rfl | rfl : k = 1 ∨ k = 2 ∨ k = 3 ∨ k = 4 ∨ k = 5 ∨ k = 6 ∨ k = 7 ∨ k = 8 ∨ k = 9 ∨ k = 10 := by omega
 all_goals
  go_enter func112, ntmps112; go_wp2_with fail
  go_ret; exact ⟨rfl, rfl⟩
theorem type_odd (k : Nat) (hk : ¬ (1 <= k /\ k <= 10)) (d : Value) (a : Addr) (n c : Nat) (hn : 0 < n) (w : World) (h : w.cell? a = some (.int .u8 k)) : Calls prog 112 #[d, .slice (some a) n c] w fun r w' => r = .returned (.int .u8 255) /\ w = w' := by
 have fT : ¬ ((n : Int) < 1) := by omega
 have eM : (0 : Int) < (n : Int) := by omega
 obtain ⟨g, off, x⟩ := a; have e1 : ¬ (k : Int) = 1 := by omega
 have e2 : ¬ (k : Int) = 2 := by omega
 have e3 : ¬ (k : Int) = 3 := by omega
 have e4 : ¬ (k : Int) = 4 := by omega
 have e5 : ¬ (k : Int) = 5 := by omega
 have e6 : ¬ (k : Int) = 6 := by omega
 have e7 : ¬ (k : Int) = 7 := by omega
 have e8 : ¬ (k : Int) = 8 := by omega
 have e9 : ¬ (k : Int) = 9 := by omega
 have ku : ¬ (k : Int) = 10 := by omega
 clear hk; go_enter func112, ntmps112; go_wp2_with fail
 go_ret; exact ⟨rfl, rfl⟩
theorem type_any (d v : Value) (P : Nat -> Prop) (xs : List UInt8) (w : World) (h : Sl P w v 1 xs.length (bc xs)) : Calls prog 112 #[d, v] w fun r w' => r = .returned (.int .u8 (zcg xs)) /\ w = w' := by
 rcases xs with _ | ⟨c, r⟩
 ·exact type_none d P v w h
 ·obtain ⟨A, aK, rfl, _, _, hr⟩ := h
  obtain ⟨g, off, rfl, _, hc⟩ := hr (by simp); have h0 := hc 0 _ rfl; by_cases hk : 1 <= c.toNat /\ c.toNat <= 10
  ·rw [zcg, if_pos hk]; exact type_ten c.toNat hk d _ _ _ (by simp) w h0
  ·rw [zcg, znd hk]; exact type_odd c.toNat hk d _ _ _ (by simp) w h0
theorem zdw (v : Value) (w : World) : Calls prog 67 #[v] w (zgW (fun v _ => ∃ a, v = .agg #[.slice (some a) 0 0, .string ⟨#[]⟩, .slice none 0 0]) w) := by
 have hS := zjN (w.alloc (.cells #[.slice none 0 0, .string ⟨#[]⟩, .slice none 0 0] 119)); go_enter func67, ntmps67; go_wp2_with (refine hS.mono ?_; rintro r w1 ⟨v1, rfl, ⟨a, rfl⟩, ah⟩; refine Hid.out ?_)
 have hB := (znm w 119 #[.slice none 0 0, .string ⟨#[]⟩, .slice none 0 0]).fr ah id; have k0 := hB.cell 0; have k1 := hB.cell 1; have k2 := hB.cell 2; have z0 := hB.frozen 0; have z1 := hB.frozen 1; have z2 := hB.frozen 2; simp at k0 k1 k2; have m1 := hB.set_ 0 (.slice (some a) 0 0); have m2 := m1.set_ 1 (.string ⟨#[]⟩); have m3 := m2.set_ 2 (.slice none 0 0); have e0 := m1.cell 0
 have e1 := m2.cell 1; have e2 := m3.cell 2; simp only [List.size_toArray, zmz, zml, zmm, zmn, zmC, zmA, zmB] at e0 e1 e2; have HF := zmh ((((znl (fun _ => False) w).alloc _).same ah)); have HB := zmh hB; clear hS ah hB m1 m2 m3; refine zmh ?_
 go_wp2_with fail
 simp [Exit.then, bodyPost, results, results67, go_sem, e0, e1, e2]; exact ⟨_, rfl, ⟨_, rfl⟩, ((HF.out.setCell (p := ⟨w.heap.size, 0, none⟩) (.inr (zmt _)) _).setCell (p := ⟨w.heap.size, 1, none⟩) (.inr (zmt _)) _).setCell (p := ⟨w.heap.size, 2, none⟩) (.inr (zmt _)) _⟩
def typeName : Nat -> ByteArray
 | 1 => ⟨#[115, 101, 114, 105, 101, 115]⟩
 | 2 => ⟨#[115, 97, 109, 112, 108, 101, 115]⟩
 | 3 => ⟨#[116, 111, 109, 98, 115, 116, 111, 110, 101, 115]⟩
 | 4 => ⟨#[101, 120, 101, 109, 112, 108, 97, 114, 115]⟩
 | 5 => ⟨#[109, 109, 97, 112, 109, 97, 114, 107, 101, 114, 115]⟩
 | 6 => ⟨#[109, 101, 116, 97, 100, 97, 116, 97]⟩
 | 7 => ⟨#[104, 105, 115, 116, 111, 103, 114, 97, 109, 95, 115, 97, 109, 112, 108, 101, 115]⟩
 | 8 => ⟨#[102, 108, 111, 97, 116, 95, 104, 105, 115, 116, 111, 103, 114, 97, 109, 95, 115, 97, 109, 112, 108, 101, 115]⟩
 | 9 => ⟨#[99, 117, 115, 116, 111, 109, 95, 98, 117, 99, 107, 101, 116, 115, 95, 104, 105, 115, 116, 111, 103, 114, 97, 109, 95, 115, 97, 109, 112, 108, 101, 115]⟩
 | 10 => ⟨#[99, 117, 115, 116, 111, 109, 95, 98, 117, 99, 107, 101, 116, 115, 95, 102, 108, 111, 97, 116, 95, 104, 105, 115, 116, 111, 103, 114, 97, 109, 95, 115, 97, 109, 112, 108, 101, 115]⟩
 | _ => ⟨#[117, 110, 107, 110, 111, 119, 110]⟩
theorem zgZ (k : Nat) (hk : k = 1 ∨ k = 2 ∨ k = 3 ∨ k = 4 ∨ k = 5 ∨ k = 6 ∨ k = 7 ∨ k = 8 ∨ k = 9 ∨ k = 10 ∨ k = 255) (w : World) : Calls prog 113 #[.int .u8 k] w fun r w' => r = .returned (.string (typeName k)) /\ w = w' := by
 obtain rfl | rfl | rfl | rfl | rfl | rfl | rfl | rfl | rfl | rfl | rfl := hk; all_goals
  go_enter func113, ntmps113; go_wp2_with fail
  go_ret; exact ⟨rfl, rfl⟩
theorem zla (xs : List UInt8) : zcg xs = 1 ∨ zcg xs = 2 ∨ zcg xs = 3 ∨ zcg xs = 4 ∨ zcg xs = 5 ∨ zcg xs = 6 ∨ zcg xs = 7 ∨ zcg xs = 8 ∨ zcg xs = 9 ∨ zcg xs = 10 ∨ zcg xs = 255 := by
 rcases xs with _ | ⟨c, r⟩
 ·simp [zcg]
 ·have e : zcg (c :: r) = if 1 <= c.toNat /\ c.toNat <= 10 then c.toNat else 255 := rfl
  rw [e]; by_cases h : 1 <= c.toNat /\ c.toNat <= 10
  ·rw [if_pos h]; omega
  ·rw [znd h]; simp
theorem zg2 (v : Value) (P : Nat -> Prop) (xs : List UInt8) (w : World) (h : Sl P w v 1 xs.length (bc xs)) : Calls prog 42 #[v] w (zgW (fun u _ => u = .tuple #[.int .i64 (zcg xs), .string (typeName (zcg xs))]) w) := by
 have HS := zmh h; have h3 := zla xs; generalize hk : zcg xs = k at h3 ⊢; have HK := zmh hk; have hkb : k <= 255 := by omega
 have H3 := zmh h3; clear hk h h3; go_enter func42, ntmps42
 go_wp2_with (first
  | (go_at_call 67; refine (zdw _ _).mono ?_; rintro r w1 ⟨v1, rfl, ⟨a, rfl⟩, ah⟩)
  | (go_at_call 112; refine (type_any _ v P xs _ ((HS.out.fr ah z_i).fr ((znl (fun _ => False) w1).alloc _) z_i)).mono ?_; rintro r w2 ⟨rfl, rfl⟩; rw [HK.out])
  | (go_at_call 113; refine (zgZ k H3.out _).mono ?_; rintro r w3 ⟨rfl, rfl⟩))
 go_ret2; exact ⟨_, rfl, rfl, ((znl (fun _ => False) w).same ah).alloc _⟩
end Go.Proofs.YtbkookiigkckdaaGreatDoor
namespace Go.Proofs.YtbkookiigkckdaaGreatDoor
open Go Go.RowKit Go.Proofs.Tryz
section
variable {P : Program} {ops : Array Oper} {Q : Exit -> Act -> World -> Prop} {md : Region.Mode} {S : World -> Prop} {c : Nat}
def zcZ (P : Program) (md : Region.Mode) (ops : Array Oper) (Q : Exit -> Act -> World -> Prop) (S : World -> Prop) (c : Nat) : Nat -> Array Bool -> Act -> World -> Prop
 | 0, listed, a, w => Region.ready md ops listed = [] /\ Q .normal a w
 | fuel + 1, listed, a, w =>
   (Region.ready md ops listed = [] -> Q .normal a w) /\
   ∀ i ∈ Region.ready md ops listed, wpOp P ops Q i (fun a' w' => ((listed.setIfInBounds i true).getD c false = false -> S w') /\ zcZ P md ops Q S c fuel (listed.setIfInBounds i true) a' w') a w
theorem zfq : ∀ (fuel : Nat) (listed : Array Bool) (a : Act) (w : World), zcZ P md ops Q S c fuel listed a w -> wpAny P md ops Q fuel listed a w
 | 0, _, _, _, h => h
 | fuel + 1, _, _, _, h => ⟨h.1, fun i hi => wpOp_mono (fun a' w' h' => zfq fuel _ a' w' h'.2) (h.2 i hi)⟩
def zk3 (md : Region.Mode) (ops : Array Oper) (i : Nat) (C : List Nat) : Bool :=
 C.all fun j => Region.waitsFor md ops j i || C.any fun k => Region.waitsFor md ops j k
theorem zfI {C : List Nat} {i j : Nat} {listed : Array Bool} (hb : zk3 md ops i C = true) (hi : listed.getD i false = false) (hC : ∀ k ∈ C, listed.getD k false = false) (hj : j ∈ Region.ready md ops listed) : j ∉ C := by
 intro hjC; obtain ⟨_, oj, jC, aS⟩ := mem_ready.1 hj; have h1 := List.all_eq_true.1 hb j hjC; rw [Bool.or_eq_true] at h1; have aw : ∀ k, listed.getD k false = false -> Region.waitsFor md ops j k = true -> False := fun k hk hw => by
  obtain ⟨oj', hoj', e, he, lw, hon⟩ := Region.waitsFor_spec hw; have : oj' = oj := zm6 (hoj'.symm.trans jC); subst this; have h2 := aS e he lw; rw [hon, hk] at h2; cases h2
 rcases h1 with h1 | h1
 ·exact aw i hi h1
 ·obtain ⟨k, hk, hw⟩ := List.any_eq_true.1 h1
  exact aw k (hC k hk) hw
theorem zjA {C : List Nat} {i : Nat} {oi : Oper} {v : Value} (hi : ops[i]? = some oi) (jx : ∀ (j : Nat) (o : Oper) cs b, ops[j]? = some o -> o.op ≠ .select cs b)
 (hQ : ∀ c a w, Q (.panic c) (a.put oi.dst v) w -> Q (.panic c) a w) (hb : zk3 md ops i C = true) (hc : c ∈ C) (hic : i ≠ c) :
 ∀ (fuel : Nat) (listed : Array Bool) (a : Act) (w : World),
  (∀ j oj, ops[j]? = some oj -> j ≠ i -> listed.getD j true = false -> (∀ e ∈ oj.after, Region.binds md e = true -> e.on ≠ i) -> oi.apart ops oj = true) ->
  (∀ k ∈ C, listed.getD k false = false) -> i ∈ Region.ready md ops listed -> YieldsIf P ops S oi v a -> S w ->
  zcZ P md ops Q S c fuel (listed.setIfInBounds i true) (a.put oi.dst v) w -> zcZ P md ops Q S c (fuel + 1) listed a w := by
 intro fuel; induction fuel with
 | zero =>
   intro listed a w _ _ hr hy hS H; refine ⟨fun h => (by rw [h] at hr; cases hr), fun j hj => ?_⟩; by_cases hji : j = i
   ·subst hji; exact hy.wpOp hi hS ⟨fun _ => hS, H⟩
   ·have := ready_mono hj hji
    rw [H.1] at this; cases this
 | succ fuel ih =>
   intro listed a w fW hC hr hy hS H; refine ⟨fun h => (by rw [h] at hr; cases hr), fun j hj => ?_⟩; by_cases hji : j = i
   ·subst hji; exact hy.wpOp hi hS ⟨fun _ => hS, H⟩
   ·have h1 := H.2 j (ready_mono hj hji)
    obtain ⟨jH, oj, jC, aS⟩ := mem_ready.1 hj; have lg := getD_both (mem_ready.1 hr).1; have hjC : j ∉ C := zfI hb lg hC hj; have hjc : j ≠ c := by rintro rfl; exact hjC hc
    have kW : ∀ e ∈ oj.after, Region.binds md e = true -> e.on ≠ i := fun e he hb heq => by
     have h1 := aS e he hb; rw [heq, lg] at h1; cases h1
    have h2 := wpOp_putIf jC (fW j oj jC hji jH kW) (fun cs b => jx i oi cs b hi) (fun cs b => jx j oj cs b jC) hQ hy h1; have gL : ∀ k ok, ops[k]? = some ok -> k ≠ i -> (listed.setIfInBounds j true).getD k true = false ->
     (∀ e ∈ ok.after, Region.binds md e = true -> e.on ≠ i) -> oi.apart ops ok = true := fun k ok hk qa eL nw => by
     refine fW k ok hk qa ?_ nw; by_cases hjk : j = k
     ·subst hjk; exact jH
     ·rw [getD_set_ne true hjk] at eL; exact eL
    have hC' : ∀ k ∈ C, (listed.setIfInBounds j true).getD k false = false := fun k hk => by
     have hkj : j ≠ k := by rintro rfl; exact hjC hk
     rw [getD_set_ne false hkj]; exact hC k hk
    have eN : ((listed.setIfInBounds i true).setIfInBounds j true).getD c false = false := by
     rw [getD_set_ne false hjc, getD_set_ne false hic]; exact hC c hc
    refine wpOp_mono (fun a' w' h3 => ⟨fun _ => h3.2.1 eN, ih (listed.setIfInBounds j true) a' w' gL hC' (ready_mono hr (Ne.symm hji)) h3.1 (h3.2.1 eN) ?_⟩) h2; rw [Array.setIfInBounds_comm _ _ hji]; exact h3.2.2
theorem zjB {i : Nat} {oi : Oper} {v : Value} (hi : ops[i]? = some oi) (jx : ∀ (j : Nat) (o : Oper) cs b, ops[j]? = some o -> o.op ≠ .select cs b)
 (hQ : ∀ c a w, Q (.panic c) (a.put oi.dst v) w -> Q (.panic c) a w) (hic : i ≠ c) :
 ∀ (fuel : Nat) (listed : Array Bool) (a : Act) (w : World),
  (∀ j oj, ops[j]? = some oj -> j ≠ i -> listed.getD j true = false -> (∀ e ∈ oj.after, Region.binds md e = true -> e.on ≠ i) -> oi.apart ops oj = true) ->
  (listed.getD c false = false -> S w) -> i ∈ Region.ready md ops listed -> Yields P ops oi v a ->
  zcZ P md ops Q S c fuel (listed.setIfInBounds i true) (a.put oi.dst v) w -> zcZ P md ops Q S c (fuel + 1) listed a w := by
 have ns : ∀ (l : Array Bool), (l.setIfInBounds i true).getD c false = l.getD c false := fun l => getD_set_ne false hic; intro fuel; induction fuel with
 | zero =>
   intro listed a w _ hI hr hy H; refine ⟨fun h => (by rw [h] at hr; cases hr), fun j hj => ?_⟩; by_cases hji : j = i
   ·subst hji; exact hy.wpOp hi ⟨fun h => hI (by rw [ns] at h; exact h), H⟩
   ·have := ready_mono hj hji
    rw [H.1] at this; cases this
 | succ fuel ih =>
   intro listed a w fW hI hr hy H; refine ⟨fun h => (by rw [h] at hr; cases hr), fun j hj => ?_⟩; by_cases hji : j = i
   ·subst hji; exact hy.wpOp hi ⟨fun h => hI (by rw [ns] at h; exact h), H⟩
   ·have h1 := H.2 j (ready_mono hj hji)
    obtain ⟨jH, oj, jC, aS⟩ := mem_ready.1 hj; have lg := getD_both (mem_ready.1 hr).1; have kW : ∀ e ∈ oj.after, Region.binds md e = true -> e.on ≠ i := fun e he hb heq => by
     have h1 := aS e he hb; rw [heq, lg] at h1; cases h1
    have h2 := wpOp_put jC (fW j oj jC hji jH kW) (fun cs b => jx i oi cs b hi) (fun cs b => jx j oj cs b jC) hQ hy h1; have gL : ∀ k ok, ops[k]? = some ok -> k ≠ i -> (listed.setIfInBounds j true).getD k true = false ->
     (∀ e ∈ ok.after, Region.binds md e = true -> e.on ≠ i) -> oi.apart ops ok = true := fun k ok hk qa eL nw => by
     refine fW k ok hk qa ?_ nw; by_cases hjk : j = k
     ·subst hjk; exact jH
     ·rw [getD_set_ne true hjk] at eL; exact eL
    have oG : ((listed.setIfInBounds i true).setIfInBounds j true).getD c false = (listed.setIfInBounds j true).getD c false := by
     rw [Array.setIfInBounds_comm _ _ (Ne.symm hji), ns]
    refine wpOp_mono (fun a' w' h3 => ⟨fun h => h3.2.1 (by rw [oG]; exact h), ih (listed.setIfInBounds j true) a' w' gL (fun h => h3.2.1 (by rw [oG]; exact h)) (ready_mono hr (Ne.symm hji)) h3.1 ?_⟩) h2; rw [Array.setIfInBounds_comm _ _ hji]; exact h3.2.2
theorem zk8 (i : Nat) (C : List Nat) {oi : Oper} (v : Value) {fuel : Nat} {listed : Array Bool} {a : Act} {w : World} (hi : ops[i]? = some oi)
 (hs : Region.noSelect ops = true) (hf : Region.free md ops listed i = true) (hr : (Region.ready md ops listed).contains i = true) (hb : zk3 md ops i C = true) (hC : (C.all fun k => !listed.getD k false) = true) (hc : C.contains c = true) (hic : (i == c) = false)
 (hQ : ∀ c a w, Q (.panic c) (a.put oi.dst v) w -> Q (.panic c) a w) (hw : Region.wanted oi (yielded ops a.tmps) = true) (hy : ∀ w, S w -> (execOp a.eval oi).run P w = .ok (.value v) w) (hS : S w)
 (h : zcZ P md ops Q S c fuel (listed.setIfInBounds i true) (a.put oi.dst v) w) : zcZ P md ops Q S c (fuel + 1) listed a w :=
 zjA hi (Region.noSelect_spec hs) hQ hb (by simpa using hc) (by simpa using hic) fuel listed a w (Region.free_spec hi hf) (fun k hk => by simpa using List.all_eq_true.1 hC k hk) (by simpa using hr) (.inl ⟨hw, hy⟩) hS h
theorem zhk (i : Nat) {oi : Oper} (v : Value) {fuel : Nat} {listed : Array Bool} {a : Act} {w : World} (hi : ops[i]? = some oi)
 (hs : Region.noSelect ops = true) (hf : Region.free md ops listed i = true) (hr : (Region.ready md ops listed).contains i = true) (hic : (i == c) = false)
 (hQ : ∀ c a w, Q (.panic c) (a.put oi.dst v) w -> Q (.panic c) a w) (hw : Region.wanted oi (yielded ops a.tmps) = true) (hy : ∀ w, (execOp a.eval oi).run P w = .ok (.value v) w) (hS : S w)
 (h : zcZ P md ops Q S c fuel (listed.setIfInBounds i true) (a.put oi.dst v) w) : zcZ P md ops Q S c (fuel + 1) listed a w :=
 zjB hi (Region.noSelect_spec hs) hQ (by simpa using hic) fuel listed a w (Region.free_spec hi hf) (fun _ => hS) (by simpa using hr) (.inl ⟨hw, hy⟩) h
theorem zao (i : Nat) {fuel : Nat} {listed : Array Bool} {a : Act} {w : World} {o : Oper} (hr : Region.ready md ops listed = [i]) (ho : ops[i]? = some o)
 (hw : Region.wanted o (yielded ops a.tmps) = true)
 (h : ∀ K' : Act -> World -> Prop, Shut (∀ a w, S w -> zcZ P md ops Q S c fuel (listed.setIfInBounds i true) a w -> K' a w) -> Oper.wp P o a w K' Q) : zcZ P md ops Q S c (fuel + 1) listed a w := by
 refine ⟨fun h0 => (by rw [hr] at h0; cases h0), fun j hj => ?_⟩; rw [hr, zmY] at hj; subst hj; unfold wpOp; simp only [ho, hw, if_true]; exact .inl (h _ (fun a w hS hW => ⟨fun _ => hS, hW⟩))
theorem zaA (i : Nat) {fuel : Nat} {listed : Array Bool} {a : Act} {w : World} {o : Oper} (hr : Region.ready md ops listed = [i]) (ho : ops[i]? = some o) (hc : (listed.setIfInBounds i true).getD c false = true)
 (hw : Region.wanted o (yielded ops a.tmps) = true)
 (h : ∀ K' : Act -> World -> Prop, Shut (∀ a w, zcZ P md ops Q S c fuel (listed.setIfInBounds i true) a w -> K' a w) -> Oper.wp P o a w K' Q) : zcZ P md ops Q S c (fuel + 1) listed a w := by
 refine ⟨fun h0 => (by rw [hr] at h0; cases h0), fun j hj => ?_⟩; rw [hr, zmY] at hj; subst hj; unfold wpOp; simp only [ho, hw, if_true]; exact .inl (h _ (fun a w hW => ⟨fun hn => (by rw [hc] at hn; cases hn), hW⟩))
theorem zbv {listed : Array Bool} {a : Act} {w : World} (hr : Region.ready md ops listed = []) (h : Q .normal a w) :
 ∀ fuel, zcZ P md ops Q S c fuel listed a w
 | 0 => ⟨hr, h⟩
 | _ + 1 => ⟨fun _ => h, by rw [hr]; simp⟩
theorem zaQ (S : World -> Prop) (c : Nat) {id : Nat} {a : Act} {w : World} (hm : P.follows .mixedOrders = true) (hS : S w.drew)
 (h : S w.drew -> zcZ P .any ops Q S c ops.size (Array.replicate ops.size false) a w.drew) : (Code.region id ops true).wp P Q a w :=
 wp_region_any hm (zfq _ _ _ _ (h hS))
end
theorem wpT {P : Program} {ops : Array Oper} {Q : Exit -> Act -> World -> Prop} {md : Region.Mode} {S : World -> Prop} {c : Nat} (i : Nat) {oi : Oper} (v : Value) {fuel : Nat} {listed : Array Bool} {a : Act} {w : World} (hi : ops[i]? = some oi)
 (hy : ∀ w, (execOp a.eval oi).run P w = .ok (.value v) w) (hS : S w) (h : zcZ P md ops Q S c fuel (listed.setIfInBounds i true) (a.put oi.dst v) w)
 (hs : Region.noSelect ops = true := by kernel_rfl) (hf : Region.free md ops listed i = true := by kernel_rfl) (hr : (Region.ready md ops listed).contains i = true := by kernel_rfl) (hic : (i == c) = false := by kernel_rfl)
 (hQ : ∀ c a w, Q (.panic c) (a.put oi.dst v) w -> Q (.panic c) a w := by exact fun _ _ _ h => h) (hw : Region.wanted oi (yielded ops a.tmps) = true := by kernel_rfl) : zcZ P md ops Q S c (fuel + 1) listed a w :=
 zhk i v hi hs hf hr hic hQ hw hy hS h
theorem wpL {P : Program} {ops : Array Oper} {Q : Exit -> Act -> World -> Prop} {md : Region.Mode} {S : World -> Prop} {c : Nat} (i : Nat) (C : List Nat) {oi : Oper} (v : Value) {fuel : Nat} {listed : Array Bool} {a : Act} {w : World} (hi : ops[i]? = some oi)
 (hy : ∀ w, S w -> (execOp a.eval oi).run P w = .ok (.value v) w) (hS : S w) (h : zcZ P md ops Q S c fuel (listed.setIfInBounds i true) (a.put oi.dst v) w)
 (hs : Region.noSelect ops = true := by kernel_rfl) (hf : Region.free md ops listed i = true := by kernel_rfl) (hr : (Region.ready md ops listed).contains i = true := by kernel_rfl) (hb : zk3 md ops i C = true := by kernel_rfl) (hC : (C.all fun k => !listed.getD k false) = true := by kernel_rfl) (hc : C.contains c = true := by kernel_rfl) (hic : (i == c) = false := by kernel_rfl)
 (hQ : ∀ c a w, Q (.panic c) (a.put oi.dst v) w -> Q (.panic c) a w := by exact fun _ _ _ h => h) (hw : Region.wanted oi (yielded ops a.tmps) = true := by kernel_rfl) : zcZ P md ops Q S c (fuel + 1) listed a w :=
 zk8 i C v hi hs hf hr hb hC hc hic hQ hw hy hS h
end Go.Proofs.YtbkookiigkckdaaGreatDoor
namespace Go.Proofs.YtbkookiigkckdaaGreatDoor
open Go.Proofs.Tryz
def zh0 {α} (lt : α -> α -> Bool) (x : α) (out : List α) : Nat -> Nat
 | 0 => 0
 | k + 1 => match out[k]? with
   | some y => if lt x y = true then zh0 lt x out k else k + 1
   | none => k + 1
def zjs {α} (lt : α -> α -> Bool) (out : List α) (x : α) : List α := out.take (zh0 lt x out out.length) ++ x :: out.drop (zh0 lt x out out.length)
def ziQ {α} (lt : α -> α -> Bool) (l : List α) : List α := l.foldl (zjs lt) []
theorem lpos_le {α} (lt : α -> α -> Bool) (x : α) (out : List α) : ∀ k, zh0 lt x out k <= k
 | 0 => zmt _
 | k + 1 => by
   unfold zh0; split
   ·split
    ·exact Nat.le_succ_of_le (lpos_le lt x out k)
    ·exact zmt _
   ·exact zmt _
theorem zgt {α} (lt : α -> α -> Bool) (x : α) (out : List α) : ∀ k j y, zh0 lt x out k <= j -> j < k -> out[j]? = some y -> lt x y = true
 | 0, j, y, _, h, _ => by omega
 | k + 1, j, y, h1, h2, hy => by
   unfold zh0 at h1; split at h1
   ·rename_i z hz
    split at h1
    ·rename_i hlt
     by_cases e : j = k
     ·subst e; rw [hy] at hz; injection hz with hz; subst hz; exact hlt
     ·exact zgt lt x out k j y h1 (by omega) hy
    ·omega
   ·omega
theorem zgu {α} (lt : α -> α -> Bool) (x : α) (out : List α) : ∀ k p, k <= out.length -> zh0 lt x out k = p + 1 -> ∃ y, out[p]? = some y /\ lt x y = false
 | 0, p, _, h => by simp [zh0] at h
 | k + 1, p, hk, h => by
   unfold zh0 at h; split at h
   ·rename_i z hz
    split at h
    ·exact zgu lt x out k p (by omega) h
    ·rename_i hlt
     injection h with h; subst h; exact ⟨z, hz, by simpa using hlt⟩
   ·rename_i hz
    rw [List.getElem?_eq_none_iff] at hz; omega
theorem ziR {α} (lt : α -> α -> Bool) (out : List α) (x : α) : (zjs lt out x).Perm (x :: out) := by
 unfold zjs; refine List.perm_middle.trans ?_; rw [List.take_append_drop]
theorem zj1 {α} (lt : α -> α -> Bool) (ht : ∀ a b c, lt a b = true -> lt b c = true -> lt a c = true) (hi : ∀ a, lt a a = false) (hn : ∀ a b c, lt a b = false -> lt b c = false -> lt a c = false)
 (out : List α) (x : α) (h : out.Pairwise (fun a b => lt b a = false)) : (zjs lt out x).Pairwise (fun a b => lt b a = false) := by
 have qy : ∀ a b, lt a b = true -> lt b a = false := fun a b hab => by
  cases e : lt b a with
  | false => rfl
  | true => have := ht a b a hab e; rw [hi] at this; cases this
 unfold zjs; obtain ⟨p, hp⟩ := exE (zh0 lt x out out.length); rw [hp]; have bQ := lpos_le lt x out out.length; rw [hp] at bQ; have lr : ∀ y ∈ out.drop p, lt x y = true := fun y hy => by
  obtain ⟨j, hj⟩ := List.mem_iff_getElem?.mp hy; rw [List.getElem?_drop] at hj; have hlt := (List.getElem?_eq_some_iff.mp hj).1; exact zgt lt x out out.length (p + j) y (by omega) hlt hj
 have ls : ∀ y ∈ out.take p, lt x y = false := fun y hy => by
  obtain ⟨j, hj⟩ := List.mem_iff_getElem?.mp hy; rw [List.getElem?_take] at hj; split at hj
  ·rename_i hjp
   obtain ⟨q, rfl⟩ : ∃ q, p = q + 1 := ⟨p - 1, by omega⟩; obtain ⟨z, hz, hxz⟩ := zgu lt x out out.length q (zmt _) hp; by_cases e : j = q
   ·subst e; rw [hj] at hz; injection hz with hz; subst hz; exact hxz
   ·have hq := (List.getElem?_eq_some_iff.mp hz)
    have hjj := (List.getElem?_eq_some_iff.mp hj); obtain ⟨eZ, kV⟩ := hq; obtain ⟨hj1, qb⟩ := hjj; have := List.pairwise_iff_getElem.mp h j q hj1 eZ (by omega); rw [kV, qb] at this; exact hn x z y hxz this
  ·cases hj
 have ju := h; rw [<- List.take_append_drop p out, List.pairwise_append] at ju; obtain ⟨h1, h2, h3⟩ := ju; rw [List.pairwise_append]; refine ⟨h1, List.pairwise_cons.mpr ⟨fun y hy => qy _ _ (lr y hy), h2⟩, ?_⟩; intro a ha b hb; rcases List.mem_cons.mp hb with rfl | hb
 ·exact ls a ha
 ·exact h3 a ha b hb
theorem zgC {α} (lt : α -> α -> Bool) (ht : ∀ a b c, lt a b = true -> lt b c = true -> lt a c = true) (hi : ∀ a, lt a a = false) (hn : ∀ a b c, lt a b = false -> lt b c = false -> lt a c = false) :
 ∀ (l out : List α), out.Pairwise (fun a b => lt b a = false) -> (l.foldl (zjs lt) out).Pairwise (fun a b => lt b a = false) /\ (l.foldl (zjs lt) out).Perm (l ++ out)
 | [], out, h => ⟨h, List.Perm.refl _⟩
 | x :: l, out, h => by
   have ⟨h1, h2⟩ := zgC lt ht hi hn l (zjs lt out x) (zj1 lt ht hi hn out x h); refine ⟨h1, h2.trans ?_⟩; refine (List.Perm.append_left l (ziR lt out x)).trans ?_; exact List.perm_middle
theorem zbW {α} (lt : α -> α -> Bool) (ht : ∀ a b c, lt a b = true -> lt b c = true -> lt a c = true) (hi : ∀ a, lt a a = false) (hn : ∀ a b c, lt a b = false -> lt b c = false -> lt a c = false) (l : List α) :
 (ziQ lt l).Pairwise (fun a b => lt b a = false) /\ (ziQ lt l).Perm l := by
 have h := zgC lt ht hi hn l [] List.Pairwise.nil; rw [zmD] at h; exact h
theorem zhl {α} (lt : α -> α -> Bool) : ∀ (l l' : List α), l'.Perm l -> l.Pairwise (fun a b => lt b a = false) -> l'.Pairwise (fun a b => lt b a = false) ->
 (∀ a ∈ l, ∀ b ∈ l, lt a b = false -> lt b a = false -> a = b) -> l' = l
 | [], l', hp, _, _, _ => List.Perm.eq_nil hp
 | x :: l, [], hp, _, _, _ => by have := hp.length_eq; simp at this
 | x :: l, y :: l', hp, h, h', ha => by
   have ey : y = x := by
    have hy : y ∈ x :: l := hp.mem_iff.mp (zna); have hx : x ∈ y :: l' := hp.mem_iff.mpr (zna); rcases List.mem_cons.mp hy with e | hy'
    ·exact e
    rcases List.mem_cons.mp hx with e | hx'
    ·exact e.symm
    exact ha y hy x zna ((List.pairwise_cons.mp h).1 y hy') ((List.pairwise_cons.mp h').1 x hx')
   subst ey; have hp' := (List.perm_cons y).mp hp; rw [zhl lt l l' hp' (List.pairwise_cons.mp h).2 (List.pairwise_cons.mp h').2 (fun a h1 b h2 => ha a (zng _ h1) b (zng _ h2))]
theorem zln {α} (lt : α -> α -> Bool) (l : List α) (k : Nat) (x : α) (h : l[k]? = some x) : ziQ lt (l.take (k + 1)) = zjs lt (ziQ lt (l.take k)) x := by
 obtain ⟨hk, rfl⟩ := List.getElem?_eq_some_iff.mp h; unfold ziQ; rw [List.take_succ_eq_append_getElem hk, List.foldl_append]; rfl
theorem zj2 {α} (lt : α -> α -> Bool) (out : List α) (x : α) : (zjs lt out x).length = out.length + 1 := by
 rw [(ziR lt out x).length_eq]; rfl
theorem zaZ {α} (lt : α -> α -> Bool) (l : List α) : (ziQ lt l).length = l.length := by
 unfold ziQ; have : ∀ (l out : List α), (l.foldl (zjs lt) out).length = l.length + out.length := by
  intro l; induction l with
  | nil => intro out; simp
  | cons x l ih => intro out; rw [List.foldl_cons, ih, zj2, zmz]; omega
 rw [this]; simp
end Go.Proofs.YtbkookiigkckdaaGreatDoor
