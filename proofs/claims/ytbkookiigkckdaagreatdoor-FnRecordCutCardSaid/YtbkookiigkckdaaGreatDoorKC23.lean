/- Texts of this seat, merged and shortened. -/
import Derived.Test.YtbkookiigkckdaaGreatDoorKC21
import Derived.Test.YtbkookiigkckdaaGreatDoorKC22
import Derived.Lib.EndianZ
import Derived.ChangeSlices
import Derived.ChangeOld
import Derived.Below
import Derived.Deep.SlicePairs
set_option linter.unusedVariables false
set_option linter.unusedSimpArgs false
set_option maxRecDepth 100000
set_option maxHeartbeats 8000000
namespace Go.Proofs.YtbkookiigkckdaaGreatDoor
open Go Go.ChangeShapes Go.WideShapes Go.ChangeAt Go.RowKit Go.Proofs.Tryz
theorem u8_wf {z : Int} (h : (Lit.int .u8 z).wf = true) : (0 : Int) <= z /\ z <= 255 := by
 simp only [Lit.wf, Bool.and_eq_true, decide_eq_true_eq] at h; exact h
theorem zlu : laidOutB prog = true := by kernel_rfl
section
variable {H : Type} {enc : TypeId × Value -> H} {W : World}
def Old (W : World) (g : Nat) : Prop := g < W.heap.size
abbrev zby (enc : TypeId × Value -> H) (W : World) (fuel : Nat) (t : TypeId) (cs : List Value) (x : DataW H × List MemPlace) : Prop := DataW.trod enc prog W 0 (fun _ => true) true fuel t cs = some x
theorem flatMem {α : Type} (m : Nat) (f : α -> List Value) : ∀ (l : List α), (∀ x ∈ l, (f x).length = m) -> ∀ (k : Nat) (x : α), l[k]? = some x -> ∀ j, j < m -> (l.flatMap f)[k * m + j]? = (f x)[j]?
 | [], h3, k, x, h, j, hj => by simp at h
 | y :: l, h3, 0, x, h, j, hj => by
   simp at h; subst h; rw [zmz, zm8 (by rw [h3 _ (zne ..)]; omega)]; simp
 | y :: l, h3, k + 1, x, h, j, hj => by
   have e0 := h3 y (zne ..); have e : (k + 1) * m + j - m = k * m + j := by rw [Nat.succ_mul]; omega
   rw [zmz, zm9 (by rw [e0, Nat.succ_mul]; omega), e0, e]; exact flatMem m f l (fun z hz => h3 z (znk _ hz)) k x (by simpa using h) j hj
theorem zgT {α : Type} (m : Nat) (f : α -> List Value) : ∀ (l : List α), (∀ x ∈ l, (f x).length = m) -> (l.flatMap f).length = l.length * m
 | [], _ => by simp
 | y :: l, h3 => by
   rw [zmz, zml, h3 _ (zne ..), zgT m f l (fun z hz => h3 z (znk _ hz)), zmC, Nat.succ_mul]; omega
theorem ziG (g off k : Nat) : (⟨g, off, none⟩ : Addr).add k = ⟨g, off + k, none⟩ := by unfold Addr.add; split <;> simp_all
theorem zcb {α : Type} {t e m : Nat} (f : α -> List Value) (Q : α -> Prop) (ht : prog.underlying t = some (.slice e)) (ce : prog.cellsOf e = m) (hm0 : 0 < m) {fuel : Nat} {cs : List Value} {x : DataW H × List MemPlace}
 (h : zby enc W fuel t cs x) (hR : ∀ (fuel : Nat) (cs : List Value) (x : DataW H × List MemPlace), zby enc W fuel e cs x -> cs.length = m -> ∃ a, cs = f a /\ Q a) :
 ∃ (A : Option Addr) (len aO : Nat) (l : List α), cs = [.slice A len aO] /\ l.length = len /\ len <= maxLen /\ (∀ a ∈ l, Q a) /\ Sl (Old W) W (.slice A len aO) m l.length (l.flatMap f) := by
 rcases Go.Deep.open_slice ht h with ⟨rfl, _⟩ | ⟨a, len, aO, mm, n, D, Pl, rfl, hb, hl, hmx, hmm, _, hx⟩
 ·exact ⟨none, 0, 0, [], rfl, rfl, zmv _, (fun q hq => by cases hq), _, _, rfl, by simp, zmw _, fun h => absurd h (zm4 _)⟩
 ·have hmc : mm = aO := by simpa using hmm
  subst hmc; have hs : ∀ i, i < len -> ∃ q : α, (∀ j, j < m -> W.cell? ((a.add (i * m)).add j) = (f q)[j]?) /\ (f q).length = m /\ Q q := fun i hi => by
   obtain ⟨jN, h1, h2⟩ := hx i (by omega); rw [ce] at h1; obtain ⟨_, ak, aa⟩ := World.cells?_some h1; obtain ⟨q, rfl, hq⟩ := hR _ _ _ h2 ak; exact ⟨q, fun j hj => aa j hj, ak, hq⟩
  rcases zmH len with rfl | hlp
  ·exact ⟨some a, 0, mm, [], rfl, rfl, zmv _, (fun q hq => by cases hq), _, _, rfl, by simp, zmv _, fun h => absurd h (zm4 _)⟩
  haveI : Inhabited α := ⟨(hs 0 hlp).choose⟩
  obtain ⟨q, hq⟩ := Go.Deep.choose_lt hs; have ak : ((List.range len).map q).length = len := by simp
  have bw : ∀ z ∈ (List.range len).map q, (f z).length = m := fun z hz => by
   obtain ⟨i, hi, rfl⟩ := List.mem_map.mp hz; exact (hq i (List.mem_range.mp hi)).2.1
  refine ⟨some a, len, mm, (List.range len).map q, rfl, ak, by omega, fun z hz => ?_, ?_⟩
  ·obtain ⟨i, hi, rfl⟩ := List.mem_map.mp hz
   exact (hq i (List.mem_range.mp hi)).2.2
  ·rw [ak]
   have kj := zgT m f _ bw; rw [ak] at kj; refine ⟨_, _, rfl, kj, hl, fun h0 => ?_⟩; obtain ⟨c0, l0, _⟩ := hq 0 h0; have c0 := c0 0 hm0; rw [zmm (by omega)] at c0; have pj : a.spot = none := by simpa [Addr.add] using World.cell?_spot c0
   obtain ⟨g, off, sp⟩ := a; obtain rfl : sp = none := pj; rw [ziG, ziG] at c0; refine ⟨g, off, rfl, zmr W _ c0, fun j u hu => ?_⟩; have hj : j < len * m := by
    rcases zmN j (len * m) with h | h
    ·exact h
    ·rw [zmO (by rw [kj]; exact h)] at hu; cases hu
   have hk : j / m < len := (Nat.div_lt_iff_lt_mul hm0).2 hj; have hr : j % m < m := Nat.mod_lt _ hm0; have dS : ((List.range len).map q)[j / m]? = some (q (j / m)) := by rw [zmU, List.getElem?_range hk]; rfl
   have h2 := flatMem m f _ bw (j / m) _ dS (j % m) hr; have e1 : j / m * m + j % m = j := by rw [Nat.mul_comm]; exact Nat.div_add_mod j m
   rw [e1, hu] at h2; have h3 := (hq (j / m) hk).1 (j % m) hr; rw [ziG, ziG, <- h2, Nat.add_assoc, e1] at h3; exact h3
theorem zk6 {fs : Array Field} {xs : List (DataW H × List MemPlace)} {n : Nat} {cs : List Value} (hf : ∀ (i : Nat) (f : Field), fs[i]? = some f -> DataW.trod enc prog W 0 (fun _ => true) true n f.type ((cs.drop f.offset).take (prog.cellsOf f.type)) = xs[i]?)
 (hl : xs.length = fs.size) (i : Nat) (f : Field) (hi : fs[i]? = some f) : ∃ y, zby enc W n f.type ((cs.drop f.offset).take (prog.cellsOf f.type)) y := by
 have : i < xs.length := by rw [hl]; exact (Array.getElem?_eq_some_iff.1 hi).1
 exact ⟨xs[i], (hf i f hi).trans (zmm this)⟩
theorem take_one {cs : List Value} {o : Nat} {v : Value} (h : cs[o]? = some v) : (cs.drop o).take 1 = [v] := by
 rw [List.take_one, List.head?_drop, h]; rfl
theorem zbM {e : TypeId} {fs : Array Field} (ht : prog.underlying e = some (.struct fs)) {fuel : Nat} {cs : List Value} {x : DataW H × List MemPlace} (h : zby enc W fuel e cs x) :
 ∃ n, (∀ (i : Nat) (f : Field), fs[i]? = some f -> ∃ y, zby enc W n f.type ((cs.drop f.offset).take (prog.cellsOf f.type)) y) /\
  (∀ (i : Nat) (f : Field) (v : Value), fs[i]? = some f -> prog.cellsOf f.type = 1 -> cs[f.offset]? = some v -> ∃ y, zby enc W n f.type [v] y) := by
 obtain ⟨xs, n, rfl, rfl, ak, bh, hf⟩ := DataW.trod_struct ht h; refine ⟨n, fun i f hi => zk6 hf bh i f hi, fun i f v hi hc hv => ?_⟩; obtain ⟨y, hy⟩ := zk6 hf bh i f hi; rw [hc, take_one hv] at hy; exact ⟨y, hy⟩
theorem zkL : prog.cellsOf 111 = 1 := by kernel_rfl
theorem c2_ : prog.cellsOf 2 = 1 := by kernel_rfl
theorem c5_ : prog.cellsOf 5 = 1 := by kernel_rfl
theorem c21 : prog.cellsOf 21 = 1 := by kernel_rfl
theorem c317 : prog.cellsOf 317 = 1 := by kernel_rfl
theorem c9_ : prog.cellsOf 9 = 1 := by kernel_rfl
theorem c31 : prog.cellsOf 31 = 1 := by kernel_rfl
theorem c148 : prog.cellsOf 148 = 1 := by kernel_rfl
theorem c188 : prog.cellsOf 188 = 1 := by kernel_rfl
theorem c189 : prog.cellsOf 189 = 1 := by kernel_rfl
theorem c190 : prog.cellsOf 190 = 1 := by kernel_rfl
theorem zc7 {n : Nat} {v : Value} {y : DataW H × List MemPlace} (h : zby enc W n 111 [v] y) : ∃ k : Nat, v = .int .u64 k /\ k < 18446744073709551616 := by
 obtain ⟨z, e, _, hw⟩ := DataW.trod_int underlying111 h; injection e with e _; simp only [Lit.wf, Bool.and_eq_true, decide_eq_true_eq] at hw; have h0 : (0 : Int) <= z /\ z <= 18446744073709551615 := hw; exact ⟨z.toNat, by rw [e, Int.toNat_of_nonneg h0.1], by omega⟩
theorem zhB {n : Nat} {v : Value} {y : DataW H × List MemPlace} (h : zby enc W n 2 [v] y) : ∃ z : Int, v = .int .i64 z /\ -9223372036854775808 <= z /\ z <= 9223372036854775807 := by
 obtain ⟨z, e, _, hw⟩ := DataW.trod_int underlying2 h; injection e with e _; simp only [Lit.wf, Bool.and_eq_true, decide_eq_true_eq] at hw; have h0 : (-9223372036854775808 : Int) <= z /\ z <= 9223372036854775807 := hw; exact ⟨z, e, h0⟩
theorem rd_i32 {n : Nat} {v : Value} {y : DataW H × List MemPlace} (h : zby enc W n 21 [v] y) : ∃ z : Int, v = .int .i32 z /\ -2147483648 <= z /\ z <= 2147483647 := by
 obtain ⟨z, e, _, hw⟩ := DataW.trod_int underlying21 h; injection e with e _; simp only [Lit.wf, Bool.and_eq_true, decide_eq_true_eq] at hw; have h0 : (-2147483648 : Int) <= z /\ z <= 2147483647 := hw; exact ⟨z, e, h0⟩
theorem rd_u32 {n : Nat} {v : Value} {y : DataW H × List MemPlace} (h : zby enc W n 317 [v] y) : ∃ k : Nat, v = .int .u32 k /\ k < 4294967296 := by
 obtain ⟨z, e, _, hw⟩ := DataW.trod_int underlying317 h; injection e with e _; simp only [Lit.wf, Bool.and_eq_true, decide_eq_true_eq] at hw; have h0 : (0 : Int) <= z /\ z <= 4294967295 := hw; exact ⟨z.toNat, by rw [e, Int.toNat_of_nonneg h0.1], by omega⟩
theorem rd_u8 {n : Nat} {v : Value} {y : DataW H × List MemPlace} (h : zby enc W n 5 [v] y) : ∃ c : UInt8, v = .int .u8 c.toNat := by
 obtain ⟨z, e, _, hw⟩ := DataW.trod_int underlying5 h; injection e with e _; have h0 := u8_wf hw; exact ⟨Lib.byteOf z, by rw [e, Lib.byteOf_toNat h0]⟩
theorem zkV {n : Nat} {v : Value} {y : DataW H × List MemPlace} (h : zby enc W n 9 [v] y) : ∃ s : ByteArray, v = .string s /\ s.size <= maxLen := by
 obtain ⟨s, e, _, hw⟩ := DataW.trod_string underlying9 h; injection e with e _; exact ⟨s, e, hw⟩
theorem zlt {cs : List Value} (h : cs.length = 2) : ∃ a b, cs = [a, b] := by
 match cs, h with
 | [a, b], _ => exact ⟨a, b, rfl⟩
theorem list3 {cs : List Value} (h : cs.length = 3) : ∃ a b c, cs = [a, b, c] := by
 match cs, h with
 | [a, b, c], _ => exact ⟨a, b, c, rfl⟩
theorem list4 {cs : List Value} (h : cs.length = 4) : ∃ a b c d, cs = [a, b, c, d] := by
 match cs, h with
 | [a, b, c, d], _ => exact ⟨a, b, c, d, rfl⟩
theorem in_labs {n : Nat} {v : Value} {y : DataW H × List MemPlace} (h : zby enc W n 31 [v] y) : ∃ l : List Lab, l.length <= maxLen /\ (∀ p ∈ l, p.1.size <= maxLen /\ p.2.size <= maxLen) /\ Sl (Old W) W v 2 l.length (l.flatMap zaJ) := by
 obtain ⟨A, len, aO, l, e, hl, hm, hq, hs⟩ := zcb zaJ (fun p => p.1.size <= maxLen /\ p.2.size <= maxLen) underlying31 (m := 2) (by kernel_rfl) (by decide) h (fun fuel cs x hx ak => by
  obtain ⟨a, b, rfl⟩ := zlt ak; obtain ⟨n, _, hf⟩ := zbM underlying40 hx; obtain ⟨y0, h0⟩ := hf 0 _ a rfl c9_ rfl; obtain ⟨y1, h1⟩ := hf 1 _ b rfl c9_ rfl; obtain ⟨s0, rfl, w0⟩ := zkV h0; obtain ⟨s1, rfl, w1⟩ := zkV h1
  exact ⟨(s0, s1), rfl, w0, w1⟩)
 injection e with e _; subst e; exact ⟨l, by omega, hq, hs⟩
theorem in_ivs {n : Nat} {v : Value} {y : DataW H × List MemPlace} (h : zby enc W n 148 [v] y) : ∃ l : List (Int × Int), l.length <= maxLen /\ (∀ p ∈ l, (-9223372036854775808 <= p.1 /\ p.1 <= 9223372036854775807) /\ -9223372036854775808 <= p.2 /\ p.2 <= 9223372036854775807) /\ Sl (Old W) W v 2 l.length (l.flatMap ivc) := by
 obtain ⟨A, len, aO, l, e, hl, hm, hq, hs⟩ := zcb ivc (fun p => (-9223372036854775808 <= p.1 /\ p.1 <= 9223372036854775807) /\ -9223372036854775808 <= p.2 /\ p.2 <= 9223372036854775807) underlying148 (m := 2) (by kernel_rfl) (by decide) h (fun fuel cs x hx ak => by
  obtain ⟨a, b, rfl⟩ := zlt ak; obtain ⟨n, _, hf⟩ := zbM underlying281 hx; obtain ⟨y0, h0⟩ := hf 0 _ a rfl c2_ rfl; obtain ⟨y1, h1⟩ := hf 1 _ b rfl c2_ rfl; obtain ⟨s0, rfl, w0⟩ := zhB h0; obtain ⟨s1, rfl, w1⟩ := zhB h1
  exact ⟨(s0, s1), rfl, w0, w1⟩)
 injection e with e _; subst e; exact ⟨l, by omega, hq, hs⟩
theorem zk2 {n : Nat} {v : Value} {y : DataW H × List MemPlace} (h : zby enc W n 188 [v] y) : ∃ l : List (Int × Nat), l.length <= maxLen /\ (∀ p ∈ l, -2147483648 <= p.1 /\ p.1 <= 2147483647 /\ p.2 < 4294967296) /\ Sl (Old W) W v 2 l.length (l.flatMap spc) := by
 obtain ⟨A, len, aO, l, e, hl, hm, hq, hs⟩ := zcb spc (fun p => -2147483648 <= p.1 /\ p.1 <= 2147483647 /\ p.2 < 4294967296) underlying188 (m := 2) (by kernel_rfl) (by decide) h (fun fuel cs x hx ak => by
  obtain ⟨a, b, rfl⟩ := zlt ak; obtain ⟨n, _, hf⟩ := zbM underlying319 hx; obtain ⟨y0, h0⟩ := hf 0 _ a rfl c21 rfl; obtain ⟨y1, h1⟩ := hf 1 _ b rfl c317 rfl; obtain ⟨s0, rfl, w0⟩ := rd_i32 h0; obtain ⟨s1, rfl, w1⟩ := rd_u32 h1
  exact ⟨(s0, s1), rfl, w0.1, w0.2, w1⟩)
 injection e with e _; subst e; exact ⟨l, by omega, hq, hs⟩
theorem in_ints {n : Nat} {v : Value} {y : DataW H × List MemPlace} (h : zby enc W n 189 [v] y) : ∃ l : List Int, l.length <= maxLen /\ (∀ p ∈ l, -9223372036854775808 <= p /\ p <= 9223372036854775807) /\ Sl (Old W) W v 1 l.length (l.flatMap i1) := by
 obtain ⟨A, len, aO, l, e, hl, hm, hq, hs⟩ := zcb i1 (fun p => -9223372036854775808 <= p /\ p <= 9223372036854775807) underlying189 c2_ (by decide) h (fun fuel cs x hx ak => by
  match cs, ak with
  | [a], _ =>
    obtain ⟨z, rfl, w⟩ := zhB hx
    exact ⟨z, rfl, w⟩)
 injection e with e _; subst e; exact ⟨l, by omega, hq, hs⟩
theorem zkl {n : Nat} {v : Value} {y : DataW H × List MemPlace} (h : zby enc W n 190 [v] y) : ∃ l : List Nat, l.length <= maxLen /\ (∀ p ∈ l, p < 18446744073709551616) /\ Sl (Old W) W v 1 l.length (l.flatMap u1) := by
 obtain ⟨A, len, aO, l, e, hl, hm, hq, hs⟩ := zcb u1 (fun p => p < 18446744073709551616) underlying190 zkL (by decide) h (fun fuel cs x hx ak => by
  match cs, ak with
  | [a], _ =>
    obtain ⟨z, rfl, w⟩ := zc7 hx
    exact ⟨z, rfl, w⟩)
 injection e with e _; subst e; exact ⟨l, by omega, hq, hs⟩
theorem in_series {n : Nat} {v : Value} {y : DataW H × List MemPlace} (h : zby enc W n 46 [v] y) : ∃ lv : List (Ser × Value), lv.length <= maxLen /\ (∀ p ∈ lv, p.1.ref < 18446744073709551616 /\ p.1.labs.length <= maxLen /\ ∀ q ∈ p.1.labs, q.1.size <= maxLen /\ q.2.size <= maxLen) /\ SlR (Old W) W v lv := by
 obtain ⟨A, len, aO, l, e, hl, hm, hq, hs⟩ := zcb ziL (fun p => (p.1.ref < 18446744073709551616 /\ p.1.labs.length <= maxLen /\ ∀ q ∈ p.1.labs, q.1.size <= maxLen /\ q.2.size <= maxLen) /\ Sl (Old W) W p.2 2 p.1.labs.length (p.1.labs.flatMap zaJ)) underlying46 (m := 2) (by kernel_rfl) (by decide) h (fun fuel cs x hx ak => by
  obtain ⟨a, b, rfl⟩ := zlt ak; obtain ⟨n, _, hf⟩ := zbM underlying130 hx; obtain ⟨y0, h0⟩ := hf 0 _ a rfl zkL rfl; obtain ⟨y1, h1⟩ := hf 1 _ b rfl c31 rfl; obtain ⟨k, rfl, w0⟩ := zc7 h0; obtain ⟨l, w1, w2, w3⟩ := in_labs h1
  exact ⟨(⟨k, l⟩, b), rfl, ⟨w0, w1, w2⟩, w3⟩)
 injection e with e _; subst e; exact ⟨l, by omega, fun p hp => (hq p hp).1, hs, fun p hp => (hq p hp).2⟩
theorem zlv {n : Nat} {v : Value} {y : DataW H × List MemPlace} (h : zby enc W n 47 [v] y) : ∃ l : List Smp, l.length <= maxLen /\ (∀ p ∈ l, p.wf) /\ Sl (Old W) W v 3 l.length (l.flatMap Smp.a) := by
 obtain ⟨A, len, aO, l, e, hl, hm, hq, hs⟩ := zcb Smp.a Smp.wf underlying47 (m := 3) (by kernel_rfl) (by decide) h (fun fuel cs x hx ak => by
  obtain ⟨a, b, c, rfl⟩ := list3 ak; obtain ⟨n, _, hf⟩ := zbM underlying113 hx; obtain ⟨y0, h0⟩ := hf 0 _ a rfl zkL rfl; obtain ⟨y1, h1⟩ := hf 1 _ b rfl c2_ rfl; obtain ⟨y2, h2⟩ := hf 2 _ c rfl zkL rfl; obtain ⟨k, rfl, w0⟩ := zc7 h0; obtain ⟨z, rfl, w1⟩ := zhB h1; obtain ⟨q, rfl, w2⟩ := zc7 h2
  exact ⟨⟨k, z, q⟩, rfl, w0, w1.1, w1.2, w2⟩)
 injection e with e _; subst e; exact ⟨l, by omega, hq, hs⟩
theorem in_stones {n : Nat} {v : Value} {y : DataW H × List MemPlace} (h : zby enc W n 48 [v] y) : ∃ lv : List (Ston × Value), lv.length <= maxLen /\ (∀ p ∈ lv, p.1.ref < 18446744073709551616 /\ p.1.ivs.length <= maxLen /\ ∀ q ∈ p.1.ivs, (-9223372036854775808 <= q.1 /\ q.1 <= 9223372036854775807) /\ -9223372036854775808 <= q.2 /\ q.2 <= 9223372036854775807) /\ SlS (Old W) W v lv := by
 obtain ⟨A, len, aO, l, e, hl, hm, hq, hs⟩ := zcb stc (fun p => (p.1.ref < 18446744073709551616 /\ p.1.ivs.length <= maxLen /\ ∀ q ∈ p.1.ivs, (-9223372036854775808 <= q.1 /\ q.1 <= 9223372036854775807) /\ -9223372036854775808 <= q.2 /\ q.2 <= 9223372036854775807) /\ Sl (Old W) W p.2 2 p.1.ivs.length (p.1.ivs.flatMap ivc)) underlying48 (m := 2) (by kernel_rfl) (by decide) h (fun fuel cs x hx ak => by
  obtain ⟨a, b, rfl⟩ := zlt ak; obtain ⟨n, _, hf⟩ := zbM underlying151 hx; obtain ⟨y0, h0⟩ := hf 0 _ a rfl zkL rfl; obtain ⟨y1, h1⟩ := hf 1 _ b rfl c148 rfl; obtain ⟨k, rfl, w0⟩ := zc7 h0; obtain ⟨l, w1, w2, w3⟩ := in_ivs h1
  exact ⟨(⟨k, l⟩, b), rfl, ⟨w0, w1, w2⟩, w3⟩)
 injection e with e _; subst e; exact ⟨l, by omega, fun p hp => (hq p hp).1, hs, fun p hp => (hq p hp).2⟩
theorem zi6 {n : Nat} {v : Value} {y : DataW H × List MemPlace} (h : zby enc W n 49 [v] y) : ∃ lv : List (Exm × Value), lv.length <= maxLen /\ (∀ p ∈ lv, (p.1.ref < 18446744073709551616 /\ -9223372036854775808 <= p.1.t /\ p.1.t <= 9223372036854775807 /\ p.1.v < 18446744073709551616) /\ p.1.labs.length <= maxLen /\ ∀ q ∈ p.1.labs, q.1.size <= maxLen /\ q.2.size <= maxLen) /\ SlX (Old W) W v lv := by
 obtain ⟨A, len, aO, l, e, hl, hm, hq, hs⟩ := zcb exc (fun p => ((p.1.ref < 18446744073709551616 /\ -9223372036854775808 <= p.1.t /\ p.1.t <= 9223372036854775807 /\ p.1.v < 18446744073709551616) /\ p.1.labs.length <= maxLen /\ ∀ q ∈ p.1.labs, q.1.size <= maxLen /\ q.2.size <= maxLen) /\ Sl (Old W) W p.2 2 p.1.labs.length (p.1.labs.flatMap zaJ)) underlying49 (m := 4) (by kernel_rfl) (by decide) h (fun fuel cs x hx ak => by
  obtain ⟨a, b, c, d, rfl⟩ := list4 ak; obtain ⟨n, _, hf⟩ := zbM underlying159 hx; obtain ⟨y0, h0⟩ := hf 0 _ a rfl zkL rfl; obtain ⟨y1, h1⟩ := hf 1 _ b rfl c2_ rfl; obtain ⟨y2, h2⟩ := hf 2 _ c rfl zkL rfl; obtain ⟨y3, h3⟩ := hf 3 _ d rfl c31 rfl; obtain ⟨k, rfl, w0⟩ := zc7 h0; obtain ⟨z, rfl, w1⟩ := zhB h1; obtain ⟨q, rfl, w2⟩ := zc7 h2; obtain ⟨l, w3, w4, w5⟩ := in_labs h3
  exact ⟨(⟨k, z, q, l⟩, d), rfl, ⟨⟨w0, w1.1, w1.2, w2⟩, w3, w4⟩, w5⟩)
 injection e with e _; subst e; exact ⟨l, by omega, fun p hp => (hq p hp).1, hs, fun p hp => (hq p hp).2⟩
theorem zkm {n : Nat} {v : Value} {y : DataW H × List MemPlace} (h : zby enc W n 50 [v] y) : ∃ l : List Mta, l.length <= maxLen /\ (∀ p ∈ l, p.ref < 18446744073709551616 /\ p.unit.size <= maxLen /\ p.help.size <= maxLen) /\ Sl (Old W) W v 4 l.length (l.flatMap Mta.c) := by
 obtain ⟨A, len, aO, l, e, hl, hm, hq, hs⟩ := zcb Mta.c (fun p => p.ref < 18446744073709551616 /\ p.unit.size <= maxLen /\ p.help.size <= maxLen) underlying50 (m := 4) (by kernel_rfl) (by decide) h (fun fuel cs x hx ak => by
  obtain ⟨a, b, c, d, rfl⟩ := list4 ak; obtain ⟨n, _, hf⟩ := zbM underlying176 hx; obtain ⟨y0, h0⟩ := hf 0 _ a rfl zkL rfl; obtain ⟨y1, h1⟩ := hf 1 _ b rfl c5_ rfl; obtain ⟨y2, h2⟩ := hf 2 _ c rfl c9_ rfl; obtain ⟨y3, h3⟩ := hf 3 _ d rfl c9_ rfl; obtain ⟨k, rfl, w0⟩ := zc7 h0; obtain ⟨z, rfl⟩ := rd_u8 h1; obtain ⟨s, rfl, w2⟩ := zkV h2; obtain ⟨t, rfl, w3⟩ := zkV h3
  exact ⟨⟨k, z, s, t⟩, rfl, w0, w2, w3⟩)
 injection e with e _; subst e; exact ⟨l, by omega, hq, hs⟩
theorem zlw {n : Nat} {v : Value} {y : DataW H × List MemPlace} (h : zby enc W n 51 [v] y) : ∃ l : List Mrk, l.length <= maxLen /\ (∀ p ∈ l, p.wf) /\ Sl (Old W) W v 2 l.length (l.flatMap Mrk.c) := by
 obtain ⟨A, len, aO, l, e, hl, hm, hq, hs⟩ := zcb Mrk.c Mrk.wf underlying51 (m := 2) (by kernel_rfl) (by decide) h (fun fuel cs x hx ak => by
  obtain ⟨a, b, rfl⟩ := zlt ak; obtain ⟨n, _, hf⟩ := zbM underlying168 hx; obtain ⟨y0, h0⟩ := hf 0 _ a rfl zkL rfl; obtain ⟨y1, h1⟩ := hf 1 _ b rfl zkL rfl; obtain ⟨k, rfl, w0⟩ := zc7 h0; obtain ⟨z, rfl, w1⟩ := zc7 h1
  exact ⟨⟨k, z⟩, rfl, w0, w1⟩)
 injection e with e _; subst e; exact ⟨l, by omega, hq, hs⟩
structure Hst.wide (h : Hst) : Prop where
 few : h.few maxLen
 s0 : -2147483648 <= h.schema
 s1 : h.schema <= 2147483647
 thr : h.thr < 18446744073709551616
 sum : h.sum < 18446744073709551616
 zc : h.zc < 18446744073709551616
 cnt : h.cnt < 18446744073709551616
 pos : ∀ p ∈ h.pos, -2147483648 <= p.1 /\ p.1 <= 2147483647 /\ p.2 < 4294967296
 neg : ∀ p ∈ h.neg, -2147483648 <= p.1 /\ p.1 <= 2147483647 /\ p.2 < 4294967296
 ups : ∀ x ∈ h.ups, -9223372036854775808 <= x /\ x <= 9223372036854775807
 downs : ∀ x ∈ h.downs, -9223372036854775808 <= x /\ x <= 9223372036854775807
 fups : ∀ x ∈ h.fups, x < 18446744073709551616
 fdowns : ∀ x ∈ h.fdowns, x < 18446744073709551616
 cus : ∀ x ∈ h.cus, x < 18446744073709551616
theorem Hst.wide.ok {h : Hst} (k : h.wide) (hf : h.few 60) : h.ok := ⟨hf, k.s0, k.s1, k.thr, k.sum, k.zc, k.cnt, k.pos, k.neg, k.ups, k.downs, k.fups, k.fdowns, k.cus⟩
theorem in_hist {n : Nat} {cs : List Value} {y : DataW H × List MemPlace} (h : zby enc W n 192 cs y) (ak : cs.length = 13) : ∃ (x : Hst) (s : Hsl), cs = hic x s /\ x.wide /\ SlHs (Old W) W x s := by
 obtain ⟨n, _, hf⟩ := zbM underlying192 h
 match cs, ak with
 | [a0, a1, a2, a3, a4, a5, a6, a7, a8, a9, a10, a11, a12], _ =>
   obtain ⟨y0, h0⟩ := hf 0 _ a0 rfl c5_ rfl; obtain ⟨y1, h1⟩ := hf 1 _ a1 rfl c21 rfl; obtain ⟨y2, h2⟩ := hf 2 _ a2 rfl zkL rfl; obtain ⟨y3, h3⟩ := hf 3 _ a3 rfl zkL rfl; obtain ⟨y4, h4⟩ := hf 4 _ a4 rfl zkL rfl; obtain ⟨y5, h5⟩ := hf 5 _ a5 rfl zkL rfl; obtain ⟨y6, h6⟩ := hf 6 _ a6 rfl c188 rfl; obtain ⟨y7, h7⟩ := hf 7 _ a7 rfl c188 rfl; obtain ⟨y8, h8⟩ := hf 8 _ a8 rfl c189 rfl
   obtain ⟨y9, h9⟩ := hf 9 _ a9 rfl c189 rfl; obtain ⟨y10, h10⟩ := hf 10 _ a10 rfl c190 rfl; obtain ⟨y11, ls⟩ := hf 11 _ a11 rfl c190 rfl; obtain ⟨y12, h12⟩ := hf 12 _ a12 rfl c190 rfl; obtain ⟨k0, rfl⟩ := rd_u8 h0; obtain ⟨k1, rfl, w1⟩ := rd_i32 h1; obtain ⟨k2, rfl, w2⟩ := zc7 h2; obtain ⟨k3, rfl, w3⟩ := zc7 h3; obtain ⟨k4, rfl, w4⟩ := zc7 h4; obtain ⟨k5, rfl, w5⟩ := zc7 h5
   obtain ⟨l6, m6, w6, s6⟩ := zk2 h6; obtain ⟨l7, m7, w7, s7⟩ := zk2 h7; obtain ⟨l8, m8, w8, s8⟩ := in_ints h8; obtain ⟨l9, m9, w9, s9⟩ := in_ints h9; obtain ⟨oR, m10, cX, im⟩ := zkl h10; obtain ⟨l11, m11, iW, oM⟩ := zkl ls; obtain ⟨l12, m12, w12, oL⟩ := zkl h12
   exact ⟨⟨k0, k1, k2, k3, k4, k5, l6, l7, l8, l9, oR, l11, l12⟩, ⟨a6, a7, a8, a9, a10, a11, a12⟩, rfl, ⟨⟨m6, m7, m8, m9, m10, m11, m12⟩, w1.1, w1.2, w2, w3, w4, w5, w6, w7, w8, w9, cX, iW, w12⟩, s6, s7, s8, s9, im, oM, oL⟩
theorem zil {n : Nat} {v : Value} {y : DataW H × List MemPlace} (h : zby enc W n 52 [v] y) : ∃ lv : List (Rhs × Hsl), lv.length <= maxLen /\ (∀ p ∈ lv, (p.1.ref < 18446744073709551616 /\ -9223372036854775808 <= p.1.t /\ p.1.t <= 9223372036854775807) /\ p.1.h.wide) /\ SlH (Old W) W v lv := by
 obtain ⟨A, len, aO, l, e, hl, hm, hq, hs⟩ := zcb hsc (fun p => ((p.1.ref < 18446744073709551616 /\ -9223372036854775808 <= p.1.t /\ p.1.t <= 9223372036854775807) /\ p.1.h.wide) /\ SlHs (Old W) W p.1.h p.2) underlying52 (m := 15) (by kernel_rfl) (by decide) h (fun fuel cs x hx ak => by
  obtain ⟨n, hg, hf⟩ := zbM underlying194 hx
  match cs, ak with
  | a :: b :: r, ak =>
    obtain ⟨y0, h0⟩ := hf 0 _ a rfl zkL rfl; obtain ⟨y1, h1⟩ := hf 1 _ b rfl c2_ rfl; obtain ⟨y2, h2⟩ := hg 2 _ rfl; have hr : r.length = 13 := by simpa using ak
    have h2 : zby enc W n 192 (((a :: b :: r).drop 2).take (prog.cellsOf 192)) y2 := h2; rw [show prog.cellsOf 192 = 13 by kernel_rfl] at h2; have hd : ((a :: b :: r).drop 2).take 13 = r := by rw [List.drop_succ_cons, List.drop_succ_cons, List.drop_zero, zmt (by omega)]
    have h3 : zby enc W n 192 r y2 := by rw [<- hd]; exact h2
    obtain ⟨k, rfl, w0⟩ := zc7 h0; obtain ⟨z, rfl, w1⟩ := zhB h1; obtain ⟨x, s, rfl, w2, w3⟩ := in_hist h3 hr
    exact ⟨(⟨k, z, x⟩, s), rfl, ⟨⟨w0, w1⟩, w2⟩, w3⟩)
 injection e with e _; subst e; exact ⟨l, by omega, fun p hp => (hq p hp).1, hs, fun p hp => (hq p hp).2⟩
end
end Go.Proofs.YtbkookiigkckdaaGreatDoor
namespace Go.Proofs.YtbkookiigkckdaaGreatDoor
open Go.RowKit Go.Proofs.Tryz
def MFit (x : Mta) : Prop := x.unit.size <= 2147483647 /\ x.help.size <= 2147483647
def MSmall (x : Mta) : Prop := x.unit.size <= 9223372036854775807 /\ x.help.size <= 9223372036854775807
theorem zlJ (x : Mta) (w : World) (hs : MSmall x) :
 Calls prog 196 #[.agg #[.int .u64 x.ref, .int .u8 x.ty.toNat, .string x.unit, .string x.help]] w (zav (MFit x) w) := by
 obtain ⟨bA, ge⟩ := hs; by_cases hb : 2147483647 < x.unit.size
 ·have bK : (2147483647 : Int) < (x.unit.size : Int) := by omega
  go_enter func196, ntmps196; go_wp2; go_ret; exact ⟨false, rfl, ⟨fun h => (by cases h), fun h => absurd hb (by have := h.1; omega)⟩, (znq _ w).alloc _⟩
 ·have bK : ¬ (2147483647 : Int) < (x.unit.size : Int) := by omega
  by_cases hd : 2147483647 < x.help.size
  ·have hd' : (2147483647 : Int) < (x.help.size : Int) := by omega
   go_enter func196, ntmps196; go_wp2; go_ret; exact ⟨false, rfl, ⟨fun h => (by cases h), fun h => absurd hd (by have := h.2; omega)⟩, (znq _ w).alloc _⟩
  ·have hd' : ¬ (2147483647 : Int) < (x.help.size : Int) := by omega
   go_enter func196, ntmps196; go_wp2; go_ret; exact ⟨true, rfl, ⟨fun _ => ⟨by omega, by omega⟩, fun _ => rfl⟩, (znq _ w).alloc _⟩
theorem zlK (P : Nat -> Prop) (v : Value) (lv : List Mta) (w : World) (h : Sl P w v 4 lv.length (lv.flatMap Mta.c)) (hl : lv.length <= 9223372036854775807) (hs : ∀ p ∈ lv, MSmall p) :
 Calls prog 109 #[v] w (zav (lv.length <= 2147483647 /\ ∀ p ∈ lv, MFit p) w) := by
 have HS := zmk h; obtain ⟨A, c, rfl, _, hc, hr⟩ := h; obtain ⟨n, hn⟩ := exE lv.length; rw [hn] at hr hc hl ⊢; rw [hn] at HS; have HN := zmk hn; have HI := zmk hs; clear hn hr hs; by_cases hbig : 2147483647 < n
 ·have cL : (2147483647 : Int) < n := by omega
  go_enter func109, ntmps109; go_wp2; go_ret; exact ⟨false, rfl, ⟨fun h => (by cases h), fun h => absurd h.1 (by omega)⟩, znq _ _⟩
 ·have cL : ¬ (2147483647 : Int) < n := by omega
  go_enter func109, ntmps109; go_wp2; go_loopw [10] (fun vi wr => ∃ k : Nat, k <= n /\ vi = .int .i64 k /\ Hid (∀ j p, j < k -> lv[j]? = some p -> MFit p) /\ Hid (Fr (fun _ => False) w wr)) (fun vi _ => n - (intOf vi).toNat)
  case atStart => exact ⟨0, zmv _, rfl, zmk (fun j p h => absurd h (zm5 _)), zmk (znq _ _)⟩
  case round =>
   obtain ⟨k, hk, rfl, RG, RF⟩ := hrel; by_cases hlt : k < n
   ·have hS := HS.out.fr RF.out (fun _ _ e => e)
    obtain ⟨A', c', e2, _, hc', hr⟩ := hS; injection e2 with e2 iL iM; obtain ⟨g, off, rfl, _, aa⟩ := hr (by have := HN.out; omega); obtain ⟨x, hx⟩ : ∃ x, lv[k]? = some x := ⟨_, zmm (by rw [HN.out]; exact hlt)⟩; have aH := zms hx
    have q0 : wr.cell? ⟨g, off + k * 4, none⟩ = some (.int .u64 x.ref) := by simpa using aa (k * 4 + 0) _ (by rw [zdA Mta.c (fun _ => rfl) lv k x hx 0 (by omega)]; rfl)
    have q1 : wr.cell? ⟨g, off + k * 4 + 1, none⟩ = some (.int .u8 x.ty.toNat) := aa (k * 4 + 1) _ (by rw [zdA Mta.c (fun _ => rfl) lv k x hx 1 (by omega)]; rfl); have q2 : wr.cell? ⟨g, off + k * 4 + 2, none⟩ = some (.string x.unit) := aa (k * 4 + 2) _ (by rw [zdA Mta.c (fun _ => rfl) lv k x hx 2 (by omega)]; rfl)
    have q3 : wr.cell? ⟨g, off + k * 4 + 3, none⟩ = some (.string x.help) := aa (k * 4 + 3) _ (by rw [zdA Mta.c (fun _ => rfl) lv k x hx 3 (by omega)]; rfl); have aP := HI.out x aH; have ft := zmk aH; have HX := zmk hx; clear hx aH; have hC := zlJ x (wr.alloc (.cells (Mta.c x).toArray 176)) aP; subst e2; clear aa hr iL iM aP
    go_wp2_with (go_at_call 196; refine hC.mono ?_; rintro r5 w5 ⟨b, rfl, cg, aq⟩; refine Hid.out ?_)
    have H5 := zmk ((RF.out.alloc (.cells (Mta.c x).toArray 176)).same aq); have cu := zmk cg; clear aq cg hC q0 q1 q2 q3; rcases b with _ | _
    ·refine zmk ?_
     go_wp2; go_ret; exact ⟨false, rfl, ⟨fun h => (by cases h), fun h => absurd (cu.out.2 (h.2 _ ft.out)) (by decide)⟩, H5.out⟩
    ·refine zmk ?_
     go_wp2; go_roundw
     case rel => exact ⟨k + 1, by omega, by go_num, zmk (fun j p h h2 => by
      rcases zmN j k with h3 | h3
      ·exact RG.out j p h3 h2
      ·obtain rfl : j = k := by omega
       have h4 := h2.symm.trans HX.out; injection h4 with h4; rw [h4]
       exact cu.out.1 rfl), H5⟩
     case measure => simp [intOf]; omega
   ·obtain rfl : k = n := by omega
    go_wp2; go_ret; refine ⟨true, rfl, ⟨fun _ => ⟨by omega, fun p hp => ?_⟩, fun _ => rfl⟩, RF.out⟩; obtain ⟨j, hj, e⟩ := zng hp; exact RG.out j p (by rw [<- HN.out]; exact hj) (by rw [zmm hj, e])
theorem zlN (P : Nat -> Prop) (ref : Nat) (v : Value) (l : List (Int × Int)) (w : World) (h : ∃ A c, v = .slice A l.length c) (hs : l.length <= 9223372036854775807) :
 Calls prog 194 #[.agg #[.int .u64 ref, v]] w (zav (l.length <= 2147483647) w) := by
 obtain ⟨A, c, rfl⟩ := h; by_cases hb : 2147483647 < l.length
 ·have bK : (2147483647 : Int) < (l.length : Int) := by omega
  go_enter func194, ntmps194; go_wp2; go_ret; exact ⟨false, rfl, ⟨fun h => (by cases h), fun h => absurd hb (by omega)⟩, (znq _ w).alloc _⟩
 ·have bK : ¬ (2147483647 : Int) < (l.length : Int) := by omega
  go_enter func194, ntmps194; go_wp2; go_ret; exact ⟨true, rfl, ⟨fun _ => by omega, fun _ => rfl⟩, (znq _ w).alloc _⟩
theorem zlO (P : Nat -> Prop) (v : Value) (lv : List (Ston × Value)) (w : World) (h : SlS P w v lv) (hl : lv.length <= 9223372036854775807) (hs : ∀ p ∈ lv, p.1.ivs.length <= 9223372036854775807) :
 Calls prog 107 #[v] w (zav (lv.length <= 2147483647 /\ ∀ p ∈ lv, p.1.ivs.length <= 2147483647) w) := by
 have HS := zmk h; obtain ⟨⟨A, c, rfl, _, hc, hr⟩, _⟩ := h; obtain ⟨n, hn⟩ := exE lv.length; rw [hn] at hr hc hl HS ⊢; have HN := zmk hn; have HI := zmk hs; clear hn hr hs; by_cases hbig : 2147483647 < n
 ·have cL : (2147483647 : Int) < n := by omega
  go_enter func107, ntmps107; go_wp2; go_ret; exact ⟨false, rfl, ⟨fun h => (by cases h), fun h => absurd h.1 (by omega)⟩, znq _ _⟩
 ·have cL : ¬ (2147483647 : Int) < n := by omega
  go_enter func107, ntmps107; go_wp2; go_loopw [10] (fun vi wr => ∃ k : Nat, k <= n /\ vi = .int .i64 k /\ Hid (∀ j p, j < k -> lv[j]? = some p -> p.1.ivs.length <= 2147483647) /\ Hid (Fr (fun _ => False) w wr)) (fun vi _ => n - (intOf vi).toNat)
  case atStart => exact ⟨0, zmv _, rfl, zmk (fun j p h => absurd h (zm5 _)), zmk (znq _ _)⟩
  case round =>
   obtain ⟨k, hk, rfl, RG, RF⟩ := hrel; by_cases hlt : k < n
   ·have hS := HS.out.fr RF.out (fun _ _ e => e)
    have b8 := hS.2; obtain ⟨⟨A', c', e2, _, hc', hr⟩, _⟩ := hS; injection e2 with e2 iL iM; obtain ⟨g, off, rfl, _, aa⟩ := hr (by have := HN.out; omega); obtain ⟨x, hx⟩ : ∃ x, lv[k]? = some x := ⟨_, zmm (by rw [HN.out]; exact hlt)⟩; have aH := zms hx
    have q0 : wr.cell? ⟨g, off + k * 2, none⟩ = some (.int .u64 x.1.ref) := by simpa using aa (k * 2 + 0) _ (by rw [zbE stc (fun _ => rfl) lv k x hx 0 (by omega)]; rfl)
    have q1 : wr.cell? ⟨g, off + k * 2 + 1, none⟩ = some x.2 := aa (k * 2 + 1) _ (by rw [zbE stc (fun _ => rfl) lv k x hx 1 (by omega)]; rfl); have bn := b8 x aH; have aP := HI.out x aH; have ft := zmk aH; have HX := zmk hx; clear b8 hx aH; obtain ⟨⟨ref, ivs⟩, iv⟩ := x; simp only [] at q0 q1 bn aP
    have hC := zlN P ref iv ivs (wr.alloc (.cells #[.int .u64 ref, iv] 151)) (let ⟨A, c, h, _⟩ := bn; ⟨A, c, h⟩) aP; obtain ⟨Ai, ci, rfl, _, _, _⟩ := bn; subst e2; clear aa hr iL iM aP; go_wp2_with (go_at_call 194; refine hC.mono ?_; rintro r5 w5 ⟨b, rfl, cg, aq⟩; refine Hid.out ?_)
    have H5 := zmk ((RF.out.alloc (.cells #[.int .u64 ref, .slice Ai ivs.length ci] 151)).same aq); have cu := zmk cg; clear aq cg hC q0 q1; rcases b with _ | _
    ·refine zmk ?_
     go_wp2; go_ret; exact ⟨false, rfl, ⟨fun h => (by cases h), fun h => absurd (cu.out.2 (h.2 _ ft.out)) (by decide)⟩, H5.out⟩
    ·refine zmk ?_
     go_wp2; go_roundw
     case rel => exact ⟨k + 1, by omega, by go_num, zmk (fun j p h h2 => by
      rcases zmN j k with h3 | h3
      ·exact RG.out j p h3 h2
      ·obtain rfl : j = k := by omega
       have h4 := h2.symm.trans HX.out; injection h4 with h4; rw [h4]
       exact cu.out.1 rfl), H5⟩
     case measure => simp [intOf]; omega
   ·obtain rfl : k = n := by omega
    go_wp2; go_ret; refine ⟨true, rfl, ⟨fun _ => ⟨by omega, fun p hp => ?_⟩, fun _ => rfl⟩, RF.out⟩; obtain ⟨j, hj, e⟩ := zng hp; exact RG.out j p (by rw [<- HN.out]; exact hj) (by rw [zmm hj, e])
structure Prt where
 ser : List (Ser × Value)
 smp : List Smp
 sto : List (Ston × Value)
 exm : List (Exm × Value)
 mta : List Mta
 mrk : List Mrk
 his : List (Rhs × Hsl)
structure Prt.At (P : Nat -> Prop) (w : World) (q : Prt) (s0 s1 s2 s3 s4 s5 s6 : Value) : Prop where
 ser : SlR P w s0 q.ser
 smp : Sl P w s1 3 q.smp.length (q.smp.flatMap Smp.a)
 sto : SlS P w s2 q.sto
 exm : SlX P w s3 q.exm
 mta : Sl P w s4 4 q.mta.length (q.mta.flatMap Mta.c)
 mrk : Sl P w s5 2 q.mrk.length (q.mrk.flatMap Mrk.c)
 his : SlH P w s6 q.his
theorem Prt.At.fr {P S : Nat -> Prop} {w w' : World} {q : Prt} {s0 s1 s2 s3 s4 s5 s6 : Value} (h : q.At P w s0 s1 s2 s3 s4 s5 s6) (hf : Fr S w w') (hs : ∀ g, P g -> ¬ S g) : q.At P w' s0 s1 s2 s3 s4 s5 s6 :=
 ⟨h.ser.fr hf hs, h.smp.fr hf hs, h.sto.fr hf hs, h.exm.fr hf hs, h.mta.fr hf hs, h.mrk.fr hf hs, h.his.fr hf hs⟩
structure Prt.Wide (q : Prt) : Prop where
 n0 : q.ser.length <= maxLen
 n1 : q.smp.length <= maxLen
 n2 : q.sto.length <= maxLen
 n3 : q.exm.length <= maxLen
 n4 : q.mta.length <= maxLen
 n5 : q.mrk.length <= maxLen
 n6 : q.his.length <= maxLen
 ser : ∀ p ∈ q.ser, p.1.ref < 18446744073709551616 /\ p.1.labs.length <= maxLen /\ ∀ l ∈ p.1.labs, l.1.size <= maxLen /\ l.2.size <= maxLen
 smp : ∀ p ∈ q.smp, p.wf
 sto : ∀ p ∈ q.sto, p.1.ref < 18446744073709551616 /\ p.1.ivs.length <= maxLen /\ ∀ x ∈ p.1.ivs, (-9223372036854775808 <= x.1 /\ x.1 <= 9223372036854775807) /\ -9223372036854775808 <= x.2 /\ x.2 <= 9223372036854775807
 exm : ∀ p ∈ q.exm, (p.1.ref < 18446744073709551616 /\ -9223372036854775808 <= p.1.t /\ p.1.t <= 9223372036854775807 /\ p.1.v < 18446744073709551616) /\ p.1.labs.length <= maxLen /\ ∀ l ∈ p.1.labs, l.1.size <= maxLen /\ l.2.size <= maxLen
 mta : ∀ p ∈ q.mta, p.ref < 18446744073709551616 /\ p.unit.size <= maxLen /\ p.help.size <= maxLen
 mrk : ∀ p ∈ q.mrk, p.wf
 his : ∀ p ∈ q.his, (p.1.ref < 18446744073709551616 /\ -9223372036854775808 <= p.1.t /\ p.1.t <= 9223372036854775807) /\ p.1.h.wide
structure Prt.Fits (q : Prt) : Prop where
 ser : q.ser.length <= 2147483647 /\ ∀ p ∈ q.ser, zeu p.1.labs
 smp : q.smp.length <= 2147483647
 sto : q.sto.length <= 2147483647 /\ ∀ p ∈ q.sto, p.1.ivs.length <= 2147483647
 exm : q.exm.length <= 2147483647 /\ ∀ p ∈ q.exm, zeu p.1.labs
 mta : q.mta.length <= 2147483647 /\ ∀ p ∈ q.mta, MFit p
 mrk : q.mrk.length <= 2147483647
 his : q.his.length <= 2147483647 /\ ∀ p ∈ q.his, p.1.h.few 2147483647
theorem max_small : maxLen <= 9223372036854775807 := by decide
theorem zlR (A0 A1 A2 A3 A4 A5 A6 : Option Addr) (c0 c1 c2 c3 c4 c5 c6 n0 n1 n2 n3 n4 n5 n6 : Nat) (p0 p2 p3 p4 p6 pp : Prop) (w : World) (ol : pp ↔ (p0 /\ n1 <= 2147483647 /\ p2 /\ p3 /\ p4 /\ n5 <= 2147483647 /\ p6))
 (H0 : ∀ W, Fr (fun _ => False) w W -> Calls prog 106 #[.slice A0 n0 c0] W (zav p0 W)) (H2 : ∀ W, Fr (fun _ => False) w W -> Calls prog 107 #[.slice A2 n2 c2] W (zav p2 W)) (H3 : ∀ W, Fr (fun _ => False) w W -> Calls prog 108 #[.slice A3 n3 c3] W (zav p3 W)) (H4 : ∀ W, Fr (fun _ => False) w W -> Calls prog 109 #[.slice A4 n4 c4] W (zav p4 W)) (H6 : ∀ W, Fr (fun _ => False) w W -> Calls prog 110 #[.slice A6 n6 c6] W (zav p6 W)) :
 Calls prog 34 #[.agg #[.slice A0 n0 c0, .slice A1 n1 c1, .slice A2 n2 c2, .slice A3 n3 c3, .slice A4 n4 c4, .slice A5 n5 c5, .slice A6 n6 c6]] w (zav pp w) := by
 have ga := zmk ol; have HC0 := zmk H0; have lJ := zmk H2; have rx := zmk H3; have HC4 := zmk H4; have HC6 := zmk H6; clear ol H0 H2 H3 H4 H6; go_enter func34, ntmps34; have HB := zmk (znr w 54 #[.slice A0 n0 c0, .slice A1 n1 c1, .slice A2 n2 c2, .slice A3 n3 c3, .slice A4 n4 c4, .slice A5 n5 c5, .slice A6 n6 c6])
 have jX := zmk ((znq (fun _ => False) w).alloc (.cells #[.slice A0 n0 c0, .slice A1 n1 c1, .slice A2 n2 c2, .slice A3 n3 c3, .slice A4 n4 c4, .slice A5 n5 c5, .slice A6 n6 c6] 54)); go_wp2_with (go_at_call 106; refine (HC0.out _ jX.out).mono ?_; rintro r w0 ⟨b, rfl, hb, hf⟩; refine Hid.out ?_)
 have lH := zmk (jX.out.same hf); have ij := zmk ((znq (fun _ => False) (w.alloc (.cells #[.slice A0 n0 c0, .slice A1 n1 c1, .slice A2 n2 c2, .slice A3 n3 c3, .slice A4 n4 c4, .slice A5 n5 c5, .slice A6 n6 c6] 54))).same hf); have rN := zmk hb; clear hb hf; have HG := ij; clear ij; obtain ⟨y0, y1, y2, y3, y4, y5, y6⟩ := zah (HB.out.fr HG.out (fun e => e))
 rcases b with _ | _
 ·refine zmk ?_
  go_wp2; go_ret; exact ⟨false, rfl, zmR (by intro h; cases h) (fun h => absurd (rN.out.2 (ga.out.1 h).1) (by decide)), lH.out⟩
 by_cases g1 : 2147483647 < n1
 ·have g1' : (2147483647 : Int) < (n1 : Int) := by omega
  have G1 := zmk g1; clear g1; refine zmk ?_; go_wp2; go_ret; exact ⟨false, rfl, zmR (by intro h; cases h) (fun h => by have h2 := (ga.out.1 h).2.1; have := G1.out; omega), lH.out⟩
 have g1' : ¬ (2147483647 : Int) < (n1 : Int) := by omega
 have G1 : Hid (n1 <= 2147483647) := zmk (by omega); clear g1; refine zmk ?_; go_wp2_with (go_at_call 107; refine (lJ.out _ lH.out).mono ?_; rintro r w2 ⟨b, rfl, hb, hf⟩; refine Hid.out ?_)
 have o6 := zmk (lH.out.same hf); have ij := zmk (HG.out.same hf); have rK := zmk hb; clear hb hf HG y0 y1 y2 y3 y4 y5 y6; have HG := ij; clear ij; obtain ⟨y0, y1, y2, y3, y4, y5, y6⟩ := zah (HB.out.fr HG.out (fun e => e)); rcases b with _ | _
 ·refine zmk ?_
  go_wp2; go_ret; exact ⟨false, rfl, zmR (by intro h; cases h) (fun h => absurd (rK.out.2 (ga.out.1 h).2.2.1) (by decide)), o6.out⟩
 refine zmk ?_; go_wp2_with (go_at_call 108; refine (rx.out _ o6.out).mono ?_; rintro r w3 ⟨b, rfl, hb, hf⟩; refine Hid.out ?_)
 have nZ := zmk (o6.out.same hf); have ij := zmk (HG.out.same hf); have rJ := zmk hb; clear hb hf HG y0 y1 y2 y3 y4 y5 y6; have HG := ij; clear ij; obtain ⟨y0, y1, y2, y3, y4, y5, y6⟩ := zah (HB.out.fr HG.out (fun e => e)); rcases b with _ | _
 ·refine zmk ?_
  go_wp2; go_ret; exact ⟨false, rfl, zmR (by intro h; cases h) (fun h => absurd (rJ.out.2 (ga.out.1 h).2.2.2.1) (by decide)), nZ.out⟩
 refine zmk ?_; go_wp2_with (go_at_call 109; refine (HC4.out _ nZ.out).mono ?_; rintro r w4 ⟨b, rfl, hb, hf⟩; refine Hid.out ?_)
 have lG := zmk (nZ.out.same hf); have ij := zmk (HG.out.same hf); have rI := zmk hb; clear hb hf HG y0 y1 y2 y3 y4 y5 y6; have HG := ij; clear ij; obtain ⟨y0, y1, y2, y3, y4, y5, y6⟩ := zah (HB.out.fr HG.out (fun e => e)); rcases b with _ | _
 ·refine zmk ?_
  go_wp2; go_ret; exact ⟨false, rfl, zmR (by intro h; cases h) (fun h => absurd (rI.out.2 (ga.out.1 h).2.2.2.2.1) (by decide)), lG.out⟩
 by_cases g5 : 2147483647 < n5
 ·have g5' : (2147483647 : Int) < (n5 : Int) := by omega
  have G5 := zmk g5; clear g5; refine zmk ?_; go_wp2; go_ret; exact ⟨false, rfl, zmR (by intro h; cases h) (fun h => by have h2 := (ga.out.1 h).2.2.2.2.2.1; have := G5.out; omega), lG.out⟩
 have g5' : ¬ (2147483647 : Int) < (n5 : Int) := by omega
 have G5 : Hid (n5 <= 2147483647) := zmk (by omega); clear g5; refine zmk ?_; go_wp2_with (go_at_call 110; refine (HC6.out _ lG.out).mono ?_; rintro r w6 ⟨b, rfl, hb, hf⟩; refine Hid.out ?_)
 have rt := zmk (lG.out.same hf); have ij := zmk (HG.out.same hf); have rH := zmk hb; clear hb hf HG y0 y1 y2 y3 y4 y5 y6; have HG := ij; clear ij; obtain ⟨y0, y1, y2, y3, y4, y5, y6⟩ := zah (HB.out.fr HG.out (fun e => e)); rcases b with _ | _
 ·refine zmk ?_
  go_wp2; go_ret; exact ⟨false, rfl, zmR (by intro h; cases h) (fun h => absurd (rH.out.2 (ga.out.1 h).2.2.2.2.2.2) (by decide)), rt.out⟩
 refine zmk ?_; go_wp2; go_ret; exact ⟨true, rfl, zmS rfl (ga.out.2 ⟨rN.out.1 (by first | rfl | trivial), G1.out, rK.out.1 (by first | rfl | trivial), rJ.out.1 (by first | rfl | trivial), rI.out.1 (by first | rfl | trivial), G5.out, rH.out.1 (by first | rfl | trivial)⟩), rt.out⟩
theorem zlS (P : Nat -> Prop) (q : Prt) (s0 s1 s2 s3 s4 s5 s6 : Value) (w : World) (h : q.At P w s0 s1 s2 s3 s4 s5 s6) (hw : q.Wide) :
 Calls prog 34 #[.agg #[s0, s1, s2, s3, s4, s5, s6]] w (zav q.Fits w) := by
 have hM := max_small; have Hser := (fun (W : World) (hF : Fr (fun _ => False) w W) => zlQ P s0 q.ser W (h.ser.fr hF (fun _ _ e => e)) (by have := hw.n0; omega) (fun p hp => ⟨by have := (hw.ser p hp).2.1; omega, fun l hl => by have := (hw.ser p hp).2.2 l hl; omega⟩))
 have Hsto := (fun (W : World) (hF : Fr (fun _ => False) w W) => zlO P s2 q.sto W (h.sto.fr hF (fun _ _ e => e)) (by have := hw.n2; omega) (fun p hp => by have := (hw.sto p hp).2.1; omega))
 have Hexm := (fun (W : World) (hF : Fr (fun _ => False) w W) => zlM P s3 q.exm W (h.exm.fr hF (fun _ _ e => e)) (by have := hw.n3; omega) (fun p hp => ⟨by have := (hw.exm p hp).2.1; omega, fun l hl => by have := (hw.exm p hp).2.2 l hl; omega⟩))
 have Hmta := (fun (W : World) (hF : Fr (fun _ => False) w W) => zlK P s4 q.mta W (h.mta.fr hF (fun _ _ e => e)) (by have := hw.n4; omega) (fun p hp => ⟨by have := (hw.mta p hp).2.1; omega, by have := (hw.mta p hp).2.2; omega⟩)); have Hhis := (fun (W : World) (hF : Fr (fun _ => False) w W) => zlI P s6 q.his W (h.his.fr hF (fun _ _ e => e)) (by have := hw.n6; omega))
 obtain ⟨A0, c0, rfl⟩ := h.ser.1.shape; obtain ⟨A1, c1, rfl⟩ := h.smp.shape; obtain ⟨A2, c2, rfl⟩ := h.sto.1.shape; obtain ⟨A3, c3, rfl⟩ := h.exm.1.shape; obtain ⟨A4, c4, rfl⟩ := h.mta.shape; obtain ⟨A5, c5, rfl⟩ := h.mrk.shape; obtain ⟨A6, c6, rfl⟩ := h.his.1.shape
 exact zlR A0 A1 A2 A3 A4 A5 A6 c0 c1 c2 c3 c4 c5 c6 _ _ _ _ _ _ _ _ _ _ _ _ q.Fits w ⟨fun k => ⟨k.ser, k.smp, k.sto, k.exm, k.mta, k.mrk, k.his⟩, fun ⟨a, b, c, d, e, f, g⟩ => ⟨a, b, c, d, e, f, g⟩⟩ Hser Hsto Hexm Hmta Hhis
structure Dat where
 ser : List Ser
 smp : List Smp
 sto : List Ston
 exm : List Exm
 mta : List Mta
 mrk : List Mrk
 his : List Rhs
def Prt.dat (q : Prt) : Dat := ⟨q.ser.map Prod.fst, q.smp, q.sto.map Prod.fst, q.exm.map Prod.fst, q.mta, q.mrk, q.his.map Prod.fst⟩
def Yes (_ : Nat) : Prop := True
def RP (D : Dat) (ps : Array Value) (w : World) : Prop := ∃ (q : Prt) (s0 s1 s2 s3 s4 s5 s6 : Value), ps = #[s0, s1, s2, s3, s4, s5, s6] /\ q.dat = D /\ q.At Yes w s0 s1 s2 s3 s4 s5 s6
theorem Sl.yes {P : Nat -> Prop} {w : World} {v : Value} {z n : Nat} {xs : List Value} (h : Sl P w v z n xs) : Sl Yes w v z n xs := h.mono (fun _ _ => trivial)
theorem SlR.yes {P : Nat -> Prop} {w : World} {v : Value} {l : List (Ser × Value)} (h : SlR P w v l) : SlR Yes w v l := ⟨h.1.yes, fun p hp => (h.2 p hp).yes⟩
theorem SlS.yes {P : Nat -> Prop} {w : World} {v : Value} {l : List (Ston × Value)} (h : SlS P w v l) : SlS Yes w v l := ⟨h.1.yes, fun p hp => (h.2 p hp).yes⟩
theorem SlX.yes {P : Nat -> Prop} {w : World} {v : Value} {l : List (Exm × Value)} (h : SlX P w v l) : SlX Yes w v l := ⟨h.1.yes, fun p hp => (h.2 p hp).yes⟩
theorem SlHs.yes {P : Nat -> Prop} {w : World} {h : Hst} {s : Hsl} (k : SlHs P w h s) : SlHs Yes w h s :=
 ⟨k.1.yes, k.2.1.yes, k.2.2.1.yes, k.2.2.2.1.yes, k.2.2.2.2.1.yes, k.2.2.2.2.2.1.yes, k.2.2.2.2.2.2.yes⟩
theorem SlH.yes {P : Nat -> Prop} {w : World} {v : Value} {l : List (Rhs × Hsl)} (h : SlH P w v l) : SlH Yes w v l := ⟨h.1.yes, fun p hp => (h.2 p hp).yes⟩
theorem Prt.At.yes {P : Nat -> Prop} {w : World} {q : Prt} {s0 s1 s2 s3 s4 s5 s6 : Value} (h : q.At P w s0 s1 s2 s3 s4 s5 s6) : q.At Yes w s0 s1 s2 s3 s4 s5 s6 :=
 ⟨h.ser.yes, h.smp.yes, h.sto.yes, h.exm.yes, h.mta.yes, h.mrk.yes, h.his.yes⟩
theorem RP.fr {D : Dat} {ps : Array Value} {w w' : World} (h : RP D ps w) (hf : Fr (fun _ => False) w w') : RP D ps w' := by
 obtain ⟨q, s0, s1, s2, s3, s4, s5, s6, e, hd, hq⟩ := h; exact ⟨q, s0, s1, s2, s3, s4, s5, s6, e, hd, hq.fr hf (fun _ _ e => e)⟩
theorem RP.slices {D : Dat} {ps : Array Value} {w : World} (h : RP D ps w) : ∃ A0 A1 A2 A3 A4 A5 A6 n0 n1 n2 n3 n4 n5 n6 c0 c1 c2 c3 c4 c5 c6, ps = #[.slice A0 n0 c0, .slice A1 n1 c1, .slice A2 n2 c2, .slice A3 n3 c3, .slice A4 n4 c4, .slice A5 n5 c5, .slice A6 n6 c6] := by
 obtain ⟨q, s0, s1, s2, s3, s4, s5, s6, rfl, _, hq⟩ := h; obtain ⟨A0, c0, rfl⟩ := hq.ser.1.shape; obtain ⟨A1, c1, rfl⟩ := hq.smp.shape; obtain ⟨A2, c2, rfl⟩ := hq.sto.1.shape; obtain ⟨A3, c3, rfl⟩ := hq.exm.1.shape; obtain ⟨A4, c4, rfl⟩ := hq.mta.shape; obtain ⟨A5, c5, rfl⟩ := hq.mrk.shape; obtain ⟨A6, c6, rfl⟩ := hq.his.1.shape
 exact ⟨_, _, _, _, _, _, _, _, _, _, _, _, _, _, _, _, _, _, _, _, _, rfl⟩
def Dat.none : Dat := ⟨[], [], [], [], [], [], []⟩
theorem SerParts.rp {base : Nat} {l : List Ser} {ps : Array Value} {w : World} (h : SerParts base l ps w) : RP { Dat.none with ser := l } ps w := by
 obtain ⟨v, lo, rfl, rfl, ho⟩ := h; exact ⟨⟨lo, [], [], [], [], [], []⟩, _, _, _, _, _, _, _, rfl, rfl, ho.sl.yes, zaX _ _ _, noS _ _, noX _ _, zaX _ _ _, zaX _ _ _, noH _ _⟩
theorem SmpParts.rp {base : Nat} {l : List Smp} {ps : Array Value} {w : World} (h : SmpParts base l ps w) : RP { Dat.none with smp := l } ps w := by
 obtain ⟨v, rfl, ho⟩ := h; exact ⟨⟨[], l, [], [], [], [], []⟩, _, _, _, _, _, _, _, rfl, rfl, noR _ _, (znt ho).yes, noS _ _, noX _ _, zaX _ _ _, zaX _ _ _, noH _ _⟩
theorem StnParts.rp {base : Nat} {l : List Ston} {ps : Array Value} {w : World} (h : StnParts base l ps w) : RP { Dat.none with sto := l } ps w := by
 obtain ⟨v, lo, rfl, rfl, ho⟩ := h; exact ⟨⟨[], [], lo, [], [], [], []⟩, _, _, _, _, _, _, _, rfl, rfl, noR _ _, zaX _ _ _, ho.sl.yes, noX _ _, zaX _ _ _, zaX _ _ _, noH _ _⟩
theorem ExmParts.rp {base : Nat} {l : List Exm} {ps : Array Value} {w : World} (h : ExmParts base l ps w) : RP { Dat.none with exm := l } ps w := by
 obtain ⟨v, lo, rfl, rfl, ho⟩ := h; exact ⟨⟨[], [], [], lo, [], [], []⟩, _, _, _, _, _, _, _, rfl, rfl, noR _ _, zaX _ _ _, noS _ _, ho.sl.yes, zaX _ _ _, zaX _ _ _, noH _ _⟩
theorem MtaParts.rp {base : Nat} {l : List Mta} {ps : Array Value} {w : World} (h : MtaParts base l ps w) : RP { Dat.none with mta := l } ps w := by
 obtain ⟨v, rfl, ho⟩ := h; exact ⟨⟨[], [], [], [], l, [], []⟩, _, _, _, _, _, _, _, rfl, rfl, noR _ _, zaX _ _ _, noS _ _, noX _ _, (znt ho).yes, zaX _ _ _, noH _ _⟩
theorem MrkParts.rp {base : Nat} {l : List Mrk} {ps : Array Value} {w : World} (h : MrkParts base l ps w) : RP { Dat.none with mrk := l } ps w := by
 obtain ⟨v, rfl, ho⟩ := h; exact ⟨⟨[], [], [], [], [], l, []⟩, _, _, _, _, _, _, _, rfl, rfl, noR _ _, zaX _ _ _, noS _ _, noX _ _, zaX _ _ _, (znt ho).yes, noH _ _⟩
theorem HstParts.rp {base : Nat} {l : List Rhs} {ps : Array Value} {w : World} (h : HstParts base l ps w) : RP { Dat.none with his := l } ps w := by
 obtain ⟨v, lo, rfl, rfl, ho⟩ := h; exact ⟨⟨[], [], [], [], [], [], lo⟩, _, _, _, _, _, _, _, rfl, rfl, noR _ _, zaX _ _ _, noS _ _, noX _ _, zaX _ _ _, zaX _ _ _, ho.sl.yes⟩
end Go.Proofs.YtbkookiigkckdaaGreatDoor
