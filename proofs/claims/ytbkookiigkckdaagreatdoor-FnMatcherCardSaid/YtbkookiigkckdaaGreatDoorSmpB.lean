/- Samples: the encoder. -/
import Derived.Test.YtbkookiigkckdaaGreatDoorSmp

namespace Go.Proofs.YtbkookiigkckdaaGreatDoor
open Go.RowKit
set_option linter.unusedVariables false
set_option linter.unusedSimpArgs false

theorem run_store_float (w : World) (a : Addr) (k : FloatKind) (b : Nat) (m : Mode) : (store a (.float k b) m).run Tryz.prog w = stored Tryz.prog w a (.float k b) m := run_store Tryz.prog w a _ m rfl

theorem Enc.alloc {w : World} {e : Nat} {o : Option Nat} {xs : List UInt8} (h : Enc w e o xs) (ob : Obj) : Enc (w.alloc ob) e o xs := by
  obtain ⟨v, cs, hb, hs, h0, hown, hv⟩ := h
  exact ⟨v, cs, hb.alloc ob, hs, h0, hown.alloc ob, hv⟩
theorem Enc.drew {w : World} {e : Nat} {o : Option Nat} {xs : List UInt8} (h : Enc w e o xs) : Enc w.drew e o xs := h
theorem Put.alloc {w w1 : World} {e : Nat} {o : Option Nat} {xs ys : List UInt8} (h : Put w e o xs ys w1) (ob : Obj) : Put w e o xs ys (w1.alloc ob) := by
  obtain ⟨o1, he, hf, ho⟩ := h
  exact ⟨o1, he.alloc ob, hf.alloc ob, ho⟩
/-- A fresh Encbuf over a row of bytes. -/
theorem Enc.made {w : World} {v : Value} {xs : List UInt8} {z : Value} (h : w.ownsRow 0 5 1 v xs.length (bc xs)) (ob : Obj) (hob : ob = .cells #[v, z, z, z, z, z, z, z, z, z, z] 224) : Enc (w.alloc ob) w.heap.size v.ownBlock xs := by
  subst hob
  exact ⟨v, _, Blk.new w 224 _, rfl, rfl, h.alloc _, rfl⟩

theorem wrap64_bd (x : Int) : -9223372036854775808 ≤ wrap64 x ∧ wrap64 x ≤ 9223372036854775807 := by unfold wrap64; omega

def dRef (f s : Smp) : Int := wrap64 (wrap64 s.ref - wrap64 f.ref)
def dT (f s : Smp) : Int := wrap64 (s.t - f.t)
def encSmp (f s : Smp) : List UInt8 := Lib.uvarint (Lib.zigzag (dRef f s)) ++ (Lib.uvarint (Lib.zigzag (dT f s)) ++ Lib.beBytes 8 s.v)
def encHdr (f : Smp) : List UInt8 := Lib.beBytes 8 f.ref ++ Lib.beBytes 8 (u64 f.t)
def encSamples : List Smp → List UInt8
  | [] => [2]
  | f :: r => [2] ++ (encHdr f ++ (f :: r).flatMap (encSmp f))

theorem zz_len (x : Int) (h0 : -9223372036854775808 ≤ x) (h1 : x ≤ 9223372036854775807) : (Lib.uvarint (Lib.zigzag x)).length ≤ 10 := Lib.uvarint_length64 (by unfold Lib.zigzag; split <;> omega)
theorem encSmp_len (f s : Smp) : (encSmp f s).length ≤ 28 := by
  have h1 := zz_len (dRef f s) (wrap64_bd _).1 (wrap64_bd _).2
  have h2 := zz_len (dT f s) (wrap64_bd _).1 (wrap64_bd _).2
  simp only [encSmp, List.length_append, Lib.beBytes_length]
  omega
theorem flatMap_len {α : Type} (f : α → List UInt8) (m : Nat) (hf : ∀ x, (f x).length ≤ m) : ∀ l : List α, (l.flatMap f).length ≤ l.length * m
  | [] => by simp
  | x :: l => by
    have h1 := flatMap_len f m hf l
    have h2 := hf x
    rw [List.flatMap_cons, List.length_append, List.length_cons, Nat.add_mul]
    omega
theorem flatMap_take_succ' {α β : Type} (f : α → List β) (l : List α) (k : Nat) (x : α) (h : l[k]? = some x) : (l.take (k + 1)).flatMap f = (l.take k).flatMap f ++ f x := by
  rw [List.take_add_one, h]; simp

def EncodeEnds (w : World) (o : Option Nat) (ys : List UInt8) (r : Ending) (w' : World) : Prop :=
  ∃ v', r = .returned v' ∧ w'.ownsRow 0 5 1 v' ys.length (bc ys) ∧ Fr (fun k => some k = o) w w' ∧ (v'.ownBlock = o ∨ ∃ k, v'.ownBlock = some k ∧ w.heap.size ≤ k)

theorem Enc.apart {w : World} {e : Nat} {o : Option Nat} {xs : List UInt8} (h : Enc w e o xs) {g t : Nat} {cs : Array Value} (hb : Blk w g t cs) (h1 : t ≠ 224) (h2 : t ≠ 5) : ¬ (g = e ∨ some g = o) := by
  obtain ⟨v, cs', hb', _, _, hown, rfl⟩ := h
  rintro (rfl | h)
  · exact Blk.ne_ hb hb' h1 rfl
  · exact own_ne hown hb (Ne.symm h2) h.symm
theorem Put.blk {w w' : World} {e : Nat} {o : Option Nat} {xs ys : List UInt8} (h : Put w e o xs ys w') (he : Enc w e o xs) {g t : Nat} {cs : Array Value} (hb : Blk w g t cs) (h1 : t ≠ 224) (h2 : t ≠ 5) : Blk w' g t cs := by
  obtain ⟨_, _, hf, _⟩ := h
  exact hb.fr hf (he.apart hb h1 h2)
theorem Put.fr {w w' : World} {e : Nat} {o : Option Nat} {xs ys : List UInt8} (h : Put w e o xs ys w') : Fr (fun k => k = e ∨ some k = o) w w' := let ⟨_, _, hf, _⟩ := h; hf

/-- Every block that is no Encbuf and no row of bytes stands. -/
def Keeps (w w' : World) : Prop := ∀ g t cs, t ≠ 224 → t ≠ 5 → Blk w g t cs → Blk w' g t cs
theorem Put.keeps {w w' : World} {e : Nat} {o : Option Nat} {xs ys : List UInt8} (h : Put w e o xs ys w') (he : Enc w e o xs) : Keeps w w' := fun g t cs h1 h2 hb => h.blk he hb h1 h2
theorem put_more2 {e : Nat} {o : Option Nat} {w w1 : World} {xs ys zs : List UInt8} (h : Put w e o xs ys w1) {f : FuncId} {args : Array Value}
    (hc : ∀ o1, Enc w1 e o1 (xs ++ ys) → Calls Tryz.prog f args w1 (PutEnds w1 e o1 (xs ++ ys) zs)) : Calls Tryz.prog f args w1 fun r w2 => r = .returned (.tuple #[]) ∧ Put w e o xs (ys ++ zs) w2 ∧ Hid (Keeps w1 w2) := by
  obtain ⟨o1, he, hf, ho⟩ := h
  exact (hc o1 he).mono fun r w2 ⟨hr, h2⟩ => ⟨hr, Put.step he hf ho h2, h2.keeps he⟩

/-- What a fresh Encbuf in a new block tells of the world ahead of it. -/
theorem made_end {w w1 : World} {ob : Obj} {o o1 : Option Nat} (hf : Fr (fun k => k = w.heap.size ∨ some k = o) (w.alloc ob) w1) : Fr (fun k => some k = o) w w1 :=
  ((Fr.refl (fun k => some k = o) w).alloc ob).trans hf (fun k hk h => by rcases h with rfl | h; omega; exact h)

set_option maxRecDepth 100000 in
theorem encSamples_nil (ep : Value) (sv : Value) (P : Nat → Prop) (v : Value) (xs : List UInt8) (w : World) (h : Sl P w sv 3 0 []) (hown : w.ownsRow 0 5 1 v xs.length (bc xs)) (hl : xs.length ≤ 1073741824) :
    Calls Tryz.prog 92 #[ep, sv, v] w (EncodeEnds w v.ownBlock (xs ++ [2])) := by
  obtain ⟨A, c, rfl, hlen, hnc, hr⟩ := h
  obtain ⟨a', n', k', rfl⟩ := own_slice hown
  have hE := Enc.made (z := .int .u8 0) hown _ rfl
  have hP := putByte w.heap.size _ xs 2 _ hE (by omega)
  have e2 : ((2 : UInt8).toNat : Int) = 2 := rfl
  rw [e2] at hP
  clear hE hr e2
  go_enter Tryz.func92, Tryz.ntmps92
  go_wp2_with (first | (go_at_call 180; refine hP.mono ?_; rintro r w1 ⟨rfl, R⟩; obtain ⟨o1, hE1, hf1, ho1⟩ := R; have hG := encGet _ _ _ _ hE1) | (go_at_call 116; refine hG.mono ?_; rintro r w2 ⟨v2, rfl, rfl, hown2, hv2⟩))
  go_ret
  refine ⟨v2, rfl, hown2, made_end (o1 := o1) hf1, ?_⟩
  rw [hv2]
  rcases ho1 with h | ⟨k, h, hk⟩
  · exact .inl h
  · exact .inr ⟨k, h, by simp at hk; omega⟩

set_option maxRecDepth 100000 in
set_option maxHeartbeats 2000000 in
theorem encSamples_cons (ep : Value) (sv : Value) (P : Nat → Prop) (v : Value) (xs : List UInt8) (f : Smp) (r : List Smp) (w : World) (h : Sl P w sv 3 (r.length + 1) ((f :: r).flatMap Smp.b)) (hown : w.ownsRow 0 5 1 v xs.length (bc xs)) (hl : xs.length ≤ 1073741824)
    (hsl : r.length ≤ 1073741824) (hwf : ∀ s ∈ f :: r, s.wf) (hP : ∀ g, P g → g < w.heap.size ∧ some g ≠ v.ownBlock) :
    Calls Tryz.prog 92 #[ep, sv, v] w (EncodeEnds w v.ownBlock (xs ++ encSamples (f :: r))) := by
  have HS := Lib.hid h
  obtain ⟨A, c, rfl, hlen, hnc, hr⟩ := h
  obtain ⟨a', n', k', rfl⟩ := own_slice hown
  obtain ⟨n, hn⟩ : ∃ n, r.length + 1 = n := ⟨_, rfl⟩
  rw [hn] at HS hnc hr ⊢
  obtain ⟨g, off, rfl, hPg, hcell⟩ := hr (by omega)
  have hE := Enc.made (z := .int .u8 0) hown _ rfl
  have hQ := putByte w.heap.size _ xs 2 _ hE (by omega)
  have e2 : ((2 : UInt8).toNat : Int) = 2 := rfl
  rw [e2] at hQ
  have HN := Lib.hid hn
  have c0 : w.cell? ⟨g, off, none⟩ = some (.int .u64 f.ref) := by simpa using hcell 0 _ rfl
  have c1 : w.cell? ⟨g, off + 1, none⟩ = some (.int .i64 f.t) := hcell 1 _ rfl
  have c2 : w.cell? ⟨g, off + 2, none⟩ = some (.float .f64 f.v) := hcell 2 _ rfl
  have hg := hP g hPg
  have hn0 : ((n : Int) == 0) = false := by simp; omega
  have hn1 : (0 : Int) < (n : Int) := by omega
  have HCELL := Lib.hid hcell
  have hsf := run_store_float
  clear hE hr e2 hn hlen hcell
  go_enter Tryz.func92, Tryz.ntmps92
  go_wp2_with (go_at_call 180; refine hQ.mono ?_; rintro r1 w1 ⟨rfl, R⟩; refine Hid.out ?_)
  obtain ⟨o1, hE1, hf1, ho1⟩ := R
  have hF1 := made_end (o1 := o1) hf1
  have hlt1 := hf1.size
  simp at hlt1
  have hk1 : ∀ j u, w.cell? ⟨g, off + j, none⟩ = some u → w1.cell? ⟨g, off + j, none⟩ = some u := fun j u hu => by
    rw [hF1.cell (p := ⟨g, off + j, none⟩) hg.1 hg.2]; exact hu
  have d0 : w1.cell? ⟨g, off, none⟩ = some (.int .u64 f.ref) := hk1 0 _ c0
  have d1 := hk1 1 _ c1
  have d2 := hk1 2 _ c2
  have hB1 := Blk.new w1 137 #[.int .u64 f.ref, .int .i64 f.t, .float .f64 f.v]
  have hE1' := hE1.alloc (.cells #[.int .u64 f.ref, .int .i64 f.t, .float .f64 f.v] 137)
  have hQ2 := putBE64 w.heap.size o1 (xs ++ [2]) f.ref (hwf f (by simp)).1 _ hE1' (by simp; omega)
  have HE := Lib.hid hE1'
  have HB := Lib.hid hB1
  have HF1 := Lib.hid hF1
  have HO1 := Lib.hid ho1
  clear hQ hf1 hF1 hk1 c0 c1 c2 ho1 hB1 hE1 hE1'
  refine Lib.hid ?_
  go_wp2_with (go_at_call 181; refine hQ2.mono ?_; rintro r2 w2 ⟨rfl, R2⟩; refine Hid.out ?_)
  have hB2 := R2.blk HE.out HB.out (by decide) (by decide)
  have b0 := hB2.cell 0
  have b1 := hB2.cell 1
  have b2 := hB2.cell 2
  simp at b0 b1 b2
  have hQ3 := put_more w.heap.size o1 R2 (f := 182) (args := #[.pointer (some ⟨w.heap.size, 0, none⟩), .int .i64 f.t]) (zs := Lib.beBytes 8 (u64 f.t)) (fun o2 he => putBE64int64 _ o2 _ f.t w2 he (by simp [Lib.beBytes_length]; omega))
  have hs2 := R2.fr.size
  clear hQ2 d0 d1 d2
  refine Lib.hid ?_
  go_wp2_with (go_at_call 182; refine hQ3.mono ?_; rintro r3 w3 ⟨rfl, R3⟩; refine Hid.out ?_)
  have hB3 := R3.blk HE.out HB.out (by decide) (by decide)
  have b0' := hB3.cell 0
  have b1' := hB3.cell 1
  simp at b0' b1'
  clear hQ3 b0 b1 b2 hB2 R2
  refine Lib.hid ?_
  go_wp2_with fail
  have hFW : Fr (fun k => some k = (Value.slice a' n' k').ownBlock) w (w1.alloc (.cells #[.int .u64 f.ref, .int .i64 f.t, .float .f64 f.v] 137)) := HF1.out.alloc _
  clear hB3 b0' b1' HF1
  generalize hWB : w1.alloc (.cells #[.int .u64 f.ref, .int .i64 f.t, .float .f64 f.v] 137) = WB at R3 HE HB hFW
  clear hWB
  generalize hf8 : w1.heap.size = f8 at HB hlt1
  have hO1 : ∀ k, k < w.heap.size → (k = w.heap.size ∨ some k = o1) → some k = (Value.slice a' n' k').ownBlock := by
    rintro k hk (rfl | h)
    · omega
    · rcases HO1.out with h1 | ⟨k2, h1, h2⟩
      · rw [h, h1]
      · rw [h1] at h; injection h with h; simp at h2; omega
  have HFW := Lib.hid hFW
  have HO := Lib.hid hO1
  clear hFW hO1 hf8
  go_loopw [29] (fun i wr => ∃ k : Nat, k ≤ n ∧ i = .int .i64 k ∧ Put WB w.heap.size o1 (xs ++ [2]) (encHdr f ++ ((f :: r).take k).flatMap (encSmp f)) wr) (fun i _ => n - (intOf i).toNat)
  case atStart => exact ⟨0, Nat.zero_le _, rfl, by simpa [encHdr] using R3⟩
  case round =>
    obtain ⟨k, hk, rfl, R⟩ := hrel
    by_cases hlt : k < n
    · obtain ⟨x, hx⟩ : ∃ x, (f :: r)[k]? = some x := ⟨_, List.getElem?_eq_getElem (by rw [List.length_cons, HN.out]; exact hlt)⟩
      have hwx := hwf x (List.mem_of_getElem? hx)
      have hFk : Fr (fun k => some k = (Value.slice a' n' k').ownBlock) w wr := HFW.out.trans R.fr HO.out
      have cc : ∀ j, j < 3 → ∀ u, (Smp.b x)[j]? = some u → wr.cell? ⟨g, off + (k * 3 + j), none⟩ = some u := fun j hj u hu => by
        rw [hFk.cell (p := ⟨g, off + (k * 3 + j), none⟩) hg.1 hg.2]
        exact HCELL.out (k * 3 + j) u (by rw [flat3 Smp.b (fun _ => rfl) (f :: r) k x hx j hj]; exact hu)
      have d0 : wr.cell? ⟨g, off + k * 3, none⟩ = some (.int .u64 x.ref) := cc 0 (by omega) _ rfl
      have d1 : wr.cell? ⟨g, off + k * 3 + 1, none⟩ = some (.int .i64 x.t) := cc 1 (by omega) _ rfl
      have d2 : wr.cell? ⟨g, off + k * 3 + 2, none⟩ = some (.float .f64 x.v) := cc 2 (by omega) _ rfl
      have hBk := R.blk HE.out HB.out (by decide) (by decide)
      have b0 := hBk.cell 0
      have b1 := hBk.cell 1
      simp at b0 b1
      have f8lt := hBk.lt
      have hyl : (encHdr f ++ ((f :: r).take k).flatMap (encSmp f)).length ≤ 16 + k * 28 := by
        have h1 := flatMap_len (encSmp f) 28 (encSmp_len f) ((f :: r).take k)
        have h2 : ((f :: r).take k).length ≤ k := List.length_take_le _ _
        have h3 : ((f :: r).take k).length * 28 ≤ k * 28 := Nat.mul_le_mul_right _ h2
        have h4 : (encHdr f).length = 16 := by simp [encHdr, Lib.beBytes_length]
        rw [List.length_append, h4]; omega
      have hn1 : n ≤ 1073741825 := by have := HN.out; omega
      have hxl : (xs ++ [(2 : UInt8)]).length = xs.length + 1 := by simp
      have RA := R.alloc (.cells #[.int .u64 x.ref, .int .i64 x.t, .float .f64 x.v] 137)
      have hQ1 := put_more2 RA (f := 183) (args := #[.pointer (some ⟨w.heap.size, 0, none⟩), .int .i64 (dRef f x)]) (zs := Lib.uvarint (Lib.zigzag (dRef f x))) (fun o2 he => putVarint64 _ o2 _ _ (wrap64_bd _).1 (wrap64_bd _).2 _ he (by rw [List.length_append, hxl]; omega))
      have hBx := Blk.new wr 137 #[.int .u64 x.ref, .int .i64 x.t, .float .f64 x.v]
      have HX := Lib.hid hx
      have HBX := Lib.hid hBx
      have HL := Lib.hid hyl
      have HXL := Lib.hid hxl
      have hl1 := zz_len (dRef f x) (wrap64_bd _).1 (wrap64_bd _).2
      have hl2 := zz_len (dT f x) (wrap64_bd _).1 (wrap64_bd _).2
      unfold dRef at hQ1
      clear hx hFk cc hBk hBx hyl hxl R3 HS
      go_wp2_with (go_at_call 183; refine hQ1.mono ?_; rintro rA wA ⟨rfl, RB, KB⟩; refine Hid.out ?_)
      have hBx := KB.out _ _ _ (by decide) (by decide) HBX.out
      have hBf := RB.blk HE.out HB.out (by decide) (by decide)
      have x0 := hBx.cell 0
      have x1 := hBx.cell 1
      have x2 := hBx.cell 2
      have y0 := hBf.cell 0
      have y1 := hBf.cell 1
      simp at x0 x1 x2 y0 y1
      have HBY := Lib.hid hBx
      have hQ2 := put_more2 RB (f := 183) (args := #[.pointer (some ⟨w.heap.size, 0, none⟩), .int .i64 (dT f x)]) (zs := Lib.uvarint (Lib.zigzag (dT f x))) (fun o2 he => putVarint64 _ o2 _ _ (wrap64_bd _).1 (wrap64_bd _).2 _ he (by have h1 := hl1; unfold dRef at h1; have := HL.out; rw [List.length_append, HXL.out, List.length_append]; omega))
      unfold dT at hQ2
      clear hQ1 d0 d1 d2 b0 b1 hBx hBf
      refine Lib.hid ?_
      go_wp2_with (go_at_call 183; refine hQ2.mono ?_; rintro rC wC ⟨rfl, RC, KC⟩; refine Hid.out ?_)
      have hBx := KC.out _ _ _ (by decide) (by decide) HBY.out
      have z2 := hBx.cell 2
      simp at z2
      have hr8 := run168
      have hQ3 := put_more2 RC (f := 181) (args := #[.pointer (some ⟨w.heap.size, 0, none⟩), .int .u64 x.v]) (zs := Lib.beBytes 8 x.v) (fun o2 he => putBE64 _ o2 _ _ hwx.2.2.2 _ he (by have h1 := hl1; unfold dRef at h1; have h2 := hl2; unfold dT at h2; have := HL.out; rw [List.length_append, HXL.out, List.length_append, List.length_append]; omega))
      clear hQ2 x0 x1 x2 y0 y1 hBx
      refine Lib.hid ?_
      go_wp2_with (go_at_call 181; refine hQ3.mono ?_; rintro rD wD ⟨rfl, RD, KD⟩)
      have RE : Put WB w.heap.size o1 (xs ++ [2]) (encHdr f ++ ((f :: r).take (k + 1)).flatMap (encSmp f)) wD := by
        rw [flatMap_take_succ' (encSmp f) (f :: r) k x HX.out]
        simpa [encSmp, dRef, dT, List.append_assoc] using RD
      have HRE := Lib.hid RE
      clear RE RD RC RB hQ3 z2 KB KC KD R
      go_wp2
      go_roundw
      case rel => exact ⟨k + 1, by omega, by go_num, HRE.out⟩
      case measure => simp [intOf]; omega
    · obtain rfl : k = n := by omega
      obtain ⟨oZ, hEZ, hfZ, hoZ⟩ := R
      have hG := encGet _ _ _ _ hEZ
      have HEZ := Lib.hid hEZ
      have HZ := Lib.hid hfZ
      clear hEZ hfZ R3 HS
      go_wp2_with (go_at_call 116; refine hG.mono ?_; rintro rr w2 ⟨v2, rfl, rfl, hown2, hv2⟩)
      go_ret
      refine ⟨v2, rfl, ?_, HFW.out.trans HZ.out HO.out, ?_⟩
      · have e1 : (f :: r).take k = f :: r := List.take_of_length_le (by rw [List.length_cons, HN.out]; exact Nat.le_refl _)
        rw [e1] at hown2
        simpa [encSamples, List.append_assoc] using hown2
      · rw [hv2]
        have hws := HFW.out.size
        rcases hoZ with h | ⟨k2, h, hk2⟩
        · rw [h]
          rcases HO1.out with h1 | ⟨k2, h1, hk2⟩
          · exact .inl h1
          · exact .inr ⟨k2, h1, by simp at hk2; omega⟩
        · exact .inr ⟨k2, h, by omega⟩

end Go.Proofs.YtbkookiigkckdaaGreatDoor
