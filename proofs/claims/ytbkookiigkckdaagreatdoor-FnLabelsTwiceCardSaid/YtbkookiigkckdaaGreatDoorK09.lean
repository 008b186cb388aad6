/- Texts of this seat, merged: Wb, Mk, Ty, Lp. -/
import Derived.Test.YtbkookiigkckdaaGreatDoorK03
import Derived.Test.YtbkookiigkckdaaGreatDoorK08
import Derived.Test.YtbkookiigkckdaaGreatDoorK02
import Derived.BigRegion
namespace Go.Proofs.YtbkookiigkckdaaGreatDoor
open Go.RowKit
set_option linter.unusedVariables false
set_option linter.unusedSimpArgs false


theorem src_sl {P : Nat → Prop} {w : World} {v : Value} {size m tx e : Nat} {cs : List Value} (hk : Tryz.prog.underlying tx = some (.slice e)) (h : Sl P w v size m cs) (h1 : ∀ u ∈ cs, u.oneCell' = true) : Src Tryz.prog size tx v m cs w := by
  obtain ⟨A, c, rfl, hl, hc, hr⟩ := h
  rcases Nat.eq_zero_or_pos m with rfl | hm
  · have : cs = [] := List.eq_nil_of_length_eq_zero (by simpa using hl)
    subst this
    rcases A with _ | a
    · exact Src.ofNil (e' := e) _ hk c
    · exact Src.ofSlice (e' := e) _ hk a 0 c [] (by simp) (fun j u hj => by simp at hj) h1
  · obtain ⟨g, off, rfl, _, hcell⟩ := hr hm
    exact Src.ofSlice (e' := e) _ hk ⟨g, off, none⟩ m c cs hl (fun j u hj => by
      have e1 : (⟨g, off, none⟩ : Addr).add j = ⟨g, off + j, none⟩ := by unfold Addr.add; split <;> simp_all
      rw [e1]; exact hcell j u hj) h1

/-- What the closure of RecordWrite does, whatever the kind: the record's bytes, and what is handed back. -/
def W1Ends (L : Value → World → Prop) (w : World) (br bl : Nat) (o : Option Nat) (ys : List UInt8) (r : Ending) (w' : World) : Prop :=
  r = .returned (.tuple #[]) ∧ ∃ v' lv, Blk w' br 44 #[v'] ∧ Blk w' bl 52 #[lv] ∧ L lv w' ∧ w'.ownsRow 0 5 1 v' ys.length (bc ys) ∧ Fr (fun k => some k = o ∨ k = br ∨ k = bl) w w' ∧ (v'.ownBlock = o ∨ ∃ k, v'.ownBlock = some k ∧ w.heap.size ≤ k)

def WriteEnds (L : Value → World → Prop) (w : World) (ys : List UInt8) (r : Ending) (w' : World) : Prop :=
  ∃ v' lv, r = .returned (.tuple #[v', lv]) ∧ L lv w' ∧ w'.ownsRow w.heap.size 5 1 v' ys.length (bc ys) ∧ Fr (fun _ => False) w w'

theorem own_up {w : World} {base b : Nat} {e : TypeId} {size n : Nat} {v : Value} {xs : List Value} (h : w.ownsRow b e size v n xs) (hb : ∀ g, v.ownBlock = some g → base ≤ g) : w.ownsRow base e size v n xs :=
  ⟨h.1, h.2.imp id fun ⟨g, cap, cur, h1, h2, h3⟩ => ⟨g, cap, cur, h1, hb g (by rw [h1]; rfl), h3⟩⟩

/-- The world that RecordWrite has made when it calls its closure. -/
structure Laid (w W : World) (kind pv bv : Value) : Prop where
  k : Blk W w.heap.size 3 #[kind]
  p : Blk W (w.heap.size + 1) 54 pv.cells
  b : Blk W (w.heap.size + 2) 44 #[bv]
  r : Blk W (w.heap.size + 3) 44 #[.slice none 0 0]
  l : Blk W (w.heap.size + 4) 52 #[.slice none 0 0]
  f : Fr (fun _ => False) w W

theorem laid_mk (w : World) (kind bv : Value) (p : Array Value) :
    let W := ((((((w.alloc (.cells #[kind] 3)).alloc (.cells p 54)).alloc (.cells #[bv] 44)).alloc (.cells #[.slice none 0 0] 44)).alloc (.cells #[.slice none 0 0] 52)).alloc (.cells #[] 196)).alloc (.cells #[] 5)
    Blk W w.heap.size 3 #[kind] ∧ Blk W (w.heap.size + 1) 54 p ∧ Blk W (w.heap.size + 2) 44 #[bv] ∧ Blk W (w.heap.size + 3) 44 #[.slice none 0 0] ∧ Blk W (w.heap.size + 4) 52 #[.slice none 0 0] ∧ Fr (fun _ => False) w W ∧ W.heap.size = w.heap.size + 7 ∧ W.ownsRow w.heap.size 5 1 (.slice (some ⟨w.heap.size + 6, 0, none⟩) 0 0) 0 [] := by
  intro W
  have e : ∀ (w : World) (o : Obj), (w.alloc o).heap.size = w.heap.size + 1 := fun w o => by simp
  refine ⟨?_, ?_, ?_, ?_, ?_, ?_, ?_, ?_⟩
  · exact ((((((Blk.new w 3 _).alloc _).alloc _).alloc _).alloc _).alloc _).alloc _
  · have := (((((Blk.new (w.alloc (.cells #[kind] 3)) 54 p).alloc (.cells #[bv] 44)).alloc (.cells #[.slice none 0 0] 44)).alloc (.cells #[.slice none 0 0] 52)).alloc (.cells #[] 196)).alloc (.cells #[] 5)
    rwa [e] at this
  · have := ((((Blk.new ((w.alloc (.cells #[kind] 3)).alloc (.cells p 54)) 44 #[bv]).alloc (.cells #[.slice none 0 0] 44)).alloc (.cells #[.slice none 0 0] 52)).alloc (.cells #[] 196)).alloc (.cells #[] 5)
    rwa [e, e] at this
  · have := (((Blk.new (((w.alloc (.cells #[kind] 3)).alloc (.cells p 54)).alloc (.cells #[bv] 44)) 44 #[.slice none 0 0]).alloc (.cells #[.slice none 0 0] 52)).alloc (.cells #[] 196)).alloc (.cells #[] 5)
    rwa [e, e, e] at this
  · have := ((Blk.new ((((w.alloc (.cells #[kind] 3)).alloc (.cells p 54)).alloc (.cells #[bv] 44)).alloc (.cells #[.slice none 0 0] 44)) 52 #[.slice none 0 0]).alloc (.cells #[] 196)).alloc (.cells #[] 5)
    rwa [e, e, e, e] at this
  · exact (((((((Fr.refl _ w).alloc _).alloc _).alloc _).alloc _).alloc _).alloc _).alloc _
  · simp [W]
  · have := World.ownsRow_made (base := w.heap.size) (e := 5) (size := 1) ((((((w.alloc (.cells #[kind] 3)).alloc (.cells p 54)).alloc (.cells #[bv] 44)).alloc (.cells #[.slice none 0 0] 44)).alloc (.cells #[.slice none 0 0] 52)).alloc (.cells #[] 196)) #[] 0 (by simp; omega) (Nat.zero_le _) rfl
    simp only [e] at this
    exact this

theorem ne_own {g k n c : Nat} (h : g ≠ k) : some g ≠ (Value.slice (some ⟨k, 0, none⟩) n c).ownBlock := fun e => h (Option.some.inj e)
/-- A world in which only variables of the call's own have changed. -/
def Vars (W W' : World) : Prop := Fr (fun k => ∃ cs, Blk W k 4 cs ∨ Blk W k 44 cs ∨ Blk W k 52 cs) W W'

set_option maxRecDepth 100000 in
set_option maxHeartbeats 2000000 in
theorem recordWrite_of (kind : Int) (s0 s1 s2 s3 s4 s5 s6 bv : Value) (xs ys : List UInt8) (P : Nat → Prop) (L : Value → World → Prop) (w : World) (hb : Sl P w bv 1 xs.length (bc xs)) (hxl : xs.length ≤ 1073741824)
    (hsl : ∀ s ∈ [s0, s1, s2, s3, s4, s5, s6], ∃ A m c, s = .slice A m c) (hLs : ∀ lv W, L lv W → ∃ A m c, lv = .slice A m c)
    (hL : ∀ lv W W', L lv W → Vars W W' → L lv W')
    (hc : ∀ (bk be bp bb br bl : Nat) (v : Value) (W : World), Blk W bk 3 #[.int .i64 kind] → Blk W bp 54 #[s0, s1, s2, s3, s4, s5, s6] → Blk W bb 44 #[v] → Blk W br 44 #[.slice none 0 0] → Blk W bl 52 #[.slice none 0 0] → W.ownsRow w.heap.size 5 1 v xs.length (bc xs) →
      bb ≠ br → Fr (fun _ => False) w W → Calls Tryz.prog 90 #[.pointer (some ⟨bk, 0, none⟩), .pointer (some ⟨be, 0, none⟩), .pointer (some ⟨bp, 0, none⟩), .pointer (some ⟨bb, 0, none⟩), .pointer (some ⟨br, 0, none⟩), .pointer (some ⟨bl, 0, none⟩)] W (W1Ends L W br bl v.ownBlock ys)) :
    Calls Tryz.prog 31 #[.int .i64 kind, .agg #[s0, s1, s2, s3, s4, s5, s6], bv] w (WriteEnds L w ys) := by
  obtain ⟨i0, hi0, hz0, hz1, hz2⟩ := info_parts Tryz.info5
  have HB := Lib.hid hb
  have HC := Lib.hid hc
  have HL := Lib.hid hL
  have HLS := Lib.hid hLs
  have hbv : ∃ A m c, bv = .slice A m c := let ⟨A, c, h, _⟩ := hb; ⟨A, _, c, h⟩
  obtain ⟨A, m, c, rfl⟩ := hbv
  obtain ⟨A0, m0, c0, rfl⟩ := hsl s0 (by simp)
  obtain ⟨A1, m1, c1, rfl⟩ := hsl s1 (by simp)
  obtain ⟨A2, m2, c2, rfl⟩ := hsl s2 (by simp)
  obtain ⟨A3, m3, c3, rfl⟩ := hsl s3 (by simp)
  obtain ⟨A4, m4, c4, rfl⟩ := hsl s4 (by simp)
  obtain ⟨A5, m5, c5, rfl⟩ := hsl s5 (by simp)
  obtain ⟨A6, m6, c6, rfl⟩ := hsl s6 (by simp)
  clear hb hc hL hsl hLs
  have hmf : ∀ (fn : Fn) (first cap : Array Value) (w : World), (Instr.makeFunc fn first cap).run Tryz.prog w = .ok (.func fn first cap) w := fun _ _ _ _ => rfl
  go_enter Tryz.func31, Tryz.ntmps31
  go_wp2_with (at_builtin; refine Hid.out ?_)
  have hM := laid_mk w (.int .i64 kind) (.slice A m c) #[.slice A0 m0 c0, .slice A1 m1 c1, .slice A2 m2 c2, .slice A3 m3 c3, .slice A4 m4 c4, .slice A5 m5 c5, .slice A6 m6 c6]
  dsimp only at hM
  generalize hW : World.alloc _ (Obj.cells #[] 5) = W at hM ⊢
  clear hW
  obtain ⟨B3, B4, B5, B6, B7, hF, hS, hO⟩ := hM
  have HS := Lib.hid hS
  have hsrc := src_sl Tryz.underlying44 (HB.out.fr hF (fun _ _ e => e)) (bc_one xs)
  refine wpList_append_src _ rfl _ _ 44 44 rfl w.heap.size 5 i0 (.int .u8 0) 1 1 Tryz.underlying44 hi0 hz0 hz1 hz2 rfl (by decide) _ 0 [] rfl hO _ xs.length (bc xs) rfl hsrc (by unfold maxLen; omega) (by omega) (by omega) ?_
  intro v' w2 hown' hgrow hat
  rw [Nat.zero_add, List.nil_append] at hown'
  obtain ⟨a2, n2, k2, rfl⟩ := own_slice hown'
  have hge : ∀ g, (Value.slice a2 n2 k2).ownBlock = some g → w.heap.size + 6 ≤ g := fun g hg => by
    rcases hat with h | h <;> rw [h] at hg
    · injection hg with hg; exact Nat.le_of_eq hg
    · injection hg with hg; omega
  have g3 := B3.grown hgrow (ne_own (by omega))
  have g4 := B4.grown hgrow (ne_own (by omega))
  have g5 := B5.grown hgrow (ne_own (by omega))
  have g6 := B6.grown hgrow (ne_own (by omega))
  have g7 := B7.grown hgrow (ne_own (by omega))
  have gF := hF.grown hgrow (fun k hk => .inr (by have hk : w.heap.size + 6 = k := Option.some.inj hk; omega))
  have q2 : w2.cell? ⟨w.heap.size + 1 + 1, 0, none⟩ = some (.slice A m c) := by simpa using g5.cell 0
  have z2 : w2.frozen? ⟨w.heap.size + 1 + 1, 0, none⟩ = false := g5.frozen 0
  obtain ⟨W3, hW3⟩ : ∃ W3, w2.setCell ⟨w.heap.size + 1 + 1, 0, none⟩ (.slice a2 n2 k2) = W3 := ⟨_, rfl⟩
  have h3 : Blk W3 w.heap.size 3 #[.int .i64 kind] := hW3 ▸ g3.far (p := ⟨w.heap.size + 1 + 1, 0, none⟩) (by show w.heap.size ≠ w.heap.size + 1 + 1; omega) _
  have h4 : Blk W3 (w.heap.size + 1) 54 #[.slice A0 m0 c0, .slice A1 m1 c1, .slice A2 m2 c2, .slice A3 m3 c3, .slice A4 m4 c4, .slice A5 m5 c5, .slice A6 m6 c6] := hW3 ▸ g4.far (p := ⟨w.heap.size + 1 + 1, 0, none⟩) (by show w.heap.size + 1 ≠ w.heap.size + 1 + 1; omega) _
  have h5 : Blk W3 (w.heap.size + 2) 44 #[.slice a2 n2 k2] := hW3 ▸ (by simpa using g5.set_ 0 (.slice a2 n2 k2))
  have h6 : Blk W3 (w.heap.size + 3) 44 #[.slice none 0 0] := hW3 ▸ g6.far (p := ⟨w.heap.size + 1 + 1, 0, none⟩) (by show w.heap.size + 3 ≠ w.heap.size + 1 + 1; omega) _
  have h7 : Blk W3 (w.heap.size + 4) 52 #[.slice none 0 0] := hW3 ▸ g7.far (p := ⟨w.heap.size + 1 + 1, 0, none⟩) (by show w.heap.size + 4 ≠ w.heap.size + 1 + 1; omega) _
  have h8 : Fr (fun _ => False) w W3 := hW3 ▸ gF.setCell (p := ⟨w.heap.size + 1 + 1, 0, none⟩) (.inr (by show w.heap.size ≤ w.heap.size + 1 + 1; omega)) _
  have h9 : W3.ownsRow w.heap.size 5 1 (.slice a2 n2 k2) xs.length (bc xs) := hW3 ▸ own_fr hown' (Fr.put_ w2 (w.heap.size + 1 + 1) 0 _) (fun g hg e => by have := hge g hg; omega)
  have hlt3 := h7.lt
  have hcall := HC.out w.heap.size (w.heap.size + 1 + 1 + 1 + 1 + 1) (w.heap.size + 1) (w.heap.size + 1 + 1) (w.heap.size + 1 + 1 + 1) (w.heap.size + 1 + 1 + 1 + 1) (.slice a2 n2 k2) _ (h3.alloc (.cells #[.bool false] 4)) (h4.alloc _) (h5.alloc _) (h6.alloc _) (h7.alloc _) (h9.alloc _) (by omega) (h8.alloc _)
  have hsafe := safe_ok 90 _ W3 _ (enters_of Tryz.func90 (by kernel_rfl) rfl) (hcall.mono (fun r w' hr => ⟨hr.1, hr.2, by
    obtain ⟨_, v', lv, _, _, _, _, hf, _⟩ := hr
    refine (Blk.new W3 4 #[.bool false]).fr hf ?_
    rintro (h | h | h)
    · have := own_lt h9 h.symm; omega
    · omega
    · omega⟩))
  have HW3 := Lib.hid hW3
  clear hW3
  refine Lib.hid ?_
  have HH9 := Lib.hid h9
  have HH8 := Lib.hid h8
  have HH7 := Lib.hid hlt3
  have HGE := Lib.hid hge
  clear hcall h3 h4 h5 h6 h7 h8 h9 g3 g4 g5 g6 g7 gF B3 B4 B5 B6 B7 hF hO hsrc hgrow hat hown' HB HC hlt3 hge hS
  refine Hid.out ?_
  refine .inl ?_
  go_wp2_with (rw [HW3.out]; go_at_call 65; refine hsafe.mono ?_; rintro r w4 ⟨rfl, w5, hq, hb5, rfl⟩; refine Hid.out ?_)
  obtain ⟨v3, lv, q6, q7, qL, qO, qF, qA⟩ := hq
  obtain ⟨a3, n3, k3, rfl⟩ := own_slice qO
  obtain ⟨a4, n4, k4, rfl⟩ := HLS.out lv _ qL
  have s6 := q6.lt
  have s7 := q7.lt
  have hn3 := HH7.out
  have r6 : Blk ((w5.setCell ⟨W3.heap.size, 0, none⟩ (.bool true)).setCell ⟨W3.heap.size, 0, none⟩ (.bool true)) _ _ _ := (q6.far (p := ⟨W3.heap.size, 0, none⟩) (by show w.heap.size + 1 + 1 + 1 ≠ W3.heap.size; omega) _).far (p := ⟨W3.heap.size, 0, none⟩) (by show w.heap.size + 1 + 1 + 1 ≠ W3.heap.size; omega) _
  have r7 : Blk ((w5.setCell ⟨W3.heap.size, 0, none⟩ (.bool true)).setCell ⟨W3.heap.size, 0, none⟩ (.bool true)) _ _ _ := (q7.far (p := ⟨W3.heap.size, 0, none⟩) (by show w.heap.size + 1 + 1 + 1 + 1 ≠ W3.heap.size; omega) _).far (p := ⟨W3.heap.size, 0, none⟩) (by show w.heap.size + 1 + 1 + 1 + 1 ≠ W3.heap.size; omega) _
  have v5 : Vars w5 ((w5.setCell ⟨W3.heap.size, 0, none⟩ (.bool true)).setCell ⟨W3.heap.size, 0, none⟩ (.bool true)) :=
    ((Fr.refl _ w5).setCell (p := ⟨W3.heap.size, 0, none⟩) (.inl ⟨_, .inl hb5⟩) _).setCell (p := ⟨W3.heap.size, 0, none⟩) (.inl ⟨_, .inl hb5⟩) _
  have f5 : Fr (fun _ => False) w ((w5.setCell ⟨W3.heap.size, 0, none⟩ (.bool true)).setCell ⟨W3.heap.size, 0, none⟩ (.bool true)) := by
    have hle := HH8.out.size
    refine Fr.setCell (Fr.setCell ?_ (p := ⟨W3.heap.size, 0, none⟩) (.inr hle) _) (p := ⟨W3.heap.size, 0, none⟩) (.inr hle) _
    refine (HH8.out.alloc (.cells #[.bool false] 4)).trans qF ?_
    rintro k hk (h | h | h)
    · have := HGE.out k h.symm; omega
    · omega
    · omega
  have hown6 : ((w5.setCell ⟨W3.heap.size, 0, none⟩ (.bool true)).setCell ⟨W3.heap.size, 0, none⟩ (.bool true)).ownsRow w.heap.size 5 1 (.slice a3 n3 k3) ys.length (bc ys) := by
    refine own_up (own_fr qO (((Fr.refl (fun k => k = W3.heap.size) w5).setCell (p := ⟨W3.heap.size, 0, none⟩) (.inl rfl) _).setCell (p := ⟨W3.heap.size, 0, none⟩) (.inl rfl) _) (fun g hg e => own_ne qO hb5 (by decide) (by rw [hg, e]))) ?_
    intro g hg
    rcases qA with h | ⟨k, h, hk⟩
    · have := HGE.out g (h ▸ hg); omega
    · rw [h] at hg; injection hg with hg; simp at hk; omega
  have hL6 := HL.out _ _ _ qL v5
  refine Lib.hid ?_
  generalize World.setCell _ _ _ = w6 at r6 r7 v5 f5 hown6 hL6 ⊢
  have l6 := r6.cell 0
  have l7 := r7.cell 0
  have z6 := r6.frozen 0
  have z7 := r7.frozen 0
  simp at l6 l7
  have m6 : Blk (w6.setCell ⟨w.heap.size + 1 + 1 + 1, 0, none⟩ (.slice a3 n3 k3)) (w.heap.size + 1 + 1 + 1) 44 #[.slice a3 n3 k3] := by simpa using r6.set_ 0 (.slice a3 n3 k3)
  have m7 : Blk (w6.setCell ⟨w.heap.size + 1 + 1 + 1, 0, none⟩ (.slice a3 n3 k3)) (w.heap.size + 1 + 1 + 1 + 1) 52 #[.slice a4 n4 k4] := r7.far (p := ⟨w.heap.size + 1 + 1 + 1, 0, none⟩) (by show w.heap.size + 1 + 1 + 1 + 1 ≠ w.heap.size + 1 + 1 + 1; omega) _
  have j6 := m6.cell 0
  have j7 := m7.cell 0
  have m8 : Blk ((w6.setCell ⟨w.heap.size + 1 + 1 + 1, 0, none⟩ (.slice a3 n3 k3)).setCell ⟨w.heap.size + 1 + 1 + 1 + 1, 0, none⟩ (.slice a4 n4 k4)) (w.heap.size + 1 + 1 + 1) 44 #[.slice a3 n3 k3] := m6.far (p := ⟨w.heap.size + 1 + 1 + 1 + 1, 0, none⟩) (by show w.heap.size + 1 + 1 + 1 ≠ w.heap.size + 1 + 1 + 1 + 1; omega) _
  have m9 : Blk ((w6.setCell ⟨w.heap.size + 1 + 1 + 1, 0, none⟩ (.slice a3 n3 k3)).setCell ⟨w.heap.size + 1 + 1 + 1 + 1, 0, none⟩ (.slice a4 n4 k4)) (w.heap.size + 1 + 1 + 1 + 1) 52 #[.slice a4 n4 k4] := by simpa using m7.set_ 0 (.slice a4 n4 k4)
  have j8 := m8.cell 0
  have j9 := m9.cell 0
  simp at j6 j7 j8 j9
  have M8 := Lib.hid m8
  have M9 := Lib.hid m9
  clear m6 m7 m8 m9
  have R6 := Lib.hid r6
  have R7 := Lib.hid r7
  have F6 := Lib.hid f5
  have HO6 := Lib.hid hown6
  have HL6 := Lib.hid hL6
  clear hown6 hL6 r6 r7 v5 f5 qL qO qF qA q6 q7 hb5 hsafe q2 z2 HW3 s6 s7 hn3
  go_wp2_with fail
  go_region_held3 (fun w' => w'.cell? ⟨w.heap.size + 1 + 1 + 1, 0, none⟩ = some (.slice a3 n3 k3) ∧ w'.cell? ⟨w.heap.size + 1 + 1 + 1 + 1, 0, none⟩ = some (.slice a4 n4 k4))
    ((first | (go_split_ands; refine ⟨?_, ?_⟩ <;> first | exact j6 | exact j7) | (go_split_ands; refine ⟨?_, ?_⟩ <;> first | exact j8 | exact j9) | go_keep)) (fail)
  have HE : Fr (fun _ => False) w ((w6.setCell ⟨w.heap.size + 1 + 1 + 1, 0, none⟩ (.slice a3 n3 k3)).setCell ⟨w.heap.size + 1 + 1 + 1 + 1, 0, none⟩ (.slice a4 n4 k4)) :=
    (F6.out.setCell (p := ⟨w.heap.size + 1 + 1 + 1, 0, none⟩) (.inr (by show w.heap.size ≤ w.heap.size + 1 + 1 + 1; omega)) _).setCell (p := ⟨w.heap.size + 1 + 1 + 1 + 1, 0, none⟩) (.inr (by show w.heap.size ≤ w.heap.size + 1 + 1 + 1 + 1; omega)) _
  have HV : Vars w6 ((w6.setCell ⟨w.heap.size + 1 + 1 + 1, 0, none⟩ (.slice a3 n3 k3)).setCell ⟨w.heap.size + 1 + 1 + 1 + 1, 0, none⟩ (.slice a4 n4 k4)) :=
    ((Fr.refl _ w6).setCell (p := ⟨w.heap.size + 1 + 1 + 1, 0, none⟩) (.inl ⟨_, .inr (.inl R6.out)⟩) _).setCell (p := ⟨w.heap.size + 1 + 1 + 1 + 1, 0, none⟩) (.inl ⟨_, .inr (.inr R7.out)⟩) _
  have hown7 := own_fr HO6.out (((Fr.refl (fun k => k = w.heap.size + 1 + 1 + 1 ∨ k = w.heap.size + 1 + 1 + 1 + 1) w6).setCell (p := ⟨w.heap.size + 1 + 1 + 1, 0, none⟩) (.inl (.inl rfl)) (.slice a3 n3 k3)).setCell (p := ⟨w.heap.size + 1 + 1 + 1 + 1, 0, none⟩) (.inl (.inr rfl)) (.slice a4 n4 k4)) (by
    rintro g hg (e | e)
    · exact own_ne HO6.out R6.out (by decide) (by rw [hg, e])
    · exact own_ne HO6.out R7.out (by decide) (by rw [hg, e]))
  have HF := Lib.hid HE.drew
  have HL7 := Lib.hid (HL.out _ _ _ HL6.out HV.drew)
  have HO7 := Lib.hid (World.ownsRow.drew hown7)
  clear HE HV hown7
  go_wp2
  simp [Exit.then, bodyPost, results, Tryz.results31, go_sem, j8, j9]
  exact ⟨_, _, rfl, HL7.out, HO7.out, HF.out⟩

theorem wrote_w1 {w : World} {br bl : Nat} {v : Value} {n : Nat} {xs : List Value} {ys : List UInt8} {z : Value} (hown : w.ownsRow 0 5 1 v n xs) (hr : Blk w br 44 #[z]) (hl : Blk w bl 52 #[.slice none 0 0]) {r : Ending} {w' : World} (h : WroteEnds w br v.ownBlock ys r w') : W1Ends (fun lv _ => lv = .slice none 0 0) w br bl v.ownBlock ys r w' := by
  obtain ⟨rfl, v', hb, ho, hf, ha⟩ := h
  refine ⟨rfl, v', _, hb, hl.fr hf ?_, rfl, ho, hf.mono ?_, ha⟩
  · rintro (e | e)
    · exact own_ne hown hl (by decide) e.symm
    · exact Blk.ne_ hl hr (by decide) e
  · rintro k _ (e | e)
    · exact .inl e
    · exact .inr (.inl e)

/-- RecordWrite at samples. -/
theorem recordWrite_samples (s0 s1 s2 s3 s4 s5 s6 bv : Value) (xs : List UInt8) (l : List Smp) (P : Nat → Prop) (w : World) (hb : Sl P w bv 1 xs.length (bc xs)) (hxl : xs.length ≤ 1073741824)
    (hsl : ∀ s ∈ [s0, s1, s2, s3, s4, s5, s6], ∃ A m c, s = .slice A m c) (hs : Sl P w s1 3 l.length (l.flatMap Smp.a)) (hll : l.length ≤ 1073741824) (hwf : ∀ s ∈ l, s.wf) :
    Calls Tryz.prog 31 #[.int .i64 2, .agg #[s0, s1, s2, s3, s4, s5, s6], bv] w (WriteEnds (fun lv _ => lv = .slice none 0 0) w (xs ++ encSamples l)) := by
  refine recordWrite_of 2 s0 s1 s2 s3 s4 s5 s6 bv xs _ P _ w hb hxl hsl (by rintro lv W rfl; exact ⟨_, _, _, rfl⟩) (fun _ _ _ h _ => h) ?_
  intro bk be bp bb br bl v W hk hp hb' hr hl hown hbr hF
  exact (write1_samples bk bp bb br _ _ P s0 s1 s2 s3 s4 s5 s6 v _ xs l W hk hp hb' hr (own_mono hown (Nat.zero_le _)) (hs.fr hF (fun _ _ e => e)) hxl hll hwf hbr).mono fun r w' h => wrote_w1 (own_mono hown (Nat.zero_le _)) hr hl h

end Go.Proofs.YtbkookiigkckdaaGreatDoor

/- Markers: refMarkers, Encoder.MmapMarkers. -/
namespace Go.Proofs.YtbkookiigkckdaaGreatDoor
open Go.RowKit
set_option linter.unusedVariables false
set_option linter.unusedSimpArgs false

def Mrk.c (s : Mrk) : List Value := [.int .u64 s.ref, .int .u64 s.mm]
theorem Tryz.info166 : (Tryz.prog.info? 166).map (fun i => (i.zero, i.size, i.bytes)) = some (some (.agg #[.int .u64 0, .int .u64 0]), 2, 16) := by kernel_rfl
theorem Tryz.info168 : (Tryz.prog.info? 168).map (fun i => (i.zero, i.size, i.bytes)) = some (some (.agg #[.int .u64 0, .int .u64 0]), 2, 16) := by kernel_rfl

theorem flat2 {α : Type} (f : α → List Value) (h3 : ∀ x, (f x).length = 2) : ∀ (l : List α) (k : Nat) (x : α), l[k]? = some x → ∀ j, j < 2 → (l.flatMap f)[k * 2 + j]? = (f x)[j]?
  | [], k, x, h, j, hj => by simp at h
  | y :: l, 0, x, h, j, hj => by
    simp at h; subst h
    rw [List.flatMap_cons, List.getElem?_append_left (by rw [h3]; omega)]
    simp
  | y :: l, k + 1, x, h, j, hj => by
    rw [List.flatMap_cons, List.getElem?_append_right (by rw [h3]; omega), h3, show (k + 1) * 2 + j - 2 = k * 2 + j by omega]
    exact flat2 f h3 l k x (by simpa using h) j hj

def RefMarkersEnds (w : World) (l : List Mrk) (r : Ending) (w' : World) : Prop :=
  ∃ v, r = .returned v ∧ w'.ownsRow w.heap.size 166 2 v l.length (l.flatMap Mrk.c) ∧ Fr (fun _ => False) w w'

set_option maxHeartbeats 1000000 in
set_option maxRecDepth 100000 in
theorem refMarkers_any (P : Nat → Prop) (v : Value) (l : List Mrk) (w : World) (h : Sl P w v 2 l.length (l.flatMap Mrk.c)) (hl : l.length ≤ 1099511627776) :
    Calls Tryz.prog 80 #[v] w (RefMarkersEnds w l) := by
  obtain ⟨A, c, rfl, hlen, hnc, hr⟩ := h
  obtain ⟨n, hn⟩ : ∃ n, l.length = n := ⟨_, rfl⟩
  rw [hn] at hr hnc hl ⊢
  have HN := Lib.hid hn
  have HR := Lib.hid hr
  obtain ⟨i0, hi0, hz0, hz1, hz2⟩ := info_parts Tryz.info166
  clear hn hr hlen
  go_enter Tryz.func80, Tryz.ntmps80
  go_wp2
  go_loopw [2, 7] (fun v i wr => ∃ k : Nat, k ≤ n ∧ i = .int .i64 k ∧ wr.ownsRow w.heap.size 166 2 v k ((l.take k).flatMap Mrk.c) ∧ Fr (fun _ => False) w wr) (fun _ i _ => n - (intOf i).toNat)
  case atStart => exact ⟨0, Nat.zero_le _, rfl, World.ownsRow_nil _ _ _ _, Fr.refl _ _⟩
  case round =>
    obtain ⟨k, hk, rfl, hown, hf⟩ := hrel
    by_cases hlt : k < n
    · obtain ⟨g, off, rfl, _, hcell⟩ := HR.out (by omega)
      obtain ⟨x, hx⟩ : ∃ x, l[k]? = some x := ⟨_, List.getElem?_eq_getElem (by rw [HN.out]; exact hlt)⟩
      have cc : ∀ j, j < 2 → ∀ u, (Mrk.c x)[j]? = some u → wr.cell? ⟨g, off + (k * 2 + j), none⟩ = some u := fun j hj u hu => by
        have := hcell (k * 2 + j) u (by rw [flat2 Mrk.c (fun _ => rfl) l k x hx j hj]; exact hu)
        rw [hf.cell (p := ⟨g, off + (k * 2 + j), none⟩) (World.block_lt_of_cell? w _ this) (fun e => e)]
        exact this
      have c0 : wr.cell? ⟨g, off + k * 2, none⟩ = some (.int .u64 x.ref) := cc 0 (by omega) _ rfl
      have c1 : wr.cell? ⟨g, off + k * 2 + 1, none⟩ = some (.int .u64 x.mm) := cc 1 (by omega) _ rfl
      have HC := Lib.hid hcell
      have HO := Lib.hid hown
      have HX := Lib.hid hx
      obtain ⟨a', n', k', rfl⟩ := own_slice hown
      clear hcell cc hown hx
      go_wp2_with (at_builtin; refine Hid.out ?_)
      refine Lib.hid ?_
      refine wpList_append_src _ rfl _ _ 160 160 rfl w.heap.size 166 i0 _ 2 16 Tryz.underlying160 hi0 hz0 hz1 hz2 rfl (by decide) _ k ((l.take k).flatMap Mrk.c) rfl ((HO.out.alloc _).alloc _) _ 1 (Mrk.c x) rfl (src_blk Tryz.underlying160 (blk_new2 wr _ 166 (Mrk.c x).toArray) rfl (by simp [Mrk.c, Value.oneCell'])) (by unfold maxLen; omega) (by omega) (by first | omega | (simp; omega) | (have := hf.size; simp; omega)) ?_
      intro v' w2 hown' hgrow hat
      have hown2 : w2.ownsRow w.heap.size 166 2 v' (k + 1) ((l.take (k + 1)).flatMap Mrk.c) := by rw [flatMap_take_succ Mrk.c l k x HX.out]; exact hown'
      have hf2 : Fr (fun _ => False) w w2 := ((hf.alloc _).alloc _).grown hgrow (fun g hg => .inr (((HO.out.lt g hg)).1))
      have HO2 := Lib.hid hown2
      have HF2 := Lib.hid hf2
      clear hown' hgrow hown2 hf2 hf c0 c1 hat
      go_wp2
      go_roundw
      case rel => exact ⟨k + 1, by omega, by go_num, HO2.out, HF2.out⟩
      case measure => simp [intOf]; omega
    · go_wp2
      go_ret
      obtain rfl : k = n := by omega
      refine ⟨_, rfl, ?_, hf⟩
      rw [← HN.out] at hown ⊢
      rw [List.take_length] at hown
      exact hown

theorem encMrk_len (s : Mrk) : (encMrk s).length = 16 := by simp [encMrk, Lib.beBytes_length]

set_option maxRecDepth 100000 in
set_option maxHeartbeats 2000000 in
theorem encMarkers_any (ep : Value) (sv : Value) (P : Nat → Prop) (v : Value) (xs : List UInt8) (l : List Mrk) (w : World) (h : Sl P w sv 2 l.length (l.flatMap Mrk.c)) (hown : w.ownsRow 0 5 1 v xs.length (bc xs)) (hl : xs.length ≤ 1073741824)
    (hsl : l.length ≤ 1073741824) (hwf : ∀ s ∈ l, s.wf) (hP : ∀ g, P g → g < w.heap.size ∧ some g ≠ v.ownBlock) :
    Calls Tryz.prog 95 #[ep, sv, v] w (EncodeEnds w v.ownBlock (xs ++ encMarkers l)) := by
  obtain ⟨A, c, rfl, hlen, hnc, hr⟩ := h
  obtain ⟨a', n', k', rfl⟩ := own_slice hown
  obtain ⟨n, hn⟩ : ∃ n, l.length = n := ⟨_, rfl⟩
  rw [hn] at hnc hr hsl ⊢
  have hE := Enc.made (z := .int .u8 0) hown _ rfl
  have hQ := putByte w.heap.size _ xs 5 _ hE (by omega)
  have e2 : ((5 : UInt8).toNat : Int) = 5 := rfl
  rw [e2] at hQ
  have HN := Lib.hid hn
  have HR := Lib.hid hr
  have HP := Lib.hid hP
  have HE := Lib.hid hE
  clear hE hr e2 hn hlen hP
  go_enter Tryz.func95, Tryz.ntmps95
  go_wp2_with (go_at_call 180; refine hQ.mono ?_; rintro r1 w1 ⟨rfl, R⟩; refine Hid.out ?_)
  have HR1 := Lib.hid R
  clear R hQ
  refine Lib.hid ?_
  go_wp2_with fail
  have hFW : Fr (fun k => some k = (Value.slice a' n' k').ownBlock) w (w.alloc (.cells #[.slice a' n' k', .int .u8 0, .int .u8 0, .int .u8 0, .int .u8 0, .int .u8 0, .int .u8 0, .int .u8 0, .int .u8 0, .int .u8 0, .int .u8 0] 224)) := (Fr.refl _ w).alloc _
  generalize hWB : w.alloc _ = WB at HE HR1 hFW
  have hB : w.heap.size < WB.heap.size := by rw [← hWB]; simp
  clear hWB
  have HFW := Lib.hid hFW
  clear hFW
  go_loopw [15] (fun i wr => ∃ k : Nat, k ≤ n ∧ i = .int .i64 k ∧ Put WB w.heap.size (Value.slice a' n' k').ownBlock xs ([5] ++ (l.take k).flatMap encMrk) wr) (fun i _ => n - (intOf i).toNat)
  case atStart => exact ⟨0, Nat.zero_le _, rfl, by simpa using HR1.out⟩
  case round =>
    obtain ⟨k, hk, rfl, R⟩ := hrel
    by_cases hlt : k < n
    · obtain ⟨g, off, rfl, hPg, hcell⟩ := HR.out (by omega)
      have hg := HP.out g hPg
      obtain ⟨x, hx⟩ : ∃ x, l[k]? = some x := ⟨_, List.getElem?_eq_getElem (by rw [HN.out]; exact hlt)⟩
      have hwx := hwf x (List.mem_of_getElem? hx)
      have hFk : Fr (fun k => some k = (Value.slice a' n' k').ownBlock) w wr := HFW.out.trans R.fr (fun k hk e => by
        rcases e with e | e
        · omega
        · exact e)
      have cc : ∀ j, j < 2 → ∀ u, (Mrk.c x)[j]? = some u → wr.cell? ⟨g, off + (k * 2 + j), none⟩ = some u := fun j hj u hu => by
        have := hcell (k * 2 + j) u (by rw [flat2 Mrk.c (fun _ => rfl) l k x hx j hj]; exact hu)
        rw [hFk.cell (p := ⟨g, off + (k * 2 + j), none⟩) hg.1 hg.2]
        exact this
      have d0 : wr.cell? ⟨g, off + k * 2, none⟩ = some (.int .u64 x.ref) := cc 0 (by omega) _ rfl
      have d1 : wr.cell? ⟨g, off + k * 2 + 1, none⟩ = some (.int .u64 x.mm) := cc 1 (by omega) _ rfl
      have hyl : ([(5 : UInt8)] ++ (l.take k).flatMap encMrk).length ≤ 1 + k * 16 := by
        have h1 := flatMap_len encMrk 16 (fun s => Nat.le_of_eq (encMrk_len s)) (l.take k)
        have h2 : (l.take k).length ≤ k := List.length_take_le _ _
        have h3 : (l.take k).length * 16 ≤ k * 16 := Nat.mul_le_mul_right _ h2
        rw [List.length_append, List.length_singleton]; omega
      have RA := R.alloc (.cells #[.int .u64 x.ref, .int .u64 x.mm] 166)
      have hQ1 := put_more2 RA (f := 181) (args := #[.pointer (some ⟨w.heap.size, 0, none⟩), .int .u64 x.ref]) (zs := Lib.beBytes 8 x.ref) (fun o2 he => putBE64 _ o2 _ _ hwx.1 _ he (by rw [List.length_append]; omega))
      have hBx := Blk.new wr 166 #[.int .u64 x.ref, .int .u64 x.mm]
      have x0 := hBx.cell 0
      simp at x0
      have HX := Lib.hid hx
      have HBX := Lib.hid hBx
      have HL := Lib.hid hyl
      clear hx hFk cc hBx hyl hcell
      go_wp2_with (go_at_call 181; refine hQ1.mono ?_; rintro rA wA ⟨rfl, RB, KB⟩; refine Hid.out ?_)
      have hBx := KB.out _ _ _ (by decide) (by decide) HBX.out
      have x1 := hBx.cell 1
      simp at x1
      have hQ2 := put_more2 RB (f := 181) (args := #[.pointer (some ⟨w.heap.size, 0, none⟩), .int .u64 x.mm]) (zs := Lib.beBytes 8 x.mm) (fun o2 he => putBE64 _ o2 _ _ hwx.2 _ he (by have := HL.out; rw [List.length_append, List.length_append, Lib.beBytes_length]; omega))
      clear hQ1 d0 d1 x0 hBx
      refine Lib.hid ?_
      go_wp2_with (go_at_call 181; refine hQ2.mono ?_; rintro rD wD ⟨rfl, RD, KD⟩)
      have RE : Put WB w.heap.size (Value.slice a' n' k').ownBlock xs ([5] ++ (l.take (k + 1)).flatMap encMrk) wD := by
        rw [flatMap_take_succ' encMrk l k x HX.out]
        simpa [encMrk, List.append_assoc] using RD
      have HRE := Lib.hid RE
      clear RE RD RB hQ2 x1 KB KD R RA
      go_wp2
      go_roundw
      case rel => exact ⟨k + 1, by omega, by go_num, HRE.out⟩
      case measure => simp [intOf]; omega
    · obtain rfl : k = n := by omega
      obtain ⟨oZ, hEZ, hfZ, hoZ⟩ := R
      have hG := encGet _ _ _ _ hEZ
      have HEZ := Lib.hid hEZ
      have HZ := Lib.hid hfZ
      clear hEZ hfZ
      go_wp2_with (go_at_call 116; refine hG.mono ?_; rintro rr w2 ⟨v2, rfl, rfl, hown2, hv2⟩)
      go_ret
      refine ⟨v2, rfl, ?_, HFW.out.trans HZ.out (fun k hk e => ?_), ?_⟩
      · have e1 : l.take k = l := List.take_of_length_le (by rw [HN.out]; exact Nat.le_refl _)
        rw [e1] at hown2
        simpa [encMarkers] using hown2
      · rcases e with e | e
        · omega
        · exact e
      · rw [hv2]
        rcases hoZ with h | ⟨k2, h, hk2⟩
        · exact .inl h
        · exact .inr ⟨k2, h, by omega⟩
end Go.Proofs.YtbkookiigkckdaaGreatDoor

/- The small functions of the records: NewDecoder, Type and its text, the types of metrics. -/
namespace Go.Proofs.YtbkookiigkckdaaGreatDoor
open Go.RowKit
set_option linter.unusedVariables false
set_option linter.unusedSimpArgs false

/-- A call that leaves alone all that was there. -/
def NewEnds (V : Value → World → Prop) (w : World) (r : Ending) (w' : World) : Prop := ∃ v, r = .returned v ∧ V v w' ∧ Fr (fun _ => False) w w'

theorem Tryz.info108 : (Tryz.prog.info? 108).map (fun i => (i.zero, i.size, i.bytes)) = some (some (.agg #[.string ⟨#[]⟩, .string ⟨#[]⟩]), 2, 32) := by kernel_rfl

set_option maxRecDepth 100000 in
theorem scratch_any (w : World) : Calls Tryz.prog 129 #[.int .i64 0] w (NewEnds (fun v _ => ∃ a, v = .agg #[.slice (some a) 0 0, .string ⟨#[]⟩, .slice none 0 0]) w) := by
  obtain ⟨i0, hi0, hz0, hz1, hz2⟩ := info_parts Tryz.info108
  have hms : ∀ W : World, (Instr.makeSlice 115 (.int .i64 0) (.int .i64 0)).run Tryz.prog W = .ok (.slice (some ⟨W.heap.size, 0, none⟩) 0 0) (W.alloc (.cells #[] 108)) := fun W => by
    have h := run_make (P := Tryz.prog) W 115 108 i0 _ Tryz.underlying115 hi0 hz0 .i64 .i64 0 0 (by omega) (by omega) (by omega) (by omega)
    simp [madeCells, hz1, Array.range_zero'] at h
    exact h
  go_enter Tryz.func129, Tryz.ntmps129
  go_wp2_with fail
  simp [Exit.then, bodyPost, results, Tryz.results129, go_sem]
  exact ⟨_, rfl, ⟨_, rfl⟩, (((Fr.refl _ w).alloc _).alloc _)⟩

theorem type_none (d : Value) (P : Nat → Prop) (v : Value) (w : World) (h : Sl P w v 1 0 []) : Calls Tryz.prog 112 #[d, v] w fun r w' => r = .returned (.int .u8 255) ∧ w = w' := by
  obtain ⟨A, c, rfl, _⟩ := h
  go_enter Tryz.func112, Tryz.ntmps112
  go_wp2_with fail
  go_ret
  exact ⟨rfl, rfl⟩

/-- The type of a record by its first byte. -/
def typeOf : List UInt8 → Nat
  | [] => 255
  | c :: _ => if 1 ≤ c.toNat ∧ c.toNat ≤ 10 then c.toNat else 255

theorem type_ten (k : Nat) (hk : 1 ≤ k ∧ k ≤ 10) (d : Value) (a : Addr) (n c : Nat) (hn : 0 < n) (w : World) (h : w.cell? a = some (.int .u8 k)) : Calls Tryz.prog 112 #[d, .slice (some a) n c] w fun r w' => r = .returned (.int .u8 k) ∧ w = w' := by
  have hn0 : ¬ ((n : Int) < 1) := by omega
  have hn1 : (0 : Int) < (n : Int) := by omega
  obtain ⟨g, off, x⟩ := a
  obtain rfl | rfl | rfl | rfl | rfl | rfl | rfl | rfl | rfl | rfl : k = 1 ∨ k = 2 ∨ k = 3 ∨ k = 4 ∨ k = 5 ∨ k = 6 ∨ k = 7 ∨ k = 8 ∨ k = 9 ∨ k = 10 := by omega
  all_goals
    go_enter Tryz.func112, Tryz.ntmps112
    go_wp2_with fail
    go_ret
    exact ⟨rfl, rfl⟩

theorem type_odd (k : Nat) (hk : ¬ (1 ≤ k ∧ k ≤ 10)) (d : Value) (a : Addr) (n c : Nat) (hn : 0 < n) (w : World) (h : w.cell? a = some (.int .u8 k)) : Calls Tryz.prog 112 #[d, .slice (some a) n c] w fun r w' => r = .returned (.int .u8 255) ∧ w = w' := by
  have hn0 : ¬ ((n : Int) < 1) := by omega
  have hn1 : (0 : Int) < (n : Int) := by omega
  obtain ⟨g, off, x⟩ := a
  have e1 : ¬ (k : Int) = 1 := by omega
  have e2 : ¬ (k : Int) = 2 := by omega
  have e3 : ¬ (k : Int) = 3 := by omega
  have e4 : ¬ (k : Int) = 4 := by omega
  have e5 : ¬ (k : Int) = 5 := by omega
  have e6 : ¬ (k : Int) = 6 := by omega
  have e7 : ¬ (k : Int) = 7 := by omega
  have e8 : ¬ (k : Int) = 8 := by omega
  have e9 : ¬ (k : Int) = 9 := by omega
  have e10 : ¬ (k : Int) = 10 := by omega
  clear hk
  go_enter Tryz.func112, Tryz.ntmps112
  go_wp2_with fail
  go_ret
  exact ⟨rfl, rfl⟩

/-- Decoder.Type. -/
theorem type_any (d v : Value) (P : Nat → Prop) (xs : List UInt8) (w : World) (h : Sl P w v 1 xs.length (bc xs)) : Calls Tryz.prog 112 #[d, v] w fun r w' => r = .returned (.int .u8 (typeOf xs)) ∧ w = w' := by
  rcases xs with _ | ⟨c, r⟩
  · exact type_none d P v w h
  · obtain ⟨A, cap, rfl, _, _, hr⟩ := h
    obtain ⟨g, off, rfl, _, hc⟩ := hr (by simp)
    have h0 := hc 0 _ rfl
    by_cases hk : 1 ≤ c.toNat ∧ c.toNat ≤ 10
    · rw [typeOf, if_pos hk]; exact type_ten c.toNat hk d _ _ _ (by simp) w h0
    · rw [typeOf, if_neg hk]; exact type_odd c.toNat hk d _ _ _ (by simp) w h0

/-- NewDecoder. -/
theorem newDec_any (v : Value) (w : World) : Calls Tryz.prog 67 #[v] w (NewEnds (fun v _ => ∃ a, v = .agg #[.slice (some a) 0 0, .string ⟨#[]⟩, .slice none 0 0]) w) := by
  have hS := scratch_any (w.alloc (.cells #[.slice none 0 0, .string ⟨#[]⟩, .slice none 0 0] 119))
  go_enter Tryz.func67, Tryz.ntmps67
  go_wp2_with (refine hS.mono ?_; rintro r w1 ⟨v1, rfl, ⟨a, rfl⟩, hf1⟩; refine Hid.out ?_)
  have hB := (Blk.new w 119 #[.slice none 0 0, .string ⟨#[]⟩, .slice none 0 0]).fr hf1 (fun e => e)
  have k0 := hB.cell 0
  have k1 := hB.cell 1
  have k2 := hB.cell 2
  have z0 := hB.frozen 0
  have z1 := hB.frozen 1
  have z2 := hB.frozen 2
  simp at k0 k1 k2
  have m1 := hB.set_ 0 (.slice (some a) 0 0)
  have m2 := m1.set_ 1 (.string ⟨#[]⟩)
  have m3 := m2.set_ 2 (.slice none 0 0)
  have e0 := m1.cell 0
  have e1 := m2.cell 1
  have e2 := m3.cell 2
  simp only [List.size_toArray, List.length_cons, List.setIfInBounds_toArray, List.set_cons_zero, List.set_cons_succ, List.getElem?_toArray, List.getElem?_cons_zero, List.getElem?_cons_succ] at e0 e1 e2
  have HF := Lib.hid ((((Fr.refl (fun _ => False) w).alloc _).same hf1))
  have HB := Lib.hid hB
  clear hS hf1 hB m1 m2 m3
  refine Lib.hid ?_
  go_wp2_with fail
  simp [Exit.then, bodyPost, results, Tryz.results67, go_sem, e0, e1, e2]
  exact ⟨_, rfl, ⟨_, rfl⟩, ((HF.out.setCell (p := ⟨w.heap.size, 0, none⟩) (.inr (Nat.le_refl _)) _).setCell (p := ⟨w.heap.size, 1, none⟩) (.inr (Nat.le_refl _)) _).setCell (p := ⟨w.heap.size, 2, none⟩) (.inr (Nat.le_refl _)) _⟩

/-- The text of a record's type. -/
def typeName : Nat → ByteArray
  | 1 => ⟨#[115, 101, 114, 105, 101, 115]⟩
  | 2 => ⟨#[115, 97, 109, 112, 108, 101, 115]⟩
  | 3 => ⟨#[116, 111, 109, 98, 115, 116, 111, 110, 101, 115]⟩
  | 4 => ⟨#[101, 120, 101, 109, 112, 108, 97, 114, 115]⟩
  | 5 => ⟨#[109, 109, 97, 112, 109, 97, 114, 107, 101, 114, 115]⟩
  | 6 => ⟨#[109, 101, 116, 97, 100, 97, 116, 97]⟩
  | 7 => ⟨#[104, 105, 115, 116, 111, 103, 114, 97, 109, 95, 115, 97, 109, 112, 108, 101, 115]⟩
  | 8 => ⟨#[102, 108, 111, 97, 116, 95, 104, 105, 115, 116, 111, 103, 114, 97, 109, 95, 115, 97, 109, 112, 108, 101, 115]⟩
  | 9 => ⟨#[99, 117, 115, 116, 111, 109, 95, 98, 117, 99, 107, 101, 116, 115, 95, 104, 105, 115, 116, 111, 103, 114, 97, 109, 95, 115, 97, 109, 112, 108, 101, 115]⟩
  | 10 => ⟨#[99, 117, 115, 116, 111, 109, 95, 98, 117, 99, 107, 101, 116, 115, 95, 102, 108, 111, 97, 116, 95, 104, 105, 115, 116, 111, 103, 114, 97, 109, 95, 115, 97, 109, 112, 108, 101, 115]⟩
  | _ => ⟨#[117, 110, 107, 110, 111, 119, 110]⟩

theorem typeString_ten (k : Nat) (hk : k = 1 ∨ k = 2 ∨ k = 3 ∨ k = 4 ∨ k = 5 ∨ k = 6 ∨ k = 7 ∨ k = 8 ∨ k = 9 ∨ k = 10 ∨ k = 255) (w : World) : Calls Tryz.prog 113 #[.int .u8 k] w fun r w' => r = .returned (.string (typeName k)) ∧ w = w' := by
  obtain rfl | rfl | rfl | rfl | rfl | rfl | rfl | rfl | rfl | rfl | rfl := hk
  all_goals
    go_enter Tryz.func113, Tryz.ntmps113
    go_wp2_with fail
    go_ret
    exact ⟨rfl, rfl⟩

theorem typeOf_ten (xs : List UInt8) : typeOf xs = 1 ∨ typeOf xs = 2 ∨ typeOf xs = 3 ∨ typeOf xs = 4 ∨ typeOf xs = 5 ∨ typeOf xs = 6 ∨ typeOf xs = 7 ∨ typeOf xs = 8 ∨ typeOf xs = 9 ∨ typeOf xs = 10 ∨ typeOf xs = 255 := by
  rcases xs with _ | ⟨c, r⟩
  · simp [typeOf]
  · have e : typeOf (c :: r) = if 1 ≤ c.toNat ∧ c.toNat ≤ 10 then c.toNat else 255 := rfl
    rw [e]
    by_cases h : 1 ≤ c.toNat ∧ c.toNat ≤ 10
    · rw [if_pos h]; omega
    · rw [if_neg h]; simp

/-- RecordType. -/
theorem recordType_any (v : Value) (P : Nat → Prop) (xs : List UInt8) (w : World) (h : Sl P w v 1 xs.length (bc xs)) : Calls Tryz.prog 42 #[v] w (NewEnds (fun u _ => u = .tuple #[.int .i64 (typeOf xs), .string (typeName (typeOf xs))]) w) := by
  have HS := Lib.hid h
  have h3 := typeOf_ten xs
  generalize hk : typeOf xs = k at h3 ⊢
  have HK := Lib.hid hk
  have hkb : k ≤ 255 := by omega
  have H3 := Lib.hid h3
  clear hk h h3
  go_enter Tryz.func42, Tryz.ntmps42
  go_wp2_with (first
    | (go_at_call 67; refine (newDec_any _ _).mono ?_; rintro r w1 ⟨v1, rfl, ⟨a, rfl⟩, hf1⟩)
    | (go_at_call 112; refine (type_any _ v P xs _ ((HS.out.fr hf1 (fun _ _ e => e)).fr ((Fr.refl (fun _ => False) w1).alloc _) (fun _ _ e => e))).mono ?_; rintro r w2 ⟨rfl, rfl⟩; rw [HK.out])
    | (go_at_call 113; refine (typeString_ten k H3.out _).mono ?_; rintro r w3 ⟨rfl, rfl⟩))
  go_ret2
  exact ⟨_, rfl, rfl, ((Fr.refl (fun _ => False) w).same hf1).alloc _⟩

end Go.Proofs.YtbkookiigkckdaaGreatDoor

/- Labels in memory; impl.pairs; the sizes of labels. The first theorem printed by gen_lp.py. -/
namespace Go.Proofs.YtbkookiigkckdaaGreatDoor
open Go.RowKit
set_option linter.unusedVariables false
set_option linter.unusedSimpArgs false

/-- A label: its name and its value. -/
abbrev Lab := ByteArray × ByteArray
def labc (p : Lab) : List Value := [.string p.1, .string p.2]
theorem Tryz.info40 : (Tryz.prog.info? 40).map (fun i => (i.zero, i.size, i.bytes)) = some (some (.agg #[.string ⟨#[]⟩, .string ⟨#[]⟩]), 2, 32) := by kernel_rfl

def LabEnds (t : TypeId) (w : World) (l : List Lab) (r : Ending) (w' : World) : Prop :=
  ∃ v, r = .returned v ∧ w'.ownsRow w.heap.size t 2 v l.length (l.flatMap labc) ∧ Fr (fun _ => False) w w'


set_option maxHeartbeats 1000000 in
set_option maxRecDepth 100000 in
theorem pairs_any (P : Nat → Prop) (v : Value) (l : List Lab) (w : World) (h : Sl P w v 2 l.length (l.flatMap labc)) (hl : l.length ≤ 1099511627776) :
    Calls Tryz.prog 149 #[v] w (LabEnds 108 w l) := by
  obtain ⟨A, c, rfl, hlen, hnc, hr⟩ := h
  obtain ⟨n, hn⟩ : ∃ n, l.length = n := ⟨_, rfl⟩
  rw [hn] at hr hnc hl ⊢
  have HN := Lib.hid hn
  have HR := Lib.hid hr
  obtain ⟨i0, hi0, hz0, hz1, hz2⟩ := info_parts Tryz.info108
  clear hn hr hlen
  go_enter Tryz.func149, Tryz.ntmps149
  go_wp2
  go_loopw [3, 8] (fun v i wr => ∃ k : Nat, k ≤ n ∧ i = .int .i64 k ∧ wr.ownsRow w.heap.size 108 2 v k ((l.take k).flatMap labc) ∧ Fr (fun _ => False) w wr) (fun _ i _ => n - (intOf i).toNat)
  case atStart => exact ⟨0, Nat.zero_le _, rfl, World.ownsRow_nil _ _ _ _, Fr.refl _ _⟩
  case round =>
    obtain ⟨k, hk, rfl, hown, hf⟩ := hrel
    by_cases hlt : k < n
    · obtain ⟨g, off, rfl, _, hcell⟩ := HR.out (by omega)
      obtain ⟨x, hx⟩ : ∃ x, l[k]? = some x := ⟨_, List.getElem?_eq_getElem (by rw [HN.out]; exact hlt)⟩
      have cc : ∀ j, j < 2 → ∀ u, (labc x)[j]? = some u → wr.cell? ⟨g, off + (k * 2 + j), none⟩ = some u := fun j hj u hu => by
        have := hcell (k * 2 + j) u (by rw [flat2 labc (fun _ => rfl) l k x hx j hj]; exact hu)
        rw [hf.cell (p := ⟨g, off + (k * 2 + j), none⟩) (World.block_lt_of_cell? w _ this) (fun e => e)]
        exact this
      have c0 : wr.cell? ⟨g, off + k * 2, none⟩ = some (.string x.1) := cc 0 (by omega) _ rfl
      have c1 : wr.cell? ⟨g, off + k * 2 + 1, none⟩ = some (.string x.2) := cc 1 (by omega) _ rfl
      have HC := Lib.hid hcell
      have HO := Lib.hid hown
      have HX := Lib.hid hx
      obtain ⟨a', n', k', rfl⟩ := own_slice hown
      clear hcell cc hown hx
      go_wp2_with (at_builtin; refine Hid.out ?_)
      refine Lib.hid ?_
      refine wpList_append_src _ rfl _ _ 115 115 rfl w.heap.size 108 i0 _ 2 32 Tryz.underlying115 hi0 hz0 hz1 hz2 rfl (by decide) _ k ((l.take k).flatMap labc) rfl ((HO.out.alloc _).alloc _) _ 1 (labc x) rfl (src_blk Tryz.underlying115 (blk_new2 wr _ 108 (labc x).toArray) rfl (by simp [labc, Value.oneCell'])) (by unfold maxLen; omega) (by omega) (by have := hf.size; simp; omega) ?_
      intro v' w2 hown' hgrow hat
      have hown2 : w2.ownsRow w.heap.size 108 2 v' (k + 1) ((l.take (k + 1)).flatMap labc) := by rw [flatMap_take_succ labc l k x HX.out]; exact hown'
      have hf2 : Fr (fun _ => False) w w2 := ((hf.alloc _).alloc _).grown hgrow (fun g hg => .inr (((HO.out.lt g hg)).1))
      have HO2 := Lib.hid hown2
      have HF2 := Lib.hid hf2
      clear hown' hgrow hown2 hf2 hf c0 c1 hat
      go_wp2
      go_roundw
      case rel => exact ⟨k + 1, by omega, by go_num, HO2.out, HF2.out⟩
      case measure => simp [intOf]; omega
    · go_wp2
      go_ret
      obtain rfl : k = n := by omega
      refine ⟨_, rfl, ?_, hf⟩
      rw [← HN.out] at hown ⊢
      rw [List.take_length] at hown
      exact hown


/-- How many bytes a length takes. -/
def lenSize (n : Nat) : Nat := if n < 255 then 1 else 4
def labSize (p : Lab) : Nat := (p.1.size + lenSize p.1.size) + (p.2.size + lenSize p.2.size)
def labsSize (l : List Lab) : Nat := (l.map labSize).sum

theorem sizeWhen_any (n : Nat) (hn : n ≤ 16777216) (w : World) : Calls Tryz.prog 271 #[.int .u64 n] w fun r w' => r = .returned (.int .i64 (lenSize n)) ∧ w = w' := by
  by_cases h : n < 255
  · have e : lenSize n = 1 := if_pos h
    have h1 : (n : Int) < 255 := by omega
    rw [e]
    go_enter Tryz.func271, Tryz.ntmps271
    go_wp2
    go_ret
    exact ⟨rfl, rfl⟩
  · have e : lenSize n = 4 := if_neg h
    have h1 : ¬ (n : Int) < 255 := by omega
    have h2 : (n : Int) ≤ 16777216 := by omega
    rw [e]
    go_enter Tryz.func271, Tryz.ntmps271
    go_wp2
    go_ret
    exact ⟨rfl, rfl⟩

set_option maxRecDepth 100000 in
theorem labelSize_any (g off : Nat) (p : Lab) (h1 : p.1.size ≤ 1048576) (h2 : p.2.size ≤ 1048576) (w : World) (c0 : w.cell? ⟨g, off, none⟩ = some (.string p.1)) (c1 : w.cell? ⟨g, off + 1, none⟩ = some (.string p.2)) :
    Calls Tryz.prog 248 #[.pointer (some ⟨g, off, none⟩)] w fun r w' => r = .returned (.int .i64 (labSize p)) ∧ w = w' := by
  have e1 : labSize p = (p.1.size + lenSize p.1.size) + (p.2.size + lenSize p.2.size) := rfl
  have hs1 : lenSize p.1.size ≤ 4 := by unfold lenSize; split <;> omega
  have hs2 : lenSize p.2.size ≤ 4 := by unfold lenSize; split <;> omega
  have q1 := sizeWhen_any p.1.size (by omega) w
  have q2 := sizeWhen_any p.2.size (by omega) w
  generalize labSize p = s at e1 ⊢
  obtain ⟨a, b⟩ := p
  simp only [] at c0 c1 h1 h2 hs1 hs2 q1 q2 e1
  generalize lenSize a.size = x at hs1 q1 e1
  generalize lenSize b.size = y at hs2 q2 e1
  have hs : (s : Int) = (a.size : Int) + x + ((b.size : Int) + y) := by omega
  clear e1
  go_enter Tryz.func248, Tryz.ntmps248
  go_wp2_with (go_at_call 271; first | (refine q1.mono ?_; rintro r w1 ⟨rfl, rfl⟩) | (refine q2.mono ?_; rintro r w1 ⟨rfl, rfl⟩))
  go_ret
  exact ⟨by rw [hs]; rfl, rfl⟩

theorem labSize_le (p : Lab) (h1 : p.1.size ≤ 1048576) (h2 : p.2.size ≤ 1048576) : labSize p ≤ 2097160 := by
  have hs1 : lenSize p.1.size ≤ 4 := by unfold lenSize; split <;> omega
  have hs2 : lenSize p.2.size ≤ 4 := by unfold lenSize; split <;> omega
  unfold labSize
  omega
theorem labsSize_take (l : List Lab) (k : Nat) (x : Lab) (h : l[k]? = some x) : labsSize (l.take (k + 1)) = labsSize (l.take k) + labSize x := by
  unfold labsSize
  rw [List.take_add_one, h]
  simp
theorem labsSize_le : ∀ (l : List Lab), (∀ p ∈ l, p.1.size ≤ 1048576 ∧ p.2.size ≤ 1048576) → labsSize l ≤ l.length * 2097160
  | [], _ => by simp [labsSize]
  | p :: l, h => by
    have h1 := labsSize_le l (fun q hq => h q (by simp [hq]))
    have h2 := labSize_le p (h p (by simp)).1 (h p (by simp)).2
    have e : labsSize (p :: l) = labSize p + labsSize l := rfl
    rw [e, List.length_cons, Nat.add_mul]
    omega

theorem sum_small (s k : Nat) (h : s ≤ k * 2097160) (hk : k ≤ 4096) : s ≤ 8589967360 := by omega

set_option maxRecDepth 100000 in
set_option maxHeartbeats 1000000 in
theorem labelsSize_any (P : Nat → Prop) (v : Value) (l : List Lab) (w : World) (h : Sl P w v 2 l.length (l.flatMap labc)) (hl : l.length ≤ 4096) (hs : ∀ p ∈ l, p.1.size ≤ 1048576 ∧ p.2.size ≤ 1048576) :
    Calls Tryz.prog 208 #[v] w fun r w' => r = .returned (.int .i64 (labsSize l)) ∧ Fr (fun _ => False) w w' := by
  obtain ⟨A, c, rfl, hlen, hnc, hr⟩ := h
  obtain ⟨n, hn⟩ : ∃ n, l.length = n := ⟨_, rfl⟩
  rw [hn] at hr hnc hl ⊢
  have HN := Lib.hid hn
  have HR := Lib.hid hr
  have HS := Lib.hid hs
  clear hn hr hlen hs
  go_enter Tryz.func208, Tryz.ntmps208
  go_wp2
  go_loopw [2, 7] (fun v i wr => ∃ k s : Nat, k ≤ n ∧ i = .int .i64 k ∧ v = .int .i64 s ∧ Hid (labsSize (l.take k) = s) ∧ s ≤ k * 2097160 ∧ Hid (Fr (fun _ => False) w wr)) (fun _ i _ => n - (intOf i).toNat)
  case atStart => exact ⟨0, 0, Nat.zero_le _, rfl, rfl, Lib.hid rfl, Nat.zero_le _, Lib.hid (Fr.refl _ _)⟩
  case round =>
    obtain ⟨k, s, hk, rfl, rfl, HM, hsb, HF⟩ := hrel
    by_cases hlt : k < n
    · obtain ⟨g, off, rfl, _, hcell⟩ := HR.out (by omega)
      obtain ⟨x, hx⟩ : ∃ x, l[k]? = some x := ⟨_, List.getElem?_eq_getElem (by rw [HN.out]; exact hlt)⟩
      have cc : ∀ j, j < 2 → ∀ u, (labc x)[j]? = some u → wr.cell? ⟨g, off + (k * 2 + j), none⟩ = some u := fun j hj u hu => by
        have := hcell (k * 2 + j) u (by rw [flat2 labc (fun _ => rfl) l k x hx j hj]; exact hu)
        rw [HF.out.cell (p := ⟨g, off + (k * 2 + j), none⟩) (World.block_lt_of_cell? w _ this) (fun e => e)]
        exact this
      have c0 : wr.cell? ⟨g, off + k * 2, none⟩ = some (.string x.1) := cc 0 (by omega) _ rfl
      have c1 : wr.cell? ⟨g, off + k * 2 + 1, none⟩ = some (.string x.2) := cc 1 (by omega) _ rfl
      have hxs := HS.out x (List.mem_of_getElem? hx)
      have hle := labSize_le x hxs.1 hxs.2
      have hB := Blk.new wr 108 #[.string x.1, .string x.2]
      have hC := labelSize_any wr.heap.size 0 x hxs.1 hxs.2 (wr.alloc (.cells #[.string x.1, .string x.2] 108)) (hB.cell 0) (hB.cell 1)
      have HT := Lib.hid (labsSize_take l k x hx)
      have hs2 : s + 2097160 ≤ (k + 1) * 2097160 := by rw [Nat.add_mul]; omega
      have hk4 : s ≤ 8589967360 := sum_small s k hsb (by omega)
      generalize labSize x = z at hle hC HT
      clear cc hx hB hxs hcell
      go_wp2_with (go_at_call 248; refine hC.mono ?_; rintro r w1 ⟨rfl, rfl⟩)
      go_roundw
      case rel => exact ⟨k + 1, s + z, by omega, by go_num, by first | rfl | go_num | (congr 1; omega), Lib.hid (by rw [HT.out, HM.out]), by omega, Lib.hid (HF.out.alloc _)⟩
      case measure => simp [intOf]; omega
    · go_wp2
      go_ret
      obtain rfl : k = n := by omega
      refine ⟨?_, HF.out⟩
      have e1 : l.take k = l := List.take_of_length_le (by rw [HN.out]; exact Nat.le_refl _)
      have h := HM.out
      rw [e1] at h
      rw [h]
      rfl
end Go.Proofs.YtbkookiigkckdaaGreatDoor

