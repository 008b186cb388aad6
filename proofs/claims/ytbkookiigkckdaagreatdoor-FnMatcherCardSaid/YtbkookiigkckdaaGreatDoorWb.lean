import Derived.Test.YtbkookiigkckdaaGreatDoorWa
namespace Go.Proofs.YtbkookiigkckdaaGreatDoor
open Go.RowKit
set_option linter.unusedVariables false
set_option linter.unusedSimpArgs false


theorem src_sl {P : Nat → Prop} {w : World} {v : Value} {size m tx e : Nat} {cs : List Value} (hk : Tryz.prog.underlying tx = some (.slice e)) (h : Sl P w v size m cs) (h1 : ∀ u ∈ cs, u.oneCell' = true) : Src Tryz.prog size tx v m cs w := by
  obtain ⟨A, c, rfl, hl, hc, hr⟩ := h
  rcases Nat.eq_zero_or_pos m with rfl | hm
  · have : cs = [] := List.eq_nil_of_length_eq_zero (by simpa using hl)
    subst this
    rcases A with _ | a
    · exact Src.ofNil (e' := e) _ hk c
    · exact Src.ofSlice (e' := e) _ hk a 0 c [] (by simp) (fun j u hj => by simp at hj) h1
  · obtain ⟨g, off, rfl, _, hcell⟩ := hr hm
    exact Src.ofSlice (e' := e) _ hk ⟨g, off, none⟩ m c cs hl (fun j u hj => by
      have e1 : (⟨g, off, none⟩ : Addr).add j = ⟨g, off + j, none⟩ := by unfold Addr.add; split <;> simp_all
      rw [e1]; exact hcell j u hj) h1

/-- What the closure of RecordWrite does, whatever the kind: the record's bytes, and what is handed back. -/
def W1Ends (L : Value → World → Prop) (w : World) (br bl : Nat) (o : Option Nat) (ys : List UInt8) (r : Ending) (w' : World) : Prop :=
  r = .returned (.tuple #[]) ∧ ∃ v' lv, Blk w' br 44 #[v'] ∧ Blk w' bl 52 #[lv] ∧ L lv w' ∧ w'.ownsRow 0 5 1 v' ys.length (bc ys) ∧ Fr (fun k => some k = o ∨ k = br ∨ k = bl) w w' ∧ (v'.ownBlock = o ∨ ∃ k, v'.ownBlock = some k ∧ w.heap.size ≤ k)

def WriteEnds (L : Value → World → Prop) (w : World) (ys : List UInt8) (r : Ending) (w' : World) : Prop :=
  ∃ v' lv, r = .returned (.tuple #[v', lv]) ∧ L lv w' ∧ w'.ownsRow w.heap.size 5 1 v' ys.length (bc ys) ∧ Fr (fun _ => False) w w'

theorem own_up {w : World} {base b : Nat} {e : TypeId} {size n : Nat} {v : Value} {xs : List Value} (h : w.ownsRow b e size v n xs) (hb : ∀ g, v.ownBlock = some g → base ≤ g) : w.ownsRow base e size v n xs :=
  ⟨h.1, h.2.imp id fun ⟨g, cap, cur, h1, h2, h3⟩ => ⟨g, cap, cur, h1, hb g (by rw [h1]; rfl), h3⟩⟩

/-- The world that RecordWrite has made when it calls its closure. -/
structure Laid (w W : World) (kind pv bv : Value) : Prop where
  k : Blk W w.heap.size 3 #[kind]
  p : Blk W (w.heap.size + 1) 54 pv.cells
  b : Blk W (w.heap.size + 2) 44 #[bv]
  r : Blk W (w.heap.size + 3) 44 #[.slice none 0 0]
  l : Blk W (w.heap.size + 4) 52 #[.slice none 0 0]
  f : Fr (fun _ => False) w W

theorem laid_mk (w : World) (kind bv : Value) (p : Array Value) :
    let W := ((((((w.alloc (.cells #[kind] 3)).alloc (.cells p 54)).alloc (.cells #[bv] 44)).alloc (.cells #[.slice none 0 0] 44)).alloc (.cells #[.slice none 0 0] 52)).alloc (.cells #[] 196)).alloc (.cells #[] 5)
    Blk W w.heap.size 3 #[kind] ∧ Blk W (w.heap.size + 1) 54 p ∧ Blk W (w.heap.size + 2) 44 #[bv] ∧ Blk W (w.heap.size + 3) 44 #[.slice none 0 0] ∧ Blk W (w.heap.size + 4) 52 #[.slice none 0 0] ∧ Fr (fun _ => False) w W ∧ W.heap.size = w.heap.size + 7 ∧ W.ownsRow w.heap.size 5 1 (.slice (some ⟨w.heap.size + 6, 0, none⟩) 0 0) 0 [] := by
  intro W
  have e : ∀ (w : World) (o : Obj), (w.alloc o).heap.size = w.heap.size + 1 := fun w o => by simp
  refine ⟨?_, ?_, ?_, ?_, ?_, ?_, ?_, ?_⟩
  · exact ((((((Blk.new w 3 _).alloc _).alloc _).alloc _).alloc _).alloc _).alloc _
  · have := (((((Blk.new (w.alloc (.cells #[kind] 3)) 54 p).alloc (.cells #[bv] 44)).alloc (.cells #[.slice none 0 0] 44)).alloc (.cells #[.slice none 0 0] 52)).alloc (.cells #[] 196)).alloc (.cells #[] 5)
    rwa [e] at this
  · have := ((((Blk.new ((w.alloc (.cells #[kind] 3)).alloc (.cells p 54)) 44 #[bv]).alloc (.cells #[.slice none 0 0] 44)).alloc (.cells #[.slice none 0 0] 52)).alloc (.cells #[] 196)).alloc (.cells #[] 5)
    rwa [e, e] at this
  · have := (((Blk.new (((w.alloc (.cells #[kind] 3)).alloc (.cells p 54)).alloc (.cells #[bv] 44)) 44 #[.slice none 0 0]).alloc (.cells #[.slice none 0 0] 52)).alloc (.cells #[] 196)).alloc (.cells #[] 5)
    rwa [e, e, e] at this
  · have := ((Blk.new ((((w.alloc (.cells #[kind] 3)).alloc (.cells p 54)).alloc (.cells #[bv] 44)).alloc (.cells #[.slice none 0 0] 44)) 52 #[.slice none 0 0]).alloc (.cells #[] 196)).alloc (.cells #[] 5)
    rwa [e, e, e, e] at this
  · exact (((((((Fr.refl _ w).alloc _).alloc _).alloc _).alloc _).alloc _).alloc _).alloc _
  · simp [W]
  · have := World.ownsRow_made (base := w.heap.size) (e := 5) (size := 1) ((((((w.alloc (.cells #[kind] 3)).alloc (.cells p 54)).alloc (.cells #[bv] 44)).alloc (.cells #[.slice none 0 0] 44)).alloc (.cells #[.slice none 0 0] 52)).alloc (.cells #[] 196)) #[] 0 (by simp; omega) (Nat.zero_le _) rfl
    simp only [e] at this
    exact this

theorem ne_own {g k n c : Nat} (h : g ≠ k) : some g ≠ (Value.slice (some ⟨k, 0, none⟩) n c).ownBlock := fun e => h (Option.some.inj e)
/-- A world in which only variables of the call's own have changed. -/
def Vars (W W' : World) : Prop := Fr (fun k => ∃ cs, Blk W k 4 cs ∨ Blk W k 44 cs ∨ Blk W k 52 cs) W W'

set_option maxRecDepth 100000 in
set_option maxHeartbeats 2000000 in
theorem recordWrite_of (kind : Int) (s0 s1 s2 s3 s4 s5 s6 bv : Value) (xs ys : List UInt8) (P : Nat → Prop) (L : Value → World → Prop) (w : World) (hb : Sl P w bv 1 xs.length (bc xs)) (hxl : xs.length ≤ 1073741824)
    (hsl : ∀ s ∈ [s0, s1, s2, s3, s4, s5, s6], ∃ A m c, s = .slice A m c) (hLs : ∀ lv W, L lv W → ∃ A m c, lv = .slice A m c)
    (hL : ∀ lv W W', L lv W → Vars W W' → L lv W')
    (hc : ∀ (bk be bp bb br bl : Nat) (v : Value) (W : World), Blk W bk 3 #[.int .i64 kind] → Blk W bp 54 #[s0, s1, s2, s3, s4, s5, s6] → Blk W bb 44 #[v] → Blk W br 44 #[.slice none 0 0] → Blk W bl 52 #[.slice none 0 0] → W.ownsRow w.heap.size 5 1 v xs.length (bc xs) →
      bb ≠ br → Fr (fun _ => False) w W → Calls Tryz.prog 90 #[.pointer (some ⟨bk, 0, none⟩), .pointer (some ⟨be, 0, none⟩), .pointer (some ⟨bp, 0, none⟩), .pointer (some ⟨bb, 0, none⟩), .pointer (some ⟨br, 0, none⟩), .pointer (some ⟨bl, 0, none⟩)] W (W1Ends L W br bl v.ownBlock ys)) :
    Calls Tryz.prog 31 #[.int .i64 kind, .agg #[s0, s1, s2, s3, s4, s5, s6], bv] w (WriteEnds L w ys) := by
  obtain ⟨i0, hi0, hz0, hz1, hz2⟩ := info_parts Tryz.info5
  have HB := Lib.hid hb
  have HC := Lib.hid hc
  have HL := Lib.hid hL
  have HLS := Lib.hid hLs
  have hbv : ∃ A m c, bv = .slice A m c := let ⟨A, c, h, _⟩ := hb; ⟨A, _, c, h⟩
  obtain ⟨A, m, c, rfl⟩ := hbv
  obtain ⟨A0, m0, c0, rfl⟩ := hsl s0 (by simp)
  obtain ⟨A1, m1, c1, rfl⟩ := hsl s1 (by simp)
  obtain ⟨A2, m2, c2, rfl⟩ := hsl s2 (by simp)
  obtain ⟨A3, m3, c3, rfl⟩ := hsl s3 (by simp)
  obtain ⟨A4, m4, c4, rfl⟩ := hsl s4 (by simp)
  obtain ⟨A5, m5, c5, rfl⟩ := hsl s5 (by simp)
  obtain ⟨A6, m6, c6, rfl⟩ := hsl s6 (by simp)
  clear hb hc hL hsl hLs
  have hmf : ∀ (fn : Fn) (first cap : Array Value) (w : World), (Instr.makeFunc fn first cap).run Tryz.prog w = .ok (.func fn first cap) w := fun _ _ _ _ => rfl
  go_enter Tryz.func31, Tryz.ntmps31
  go_wp2_with (at_builtin; refine Hid.out ?_)
  have hM := laid_mk w (.int .i64 kind) (.slice A m c) #[.slice A0 m0 c0, .slice A1 m1 c1, .slice A2 m2 c2, .slice A3 m3 c3, .slice A4 m4 c4, .slice A5 m5 c5, .slice A6 m6 c6]
  dsimp only at hM
  generalize hW : World.alloc _ (Obj.cells #[] 5) = W at hM ⊢
  clear hW
  obtain ⟨B3, B4, B5, B6, B7, hF, hS, hO⟩ := hM
  have HS := Lib.hid hS
  have hsrc := src_sl Tryz.underlying44 (HB.out.fr hF (fun _ _ e => e)) (bc_one xs)
  refine wpList_append_src _ rfl _ _ 44 44 rfl w.heap.size 5 i0 (.int .u8 0) 1 1 Tryz.underlying44 hi0 hz0 hz1 hz2 rfl (by decide) _ 0 [] rfl hO _ xs.length (bc xs) rfl hsrc (by unfold maxLen; omega) (by omega) (by omega) ?_
  intro v' w2 hown' hgrow hat
  rw [Nat.zero_add, List.nil_append] at hown'
  obtain ⟨a2, n2, k2, rfl⟩ := own_slice hown'
  have hge : ∀ g, (Value.slice a2 n2 k2).ownBlock = some g → w.heap.size + 6 ≤ g := fun g hg => by
    rcases hat with h | h <;> rw [h] at hg
    · injection hg with hg; exact Nat.le_of_eq hg
    · injection hg with hg; omega
  have g3 := B3.grown hgrow (ne_own (by omega))
  have g4 := B4.grown hgrow (ne_own (by omega))
  have g5 := B5.grown hgrow (ne_own (by omega))
  have g6 := B6.grown hgrow (ne_own (by omega))
  have g7 := B7.grown hgrow (ne_own (by omega))
  have gF := hF.grown hgrow (fun k hk => .inr (by have hk : w.heap.size + 6 = k := Option.some.inj hk; omega))
  have q2 : w2.cell? ⟨w.heap.size + 1 + 1, 0, none⟩ = some (.slice A m c) := by simpa using g5.cell 0
  have z2 : w2.frozen? ⟨w.heap.size + 1 + 1, 0, none⟩ = false := g5.frozen 0
  obtain ⟨W3, hW3⟩ : ∃ W3, w2.setCell ⟨w.heap.size + 1 + 1, 0, none⟩ (.slice a2 n2 k2) = W3 := ⟨_, rfl⟩
  have h3 : Blk W3 w.heap.size 3 #[.int .i64 kind] := hW3 ▸ g3.far (p := ⟨w.heap.size + 1 + 1, 0, none⟩) (by show w.heap.size ≠ w.heap.size + 1 + 1; omega) _
  have h4 : Blk W3 (w.heap.size + 1) 54 #[.slice A0 m0 c0, .slice A1 m1 c1, .slice A2 m2 c2, .slice A3 m3 c3, .slice A4 m4 c4, .slice A5 m5 c5, .slice A6 m6 c6] := hW3 ▸ g4.far (p := ⟨w.heap.size + 1 + 1, 0, none⟩) (by show w.heap.size + 1 ≠ w.heap.size + 1 + 1; omega) _
  have h5 : Blk W3 (w.heap.size + 2) 44 #[.slice a2 n2 k2] := hW3 ▸ (by simpa using g5.set_ 0 (.slice a2 n2 k2))
  have h6 : Blk W3 (w.heap.size + 3) 44 #[.slice none 0 0] := hW3 ▸ g6.far (p := ⟨w.heap.size + 1 + 1, 0, none⟩) (by show w.heap.size + 3 ≠ w.heap.size + 1 + 1; omega) _
  have h7 : Blk W3 (w.heap.size + 4) 52 #[.slice none 0 0] := hW3 ▸ g7.far (p := ⟨w.heap.size + 1 + 1, 0, none⟩) (by show w.heap.size + 4 ≠ w.heap.size + 1 + 1; omega) _
  have h8 : Fr (fun _ => False) w W3 := hW3 ▸ gF.setCell (p := ⟨w.heap.size + 1 + 1, 0, none⟩) (.inr (by show w.heap.size ≤ w.heap.size + 1 + 1; omega)) _
  have h9 : W3.ownsRow w.heap.size 5 1 (.slice a2 n2 k2) xs.length (bc xs) := hW3 ▸ own_fr hown' (Fr.put_ w2 (w.heap.size + 1 + 1) 0 _) (fun g hg e => by have := hge g hg; omega)
  have hlt3 := h7.lt
  have hcall := HC.out w.heap.size (w.heap.size + 1 + 1 + 1 + 1 + 1) (w.heap.size + 1) (w.heap.size + 1 + 1) (w.heap.size + 1 + 1 + 1) (w.heap.size + 1 + 1 + 1 + 1) (.slice a2 n2 k2) _ (h3.alloc (.cells #[.bool false] 4)) (h4.alloc _) (h5.alloc _) (h6.alloc _) (h7.alloc _) (h9.alloc _) (by omega) (h8.alloc _)
  have hsafe := safe_ok 90 _ W3 _ (enters_of Tryz.func90 (by kernel_rfl) rfl) (hcall.mono (fun r w' hr => ⟨hr.1, hr.2, by
    obtain ⟨_, v', lv, _, _, _, _, hf, _⟩ := hr
    refine (Blk.new W3 4 #[.bool false]).fr hf ?_
    rintro (h | h | h)
    · have := own_lt h9 h.symm; omega
    · omega
    · omega⟩))
  have HW3 := Lib.hid hW3
  clear hW3
  refine Lib.hid ?_
  have HH9 := Lib.hid h9
  have HH8 := Lib.hid h8
  have HH7 := Lib.hid hlt3
  have HGE := Lib.hid hge
  clear hcall h3 h4 h5 h6 h7 h8 h9 g3 g4 g5 g6 g7 gF B3 B4 B5 B6 B7 hF hO hsrc hgrow hat hown' HB HC hlt3 hge hS
  refine Hid.out ?_
  refine .inl ?_
  go_wp2_with (rw [HW3.out]; go_at_call 65; refine hsafe.mono ?_; rintro r w4 ⟨rfl, w5, hq, hb5, rfl⟩; refine Hid.out ?_)
  obtain ⟨v3, lv, q6, q7, qL, qO, qF, qA⟩ := hq
  obtain ⟨a3, n3, k3, rfl⟩ := own_slice qO
  obtain ⟨a4, n4, k4, rfl⟩ := HLS.out lv _ qL
  have s6 := q6.lt
  have s7 := q7.lt
  have hn3 := HH7.out
  have r6 : Blk ((w5.setCell ⟨W3.heap.size, 0, none⟩ (.bool true)).setCell ⟨W3.heap.size, 0, none⟩ (.bool true)) _ _ _ := (q6.far (p := ⟨W3.heap.size, 0, none⟩) (by show w.heap.size + 1 + 1 + 1 ≠ W3.heap.size; omega) _).far (p := ⟨W3.heap.size, 0, none⟩) (by show w.heap.size + 1 + 1 + 1 ≠ W3.heap.size; omega) _
  have r7 : Blk ((w5.setCell ⟨W3.heap.size, 0, none⟩ (.bool true)).setCell ⟨W3.heap.size, 0, none⟩ (.bool true)) _ _ _ := (q7.far (p := ⟨W3.heap.size, 0, none⟩) (by show w.heap.size + 1 + 1 + 1 + 1 ≠ W3.heap.size; omega) _).far (p := ⟨W3.heap.size, 0, none⟩) (by show w.heap.size + 1 + 1 + 1 + 1 ≠ W3.heap.size; omega) _
  have v5 : Vars w5 ((w5.setCell ⟨W3.heap.size, 0, none⟩ (.bool true)).setCell ⟨W3.heap.size, 0, none⟩ (.bool true)) :=
    ((Fr.refl _ w5).setCell (p := ⟨W3.heap.size, 0, none⟩) (.inl ⟨_, .inl hb5⟩) _).setCell (p := ⟨W3.heap.size, 0, none⟩) (.inl ⟨_, .inl hb5⟩) _
  have f5 : Fr (fun _ => False) w ((w5.setCell ⟨W3.heap.size, 0, none⟩ (.bool true)).setCell ⟨W3.heap.size, 0, none⟩ (.bool true)) := by
    have hle := HH8.out.size
    refine Fr.setCell (Fr.setCell ?_ (p := ⟨W3.heap.size, 0, none⟩) (.inr hle) _) (p := ⟨W3.heap.size, 0, none⟩) (.inr hle) _
    refine (HH8.out.alloc (.cells #[.bool false] 4)).trans qF ?_
    rintro k hk (h | h | h)
    · have := HGE.out k h.symm; omega
    · omega
    · omega
  have hown6 : ((w5.setCell ⟨W3.heap.size, 0, none⟩ (.bool true)).setCell ⟨W3.heap.size, 0, none⟩ (.bool true)).ownsRow w.heap.size 5 1 (.slice a3 n3 k3) ys.length (bc ys) := by
    refine own_up (own_fr qO (((Fr.refl (fun k => k = W3.heap.size) w5).setCell (p := ⟨W3.heap.size, 0, none⟩) (.inl rfl) _).setCell (p := ⟨W3.heap.size, 0, none⟩) (.inl rfl) _) (fun g hg e => own_ne qO hb5 (by decide) (by rw [hg, e]))) ?_
    intro g hg
    rcases qA with h | ⟨k, h, hk⟩
    · have := HGE.out g (h ▸ hg); omega
    · rw [h] at hg; injection hg with hg; simp at hk; omega
  have hL6 := HL.out _ _ _ qL v5
  refine Lib.hid ?_
  generalize World.setCell _ _ _ = w6 at r6 r7 v5 f5 hown6 hL6 ⊢
  have l6 := r6.cell 0
  have l7 := r7.cell 0
  have z6 := r6.frozen 0
  have z7 := r7.frozen 0
  simp at l6 l7
  have m6 : Blk (w6.setCell ⟨w.heap.size + 1 + 1 + 1, 0, none⟩ (.slice a3 n3 k3)) (w.heap.size + 1 + 1 + 1) 44 #[.slice a3 n3 k3] := by simpa using r6.set_ 0 (.slice a3 n3 k3)
  have m7 : Blk (w6.setCell ⟨w.heap.size + 1 + 1 + 1, 0, none⟩ (.slice a3 n3 k3)) (w.heap.size + 1 + 1 + 1 + 1) 52 #[.slice a4 n4 k4] := r7.far (p := ⟨w.heap.size + 1 + 1 + 1, 0, none⟩) (by show w.heap.size + 1 + 1 + 1 + 1 ≠ w.heap.size + 1 + 1 + 1; omega) _
  have j6 := m6.cell 0
  have j7 := m7.cell 0
  have m8 : Blk ((w6.setCell ⟨w.heap.size + 1 + 1 + 1, 0, none⟩ (.slice a3 n3 k3)).setCell ⟨w.heap.size + 1 + 1 + 1 + 1, 0, none⟩ (.slice a4 n4 k4)) (w.heap.size + 1 + 1 + 1) 44 #[.slice a3 n3 k3] := m6.far (p := ⟨w.heap.size + 1 + 1 + 1 + 1, 0, none⟩) (by show w.heap.size + 1 + 1 + 1 ≠ w.heap.size + 1 + 1 + 1 + 1; omega) _
  have m9 : Blk ((w6.setCell ⟨w.heap.size + 1 + 1 + 1, 0, none⟩ (.slice a3 n3 k3)).setCell ⟨w.heap.size + 1 + 1 + 1 + 1, 0, none⟩ (.slice a4 n4 k4)) (w.heap.size + 1 + 1 + 1 + 1) 52 #[.slice a4 n4 k4] := by simpa using m7.set_ 0 (.slice a4 n4 k4)
  have j8 := m8.cell 0
  have j9 := m9.cell 0
  simp at j6 j7 j8 j9
  have M8 := Lib.hid m8
  have M9 := Lib.hid m9
  clear m6 m7 m8 m9
  have R6 := Lib.hid r6
  have R7 := Lib.hid r7
  have F6 := Lib.hid f5
  have HO6 := Lib.hid hown6
  have HL6 := Lib.hid hL6
  clear hown6 hL6 r6 r7 v5 f5 qL qO qF qA q6 q7 hb5 hsafe q2 z2 HW3 s6 s7 hn3
  go_wp2_with fail
  go_region_held3 (fun w' => w'.cell? ⟨w.heap.size + 1 + 1 + 1, 0, none⟩ = some (.slice a3 n3 k3) ∧ w'.cell? ⟨w.heap.size + 1 + 1 + 1 + 1, 0, none⟩ = some (.slice a4 n4 k4))
    ((first | (go_split_ands; refine ⟨?_, ?_⟩ <;> first | exact j6 | exact j7) | (go_split_ands; refine ⟨?_, ?_⟩ <;> first | exact j8 | exact j9) | go_keep)) (fail)
  have HE : Fr (fun _ => False) w ((w6.setCell ⟨w.heap.size + 1 + 1 + 1, 0, none⟩ (.slice a3 n3 k3)).setCell ⟨w.heap.size + 1 + 1 + 1 + 1, 0, none⟩ (.slice a4 n4 k4)) :=
    (F6.out.setCell (p := ⟨w.heap.size + 1 + 1 + 1, 0, none⟩) (.inr (by show w.heap.size ≤ w.heap.size + 1 + 1 + 1; omega)) _).setCell (p := ⟨w.heap.size + 1 + 1 + 1 + 1, 0, none⟩) (.inr (by show w.heap.size ≤ w.heap.size + 1 + 1 + 1 + 1; omega)) _
  have HV : Vars w6 ((w6.setCell ⟨w.heap.size + 1 + 1 + 1, 0, none⟩ (.slice a3 n3 k3)).setCell ⟨w.heap.size + 1 + 1 + 1 + 1, 0, none⟩ (.slice a4 n4 k4)) :=
    ((Fr.refl _ w6).setCell (p := ⟨w.heap.size + 1 + 1 + 1, 0, none⟩) (.inl ⟨_, .inr (.inl R6.out)⟩) _).setCell (p := ⟨w.heap.size + 1 + 1 + 1 + 1, 0, none⟩) (.inl ⟨_, .inr (.inr R7.out)⟩) _
  have hown7 := own_fr HO6.out (((Fr.refl (fun k => k = w.heap.size + 1 + 1 + 1 ∨ k = w.heap.size + 1 + 1 + 1 + 1) w6).setCell (p := ⟨w.heap.size + 1 + 1 + 1, 0, none⟩) (.inl (.inl rfl)) (.slice a3 n3 k3)).setCell (p := ⟨w.heap.size + 1 + 1 + 1 + 1, 0, none⟩) (.inl (.inr rfl)) (.slice a4 n4 k4)) (by
    rintro g hg (e | e)
    · exact own_ne HO6.out R6.out (by decide) (by rw [hg, e])
    · exact own_ne HO6.out R7.out (by decide) (by rw [hg, e]))
  have HF := Lib.hid HE.drew
  have HL7 := Lib.hid (HL.out _ _ _ HL6.out HV.drew)
  have HO7 := Lib.hid (World.ownsRow.drew hown7)
  clear HE HV hown7
  go_wp2
  simp [Exit.then, bodyPost, results, Tryz.results31, go_sem, j8, j9]
  exact ⟨_, _, rfl, HL7.out, HO7.out, HF.out⟩

theorem wrote_w1 {w : World} {br bl : Nat} {v : Value} {n : Nat} {xs : List Value} {ys : List UInt8} {z : Value} (hown : w.ownsRow 0 5 1 v n xs) (hr : Blk w br 44 #[z]) (hl : Blk w bl 52 #[.slice none 0 0]) {r : Ending} {w' : World} (h : WroteEnds w br v.ownBlock ys r w') : W1Ends (fun lv _ => lv = .slice none 0 0) w br bl v.ownBlock ys r w' := by
  obtain ⟨rfl, v', hb, ho, hf, ha⟩ := h
  refine ⟨rfl, v', _, hb, hl.fr hf ?_, rfl, ho, hf.mono ?_, ha⟩
  · rintro (e | e)
    · exact own_ne hown hl (by decide) e.symm
    · exact Blk.ne_ hl hr (by decide) e
  · rintro k _ (e | e)
    · exact .inl e
    · exact .inr (.inl e)

/-- RecordWrite at samples. -/
theorem recordWrite_samples (s0 s1 s2 s3 s4 s5 s6 bv : Value) (xs : List UInt8) (l : List Smp) (P : Nat → Prop) (w : World) (hb : Sl P w bv 1 xs.length (bc xs)) (hxl : xs.length ≤ 1073741824)
    (hsl : ∀ s ∈ [s0, s1, s2, s3, s4, s5, s6], ∃ A m c, s = .slice A m c) (hs : Sl P w s1 3 l.length (l.flatMap Smp.a)) (hll : l.length ≤ 1073741824) (hwf : ∀ s ∈ l, s.wf) :
    Calls Tryz.prog 31 #[.int .i64 2, .agg #[s0, s1, s2, s3, s4, s5, s6], bv] w (WriteEnds (fun lv _ => lv = .slice none 0 0) w (xs ++ encSamples l)) := by
  refine recordWrite_of 2 s0 s1 s2 s3 s4 s5 s6 bv xs _ P _ w hb hxl hsl (by rintro lv W rfl; exact ⟨_, _, _, rfl⟩) (fun _ _ _ h _ => h) ?_
  intro bk be bp bb br bl v W hk hp hb' hr hl hown hbr hF
  exact (write1_samples bk bp bb br _ _ P s0 s1 s2 s3 s4 s5 s6 v _ xs l W hk hp hb' hr (own_mono hown (Nat.zero_le _)) (hs.fr hF (fun _ _ e => e)) hxl hll hwf hbr).mono fun r w' h => wrote_w1 (own_mono hown (Nat.zero_le _)) hr hl h

end Go.Proofs.YtbkookiigkckdaaGreatDoor
