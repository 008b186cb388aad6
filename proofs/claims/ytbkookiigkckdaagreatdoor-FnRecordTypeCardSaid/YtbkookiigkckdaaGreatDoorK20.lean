/- Texts of this seat, merged: H9, H8, Pm. -/
import Derived.Test.YtbkookiigkckdaaGreatDoorK16
import Derived.Test.YtbkookiigkckdaaGreatDoorK17
import Derived.Test.YtbkookiigkckdaaGreatDoorK05
import Derived.Test.YtbkookiigkckdaaGreatDoorK13
/- Samples of histograms as data again: impl.unHistograms, impl.unFloats. Printed by gen_h9.py. -/
namespace Go.Proofs.YtbkookiigkckdaaGreatDoor
open Go.RowKit
set_option linter.unusedVariables false
set_option linter.unusedSimpArgs false

def UnX (w : World) (h : Hst) (r : Ending) (w' : World) : Prop :=
  ∃ (A1 : Option Addr) (m1 c1 : Nat) (A2 : Option Addr) (m2 c2 : Nat) (A3 : Option Addr) (m3 c3 : Nat) (A4 : Option Addr) (m4 c4 : Nat) (A5 : Option Addr) (m5 c5 : Nat) (A6 : Option Addr) (m6 c6 : Nat) (A7 : Option Addr) (m7 c7 : Nat), r = .returned (.agg #[.int .u8 h.hint.toNat, .int .i32 h.schema, .int .u64 h.thr, .int .u64 h.sum, .int .u64 h.zc, .int .u64 h.cnt, .slice A1 m1 c1, .slice A2 m2 c2, .slice A3 m3 c3, .slice A4 m4 c4, .slice A5 m5 c5, .slice A6 m6 c6, .slice A7 m7 c7]) ∧ OwnHs w.heap.size w' h ⟨.slice A1 m1 c1, .slice A2 m2 c2, .slice A3 m3 c3, .slice A4 m4 c4, .slice A5 m5 c5, .slice A6 m6 c6, .slice A7 m7 c7⟩ ∧ Fr (fun _ => False) w w'
def UnHEnds (w : World) (l : List Rhs) (r : Ending) (w' : World) : Prop :=
  ∃ v lu, r = .returned v ∧ lu.map Prod.fst = l ∧ OwnI w.heap.size w' v lu ∧ Fr (fun _ => False) w w'


theorem unwhole_anyx (P : Nat → Prop) (h : Hst) (v : Value) (w : World) (hr : RdW P w h v) (hl : h.few 1099511627776) : Calls Tryz.prog 176 #[v] w (UnX w h.cutW) := by
  refine (unwhole_any P h v w hr hl).mono ?_
  rintro r w' ⟨⟨p, n, u, d, fu, fd, c⟩, rfl, ho, hf, hs⟩
  obtain ⟨A1, m1, c1, rfl⟩ := hs p (by simp)
  obtain ⟨A2, m2, c2, rfl⟩ := hs n (by simp)
  obtain ⟨A3, m3, c3, rfl⟩ := hs u (by simp)
  obtain ⟨A4, m4, c4, rfl⟩ := hs d (by simp)
  obtain ⟨A5, m5, c5, rfl⟩ := hs fu (by simp)
  obtain ⟨A6, m6, c6, rfl⟩ := hs fd (by simp)
  obtain ⟨A7, m7, c7, rfl⟩ := hs c (by simp)
  exact ⟨A1, m1, c1, A2, m2, c2, A3, m3, c3, A4, m4, c4, A5, m5, c5, A6, m6, c6, A7, m7, c7, rfl, ho, hf⟩

set_option maxHeartbeats 4000000 in
set_option maxRecDepth 100000 in
theorem unHistograms_any (P : Nat → Prop) (v : Value) (lv : List (Rhs × Value)) (w : World) (h : RdHW P w v lv) (hl : lv.length ≤ 1048576) (hil : ∀ p ∈ lv, p.1.h.few 1099511627776) :
    Calls Tryz.prog 85 #[v] w (UnHEnds w (lv.map fun p => ({ p.1 with h := p.1.h.cutW } : Rhs))) := by
  have mixed : Tryz.prog.follows .mixedOrders = true := by kernel_rfl
  obtain ⟨⟨A, c, rfl, hlen, hnc, hr⟩, hin⟩ := h
  obtain ⟨n, hn⟩ : ∃ n, lv.length = n := ⟨_, rfl⟩
  rw [hn] at hr hnc hl ⊢
  have HN := Lib.hid hn
  have HR := Lib.hid hr
  have HI := Lib.hid hin
  have HIL := Lib.hid hil
  obtain ⟨i0, hi0, hz0, hz1, hz2⟩ := info_parts Tryz.info194
  clear hn hr hlen hin hil
  go_enter Tryz.func85, Tryz.ntmps85
  go_wp2
  go_loopw [2, 7] (fun v i wr => ∃ (k : Nat) (lo : List (Rhs × Hsl)), k ≤ n ∧ i = .int .i64 k ∧ Hid (lo.map Prod.fst = (lv.take k).map fun p => ({ p.1 with h := p.1.h.cutW } : Rhs)) ∧ Hid (lo.length = k) ∧ Hid (OwnI w.heap.size wr v lo) ∧ Hid (Fr (fun _ => False) w wr)) (fun _ i _ => n - (intOf i).toNat)
  case atStart => exact ⟨0, [], Nat.zero_le _, rfl, Lib.hid rfl, Lib.hid rfl, Lib.hid (OwnI.nil _ _), Lib.hid (Fr.refl _ _)⟩
  case round =>
    obtain ⟨k, lo, hk, rfl, HM, HLO, HO, HF⟩ := hrel
    by_cases hlt : k < n
    · obtain ⟨g, off, rfl, _, hcell⟩ := HR.out (by omega)
      obtain ⟨x, hx⟩ : ∃ x, lv[k]? = some x := ⟨_, List.getElem?_eq_getElem (by rw [HN.out]; exact hlt)⟩
      have cc : ∀ j, j < 3 → ∀ u, (rhc x)[j]? = some u → wr.cell? ⟨g, off + (k * 3 + j), none⟩ = some u := fun j hj u hu => by
        have := hcell (k * 3 + j) u (by rw [flat3 rhc (fun _ => rfl) lv k x hx j hj]; exact hu)
        rw [HF.out.cell (p := ⟨g, off + (k * 3 + j), none⟩) (World.block_lt_of_cell? w _ this) (fun e => e)]
        exact this
      have c00 : wr.cell? ⟨g, off + k * 3, none⟩ = some (.int .u64 x.1.ref) := cc 0 (by omega) _ rfl
      have c10 : wr.cell? ⟨g, off + k * 3 + 1, none⟩ = some (.int .i64 x.1.t) := cc 1 (by omega) _ rfl
      have c20 : wr.cell? ⟨g, off + k * 3 + 2, none⟩ = some x.2 := cc 2 (by omega) _ rfl
      have hxm := List.mem_of_getElem? hx
      have hiv := HI.out x hxm
      have hivl := HIL.out x hxm
      obtain ⟨⟨ref, t, h⟩, pv⟩ := x
      simp only [] at c00 c10 c20 hiv hivl
      have hiv2 := hiv
      obtain ⟨gx, _, rfl, _⟩ := hiv2
      have hsz := HF.out.size
      have HX := Lib.hid hx
      have HC := Lib.hid (fun W (hW : Fr (fun _ => False) w W) => unwhole_anyx P h _ W (hiv.fr hW (fun _ _ e => e)) hivl)
      obtain ⟨a', n', k', rfl⟩ := own_slice HO.out.1
      clear hcell cc hx hxm hiv hivl
      go_wp2_with fail
      have HB8 := Lib.hid (Blk.new wr 290 #[.int .u64 ref, .int .i64 t, .pointer (some ⟨gx, 0, none⟩)])
      have F8 := Lib.hid ((HF.out.alloc (.cells #[.int .u64 ref, .int .i64 t, .pointer (some ⟨gx, 0, none⟩)] 290)).drew)
      have HLO2 := HLO.out
      have hloz : lo.length ≤ 1048576 := by omega
      have s0 : (wr.alloc (.cells #[.int .u64 ref, .int .i64 t, .pointer (some ⟨gx, 0, none⟩)] 290)).drew.cell? ⟨wr.heap.size, 0, none⟩ = some (.int .u64 ref) := HB8.out.cell 0
      have s1 : (wr.alloc (.cells #[.int .u64 ref, .int .i64 t, .pointer (some ⟨gx, 0, none⟩)] 290)).drew.cell? ⟨wr.heap.size, 1, none⟩ = some (.int .i64 t) := HB8.out.cell 1
      have s2 : (wr.alloc (.cells #[.int .u64 ref, .int .i64 t, .pointer (some ⟨gx, 0, none⟩)] 290)).drew.cell? ⟨wr.heap.size, 2, none⟩ = some (.pointer (some ⟨gx, 0, none⟩)) := HB8.out.cell 2
      go_region_held3 (fun w' => w'.cell? ⟨wr.heap.size, 0, none⟩ = some (.int .u64 ref) ∧ w'.cell? ⟨wr.heap.size, 1, none⟩ = some (.int .i64 t) ∧ w'.cell? ⟨wr.heap.size, 2, none⟩ = some (.pointer (some ⟨gx, 0, none⟩)))
        ((first | exact ⟨KX9.out.cell 0, KX9.out.cell 1, KX9.out.cell 2⟩ | exact ⟨(KX5.out.alloc _).cell 0, (KX5.out.alloc _).cell 1, (KX5.out.alloc _).cell 2⟩ | exact ⟨KX5.out.cell 0, KX5.out.cell 1, KX5.out.cell 2⟩ | go_keep))
        ((first
          | (go_at_call 176; refine (HC.out _ F8.out).mono ?_; rintro r5 w5 ⟨A1, m1, c1, A2, m2, c2, A3, m3, c3, A4, m4, c4, A5, m5, c5, A6, m6, c6, A7, m7, c7, rfl, own5, hf5⟩; simp only [Hst.cutW]; have KX5 := Lib.hid (HB8.out.drew.fr hf5 (fun e => e)); have F5 := Lib.hid (F8.out.same hf5); have G5 := Lib.hid ((((Fr.refl (fun _ => False) wr).alloc (.cells #[.int .u64 ref, .int .i64 t, .pointer (some ⟨gx, 0, none⟩)] 290)).drew).same hf5); have O5 := Lib.hid (HO.out.fr G5.out (fun _ _ _ e => e)); have HN5 := Lib.hid (own5.mono F8.out.size); have hz5 := F5.out.size)
          | (refine step_append_src _ (by rfl) _ _ 52 52 (by rfl) w.heap.size 194 i0 _ 15 224 Tryz.underlying52 hi0 hz0 hz1 hz2 rfl (by decide) (.slice a' n' k') lo.length (lo.flatMap hsc) (by rfl) (O5.out.1.alloc _) _ 1 [.int .u64 ref, .int .i64 t, .int .u8 h.hint.toNat, .int .i32 h.schema, .int .u64 h.thr, .int .u64 h.sum, .int .u64 h.zc, .int .u64 h.cnt, .slice A1 m1 c1, .slice A2 m2 c2, .slice A3 m3 c3, .slice A4 m4 c4, .slice A5 m5 c5, .slice A6 m6 c6, .slice A7 m7 c7] (by rfl) (src_blk Tryz.underlying52 (Blk.new w5 194 #[.int .u64 ref, .int .i64 t, .int .u8 h.hint.toNat, .int .i32 h.schema, .int .u64 h.thr, .int .u64 h.sum, .int .u64 h.zc, .int .u64 h.cnt, .slice A1 m1 c1, .slice A2 m2 c2, .slice A3 m3 c3, .slice A4 m4 c4, .slice A5 m5 c5, .slice A6 m6 c6, .slice A7 m7 c7]) rfl (by simp [Value.oneCell'])) (by unfold maxLen; omega) (by omega) (by simp; omega) ?_; intro v' w2 hown' hgrow hat; have KX9 := Lib.hid ((KX5.out.alloc (.cells #[.int .u64 ref, .int .i64 t, .int .u8 h.hint.toNat, .int .i32 h.schema, .int .u64 h.thr, .int .u64 h.sum, .int .u64 h.zc, .int .u64 h.cnt, .slice A1 m1 c1, .slice A2 m2 c2, .slice A3 m3 c3, .slice A4 m4 c4, .slice A5 m5 c5, .slice A6 m6 c6, .slice A7 m7 c7] 194)).grown hgrow (fun e => Nat.lt_irrefl _ (own_lt HO.out.1 e.symm))))))
      have newO : OwnI w.heap.size w2 v' (lo ++ [(⟨ref, t, h.cutW⟩, ⟨.slice A1 m1 c1, .slice A2 m2 c2, .slice A3 m3 c3, .slice A4 m4 c4, .slice A5 m5 c5, .slice A6 m6 c6, .slice A7 m7 c7⟩)]) :=
        OwnI.push (p := (⟨ref, t, h.cutW⟩, ⟨.slice A1 m1 c1, .slice A2 m2 c2, .slice A3 m3 c3, .slice A4 m4 c4, .slice A5 m5 c5, .slice A6 m6 c6, .slice A7 m7 c7⟩)) (O5.out.fr ((Fr.refl (fun _ => False) w5).alloc (.cells #[.int .u64 ref, .int .i64 t, .int .u8 h.hint.toNat, .int .i32 h.schema, .int .u64 h.thr, .int .u64 h.sum, .int .u64 h.zc, .int .u64 h.cnt, .slice A1 m1 c1, .slice A2 m2 c2, .slice A3 m3 c3, .slice A4 m4 c4, .slice A5 m5 c5, .slice A6 m6 c6, .slice A7 m7 c7] 194)) (fun _ _ _ e => e)) (HN5.out.fr ((Fr.refl (fun _ => False) w5).alloc (.cells #[.int .u64 ref, .int .i64 t, .int .u8 h.hint.toNat, .int .i32 h.schema, .int .u64 h.thr, .int .u64 h.sum, .int .u64 h.zc, .int .u64 h.cnt, .slice A1 m1 c1, .slice A2 m2 c2, .slice A3 m3 c3, .slice A4 m4 c4, .slice A5 m5 c5, .slice A6 m6 c6, .slice A7 m7 c7] 194)) (fun _ _ _ e => e)) hgrow hown'
      have newF : Fr (fun _ => False) w w2 := (F5.out.alloc _).grown hgrow (fun g hg => .inr ((HO.out.1.lt g hg).1))
      have newM : (lo ++ [((⟨ref, t, h.cutW⟩ : Rhs), (⟨.slice A1 m1 c1, .slice A2 m2 c2, .slice A3 m3 c3, .slice A4 m4 c4, .slice A5 m5 c5, .slice A6 m6 c6, .slice A7 m7 c7⟩ : Hsl))]).map Prod.fst = (lv.take (k + 1)).map fun p => ({ p.1 with h := p.1.h.cutW } : Rhs) := by
        rw [List.take_add_one, HX.out, List.map_append, List.map_append, HM.out]
        rfl
      have newN : (lo ++ [((⟨ref, t, h.cutW⟩ : Rhs), (⟨.slice A1 m1 c1, .slice A2 m2 c2, .slice A3 m3 c3, .slice A4 m4 c4, .slice A5 m5 c5, .slice A6 m6 c6, .slice A7 m7 c7⟩ : Hsl))]).length = k + 1 := by rw [List.length_append, HLO.out]; rfl
      have NO := Lib.hid newO
      have NF := Lib.hid newF
      have NM := Lib.hid newM
      have NN := Lib.hid newN
      clear newO newF newM newN hown' hgrow hat c00 c10 c20 s0 s1 s2 hf5 KX9 O5 HN5 own5 HC
      go_wp2
      go_roundw
      case rel => exact ⟨k + 1, _, by omega, by go_num, NM, NN, NO, NF⟩
      case measure => simp [intOf]; omega
    · go_wp2
      go_ret
      obtain rfl : k = n := by omega
      refine ⟨_, lo, rfl, ?_, HO.out, HF.out⟩
      rw [HM.out, ← HN.out, List.take_length]


theorem unbroken_anyx (P : Nat → Prop) (h : Hst) (v : Value) (w : World) (hr : RdF P w h v) (hl : h.few 1099511627776) : Calls Tryz.prog 179 #[v] w (UnX w h.cutF) := by
  refine (unbroken_any P h v w hr hl).mono ?_
  rintro r w' ⟨⟨p, n, u, d, fu, fd, c⟩, rfl, ho, hf, hs⟩
  obtain ⟨A1, m1, c1, rfl⟩ := hs p (by simp)
  obtain ⟨A2, m2, c2, rfl⟩ := hs n (by simp)
  obtain ⟨A3, m3, c3, rfl⟩ := hs u (by simp)
  obtain ⟨A4, m4, c4, rfl⟩ := hs d (by simp)
  obtain ⟨A5, m5, c5, rfl⟩ := hs fu (by simp)
  obtain ⟨A6, m6, c6, rfl⟩ := hs fd (by simp)
  obtain ⟨A7, m7, c7, rfl⟩ := hs c (by simp)
  exact ⟨A1, m1, c1, A2, m2, c2, A3, m3, c3, A4, m4, c4, A5, m5, c5, A6, m6, c6, A7, m7, c7, rfl, ho, hf⟩

set_option maxHeartbeats 4000000 in
set_option maxRecDepth 100000 in
theorem unFloats_any (P : Nat → Prop) (v : Value) (lv : List (Rhs × Value)) (w : World) (h : RdHF P w v lv) (hl : lv.length ≤ 1048576) (hil : ∀ p ∈ lv, p.1.h.few 1099511627776) :
    Calls Tryz.prog 88 #[v] w (UnHEnds w (lv.map fun p => ({ p.1 with h := p.1.h.cutF } : Rhs))) := by
  have mixed : Tryz.prog.follows .mixedOrders = true := by kernel_rfl
  obtain ⟨⟨A, c, rfl, hlen, hnc, hr⟩, hin⟩ := h
  obtain ⟨n, hn⟩ : ∃ n, lv.length = n := ⟨_, rfl⟩
  rw [hn] at hr hnc hl ⊢
  have HN := Lib.hid hn
  have HR := Lib.hid hr
  have HI := Lib.hid hin
  have HIL := Lib.hid hil
  obtain ⟨i0, hi0, hz0, hz1, hz2⟩ := info_parts Tryz.info194
  clear hn hr hlen hin hil
  go_enter Tryz.func88, Tryz.ntmps88
  go_wp2
  go_loopw [2, 7] (fun v i wr => ∃ (k : Nat) (lo : List (Rhs × Hsl)), k ≤ n ∧ i = .int .i64 k ∧ Hid (lo.map Prod.fst = (lv.take k).map fun p => ({ p.1 with h := p.1.h.cutF } : Rhs)) ∧ Hid (lo.length = k) ∧ Hid (OwnI w.heap.size wr v lo) ∧ Hid (Fr (fun _ => False) w wr)) (fun _ i _ => n - (intOf i).toNat)
  case atStart => exact ⟨0, [], Nat.zero_le _, rfl, Lib.hid rfl, Lib.hid rfl, Lib.hid (OwnI.nil _ _), Lib.hid (Fr.refl _ _)⟩
  case round =>
    obtain ⟨k, lo, hk, rfl, HM, HLO, HO, HF⟩ := hrel
    by_cases hlt : k < n
    · obtain ⟨g, off, rfl, _, hcell⟩ := HR.out (by omega)
      obtain ⟨x, hx⟩ : ∃ x, lv[k]? = some x := ⟨_, List.getElem?_eq_getElem (by rw [HN.out]; exact hlt)⟩
      have cc : ∀ j, j < 3 → ∀ u, (rhc x)[j]? = some u → wr.cell? ⟨g, off + (k * 3 + j), none⟩ = some u := fun j hj u hu => by
        have := hcell (k * 3 + j) u (by rw [flat3 rhc (fun _ => rfl) lv k x hx j hj]; exact hu)
        rw [HF.out.cell (p := ⟨g, off + (k * 3 + j), none⟩) (World.block_lt_of_cell? w _ this) (fun e => e)]
        exact this
      have c00 : wr.cell? ⟨g, off + k * 3, none⟩ = some (.int .u64 x.1.ref) := cc 0 (by omega) _ rfl
      have c10 : wr.cell? ⟨g, off + k * 3 + 1, none⟩ = some (.int .i64 x.1.t) := cc 1 (by omega) _ rfl
      have c20 : wr.cell? ⟨g, off + k * 3 + 2, none⟩ = some x.2 := cc 2 (by omega) _ rfl
      have hxm := List.mem_of_getElem? hx
      have hiv := HI.out x hxm
      have hivl := HIL.out x hxm
      obtain ⟨⟨ref, t, h⟩, pv⟩ := x
      simp only [] at c00 c10 c20 hiv hivl
      have hiv2 := hiv
      obtain ⟨gx, _, rfl, _⟩ := hiv2
      have hsz := HF.out.size
      have HX := Lib.hid hx
      have HC := Lib.hid (fun W (hW : Fr (fun _ => False) w W) => unbroken_anyx P h _ W (hiv.fr hW (fun _ _ e => e)) hivl)
      obtain ⟨a', n', k', rfl⟩ := own_slice HO.out.1
      clear hcell cc hx hxm hiv hivl
      go_wp2_with fail
      have HB8 := Lib.hid (Blk.new wr 298 #[.int .u64 ref, .int .i64 t, .pointer (some ⟨gx, 0, none⟩)])
      have F8 := Lib.hid ((HF.out.alloc (.cells #[.int .u64 ref, .int .i64 t, .pointer (some ⟨gx, 0, none⟩)] 298)).drew)
      have HLO2 := HLO.out
      have hloz : lo.length ≤ 1048576 := by omega
      have s0 : (wr.alloc (.cells #[.int .u64 ref, .int .i64 t, .pointer (some ⟨gx, 0, none⟩)] 298)).drew.cell? ⟨wr.heap.size, 0, none⟩ = some (.int .u64 ref) := HB8.out.cell 0
      have s1 : (wr.alloc (.cells #[.int .u64 ref, .int .i64 t, .pointer (some ⟨gx, 0, none⟩)] 298)).drew.cell? ⟨wr.heap.size, 1, none⟩ = some (.int .i64 t) := HB8.out.cell 1
      have s2 : (wr.alloc (.cells #[.int .u64 ref, .int .i64 t, .pointer (some ⟨gx, 0, none⟩)] 298)).drew.cell? ⟨wr.heap.size, 2, none⟩ = some (.pointer (some ⟨gx, 0, none⟩)) := HB8.out.cell 2
      go_region_held3 (fun w' => w'.cell? ⟨wr.heap.size, 0, none⟩ = some (.int .u64 ref) ∧ w'.cell? ⟨wr.heap.size, 1, none⟩ = some (.int .i64 t) ∧ w'.cell? ⟨wr.heap.size, 2, none⟩ = some (.pointer (some ⟨gx, 0, none⟩)))
        ((first | exact ⟨KX9.out.cell 0, KX9.out.cell 1, KX9.out.cell 2⟩ | exact ⟨(KX5.out.alloc _).cell 0, (KX5.out.alloc _).cell 1, (KX5.out.alloc _).cell 2⟩ | exact ⟨KX5.out.cell 0, KX5.out.cell 1, KX5.out.cell 2⟩ | go_keep))
        ((first
          | (go_at_call 179; refine (HC.out _ F8.out).mono ?_; rintro r5 w5 ⟨A1, m1, c1, A2, m2, c2, A3, m3, c3, A4, m4, c4, A5, m5, c5, A6, m6, c6, A7, m7, c7, rfl, own5, hf5⟩; simp only [Hst.cutF]; have KX5 := Lib.hid (HB8.out.drew.fr hf5 (fun e => e)); have F5 := Lib.hid (F8.out.same hf5); have G5 := Lib.hid ((((Fr.refl (fun _ => False) wr).alloc (.cells #[.int .u64 ref, .int .i64 t, .pointer (some ⟨gx, 0, none⟩)] 298)).drew).same hf5); have O5 := Lib.hid (HO.out.fr G5.out (fun _ _ _ e => e)); have HN5 := Lib.hid (own5.mono F8.out.size); have hz5 := F5.out.size)
          | (refine step_append_src _ (by rfl) _ _ 52 52 (by rfl) w.heap.size 194 i0 _ 15 224 Tryz.underlying52 hi0 hz0 hz1 hz2 rfl (by decide) (.slice a' n' k') lo.length (lo.flatMap hsc) (by rfl) (O5.out.1.alloc _) _ 1 [.int .u64 ref, .int .i64 t, .int .u8 h.hint.toNat, .int .i32 h.schema, .int .u64 h.thr, .int .u64 h.sum, .int .u64 h.zc, .int .u64 h.cnt, .slice A1 m1 c1, .slice A2 m2 c2, .slice A3 m3 c3, .slice A4 m4 c4, .slice A5 m5 c5, .slice A6 m6 c6, .slice A7 m7 c7] (by rfl) (src_blk Tryz.underlying52 (Blk.new w5 194 #[.int .u64 ref, .int .i64 t, .int .u8 h.hint.toNat, .int .i32 h.schema, .int .u64 h.thr, .int .u64 h.sum, .int .u64 h.zc, .int .u64 h.cnt, .slice A1 m1 c1, .slice A2 m2 c2, .slice A3 m3 c3, .slice A4 m4 c4, .slice A5 m5 c5, .slice A6 m6 c6, .slice A7 m7 c7]) rfl (by simp [Value.oneCell'])) (by unfold maxLen; omega) (by omega) (by simp; omega) ?_; intro v' w2 hown' hgrow hat; have KX9 := Lib.hid ((KX5.out.alloc (.cells #[.int .u64 ref, .int .i64 t, .int .u8 h.hint.toNat, .int .i32 h.schema, .int .u64 h.thr, .int .u64 h.sum, .int .u64 h.zc, .int .u64 h.cnt, .slice A1 m1 c1, .slice A2 m2 c2, .slice A3 m3 c3, .slice A4 m4 c4, .slice A5 m5 c5, .slice A6 m6 c6, .slice A7 m7 c7] 194)).grown hgrow (fun e => Nat.lt_irrefl _ (own_lt HO.out.1 e.symm))))))
      have newO : OwnI w.heap.size w2 v' (lo ++ [(⟨ref, t, h.cutF⟩, ⟨.slice A1 m1 c1, .slice A2 m2 c2, .slice A3 m3 c3, .slice A4 m4 c4, .slice A5 m5 c5, .slice A6 m6 c6, .slice A7 m7 c7⟩)]) :=
        OwnI.push (p := (⟨ref, t, h.cutF⟩, ⟨.slice A1 m1 c1, .slice A2 m2 c2, .slice A3 m3 c3, .slice A4 m4 c4, .slice A5 m5 c5, .slice A6 m6 c6, .slice A7 m7 c7⟩)) (O5.out.fr ((Fr.refl (fun _ => False) w5).alloc (.cells #[.int .u64 ref, .int .i64 t, .int .u8 h.hint.toNat, .int .i32 h.schema, .int .u64 h.thr, .int .u64 h.sum, .int .u64 h.zc, .int .u64 h.cnt, .slice A1 m1 c1, .slice A2 m2 c2, .slice A3 m3 c3, .slice A4 m4 c4, .slice A5 m5 c5, .slice A6 m6 c6, .slice A7 m7 c7] 194)) (fun _ _ _ e => e)) (HN5.out.fr ((Fr.refl (fun _ => False) w5).alloc (.cells #[.int .u64 ref, .int .i64 t, .int .u8 h.hint.toNat, .int .i32 h.schema, .int .u64 h.thr, .int .u64 h.sum, .int .u64 h.zc, .int .u64 h.cnt, .slice A1 m1 c1, .slice A2 m2 c2, .slice A3 m3 c3, .slice A4 m4 c4, .slice A5 m5 c5, .slice A6 m6 c6, .slice A7 m7 c7] 194)) (fun _ _ _ e => e)) hgrow hown'
      have newF : Fr (fun _ => False) w w2 := (F5.out.alloc _).grown hgrow (fun g hg => .inr ((HO.out.1.lt g hg).1))
      have newM : (lo ++ [((⟨ref, t, h.cutF⟩ : Rhs), (⟨.slice A1 m1 c1, .slice A2 m2 c2, .slice A3 m3 c3, .slice A4 m4 c4, .slice A5 m5 c5, .slice A6 m6 c6, .slice A7 m7 c7⟩ : Hsl))]).map Prod.fst = (lv.take (k + 1)).map fun p => ({ p.1 with h := p.1.h.cutF } : Rhs) := by
        rw [List.take_add_one, HX.out, List.map_append, List.map_append, HM.out]
        rfl
      have newN : (lo ++ [((⟨ref, t, h.cutF⟩ : Rhs), (⟨.slice A1 m1 c1, .slice A2 m2 c2, .slice A3 m3 c3, .slice A4 m4 c4, .slice A5 m5 c5, .slice A6 m6 c6, .slice A7 m7 c7⟩ : Hsl))]).length = k + 1 := by rw [List.length_append, HLO.out]; rfl
      have NO := Lib.hid newO
      have NF := Lib.hid newF
      have NM := Lib.hid newM
      have NN := Lib.hid newN
      clear newO newF newM newN hown' hgrow hat c00 c10 c20 s0 s1 s2 hf5 KX9 O5 HN5 own5 HC
      go_wp2
      go_roundw
      case rel => exact ⟨k + 1, _, by omega, by go_num, NM, NN, NO, NF⟩
      case measure => simp [intOf]; omega
    · go_wp2
      go_ret
      obtain rfl : k = n := by omega
      refine ⟨_, lo, rfl, ?_, HO.out, HF.out⟩
      rw [HM.out, ← HN.out, List.take_length]

end Go.Proofs.YtbkookiigkckdaaGreatDoor

/- RecordWrite at histograms (kinds 7 to 10). Printed by gen_h8.py. -/
namespace Go.Proofs.YtbkookiigkckdaaGreatDoor
open Go.RowKit
set_option linter.unusedVariables false
set_option linter.unusedSimpArgs false

def Hst.sized (h : Hst) : Prop := h.few 60
theorem few_up {h : Hst} (k : h.few 60) : h.few 1099511627776 := by
  obtain ⟨a, b, c, d, e, f, g⟩ := k
  exact ⟨by omega, by omega, by omega, by omega, by omega, by omega, by omega⟩
/-- What is handed back of samples. -/
def leftW (l : List Rhs) : List Rhs := (l.filter isCus).map fun s => { s with h := s.h.cutW }
def leftF (l : List Rhs) : List Rhs := (l.filter isCus).map fun s => { s with h := s.h.cutF }
def LeftIs (base : Nat) (l : List Rhs) (u : Value) (W : World) : Prop := ∃ lu, lu.map Prod.fst = l ∧ OwnI base W u lu
theorem LeftIs.shape {base : Nat} {l : List Rhs} {u : Value} {W : World} (h : LeftIs base l u W) : ∃ A m c, u = .slice A m c := let ⟨_, _, h⟩ := h; own_slice h.1
theorem LeftIs.vars {base : Nat} {l : List Rhs} {u : Value} {W W' : World} (h : LeftIs base l u W) (hv : Vars W W') : LeftIs base l u W' := by
  obtain ⟨lu, h1, h2, h3⟩ := h
  have go : ∀ {e : TypeId} {z n : Nat} {u : Value} {xs : List Value}, e ≠ 4 → e ≠ 44 → e ≠ 52 → W.ownsRow base e z u n xs → W'.ownsRow base e z u n xs := fun e1 e2 e3 o => own_fr o hv (fun g hg k => by
    obtain ⟨cs, k | k | k⟩ := k
    · exact own_ne o k e1 hg
    · exact own_ne o k e2 hg
    · exact own_ne o k e3 hg)
  refine ⟨lu, h1, go (by decide) (by decide) (by decide) h2, fun p hp => ?_⟩
  obtain ⟨a1, a2, a3, a4, a5, a6, a7⟩ := h3 p hp
  exact ⟨go (by decide) (by decide) (by decide) a1, go (by decide) (by decide) (by decide) a2, go (by decide) (by decide) (by decide) a3, go (by decide) (by decide) (by decide) a4, go (by decide) (by decide) (by decide) a5, go (by decide) (by decide) (by decide) a6, go (by decide) (by decide) (by decide) a7⟩

set_option maxRecDepth 100000 in
set_option maxHeartbeats 8000000 in
theorem write1_cusW (bk bp bb br : Nat) (ep lp : Value) (P : Nat → Prop) (s0 s1 s2 s3 s4 s5 s6 v z : Value) (xs : List UInt8) (lv : List (Rhs × Hsl)) (w : World) (hk : Blk w bk 3 #[.int .i64 9]) (hp : Blk w bp 54 #[s0, s1, s2, s3, s4, s5, s6]) (hb : Blk w bb 44 #[v]) (hr : Blk w br 44 #[z])
    (hown : w.ownsRow 0 5 1 v xs.length (bc xs)) (hs : SlH P w s6 lv) (hl : xs.length ≤ 536870912) (hsl : lv.length ≤ 12) (hwf : ∀ s ∈ (lv.map Prod.fst), s.ok) (hbr : bb ≠ br) :
    Calls Tryz.prog 90 #[.pointer (some ⟨bk, 0, none⟩), ep, .pointer (some ⟨bp, 0, none⟩), .pointer (some ⟨bb, 0, none⟩), .pointer (some ⟨br, 0, none⟩), lp] w (WroteEnds w br v.ownBlock (xs ++ encRecW 9 (fun _ => true) (lv.map Prod.fst))) := by
  have hpr : bp ≠ br := Blk.ne_ hp hr (by decide)
  have k0 := hk.cell 0
  have p1 := hp.cell 6
  have b0 := hb.cell 0
  simp at k0 p1 b0
  obtain ⟨a', n', k', rfl⟩ := own_slice hown
  have hs1 : ∃ A m c, s6 = .slice A m c := let ⟨A, c, h, _⟩ := hs.1; ⟨A, _, c, h⟩
  obtain ⟨A, m, c, rfl⟩ := hs1
  have hQ := refHistograms_any P (.slice A m c) lv w.drew hs (by omega) (fun p hp => few_up (hwf p.1 (List.mem_map.2 ⟨p, hp, rfl⟩)).2.2.2.few)
  have HB := Lib.hid hb
  have HP := Lib.hid hp
  have HR := Lib.hid hr
  have HO := Lib.hid hown
  have p1d : w.drew.cell? ⟨bp, 6, none⟩ = some (.slice A m c) := p1
  have b0d : w.drew.cell? ⟨bb, 0, none⟩ = some (.slice a' n' k') := b0
  obtain ⟨LS, hLS⟩ : ∃ LS, lv.map Prod.fst = LS := ⟨_, rfl⟩
  have hsl2 : LS.length ≤ 12 := by rw [← hLS, List.length_map]; exact hsl
  rw [hLS] at hQ hwf ⊢
  clear hk hp hb hr hown hs hLS hsl
  go_enter Tryz.func90, Tryz.ntmps90
  go_wp2_with fail
  have HW := Lib.hid hwf
  clear hwf
  go_region_held3 (fun w' => w'.cell? ⟨bp, 6, none⟩ = some (.slice A m c) ∧ w'.cell? ⟨bb, 0, none⟩ = some (.slice a' n' k'))
    ((first | (go_split_ands; refine ⟨?_, ?_⟩ <;> first | exact ((HP.out.drew).fr hf1 (fun e => e)).cell 6 | exact ((HB.out.drew).fr hf1 (fun e => e)).cell 0) | (go_split_ands; refine ⟨?_, ?_⟩ <;> first | exact KP.out.cell 6 | exact KB.out.cell 0) | (go_split_ands; refine ⟨?_, ?_⟩ <;> first | exact (KP.out.far (p := ⟨br, 0, none⟩) hpr _).cell 6 | exact (KB.out.far (p := ⟨br, 0, none⟩) hbr _).cell 0) | go_keep))
    ((first
      | (go_at_call 84; refine hQ.mono ?_; rintro r1 w1 ⟨v1, lo, rfl, hlo, hown1, hf1⟩)
      | (go_at_call 99; refine (encCusW_any ep v1 (fun g => w.drew.heap.size ≤ g ∧ g < w1.heap.size) (.slice a' n' k') xs lo w1 hown1.rd (own_fr (World.ownsRow.drew HO.out) hf1 (fun _ _ e => e)) hl (by rw [← hlo, List.length_map] at hsl2; exact hsl2) (fun p hp => HW.out p.1 (by rw [← hlo]; exact List.mem_map.2 ⟨p, hp, rfl⟩)) (fun g hg => ⟨hg.2, fun e => by have h1 : w.heap.size ≤ g := hg.1; have h2 := own_lt HO.out e.symm; omega⟩)).mono ?_; rintro r2 w2 ⟨v2, rfl, hown2, hf2, hat2⟩; rw [hlo] at hown2; obtain ⟨KP, KB, KR⟩ := write1_keeps HP.out HB.out HR.out HO.out hf1 hf2; have q0 := KR.out.cell 0; simp at q0; have q1 := KR.out.frozen 0; obtain ⟨a2, n2, k2, rfl⟩ := own_slice hown2)))
  have HE : Fr (fun k => some k = (Value.slice a' n' k').ownBlock ∨ k = br) w (w2.setCell ⟨br, 0, none⟩ (.slice a2 n2 k2)) :=
    ((((Fr.refl (fun k => some k = (Value.slice a' n' k').ownBlock ∨ k = br) w).drew).trans hf1 (fun _ _ e => e.elim)).trans hf2 (fun _ _ e => .inl e)).setCell (p := ⟨br, 0, none⟩) (.inl (.inr rfl)) _
  have HV : Blk (w2.setCell ⟨br, 0, none⟩ (.slice a2 n2 k2)) br 44 #[.slice a2 n2 k2] := by simpa using KR.out.set_ 0 (.slice a2 n2 k2)
  have HF := Lib.hid HE
  have HVV := Lib.hid HV
  have HOW : (w2.setCell ⟨br, 0, none⟩ (.slice a2 n2 k2)).ownsRow 0 5 1 (.slice a2 n2 k2) (xs ++ encRecW 9 (fun _ => true) LS).length (bc (xs ++ encRecW 9 (fun _ => true) LS)) := own_fr hown2 (Fr.put_ w2 br 0 _) (fun g hg e => own_ne hown2 KR.out (by decide) (by rw [hg, e]))
  have HOWW := Lib.hid HOW
  have hsz := hf1.size
  have HAT := Lib.hid hat2
  clear HE HV HOW hown1 hf1 hown2 hf2 hat2 q0 q1 hQ p1 p1d b0 b0d
  go_wp2
  go_end0
  refine ⟨rfl, _, HVV.out, HOWW.out, HF.out, ?_⟩
  rcases HAT.out with h | ⟨k, h, hk⟩
  · exact .inl h
  · exact .inr ⟨k, h, by simp at hsz; omega⟩

theorem recordWrite_cusW (s0 s1 s2 s3 s4 s5 s6 bv : Value) (xs : List UInt8) (lv : List (Rhs × Hsl)) (P : Nat → Prop) (w : World) (hb : Sl P w bv 1 xs.length (bc xs)) (hxl : xs.length ≤ 536870912)
    (hsl : ∀ s ∈ [s0, s1, s2, s3, s4, s5, s6], ∃ A m c, s = .slice A m c) (hs : SlH P w s6 lv) (hll : lv.length ≤ 12) (hwf : ∀ s ∈ (lv.map Prod.fst), s.ok) :
    Calls Tryz.prog 31 #[.int .i64 9, .agg #[s0, s1, s2, s3, s4, s5, s6], bv] w (WriteEnds (fun lv _ => lv = .slice none 0 0) w (xs ++ encRecW 9 (fun _ => true) (lv.map Prod.fst))) := by
  refine recordWrite_of 9 s0 s1 s2 s3 s4 s5 s6 bv xs _ P _ w hb (by omega) hsl (by rintro lv W rfl; exact ⟨_, _, _, rfl⟩) (fun _ _ _ h _ => h) ?_
  intro bk be bp bb br bl v W hk hp hb' hr hl hown hbr hF
  exact (write1_cusW bk bp bb br _ _ P s0 s1 s2 s3 s4 s5 s6 v _ xs lv W hk hp hb' hr (own_mono hown (Nat.zero_le _)) (hs.fr hF (fun _ _ e => e)) hxl hll hwf hbr).mono fun r w' h => wrote_w1 (own_mono hown (Nat.zero_le _)) hr hl h

set_option maxRecDepth 100000 in
set_option maxHeartbeats 8000000 in
theorem write1_cusF (bk bp bb br : Nat) (ep lp : Value) (P : Nat → Prop) (s0 s1 s2 s3 s4 s5 s6 v z : Value) (xs : List UInt8) (lv : List (Rhs × Hsl)) (w : World) (hk : Blk w bk 3 #[.int .i64 10]) (hp : Blk w bp 54 #[s0, s1, s2, s3, s4, s5, s6]) (hb : Blk w bb 44 #[v]) (hr : Blk w br 44 #[z])
    (hown : w.ownsRow 0 5 1 v xs.length (bc xs)) (hs : SlH P w s6 lv) (hl : xs.length ≤ 536870912) (hsl : lv.length ≤ 12) (hwf : ∀ s ∈ (lv.map Prod.fst), s.ok) (hbr : bb ≠ br) :
    Calls Tryz.prog 90 #[.pointer (some ⟨bk, 0, none⟩), ep, .pointer (some ⟨bp, 0, none⟩), .pointer (some ⟨bb, 0, none⟩), .pointer (some ⟨br, 0, none⟩), lp] w (WroteEnds w br v.ownBlock (xs ++ encRecF 10 (fun _ => true) (lv.map Prod.fst))) := by
  have hpr : bp ≠ br := Blk.ne_ hp hr (by decide)
  have k0 := hk.cell 0
  have p1 := hp.cell 6
  have b0 := hb.cell 0
  simp at k0 p1 b0
  obtain ⟨a', n', k', rfl⟩ := own_slice hown
  have hs1 : ∃ A m c, s6 = .slice A m c := let ⟨A, c, h, _⟩ := hs.1; ⟨A, _, c, h⟩
  obtain ⟨A, m, c, rfl⟩ := hs1
  have hQ := refFloats_any P (.slice A m c) lv w.drew hs (by omega) (fun p hp => few_up (hwf p.1 (List.mem_map.2 ⟨p, hp, rfl⟩)).2.2.2.few)
  have HB := Lib.hid hb
  have HP := Lib.hid hp
  have HR := Lib.hid hr
  have HO := Lib.hid hown
  have p1d : w.drew.cell? ⟨bp, 6, none⟩ = some (.slice A m c) := p1
  have b0d : w.drew.cell? ⟨bb, 0, none⟩ = some (.slice a' n' k') := b0
  obtain ⟨LS, hLS⟩ : ∃ LS, lv.map Prod.fst = LS := ⟨_, rfl⟩
  have hsl2 : LS.length ≤ 12 := by rw [← hLS, List.length_map]; exact hsl
  rw [hLS] at hQ hwf ⊢
  clear hk hp hb hr hown hs hLS hsl
  go_enter Tryz.func90, Tryz.ntmps90
  go_wp2_with fail
  have HW := Lib.hid hwf
  clear hwf
  go_region_held3 (fun w' => w'.cell? ⟨bp, 6, none⟩ = some (.slice A m c) ∧ w'.cell? ⟨bb, 0, none⟩ = some (.slice a' n' k'))
    ((first | (go_split_ands; refine ⟨?_, ?_⟩ <;> first | exact ((HP.out.drew).fr hf1 (fun e => e)).cell 6 | exact ((HB.out.drew).fr hf1 (fun e => e)).cell 0) | (go_split_ands; refine ⟨?_, ?_⟩ <;> first | exact KP.out.cell 6 | exact KB.out.cell 0) | (go_split_ands; refine ⟨?_, ?_⟩ <;> first | exact (KP.out.far (p := ⟨br, 0, none⟩) hpr _).cell 6 | exact (KB.out.far (p := ⟨br, 0, none⟩) hbr _).cell 0) | go_keep))
    ((first
      | (go_at_call 87; refine hQ.mono ?_; rintro r1 w1 ⟨v1, lo, rfl, hlo, hown1, hf1⟩)
      | (go_at_call 100; refine (encCusF_any ep v1 (fun g => w.drew.heap.size ≤ g ∧ g < w1.heap.size) (.slice a' n' k') xs lo w1 hown1.rd (own_fr (World.ownsRow.drew HO.out) hf1 (fun _ _ e => e)) hl (by rw [← hlo, List.length_map] at hsl2; exact hsl2) (fun p hp => HW.out p.1 (by rw [← hlo]; exact List.mem_map.2 ⟨p, hp, rfl⟩)) (fun g hg => ⟨hg.2, fun e => by have h1 : w.heap.size ≤ g := hg.1; have h2 := own_lt HO.out e.symm; omega⟩)).mono ?_; rintro r2 w2 ⟨v2, rfl, hown2, hf2, hat2⟩; rw [hlo] at hown2; obtain ⟨KP, KB, KR⟩ := write1_keeps HP.out HB.out HR.out HO.out hf1 hf2; have q0 := KR.out.cell 0; simp at q0; have q1 := KR.out.frozen 0; obtain ⟨a2, n2, k2, rfl⟩ := own_slice hown2)))
  have HE : Fr (fun k => some k = (Value.slice a' n' k').ownBlock ∨ k = br) w (w2.setCell ⟨br, 0, none⟩ (.slice a2 n2 k2)) :=
    ((((Fr.refl (fun k => some k = (Value.slice a' n' k').ownBlock ∨ k = br) w).drew).trans hf1 (fun _ _ e => e.elim)).trans hf2 (fun _ _ e => .inl e)).setCell (p := ⟨br, 0, none⟩) (.inl (.inr rfl)) _
  have HV : Blk (w2.setCell ⟨br, 0, none⟩ (.slice a2 n2 k2)) br 44 #[.slice a2 n2 k2] := by simpa using KR.out.set_ 0 (.slice a2 n2 k2)
  have HF := Lib.hid HE
  have HVV := Lib.hid HV
  have HOW : (w2.setCell ⟨br, 0, none⟩ (.slice a2 n2 k2)).ownsRow 0 5 1 (.slice a2 n2 k2) (xs ++ encRecF 10 (fun _ => true) LS).length (bc (xs ++ encRecF 10 (fun _ => true) LS)) := own_fr hown2 (Fr.put_ w2 br 0 _) (fun g hg e => own_ne hown2 KR.out (by decide) (by rw [hg, e]))
  have HOWW := Lib.hid HOW
  have hsz := hf1.size
  have HAT := Lib.hid hat2
  clear HE HV HOW hown1 hf1 hown2 hf2 hat2 q0 q1 hQ p1 p1d b0 b0d
  go_wp2
  go_end0
  refine ⟨rfl, _, HVV.out, HOWW.out, HF.out, ?_⟩
  rcases HAT.out with h | ⟨k, h, hk⟩
  · exact .inl h
  · exact .inr ⟨k, h, by simp at hsz; omega⟩

theorem recordWrite_cusF (s0 s1 s2 s3 s4 s5 s6 bv : Value) (xs : List UInt8) (lv : List (Rhs × Hsl)) (P : Nat → Prop) (w : World) (hb : Sl P w bv 1 xs.length (bc xs)) (hxl : xs.length ≤ 536870912)
    (hsl : ∀ s ∈ [s0, s1, s2, s3, s4, s5, s6], ∃ A m c, s = .slice A m c) (hs : SlH P w s6 lv) (hll : lv.length ≤ 12) (hwf : ∀ s ∈ (lv.map Prod.fst), s.ok) :
    Calls Tryz.prog 31 #[.int .i64 10, .agg #[s0, s1, s2, s3, s4, s5, s6], bv] w (WriteEnds (fun lv _ => lv = .slice none 0 0) w (xs ++ encRecF 10 (fun _ => true) (lv.map Prod.fst))) := by
  refine recordWrite_of 10 s0 s1 s2 s3 s4 s5 s6 bv xs _ P _ w hb (by omega) hsl (by rintro lv W rfl; exact ⟨_, _, _, rfl⟩) (fun _ _ _ h _ => h) ?_
  intro bk be bp bb br bl v W hk hp hb' hr hl hown hbr hF
  exact (write1_cusF bk bp bb br _ _ P s0 s1 s2 s3 s4 s5 s6 v _ xs lv W hk hp hb' hr (own_mono hown (Nat.zero_le _)) (hs.fr hF (fun _ _ e => e)) hxl hll hwf hbr).mono fun r w' h => wrote_w1 (own_mono hown (Nat.zero_le _)) hr hl h

set_option maxRecDepth 100000 in
set_option maxHeartbeats 8000000 in
theorem write1_hsW (bk bp bb br bl base : Nat) (ep : Value) (P : Nat → Prop) (s0 s1 s2 s3 s4 s5 s6 v z zl : Value) (xs : List UInt8) (lv : List (Rhs × Hsl)) (w : World) (hk : Blk w bk 3 #[.int .i64 7]) (hp : Blk w bp 54 #[s0, s1, s2, s3, s4, s5, s6]) (hb : Blk w bb 44 #[v]) (hr : Blk w br 44 #[z]) (hbl : Blk w bl 52 #[zl])
    (hown : w.ownsRow 0 5 1 v xs.length (bc xs)) (hs : SlH P w s6 lv) (hl : xs.length ≤ 536870912) (hsl : lv.length ≤ 12) (hwf : ∀ s ∈ (lv.map Prod.fst), s.ok) (hbr : bb ≠ br) (hbase : base ≤ w.heap.size) (hsome : (lv.map Prod.fst) = [] ∨ ∃ s ∈ (lv.map Prod.fst), isCus s = false) :
    Calls Tryz.prog 90 #[.pointer (some ⟨bk, 0, none⟩), ep, .pointer (some ⟨bp, 0, none⟩), .pointer (some ⟨bb, 0, none⟩), .pointer (some ⟨br, 0, none⟩), .pointer (some ⟨bl, 0, none⟩)] w (W1Ends (LeftIs base (leftW (lv.map Prod.fst))) w br bl v.ownBlock (xs ++ encRecW 7 (fun s => !isCus s) (lv.map Prod.fst))) := by
  have k0 := hk.cell 0
  have p1 := hp.cell 6
  have b0 := hb.cell 0
  simp at k0 p1 b0
  have hbrl : br ≠ bl := Blk.ne_ hr hbl (by decide)
  obtain ⟨a', n', k', rfl⟩ := own_slice hown
  have hs1 : ∃ A m c, s6 = .slice A m c := let ⟨A, c, h, _⟩ := hs.1; ⟨A, _, c, h⟩
  obtain ⟨A, m, c, rfl⟩ := hs1
  have hQ := refHistograms_any P (.slice A m c) lv w.drew hs (by omega) (fun p hp => few_up (hwf p.1 (List.mem_map.2 ⟨p, hp, rfl⟩)).2.2.2.few)
  have HB := Lib.hid hb
  have HP := Lib.hid hp
  have HR := Lib.hid hr
  have HBL := Lib.hid hbl
  have HO := Lib.hid hown
  have p1d : w.drew.cell? ⟨bp, 6, none⟩ = some (.slice A m c) := p1
  have b0d : w.drew.cell? ⟨bb, 0, none⟩ = some (.slice a' n' k') := b0
  obtain ⟨LS, hLS⟩ : ∃ LS, lv.map Prod.fst = LS := ⟨_, rfl⟩
  have hsl2 : LS.length ≤ 12 := by rw [← hLS, List.length_map]; exact hsl
  rw [hLS] at hQ hwf hsome ⊢
  have HW := Lib.hid hwf
  have HSO := Lib.hid hsome
  clear hk hp hb hr hown hs hLS hsl hbl hwf hsome
  go_enter Tryz.func90, Tryz.ntmps90
  go_wp2_with fail
  go_region_held3 (fun w' => w'.cell? ⟨bp, 6, none⟩ = some (.slice A m c) ∧ w'.cell? ⟨bb, 0, none⟩ = some (.slice a' n' k'))
    ((first | (go_split_ands; refine ⟨?_, ?_⟩ <;> first | exact ((HP.out.drew).fr hf1 (fun e => e)).cell 6 | exact ((HB.out.drew).fr hf1 (fun e => e)).cell 0) | (go_split_ands; refine ⟨?_, ?_⟩ <;> first | exact KP.out.cell 6 | exact KB.out.cell 0) | go_keep))
    ((first
      | (go_at_call 84; refine hQ.mono ?_; rintro r1 w1 ⟨v1, lo, rfl, hlo, hown1, hf1⟩)
      | (go_at_call 97; refine (encHsW_any ep v1 (fun g => w.drew.heap.size ≤ g ∧ g < w1.heap.size) (.slice a' n' k') xs lo w1 hown1.rd (own_fr (World.ownsRow.drew HO.out) hf1 (fun _ _ e => e)) hl (by rw [← hlo, List.length_map] at hsl2; exact hsl2) (fun p hp => HW.out p.1 (by rw [← hlo]; exact List.mem_map.2 ⟨p, hp, rfl⟩)) (fun g hg => ⟨hg.2, fun e => by have h1 : w.heap.size ≤ g := hg.1; have h2 := own_lt HO.out e.symm; omega⟩) (by
          have h := HSO.out
          rw [← hlo] at h
          rcases h with h | ⟨s, hs, hq⟩
          · exact .inl (List.map_eq_nil_iff.1 h)
          · obtain ⟨p, hp, rfl⟩ := List.mem_map.1 hs
            exact .inr ⟨p, hp, hq⟩)).mono ?_; rintro r2 w2 ⟨v2, cv, rfl, hown2, hcv, hf2, hat2⟩; obtain ⟨KP, KB, KR⟩ := write1_keeps HP.out HB.out HR.out HO.out hf1 hf2; have KL := Lib.hid ((HBL.out.drew.fr hf1 (fun e => e)).fr hf2 (fun e => own_ne HO.out HBL.out (by decide) e.symm)); obtain ⟨a2, n2, k2, rfl⟩ := own_slice hown2; obtain ⟨a3, k3, rfl⟩ := own_slice' hcv)))
  have hmap : (lo.filter fun p => isCus p.1).map Prod.fst = LS.filter isCus := by rw [← hlo, List.filter_map]; rfl
  have hrd : RdHW (fun g => w.drew.heap.size ≤ g ∧ g < w2.heap.size) w2 (.slice a3 (lo.filter fun p => isCus p.1).length k3) (lo.filter fun p => isCus p.1) := by
    refine ⟨(Sl.ofOwn hcv).mono (fun g hg => ⟨Nat.le_trans hf1.size (hcv.lt g hg).1, own_lt hcv hg⟩), fun p hp => ?_⟩
    have h1 := (hown1.rd.2 p (List.mem_filter.1 hp).1).fr hf2 (fun g hg e => by have h1 : w.heap.size ≤ g := hg.1; have h2 := own_lt HO.out e.symm; omega)
    exact h1.mono (fun g hg => ⟨hg.1, Nat.lt_of_lt_of_le hg.2 hf2.size⟩)
  have hfl : (lo.filter fun p => isCus p.1).length ≤ 1048576 := by
    have h1 := List.length_filter_le (fun p : Rhs × Value => isCus p.1) lo
    have h2 : lo.length = LS.length := by rw [← hlo, List.length_map]
    omega
  have hU := unHistograms_any _ _ _ w2 hrd hfl (fun p hp => few_up (HW.out p.1 (by rw [← hlo]; exact List.mem_map.2 ⟨p, (List.mem_filter.1 hp).1, rfl⟩)).2.2.2.few)
  have hle : ((lo.filter fun p => isCus p.1).map fun p => ({ p.1 with h := p.1.h.cutW } : Rhs)) = leftW LS := by
    rw [leftW, ← hmap, List.map_map]
    rfl
  rw [hle] at hU
  rw [hlo] at hown2
  have HU := Lib.hid hU
  have H1 := Lib.hid hf1
  have H2 := Lib.hid hf2
  have HO2 := Lib.hid hown2
  have HAT := Lib.hid hat2
  clear hmap hrd hfl hle hU hf1 hf2 hown1 hown2 hcv hat2 hQ p1 p1d b0 b0d hlo
  generalize (lo.filter fun p => isCus p.1).length = m3 at HU ⊢
  go_wp2_with (go_at_call 85; refine HU.out.mono ?_; rintro r3 w3 ⟨v3, lu, rfl, hlu, hown3, hf3⟩; have MR := Lib.hid (KR.out.fr hf3 (fun e => e)); have ML := Lib.hid (KL.out.fr hf3 (fun e => e)); have q0 : w3.cell? ⟨br, 0, none⟩ = some z := MR.out.cell 0; have q1 := MR.out.frozen 0; have q2 : w3.cell? ⟨bl, 0, none⟩ = some zl := ML.out.cell 0; have q3 := ML.out.frozen 0; obtain ⟨a4, n4, k4, rfl⟩ := own_slice hown3.1; have H3 := Lib.hid hf3; have HO3 := Lib.hid hown3; have HLU := Lib.hid hlu; clear hf3 hown3 hlu)
  go_end0
  have hV1 : Blk (w3.setCell ⟨br, 0, none⟩ (.slice a2 n2 k2)) br 44 #[.slice a2 n2 k2] := by simpa using MR.out.set_ 0 (.slice a2 n2 k2)
  have hV2 : Blk (w3.setCell ⟨br, 0, none⟩ (.slice a2 n2 k2)) bl 52 #[zl] := ML.out.far (p := ⟨br, 0, none⟩) (Ne.symm hbrl) _
  have hV3 : Blk ((w3.setCell ⟨br, 0, none⟩ (.slice a2 n2 k2)).setCell ⟨bl, 0, none⟩ (.slice a4 n4 k4)) bl 52 #[.slice a4 n4 k4] := by simpa using hV2.set_ 0 (.slice a4 n4 k4)
  have hV4 := hV1.far (p := ⟨bl, 0, none⟩) hbrl (.slice a4 n4 k4)
  have hFF : Fr (fun k => k = br ∨ k = bl) w3 ((w3.setCell ⟨br, 0, none⟩ (.slice a2 n2 k2)).setCell ⟨bl, 0, none⟩ (.slice a4 n4 k4)) := ((Fr.refl (fun k => k = br ∨ k = bl) w3).setCell (p := ⟨br, 0, none⟩) (.inl (.inl rfl)) _).setCell (p := ⟨bl, 0, none⟩) (.inl (.inr rfl)) _
  refine ⟨rfl, _, _, hV4, hV3, ⟨lu, HLU.out, ?_⟩, ?_, ?_, ?_⟩
  · refine (HO3.out.fr hFF (fun k h1 h2 h => ?_)).mono (by have := H1.out.size; have := H2.out.size; simp at *; omega)
    have e1 := KR.out.lt
    have e2 := KL.out.lt
    rcases h with rfl | rfl <;> omega
  · refine own_fr (own_fr HO2.out H3.out (fun _ _ e => e)) hFF (fun g hg h => ?_)
    rcases h with rfl | rfl
    · exact own_ne HO2.out KR.out (by decide) hg
    · exact own_ne HO2.out KL.out (by decide) hg
  · exact (((((Fr.refl (fun k => some k = (Value.slice a' n' k').ownBlock ∨ k = br ∨ k = bl) w).drew).trans H1.out (fun _ _ e => e.elim)).trans H2.out (fun _ _ e => .inl e)).trans H3.out (fun _ _ e => e.elim)).trans hFF (fun _ _ e => .inr e)
  · rcases HAT.out with h | ⟨k, h, hk⟩
    · exact .inl h
    · exact .inr ⟨k, h, by have := H1.out.size; simp at this; omega⟩

theorem recordWrite_hsW (s0 s1 s2 s3 s4 s5 s6 bv : Value) (xs : List UInt8) (lv : List (Rhs × Hsl)) (P : Nat → Prop) (w : World) (hb : Sl P w bv 1 xs.length (bc xs)) (hxl : xs.length ≤ 536870912)
    (hsl : ∀ s ∈ [s0, s1, s2, s3, s4, s5, s6], ∃ A m c, s = .slice A m c) (hs : SlH P w s6 lv) (hll : lv.length ≤ 12) (hwf : ∀ s ∈ (lv.map Prod.fst), s.ok) (hsome : (lv.map Prod.fst) = [] ∨ ∃ s ∈ (lv.map Prod.fst), isCus s = false) :
    Calls Tryz.prog 31 #[.int .i64 7, .agg #[s0, s1, s2, s3, s4, s5, s6], bv] w (WriteEnds (LeftIs w.heap.size (leftW (lv.map Prod.fst))) w (xs ++ encRecW 7 (fun s => !isCus s) (lv.map Prod.fst))) := by
  refine recordWrite_of 7 s0 s1 s2 s3 s4 s5 s6 bv xs _ P _ w hb (by omega) hsl (fun _ _ h => h.shape) (fun _ _ _ h hv => h.vars hv) ?_
  intro bk be bp bb br bl v W hk hp hb' hr hl hown hbr hF
  exact write1_hsW bk bp bb br bl w.heap.size _ P s0 s1 s2 s3 s4 s5 s6 v _ _ xs lv W hk hp hb' hr hl (own_mono hown (Nat.zero_le _)) (hs.fr hF (fun _ _ e => e)) hxl hll hwf hbr hF.size hsome

set_option maxRecDepth 100000 in
set_option maxHeartbeats 8000000 in
theorem write1_hsF (bk bp bb br bl base : Nat) (ep : Value) (P : Nat → Prop) (s0 s1 s2 s3 s4 s5 s6 v z zl : Value) (xs : List UInt8) (lv : List (Rhs × Hsl)) (w : World) (hk : Blk w bk 3 #[.int .i64 8]) (hp : Blk w bp 54 #[s0, s1, s2, s3, s4, s5, s6]) (hb : Blk w bb 44 #[v]) (hr : Blk w br 44 #[z]) (hbl : Blk w bl 52 #[zl])
    (hown : w.ownsRow 0 5 1 v xs.length (bc xs)) (hs : SlH P w s6 lv) (hl : xs.length ≤ 536870912) (hsl : lv.length ≤ 12) (hwf : ∀ s ∈ (lv.map Prod.fst), s.ok) (hbr : bb ≠ br) (hbase : base ≤ w.heap.size) (hsome : (lv.map Prod.fst) = [] ∨ ∃ s ∈ (lv.map Prod.fst), isCus s = false) :
    Calls Tryz.prog 90 #[.pointer (some ⟨bk, 0, none⟩), ep, .pointer (some ⟨bp, 0, none⟩), .pointer (some ⟨bb, 0, none⟩), .pointer (some ⟨br, 0, none⟩), .pointer (some ⟨bl, 0, none⟩)] w (W1Ends (LeftIs base (leftF (lv.map Prod.fst))) w br bl v.ownBlock (xs ++ encRecF 8 (fun s => !isCus s) (lv.map Prod.fst))) := by
  have k0 := hk.cell 0
  have p1 := hp.cell 6
  have b0 := hb.cell 0
  simp at k0 p1 b0
  have hbrl : br ≠ bl := Blk.ne_ hr hbl (by decide)
  obtain ⟨a', n', k', rfl⟩ := own_slice hown
  have hs1 : ∃ A m c, s6 = .slice A m c := let ⟨A, c, h, _⟩ := hs.1; ⟨A, _, c, h⟩
  obtain ⟨A, m, c, rfl⟩ := hs1
  have hQ := refFloats_any P (.slice A m c) lv w.drew hs (by omega) (fun p hp => few_up (hwf p.1 (List.mem_map.2 ⟨p, hp, rfl⟩)).2.2.2.few)
  have HB := Lib.hid hb
  have HP := Lib.hid hp
  have HR := Lib.hid hr
  have HBL := Lib.hid hbl
  have HO := Lib.hid hown
  have p1d : w.drew.cell? ⟨bp, 6, none⟩ = some (.slice A m c) := p1
  have b0d : w.drew.cell? ⟨bb, 0, none⟩ = some (.slice a' n' k') := b0
  obtain ⟨LS, hLS⟩ : ∃ LS, lv.map Prod.fst = LS := ⟨_, rfl⟩
  have hsl2 : LS.length ≤ 12 := by rw [← hLS, List.length_map]; exact hsl
  rw [hLS] at hQ hwf hsome ⊢
  have HW := Lib.hid hwf
  have HSO := Lib.hid hsome
  clear hk hp hb hr hown hs hLS hsl hbl hwf hsome
  go_enter Tryz.func90, Tryz.ntmps90
  go_wp2_with fail
  go_region_held3 (fun w' => w'.cell? ⟨bp, 6, none⟩ = some (.slice A m c) ∧ w'.cell? ⟨bb, 0, none⟩ = some (.slice a' n' k'))
    ((first | (go_split_ands; refine ⟨?_, ?_⟩ <;> first | exact ((HP.out.drew).fr hf1 (fun e => e)).cell 6 | exact ((HB.out.drew).fr hf1 (fun e => e)).cell 0) | (go_split_ands; refine ⟨?_, ?_⟩ <;> first | exact KP.out.cell 6 | exact KB.out.cell 0) | go_keep))
    ((first
      | (go_at_call 87; refine hQ.mono ?_; rintro r1 w1 ⟨v1, lo, rfl, hlo, hown1, hf1⟩)
      | (go_at_call 98; refine (encHsF_any ep v1 (fun g => w.drew.heap.size ≤ g ∧ g < w1.heap.size) (.slice a' n' k') xs lo w1 hown1.rd (own_fr (World.ownsRow.drew HO.out) hf1 (fun _ _ e => e)) hl (by rw [← hlo, List.length_map] at hsl2; exact hsl2) (fun p hp => HW.out p.1 (by rw [← hlo]; exact List.mem_map.2 ⟨p, hp, rfl⟩)) (fun g hg => ⟨hg.2, fun e => by have h1 : w.heap.size ≤ g := hg.1; have h2 := own_lt HO.out e.symm; omega⟩) (by
          have h := HSO.out
          rw [← hlo] at h
          rcases h with h | ⟨s, hs, hq⟩
          · exact .inl (List.map_eq_nil_iff.1 h)
          · obtain ⟨p, hp, rfl⟩ := List.mem_map.1 hs
            exact .inr ⟨p, hp, hq⟩)).mono ?_; rintro r2 w2 ⟨v2, cv, rfl, hown2, hcv, hf2, hat2⟩; obtain ⟨KP, KB, KR⟩ := write1_keeps HP.out HB.out HR.out HO.out hf1 hf2; have KL := Lib.hid ((HBL.out.drew.fr hf1 (fun e => e)).fr hf2 (fun e => own_ne HO.out HBL.out (by decide) e.symm)); obtain ⟨a2, n2, k2, rfl⟩ := own_slice hown2; obtain ⟨a3, k3, rfl⟩ := own_slice' hcv)))
  have hmap : (lo.filter fun p => isCus p.1).map Prod.fst = LS.filter isCus := by rw [← hlo, List.filter_map]; rfl
  have hrd : RdHF (fun g => w.drew.heap.size ≤ g ∧ g < w2.heap.size) w2 (.slice a3 (lo.filter fun p => isCus p.1).length k3) (lo.filter fun p => isCus p.1) := by
    refine ⟨(Sl.ofOwn hcv).mono (fun g hg => ⟨Nat.le_trans hf1.size (hcv.lt g hg).1, own_lt hcv hg⟩), fun p hp => ?_⟩
    have h1 := (hown1.rd.2 p (List.mem_filter.1 hp).1).fr hf2 (fun g hg e => by have h1 : w.heap.size ≤ g := hg.1; have h2 := own_lt HO.out e.symm; omega)
    exact h1.mono (fun g hg => ⟨hg.1, Nat.lt_of_lt_of_le hg.2 hf2.size⟩)
  have hfl : (lo.filter fun p => isCus p.1).length ≤ 1048576 := by
    have h1 := List.length_filter_le (fun p : Rhs × Value => isCus p.1) lo
    have h2 : lo.length = LS.length := by rw [← hlo, List.length_map]
    omega
  have hU := unFloats_any _ _ _ w2 hrd hfl (fun p hp => few_up (HW.out p.1 (by rw [← hlo]; exact List.mem_map.2 ⟨p, (List.mem_filter.1 hp).1, rfl⟩)).2.2.2.few)
  have hle : ((lo.filter fun p => isCus p.1).map fun p => ({ p.1 with h := p.1.h.cutF } : Rhs)) = leftF LS := by
    rw [leftF, ← hmap, List.map_map]
    rfl
  rw [hle] at hU
  rw [hlo] at hown2
  have HU := Lib.hid hU
  have H1 := Lib.hid hf1
  have H2 := Lib.hid hf2
  have HO2 := Lib.hid hown2
  have HAT := Lib.hid hat2
  clear hmap hrd hfl hle hU hf1 hf2 hown1 hown2 hcv hat2 hQ p1 p1d b0 b0d hlo
  generalize (lo.filter fun p => isCus p.1).length = m3 at HU ⊢
  go_wp2_with (go_at_call 88; refine HU.out.mono ?_; rintro r3 w3 ⟨v3, lu, rfl, hlu, hown3, hf3⟩; have MR := Lib.hid (KR.out.fr hf3 (fun e => e)); have ML := Lib.hid (KL.out.fr hf3 (fun e => e)); have q0 : w3.cell? ⟨br, 0, none⟩ = some z := MR.out.cell 0; have q1 := MR.out.frozen 0; have q2 : w3.cell? ⟨bl, 0, none⟩ = some zl := ML.out.cell 0; have q3 := ML.out.frozen 0; obtain ⟨a4, n4, k4, rfl⟩ := own_slice hown3.1; have H3 := Lib.hid hf3; have HO3 := Lib.hid hown3; have HLU := Lib.hid hlu; clear hf3 hown3 hlu)
  go_end0
  have hV1 : Blk (w3.setCell ⟨br, 0, none⟩ (.slice a2 n2 k2)) br 44 #[.slice a2 n2 k2] := by simpa using MR.out.set_ 0 (.slice a2 n2 k2)
  have hV2 : Blk (w3.setCell ⟨br, 0, none⟩ (.slice a2 n2 k2)) bl 52 #[zl] := ML.out.far (p := ⟨br, 0, none⟩) (Ne.symm hbrl) _
  have hV3 : Blk ((w3.setCell ⟨br, 0, none⟩ (.slice a2 n2 k2)).setCell ⟨bl, 0, none⟩ (.slice a4 n4 k4)) bl 52 #[.slice a4 n4 k4] := by simpa using hV2.set_ 0 (.slice a4 n4 k4)
  have hV4 := hV1.far (p := ⟨bl, 0, none⟩) hbrl (.slice a4 n4 k4)
  have hFF : Fr (fun k => k = br ∨ k = bl) w3 ((w3.setCell ⟨br, 0, none⟩ (.slice a2 n2 k2)).setCell ⟨bl, 0, none⟩ (.slice a4 n4 k4)) := ((Fr.refl (fun k => k = br ∨ k = bl) w3).setCell (p := ⟨br, 0, none⟩) (.inl (.inl rfl)) _).setCell (p := ⟨bl, 0, none⟩) (.inl (.inr rfl)) _
  refine ⟨rfl, _, _, hV4, hV3, ⟨lu, HLU.out, ?_⟩, ?_, ?_, ?_⟩
  · refine (HO3.out.fr hFF (fun k h1 h2 h => ?_)).mono (by have := H1.out.size; have := H2.out.size; simp at *; omega)
    have e1 := KR.out.lt
    have e2 := KL.out.lt
    rcases h with rfl | rfl <;> omega
  · refine own_fr (own_fr HO2.out H3.out (fun _ _ e => e)) hFF (fun g hg h => ?_)
    rcases h with rfl | rfl
    · exact own_ne HO2.out KR.out (by decide) hg
    · exact own_ne HO2.out KL.out (by decide) hg
  · exact (((((Fr.refl (fun k => some k = (Value.slice a' n' k').ownBlock ∨ k = br ∨ k = bl) w).drew).trans H1.out (fun _ _ e => e.elim)).trans H2.out (fun _ _ e => .inl e)).trans H3.out (fun _ _ e => e.elim)).trans hFF (fun _ _ e => .inr e)
  · rcases HAT.out with h | ⟨k, h, hk⟩
    · exact .inl h
    · exact .inr ⟨k, h, by have := H1.out.size; simp at this; omega⟩

theorem recordWrite_hsF (s0 s1 s2 s3 s4 s5 s6 bv : Value) (xs : List UInt8) (lv : List (Rhs × Hsl)) (P : Nat → Prop) (w : World) (hb : Sl P w bv 1 xs.length (bc xs)) (hxl : xs.length ≤ 536870912)
    (hsl : ∀ s ∈ [s0, s1, s2, s3, s4, s5, s6], ∃ A m c, s = .slice A m c) (hs : SlH P w s6 lv) (hll : lv.length ≤ 12) (hwf : ∀ s ∈ (lv.map Prod.fst), s.ok) (hsome : (lv.map Prod.fst) = [] ∨ ∃ s ∈ (lv.map Prod.fst), isCus s = false) :
    Calls Tryz.prog 31 #[.int .i64 8, .agg #[s0, s1, s2, s3, s4, s5, s6], bv] w (WriteEnds (LeftIs w.heap.size (leftF (lv.map Prod.fst))) w (xs ++ encRecF 8 (fun s => !isCus s) (lv.map Prod.fst))) := by
  refine recordWrite_of 8 s0 s1 s2 s3 s4 s5 s6 bv xs _ P _ w hb (by omega) hsl (fun _ _ h => h.shape) (fun _ _ _ h hv => h.vars hv) ?_
  intro bk be bp bb br bl v W hk hp hb' hr hl hown hbr hF
  exact write1_hsF bk bp bb br bl w.heap.size _ P s0 s1 s2 s3 s4 s5 s6 v _ _ xs lv W hk hp hb' hr hl (own_mono hown (Nat.zero_le _)) (hs.fr hF (fun _ _ e => e)) hxl hll hwf hbr hF.size hsome

end Go.Proofs.YtbkookiigkckdaaGreatDoor

/- spec.PartsRight at metadata. -/
namespace Go.Proofs.YtbkookiigkckdaaGreatDoor
open Go.RowKit
set_option linter.unusedVariables false
set_option linter.unusedSimpArgs false

set_option maxHeartbeats 1000000 in
theorem count_4 (A0 A1 A2 A3 A4 A5 A6 : Option Addr) (c0 c1 c2 c3 c4 c5 c6 : Nat) (n : Nat) (hb : n ≤ 1099511627776) (w : World) :
    Calls Tryz.prog 40 #[.agg #[.slice A0 0 c0, .slice A1 0 c1, .slice A2 0 c2, .slice A3 0 c3, .slice A4 n c4, .slice A5 0 c5, .slice A6 0 c6]] w (IntEnds n w) := by
  go_enter Tryz.func40, Tryz.ntmps40
  go_wp2
  go_ret
  exact ⟨rfl, (Fr.refl _ w).alloc _⟩

set_option maxHeartbeats 4000000 in
set_option maxRecDepth 100000 in
theorem right_6 (A0 A1 A2 A3 A4 A5 A6 : Option Addr) (c0 c1 c2 c3 c4 c5 c6 : Nat) (n : Nat) (P : Nat → Prop) (lv : List Mta) (w : World) (hs : Sl P w (.slice A4 n c4) 4 lv.length (lv.flatMap Mta.c)) (hn : lv.length = n) (hb : n ≤ 1099511627776) (hi : ∀ p ∈ lv, p.unit.size ≤ 1099511627776 ∧ p.help.size ≤ 1099511627776) :
    Calls Tryz.prog 30 #[.int .i64 6, .agg #[.slice A0 0 c0, .slice A1 0 c1, .slice A2 0 c2, .slice A3 0 c3, .slice A4 n c4, .slice A5 0 c5, .slice A6 0 c6]] w (BoolEnds (n ≤ 12 ∧ ∀ p ∈ lv, p.unit.size + p.help.size ≤ 600) w) := by
  by_cases h12 : n ≤ 12
  · have h1 : ¬ (12 : Int) < (n : Int) := by omega
    have HS := Lib.hid hs
    have HN := Lib.hid hn
    have HI := Lib.hid hi
    clear hs hn hi
    go_enter Tryz.func30, Tryz.ntmps30
    go_wp2_with (go_at_call 40; refine (count_4 A0 A1 A2 A3 A4 A5 A6 c0 c1 c2 c3 c4 c5 c6 n hb _).mono ?_; rintro r w1 ⟨rfl, hf1⟩; obtain ⟨x0, x1, x2, x3, x4, x5, x6⟩ := seven_cells ((Blk.new w 54 #[.slice A0 0 c0, .slice A1 0 c1, .slice A2 0 c2, .slice A3 0 c3, .slice A4 n c4, .slice A5 0 c5, .slice A6 0 c6]).fr hf1 (fun e => e)))
    have HF := Lib.hid (((Fr.refl (fun _ => False) w).alloc (.cells #[.slice A0 0 c0, .slice A1 0 c1, .slice A2 0 c2, .slice A3 0 c3, .slice A4 n c4, .slice A5 0 c5, .slice A6 0 c6] 54)).same hf1)
    have hw1 := HF.out.size
    have HB := Lib.hid ((Blk.new w 54 #[.slice A0 0 c0, .slice A1 0 c1, .slice A2 0 c2, .slice A3 0 c3, .slice A4 n c4, .slice A5 0 c5, .slice A6 0 c6]).fr hf1 (fun e => e))
    clear hf1
    go_loopw [9] (fun i wr => ∃ k : Nat, k ≤ n ∧ i = .int .i64 k ∧ Hid (Fr (fun _ => False) w1 wr) ∧ Hid (∀ j p, j < k → lv[j]? = some p → p.unit.size + p.help.size ≤ 600)) (fun i _ => n - (intOf i).toNat)
    case atStart => exact ⟨0, Nat.zero_le _, rfl, Lib.hid (Fr.refl _ _), Lib.hid (fun j p h => absurd h (Nat.not_lt_zero _))⟩
    case round =>
      obtain ⟨k, hk, rfl, RF, RG⟩ := hrel
      obtain ⟨y0, y1, y2, y3, y4, y5, y6⟩ := seven_cells (HB.out.fr RF.out (fun e => e))
      clear x0 x1 x2 x3 x4 x5 x6
      by_cases hlt : k < n
      · have hS := HS.out.fr (HF.out.same RF.out) (fun _ _ e => e)
        obtain ⟨A, c, e2, _, hc, hr⟩ := hS
        injection e2 with e2 e2n e2c
        obtain ⟨g, off, rfl, _, hcell⟩ := hr (by have := HN.out; omega)
        obtain ⟨x, hx⟩ : ∃ x, lv[k]? = some x := ⟨_, List.getElem?_eq_getElem (by rw [HN.out]; exact hlt)⟩
        have hxm := List.mem_of_getElem? hx
        have q2 : wr.cell? ⟨g, off + k * 4 + 2, none⟩ = some (.string x.unit) := hcell (k * 4 + 2) _ (by rw [flat4 Mta.c (fun _ => rfl) lv k x hx 2 (by omega)]; rfl)
        have q3 : wr.cell? ⟨g, off + k * 4 + 3, none⟩ = some (.string x.help) := hcell (k * 4 + 3) _ (by rw [flat4 Mta.c (fun _ => rfl) lv k x hx 3 (by omega)]; rfl)
        have hil := HI.out x hxm
        have HXM := Lib.hid hxm
        have HX := Lib.hid hx
        clear hx hxm
        subst e2
        have HQ2 := Lib.hid q2
        have HQ3 := Lib.hid q3
        have HY4 := Lib.hid y4
        clear hcell hr e2n e2c
        have hwp : IntKind.i64.wrap ((x.unit.size : Int) + (x.help.size : Int)) = (x.unit.size : Int) + (x.help.size : Int) := by
          first | (go_num; done) | (unfold IntKind.wrap; simp; omega) | (simp [IntKind.wrap, IntKind.bits, IntKind.signed]; omega) | (have := wrap64_id (x := (x.unit.size : Int) + (x.help.size : Int)) (by omega) (by omega); exact this)
        by_cases h6 : x.unit.size + x.help.size ≤ 600
        · have h6i : ¬ (600 : Int) < IntKind.i64.wrap ((x.unit.size : Int) + (x.help.size : Int)) := by rw [hwp]; omega
          clear hwp
          go_wp2_with fail
          go_region_held3 (fun w' => w'.cell? ⟨w.heap.size, 4, none⟩ = some (.slice (some ⟨g, off, none⟩) n c4) ∧ w'.cell? ⟨g, off + k * 4 + 2, none⟩ = some (.string x.unit) ∧ w'.cell? ⟨g, off + k * 4 + 3, none⟩ = some (.string x.help))
            ((first | (go_split_ands; refine ⟨?_, ?_, ?_⟩ <;> first | exact HY4.out | exact HQ2.out | exact HQ3.out) | go_keep))
            (fail)
          go_wp2
          go_roundw
          case rel => exact ⟨k + 1, by omega, by go_num, Lib.hid RF.out.drew, Lib.hid (fun j p h h2 => by
            rcases Nat.lt_or_ge j k with h3 | h3
            · exact RG.out j p h3 h2
            · obtain rfl : j = k := by omega
              have h4 := h2.symm.trans HX.out
              injection h4 with h4
              rw [h4]
              exact h6)⟩
          case measure => simp [intOf]; omega
        · have h6i : (600 : Int) < IntKind.i64.wrap ((x.unit.size : Int) + (x.help.size : Int)) := by rw [hwp]; omega
          clear hwp
          go_wp2_with fail
          go_region_held3 (fun w' => w'.cell? ⟨w.heap.size, 4, none⟩ = some (.slice (some ⟨g, off, none⟩) n c4) ∧ w'.cell? ⟨g, off + k * 4 + 2, none⟩ = some (.string x.unit) ∧ w'.cell? ⟨g, off + k * 4 + 3, none⟩ = some (.string x.help))
            ((first | (go_split_ands; refine ⟨?_, ?_, ?_⟩ <;> first | exact HY4.out | exact HQ2.out | exact HQ3.out) | go_keep))
            (fail)
          go_wp2
          go_ret
          exact ⟨false, rfl, ⟨fun h => (by cases h), fun h => absurd (h.2 _ HXM.out) h6⟩, HF.out.same RF.out.drew⟩
      · obtain rfl : k = n := by omega
        go_wp2
        go_ret
        refine ⟨true, rfl, ⟨fun _ => ⟨h12, fun p hp => ?_⟩, fun _ => rfl⟩, HF.out.same RF.out⟩
        obtain ⟨j, hj, e⟩ := List.getElem_of_mem hp
        exact RG.out j p (by rw [← HN.out]; exact hj) (by rw [List.getElem?_eq_getElem hj, e])
  · have h1 : (12 : Int) < (n : Int) := by omega
    go_enter Tryz.func30, Tryz.ntmps30
    go_wp2_with (go_at_call 40; refine (count_4 A0 A1 A2 A3 A4 A5 A6 c0 c1 c2 c3 c4 c5 c6 n hb _).mono ?_; rintro r w1 ⟨rfl, hf1⟩)
    go_ret
    exact ⟨false, rfl, ⟨fun h => (by cases h), fun h => absurd h.1 h12⟩, ((Fr.refl _ w).alloc _).same hf1⟩

end Go.Proofs.YtbkookiigkckdaaGreatDoor

