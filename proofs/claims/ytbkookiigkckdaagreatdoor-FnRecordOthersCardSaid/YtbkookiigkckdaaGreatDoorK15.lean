/- Texts of this seat, merged and shortened: H9, J10, J11, J22, J19, Se, Td, J20, Tr. -/
import Derived.Test.YtbkookiigkckdaaGreatDoorK04
import Derived.Test.YtbkookiigkckdaaGreatDoorK07
import Derived.Test.YtbkookiigkckdaaGreatDoorK08
import Derived.Test.YtbkookiigkckdaaGreatDoorK09
import Derived.Test.YtbkookiigkckdaaGreatDoorK12
import Derived.Test.YtbkookiigkckdaaGreatDoorK13
import Derived.Test.YtbkookiigkckdaaGreatDoorK14
set_option linter.unusedVariables false
set_option linter.unusedSimpArgs false
set_option maxRecDepth 100000
set_option maxHeartbeats 8000000
namespace Go.Proofs.YtbkookiigkckdaaGreatDoor
open Go.RowKit
def UnX (w : World) (h : Hst) (r : Ending) (w' : World) : Prop :=
 ∃ (A1 : Option Addr) (m1 c1 : Nat) (A2 : Option Addr) (m2 c2 : Nat) (A3 : Option Addr) (m3 c3 : Nat) (A4 : Option Addr) (m4 c4 : Nat) (A5 : Option Addr) (m5 c5 : Nat) (A6 : Option Addr) (m6 c6 : Nat) (A7 : Option Addr) (m7 c7 : Nat), r = .returned (.agg #[.int .u8 h.hint.toNat, .int .i32 h.schema, .int .u64 h.thr, .int .u64 h.sum, .int .u64 h.zc, .int .u64 h.cnt, .slice A1 m1 c1, .slice A2 m2 c2, .slice A3 m3 c3, .slice A4 m4 c4, .slice A5 m5 c5, .slice A6 m6 c6, .slice A7 m7 c7]) ∧ OwnHs w.heap.size w' h ⟨.slice A1 m1 c1, .slice A2 m2 c2, .slice A3 m3 c3, .slice A4 m4 c4, .slice A5 m5 c5, .slice A6 m6 c6, .slice A7 m7 c7⟩ ∧ Fr (fun _ => False) w w'
def UnHEnds (w : World) (l : List Rhs) (r : Ending) (w' : World) : Prop :=
 ∃ v lu, r = .returned v ∧ lu.map Prod.fst = l ∧ OwnI w.heap.size w' v lu ∧ Fr (fun _ => False) w w'
theorem zhQ (P : Nat → Prop) (h : Hst) (v : Value) (w : World) (hr : RdW P w h v) (hl : h.few 1099511627776) : Calls Tryz.prog 176 #[v] w (UnX w h.cutW) := by
 refine (ziY P h v w hr hl).mono ?_; rintro r w' ⟨⟨p, n, u, d, fu, fd, c⟩, rfl, ho, hf, hs⟩; obtain ⟨A1, m1, c1, rfl⟩ := hs p (by simp); obtain ⟨A2, m2, c2, rfl⟩ := hs n (by simp); obtain ⟨A3, m3, c3, rfl⟩ := hs u (by simp); obtain ⟨A4, m4, c4, rfl⟩ := hs d (by simp); obtain ⟨A5, m5, c5, rfl⟩ := hs fu (by simp); obtain ⟨A6, m6, c6, rfl⟩ := hs fd (by simp)
 obtain ⟨A7, m7, c7, rfl⟩ := hs c (by simp); exact ⟨A1, m1, c1, A2, m2, c2, A3, m3, c3, A4, m4, c4, A5, m5, c5, A6, m6, c6, A7, m7, c7, rfl, ho, hf⟩
theorem zdR (P : Nat → Prop) (v : Value) (lv : List (Rhs × Value)) (w : World) (h : RdHW P w v lv) (hl : lv.length ≤ 1048576) (hil : ∀ p ∈ lv, p.1.h.few 1099511627776) :
 Calls Tryz.prog 85 #[v] w (UnHEnds w (lv.map fun p => ({ p.1 with h := p.1.h.cutW } : Rhs))) := by
 have mixed : Tryz.prog.follows .mixedOrders = true := by kernel_rfl
 obtain ⟨⟨A, c, rfl, hlen, hnc, hr⟩, hin⟩ := h; obtain ⟨n, hn⟩ : ∃ n, lv.length = n := ⟨_, rfl⟩; rw [hn] at hr hnc hl ⊢; have HN := zk7 hn; have HR := zk7 hr; have HI := zk7 hin
 have HIL := zk7 hil; obtain ⟨i0, hi0, hz0, hz1, hz2⟩ := info_parts Tryz.info194; clear hn hr hlen hin hil; go_enter Tryz.func85, Tryz.ntmps85; go_wp2
 go_loopw [2, 7] (fun v i wr => ∃ (k : Nat) (lo : List (Rhs × Hsl)), k ≤ n ∧ i = .int .i64 k ∧ Hid (lo.map Prod.fst = (lv.take k).map fun p => ({ p.1 with h := p.1.h.cutW } : Rhs)) ∧ Hid (lo.length = k) ∧ Hid (OwnI w.heap.size wr v lo) ∧ Hid (Fr (fun _ => False) w wr)) (fun _ i _ => n - (intOf i).toNat)
 case atStart => exact ⟨0, [], zli _, rfl, zk7 rfl, zk7 rfl, zk7 (OwnI.nil _ _), zk7 (zlW _ _)⟩
 case round =>
  obtain ⟨k, lo, hk, rfl, HM, HLO, HO, HF⟩ := hrel; by_cases hlt : k < n
  ·obtain ⟨g, off, rfl, _, hcell⟩ := HR.out (by omega)
   obtain ⟨x, hx⟩ : ∃ x, lv[k]? = some x := ⟨_, zk9 (by rw [HN.out]; exact hlt)⟩; have cc : ∀ j, j < 3 → ∀ u, (rhc x)[j]? = some u → wr.cell? ⟨g, off + (k * 3 + j), none⟩ = some u := fun j hj u hu => by
    have := hcell (k * 3 + j) u (by rw [zeA rhc (fun _ => rfl) lv k x hx j hj]; exact hu); rw [HF.out.cell (p := ⟨g, off + (k * 3 + j), none⟩) (zle w _ this) (fun e => e)]; exact this
   have c00 : wr.cell? ⟨g, off + k * 3, none⟩ = some (.int .u64 x.1.ref) := cc 0 (by omega) _ rfl; have c10 : wr.cell? ⟨g, off + k * 3 + 1, none⟩ = some (.int .i64 x.1.t) := cc 1 (by omega) _ rfl; have c20 : wr.cell? ⟨g, off + k * 3 + 2, none⟩ = some x.2 := cc 2 (by omega) _ rfl; have hxm := zlf hx; have hiv := HI.out x hxm; have hivl := HIL.out x hxm; obtain ⟨⟨ref, t, h⟩, pv⟩ := x
   simp only [] at c00 c10 c20 hiv hivl; have hiv2 := hiv; obtain ⟨gx, _, rfl, _⟩ := hiv2; have hsz := HF.out.size; have HX := zk7 hx; have HC := zk7 (fun W (hW : Fr (fun _ => False) w W) => zhQ P h _ W (hiv.fr hW (fun _ _ e => e)) hivl); obtain ⟨a', n', k', rfl⟩ := zae HO.out.1; clear hcell cc hx hxm hiv hivl; go_wp2_with fail
   have HB8 := zk7 (Blk.new wr 290 #[.int .u64 ref, .int .i64 t, .pointer (some ⟨gx, 0, none⟩)]); have F8 := zk7 ((HF.out.alloc (.cells #[.int .u64 ref, .int .i64 t, .pointer (some ⟨gx, 0, none⟩)] 290)).drew); have HLO2 := HLO.out; have hloz : lo.length ≤ 1048576 := by omega
   have s0 : (wr.alloc (.cells #[.int .u64 ref, .int .i64 t, .pointer (some ⟨gx, 0, none⟩)] 290)).drew.cell? ⟨wr.heap.size, 0, none⟩ = some (.int .u64 ref) := HB8.out.cell 0; have s1 : (wr.alloc (.cells #[.int .u64 ref, .int .i64 t, .pointer (some ⟨gx, 0, none⟩)] 290)).drew.cell? ⟨wr.heap.size, 1, none⟩ = some (.int .i64 t) := HB8.out.cell 1
   have s2 : (wr.alloc (.cells #[.int .u64 ref, .int .i64 t, .pointer (some ⟨gx, 0, none⟩)] 290)).drew.cell? ⟨wr.heap.size, 2, none⟩ = some (.pointer (some ⟨gx, 0, none⟩)) := HB8.out.cell 2; go_region_held3 (fun w' => w'.cell? ⟨wr.heap.size, 0, none⟩ = some (.int .u64 ref) ∧ w'.cell? ⟨wr.heap.size, 1, none⟩ = some (.int .i64 t) ∧ w'.cell? ⟨wr.heap.size, 2, none⟩ = some (.pointer (some ⟨gx, 0, none⟩)))
    ((first | exact ⟨KX9.out.cell 0, KX9.out.cell 1, KX9.out.cell 2⟩ | exact ⟨(KX5.out.alloc _).cell 0, (KX5.out.alloc _).cell 1, (KX5.out.alloc _).cell 2⟩ | exact ⟨KX5.out.cell 0, KX5.out.cell 1, KX5.out.cell 2⟩ | go_keep))
    ((first
      | (go_at_call 176; refine (HC.out _ F8.out).mono ?_; rintro r5 w5 ⟨A1, m1, c1, A2, m2, c2, A3, m3, c3, A4, m4, c4, A5, m5, c5, A6, m6, c6, A7, m7, c7, rfl, own5, hf5⟩; simp only [Hst.cutW]; have KX5 := zk7 (HB8.out.drew.fr hf5 (fun e => e)); have F5 := zk7 (F8.out.same hf5); have G5 := zk7 ((((zlW (fun _ => False) wr).alloc (.cells #[.int .u64 ref, .int .i64 t, .pointer (some ⟨gx, 0, none⟩)] 290)).drew).same hf5); have O5 := zk7 (HO.out.fr G5.out (fun _ _ _ e => e)); have HN5 := zk7 (own5.mono F8.out.size); have hz5 := F5.out.size)
      | (refine zat _ (by rfl) _ _ 52 52 (by rfl) w.heap.size 194 i0 _ 15 224 Tryz.underlying52 hi0 hz0 hz1 hz2 rfl (by decide) (.slice a' n' k') lo.length (lo.flatMap hsc) (by rfl) (O5.out.1.alloc _) _ 1 [.int .u64 ref, .int .i64 t, .int .u8 h.hint.toNat, .int .i32 h.schema, .int .u64 h.thr, .int .u64 h.sum, .int .u64 h.zc, .int .u64 h.cnt, .slice A1 m1 c1, .slice A2 m2 c2, .slice A3 m3 c3, .slice A4 m4 c4, .slice A5 m5 c5, .slice A6 m6 c6, .slice A7 m7 c7] (by rfl) (zaF Tryz.underlying52 (Blk.new w5 194 #[.int .u64 ref, .int .i64 t, .int .u8 h.hint.toNat, .int .i32 h.schema, .int .u64 h.thr, .int .u64 h.sum, .int .u64 h.zc, .int .u64 h.cnt, .slice A1 m1 c1, .slice A2 m2 c2, .slice A3 m3 c3, .slice A4 m4 c4, .slice A5 m5 c5, .slice A6 m6 c6, .slice A7 m7 c7]) rfl (by simp [Value.oneCell'])) (by unfold maxLen; omega) (by omega) (by simp; omega) ?_; intro v' w2 hown' hgrow hat; have KX9 := zk7 ((KX5.out.alloc (.cells #[.int .u64 ref, .int .i64 t, .int .u8 h.hint.toNat, .int .i32 h.schema, .int .u64 h.thr, .int .u64 h.sum, .int .u64 h.zc, .int .u64 h.cnt, .slice A1 m1 c1, .slice A2 m2 c2, .slice A3 m3 c3, .slice A4 m4 c4, .slice A5 m5 c5, .slice A6 m6 c6, .slice A7 m7 c7] 194)).grown hgrow (fun e => zlR _ (zav HO.out.1 e.symm))))))
   have newO : OwnI w.heap.size w2 v' (lo ++ [(⟨ref, t, h.cutW⟩, ⟨.slice A1 m1 c1, .slice A2 m2 c2, .slice A3 m3 c3, .slice A4 m4 c4, .slice A5 m5 c5, .slice A6 m6 c6, .slice A7 m7 c7⟩)]) :=
    OwnI.push (p := (⟨ref, t, h.cutW⟩, ⟨.slice A1 m1 c1, .slice A2 m2 c2, .slice A3 m3 c3, .slice A4 m4 c4, .slice A5 m5 c5, .slice A6 m6 c6, .slice A7 m7 c7⟩)) (O5.out.fr ((zlW (fun _ => False) w5).alloc (.cells #[.int .u64 ref, .int .i64 t, .int .u8 h.hint.toNat, .int .i32 h.schema, .int .u64 h.thr, .int .u64 h.sum, .int .u64 h.zc, .int .u64 h.cnt, .slice A1 m1 c1, .slice A2 m2 c2, .slice A3 m3 c3, .slice A4 m4 c4, .slice A5 m5 c5, .slice A6 m6 c6, .slice A7 m7 c7] 194)) (fun _ _ _ e => e)) (HN5.out.fr ((zlW (fun _ => False) w5).alloc (.cells #[.int .u64 ref, .int .i64 t, .int .u8 h.hint.toNat, .int .i32 h.schema, .int .u64 h.thr, .int .u64 h.sum, .int .u64 h.zc, .int .u64 h.cnt, .slice A1 m1 c1, .slice A2 m2 c2, .slice A3 m3 c3, .slice A4 m4 c4, .slice A5 m5 c5, .slice A6 m6 c6, .slice A7 m7 c7] 194)) (fun _ _ _ e => e)) hgrow hown'
   have newF : Fr (fun _ => False) w w2 := (F5.out.alloc _).grown hgrow (fun g hg => .inr ((HO.out.1.lt g hg).1)); have newM : (lo ++ [((⟨ref, t, h.cutW⟩ : Rhs), (⟨.slice A1 m1 c1, .slice A2 m2 c2, .slice A3 m3 c3, .slice A4 m4 c4, .slice A5 m5 c5, .slice A6 m6 c6, .slice A7 m7 c7⟩ : Hsl))]).map Prod.fst = (lv.take (k + 1)).map fun p => ({ p.1 with h := p.1.h.cutW } : Rhs) := by
    rw [zlI, HX.out, zlx, zlx, HM.out]; rfl
   have newN : (lo ++ [((⟨ref, t, h.cutW⟩ : Rhs), (⟨.slice A1 m1 c1, .slice A2 m2 c2, .slice A3 m3 c3, .slice A4 m4 c4, .slice A5 m5 c5, .slice A6 m6 c6, .slice A7 m7 c7⟩ : Hsl))]).length = k + 1 := by rw [zk8, HLO.out]; rfl
   have NO := zk7 newO; have NF := zk7 newF; have NM := zk7 newM; have NN := zk7 newN; clear newO newF newM newN hown' hgrow hat c00 c10 c20 s0 s1 s2 hf5 KX9 O5 HN5 own5 HC; go_wp2; go_roundw
   case rel => exact ⟨k + 1, _, by omega, by go_num, NM, NN, NO, NF⟩
   case measure => simp [intOf]; omega
  ·go_wp2
   go_ret; obtain rfl : k = n := by omega
   refine ⟨_, lo, rfl, ?_, HO.out, HF.out⟩; rw [HM.out, ← HN.out, zly]
theorem zhf (P : Nat → Prop) (h : Hst) (v : Value) (w : World) (hr : RdF P w h v) (hl : h.few 1099511627776) : Calls Tryz.prog 179 #[v] w (UnX w h.cutF) := by
 refine (zhR P h v w hr hl).mono ?_; rintro r w' ⟨⟨p, n, u, d, fu, fd, c⟩, rfl, ho, hf, hs⟩; obtain ⟨A1, m1, c1, rfl⟩ := hs p (by simp); obtain ⟨A2, m2, c2, rfl⟩ := hs n (by simp); obtain ⟨A3, m3, c3, rfl⟩ := hs u (by simp); obtain ⟨A4, m4, c4, rfl⟩ := hs d (by simp); obtain ⟨A5, m5, c5, rfl⟩ := hs fu (by simp); obtain ⟨A6, m6, c6, rfl⟩ := hs fd (by simp)
 obtain ⟨A7, m7, c7, rfl⟩ := hs c (by simp); exact ⟨A1, m1, c1, A2, m2, c2, A3, m3, c3, A4, m4, c4, A5, m5, c5, A6, m6, c6, A7, m7, c7, rfl, ho, hf⟩
theorem ze8 (P : Nat → Prop) (v : Value) (lv : List (Rhs × Value)) (w : World) (h : RdHF P w v lv) (hl : lv.length ≤ 1048576) (hil : ∀ p ∈ lv, p.1.h.few 1099511627776) :
 Calls Tryz.prog 88 #[v] w (UnHEnds w (lv.map fun p => ({ p.1 with h := p.1.h.cutF } : Rhs))) := by
 have mixed : Tryz.prog.follows .mixedOrders = true := by kernel_rfl
 obtain ⟨⟨A, c, rfl, hlen, hnc, hr⟩, hin⟩ := h; obtain ⟨n, hn⟩ : ∃ n, lv.length = n := ⟨_, rfl⟩; rw [hn] at hr hnc hl ⊢; have HN := zk7 hn; have HR := zk7 hr; have HI := zk7 hin
 have HIL := zk7 hil; obtain ⟨i0, hi0, hz0, hz1, hz2⟩ := info_parts Tryz.info194; clear hn hr hlen hin hil; go_enter Tryz.func88, Tryz.ntmps88; go_wp2
 go_loopw [2, 7] (fun v i wr => ∃ (k : Nat) (lo : List (Rhs × Hsl)), k ≤ n ∧ i = .int .i64 k ∧ Hid (lo.map Prod.fst = (lv.take k).map fun p => ({ p.1 with h := p.1.h.cutF } : Rhs)) ∧ Hid (lo.length = k) ∧ Hid (OwnI w.heap.size wr v lo) ∧ Hid (Fr (fun _ => False) w wr)) (fun _ i _ => n - (intOf i).toNat)
 case atStart => exact ⟨0, [], zli _, rfl, zk7 rfl, zk7 rfl, zk7 (OwnI.nil _ _), zk7 (zlW _ _)⟩
 case round =>
  obtain ⟨k, lo, hk, rfl, HM, HLO, HO, HF⟩ := hrel; by_cases hlt : k < n
  ·obtain ⟨g, off, rfl, _, hcell⟩ := HR.out (by omega)
   obtain ⟨x, hx⟩ : ∃ x, lv[k]? = some x := ⟨_, zk9 (by rw [HN.out]; exact hlt)⟩; have cc : ∀ j, j < 3 → ∀ u, (rhc x)[j]? = some u → wr.cell? ⟨g, off + (k * 3 + j), none⟩ = some u := fun j hj u hu => by
    have := hcell (k * 3 + j) u (by rw [zeA rhc (fun _ => rfl) lv k x hx j hj]; exact hu); rw [HF.out.cell (p := ⟨g, off + (k * 3 + j), none⟩) (zle w _ this) (fun e => e)]; exact this
   have c00 : wr.cell? ⟨g, off + k * 3, none⟩ = some (.int .u64 x.1.ref) := cc 0 (by omega) _ rfl; have c10 : wr.cell? ⟨g, off + k * 3 + 1, none⟩ = some (.int .i64 x.1.t) := cc 1 (by omega) _ rfl; have c20 : wr.cell? ⟨g, off + k * 3 + 2, none⟩ = some x.2 := cc 2 (by omega) _ rfl; have hxm := zlf hx; have hiv := HI.out x hxm; have hivl := HIL.out x hxm; obtain ⟨⟨ref, t, h⟩, pv⟩ := x
   simp only [] at c00 c10 c20 hiv hivl; have hiv2 := hiv; obtain ⟨gx, _, rfl, _⟩ := hiv2; have hsz := HF.out.size; have HX := zk7 hx; have HC := zk7 (fun W (hW : Fr (fun _ => False) w W) => zhf P h _ W (hiv.fr hW (fun _ _ e => e)) hivl); obtain ⟨a', n', k', rfl⟩ := zae HO.out.1; clear hcell cc hx hxm hiv hivl; go_wp2_with fail
   have HB8 := zk7 (Blk.new wr 298 #[.int .u64 ref, .int .i64 t, .pointer (some ⟨gx, 0, none⟩)]); have F8 := zk7 ((HF.out.alloc (.cells #[.int .u64 ref, .int .i64 t, .pointer (some ⟨gx, 0, none⟩)] 298)).drew); have HLO2 := HLO.out; have hloz : lo.length ≤ 1048576 := by omega
   have s0 : (wr.alloc (.cells #[.int .u64 ref, .int .i64 t, .pointer (some ⟨gx, 0, none⟩)] 298)).drew.cell? ⟨wr.heap.size, 0, none⟩ = some (.int .u64 ref) := HB8.out.cell 0; have s1 : (wr.alloc (.cells #[.int .u64 ref, .int .i64 t, .pointer (some ⟨gx, 0, none⟩)] 298)).drew.cell? ⟨wr.heap.size, 1, none⟩ = some (.int .i64 t) := HB8.out.cell 1
   have s2 : (wr.alloc (.cells #[.int .u64 ref, .int .i64 t, .pointer (some ⟨gx, 0, none⟩)] 298)).drew.cell? ⟨wr.heap.size, 2, none⟩ = some (.pointer (some ⟨gx, 0, none⟩)) := HB8.out.cell 2; go_region_held3 (fun w' => w'.cell? ⟨wr.heap.size, 0, none⟩ = some (.int .u64 ref) ∧ w'.cell? ⟨wr.heap.size, 1, none⟩ = some (.int .i64 t) ∧ w'.cell? ⟨wr.heap.size, 2, none⟩ = some (.pointer (some ⟨gx, 0, none⟩)))
    ((first | exact ⟨KX9.out.cell 0, KX9.out.cell 1, KX9.out.cell 2⟩ | exact ⟨(KX5.out.alloc _).cell 0, (KX5.out.alloc _).cell 1, (KX5.out.alloc _).cell 2⟩ | exact ⟨KX5.out.cell 0, KX5.out.cell 1, KX5.out.cell 2⟩ | go_keep))
    ((first
      | (go_at_call 179; refine (HC.out _ F8.out).mono ?_; rintro r5 w5 ⟨A1, m1, c1, A2, m2, c2, A3, m3, c3, A4, m4, c4, A5, m5, c5, A6, m6, c6, A7, m7, c7, rfl, own5, hf5⟩; simp only [Hst.cutF]; have KX5 := zk7 (HB8.out.drew.fr hf5 (fun e => e)); have F5 := zk7 (F8.out.same hf5); have G5 := zk7 ((((zlW (fun _ => False) wr).alloc (.cells #[.int .u64 ref, .int .i64 t, .pointer (some ⟨gx, 0, none⟩)] 298)).drew).same hf5); have O5 := zk7 (HO.out.fr G5.out (fun _ _ _ e => e)); have HN5 := zk7 (own5.mono F8.out.size); have hz5 := F5.out.size)
      | (refine zat _ (by rfl) _ _ 52 52 (by rfl) w.heap.size 194 i0 _ 15 224 Tryz.underlying52 hi0 hz0 hz1 hz2 rfl (by decide) (.slice a' n' k') lo.length (lo.flatMap hsc) (by rfl) (O5.out.1.alloc _) _ 1 [.int .u64 ref, .int .i64 t, .int .u8 h.hint.toNat, .int .i32 h.schema, .int .u64 h.thr, .int .u64 h.sum, .int .u64 h.zc, .int .u64 h.cnt, .slice A1 m1 c1, .slice A2 m2 c2, .slice A3 m3 c3, .slice A4 m4 c4, .slice A5 m5 c5, .slice A6 m6 c6, .slice A7 m7 c7] (by rfl) (zaF Tryz.underlying52 (Blk.new w5 194 #[.int .u64 ref, .int .i64 t, .int .u8 h.hint.toNat, .int .i32 h.schema, .int .u64 h.thr, .int .u64 h.sum, .int .u64 h.zc, .int .u64 h.cnt, .slice A1 m1 c1, .slice A2 m2 c2, .slice A3 m3 c3, .slice A4 m4 c4, .slice A5 m5 c5, .slice A6 m6 c6, .slice A7 m7 c7]) rfl (by simp [Value.oneCell'])) (by unfold maxLen; omega) (by omega) (by simp; omega) ?_; intro v' w2 hown' hgrow hat; have KX9 := zk7 ((KX5.out.alloc (.cells #[.int .u64 ref, .int .i64 t, .int .u8 h.hint.toNat, .int .i32 h.schema, .int .u64 h.thr, .int .u64 h.sum, .int .u64 h.zc, .int .u64 h.cnt, .slice A1 m1 c1, .slice A2 m2 c2, .slice A3 m3 c3, .slice A4 m4 c4, .slice A5 m5 c5, .slice A6 m6 c6, .slice A7 m7 c7] 194)).grown hgrow (fun e => zlR _ (zav HO.out.1 e.symm))))))
   have newO : OwnI w.heap.size w2 v' (lo ++ [(⟨ref, t, h.cutF⟩, ⟨.slice A1 m1 c1, .slice A2 m2 c2, .slice A3 m3 c3, .slice A4 m4 c4, .slice A5 m5 c5, .slice A6 m6 c6, .slice A7 m7 c7⟩)]) :=
    OwnI.push (p := (⟨ref, t, h.cutF⟩, ⟨.slice A1 m1 c1, .slice A2 m2 c2, .slice A3 m3 c3, .slice A4 m4 c4, .slice A5 m5 c5, .slice A6 m6 c6, .slice A7 m7 c7⟩)) (O5.out.fr ((zlW (fun _ => False) w5).alloc (.cells #[.int .u64 ref, .int .i64 t, .int .u8 h.hint.toNat, .int .i32 h.schema, .int .u64 h.thr, .int .u64 h.sum, .int .u64 h.zc, .int .u64 h.cnt, .slice A1 m1 c1, .slice A2 m2 c2, .slice A3 m3 c3, .slice A4 m4 c4, .slice A5 m5 c5, .slice A6 m6 c6, .slice A7 m7 c7] 194)) (fun _ _ _ e => e)) (HN5.out.fr ((zlW (fun _ => False) w5).alloc (.cells #[.int .u64 ref, .int .i64 t, .int .u8 h.hint.toNat, .int .i32 h.schema, .int .u64 h.thr, .int .u64 h.sum, .int .u64 h.zc, .int .u64 h.cnt, .slice A1 m1 c1, .slice A2 m2 c2, .slice A3 m3 c3, .slice A4 m4 c4, .slice A5 m5 c5, .slice A6 m6 c6, .slice A7 m7 c7] 194)) (fun _ _ _ e => e)) hgrow hown'
   have newF : Fr (fun _ => False) w w2 := (F5.out.alloc _).grown hgrow (fun g hg => .inr ((HO.out.1.lt g hg).1)); have newM : (lo ++ [((⟨ref, t, h.cutF⟩ : Rhs), (⟨.slice A1 m1 c1, .slice A2 m2 c2, .slice A3 m3 c3, .slice A4 m4 c4, .slice A5 m5 c5, .slice A6 m6 c6, .slice A7 m7 c7⟩ : Hsl))]).map Prod.fst = (lv.take (k + 1)).map fun p => ({ p.1 with h := p.1.h.cutF } : Rhs) := by
    rw [zlI, HX.out, zlx, zlx, HM.out]; rfl
   have newN : (lo ++ [((⟨ref, t, h.cutF⟩ : Rhs), (⟨.slice A1 m1 c1, .slice A2 m2 c2, .slice A3 m3 c3, .slice A4 m4 c4, .slice A5 m5 c5, .slice A6 m6 c6, .slice A7 m7 c7⟩ : Hsl))]).length = k + 1 := by rw [zk8, HLO.out]; rfl
   have NO := zk7 newO; have NF := zk7 newF; have NM := zk7 newM; have NN := zk7 newN; clear newO newF newM newN hown' hgrow hat c00 c10 c20 s0 s1 s2 hf5 KX9 O5 HN5 own5 HC; go_wp2; go_roundw
   case rel => exact ⟨k + 1, _, by omega, by go_num, NM, NN, NO, NF⟩
   case measure => simp [intOf]; omega
  ·go_wp2
   go_ret; obtain rfl : k = n := by omega
   refine ⟨_, lo, rfl, ?_, HO.out, HF.out⟩; rw [HM.out, ← HN.out, zly]
def zjU (pre : List Rhs) (xs : List UInt8) : List Rhs := match zcs xs with | some l => (pre ++ l).map (fun x => { x with h := x.h.cutW }) | none => []
def zjN (w : World) (bb bp bo : Nat) (pre : List Rhs) (xs : List UInt8) (r : Ending) (w' : World) : Prop :=
 r = .returned (.tuple #[]) ∧ Fr (fun k => k = bb ∨ k = bp ∨ k = bo) w w' ∧ Blk w' bo 4 #[.bool (zcs xs).isSome] ∧
  ∃ lv lo, Blk w' bp 54 #[.slice none 0 0, .slice none 0 0, .slice none 0 0, .slice none 0 0, .slice none 0 0, .slice none 0 0, lv] ∧ OwnI w.heap.size w' lv lo ∧ lo.map Prod.fst = zjU pre xs
theorem zjp {S : Nat → Prop} {w w' : World} {base : Nat} {lo : List (Rhs × Value)} {xs : List UInt8} {r : Ending} (h : zdO S w base lo (zcs xs) r w') :
 ∃ v' e l2, r = .returned (.tuple #[v', e]) ∧ OwnHW base w' v' l2 ∧ (l2.map fun p => ({ p.1 with h := p.1.h.cutW } : Rhs)) = zjU (lo.map Prod.fst) xs ∧ Fr S w w' ∧ ((e = .nilIface ∧ (zcs xs).isSome = true ∧ ∀ l, zcs xs = some l → l2.map Prod.fst = lo.map Prod.fst ++ l) ∨ (∃ t a, e = .iface t a ∧ (zcs xs).isSome = false ∧ l2 = [])) := by
 unfold zdO at h; unfold zjU; rcases hd : zcs xs with _ | l
 ·rw [hd] at h
  obtain ⟨hf, t, a, rfl⟩ := h; exact ⟨_, _, [], rfl, OwnHW.nil _ _, rfl, hf, .inr ⟨_, _, rfl, rfl, rfl⟩⟩
 ·rw [hd] at h
  obtain ⟨hf, v', l3, rfl, hl3, ho⟩ := h; refine ⟨_, _, lo ++ l3, rfl, ho, ?_, hf, .inl ⟨rfl, rfl, fun l' e => ?_⟩⟩
  ·show _ = ((lo.map Prod.fst ++ l).map (fun x => ({ x with h := x.h.cutW } : Rhs)))
   rw [← hl3, ← zlx, List.map_map]; rfl
  ·injection e with e
   subst e; rw [zlx, hl3]
theorem OwnI.fr9 {base : Nat} {w w' : World} {v : Value} {lo : List (Rhs × Hsl)} {d t : Nat} {cs : Array Value} (h : OwnI base w v lo) (hb : Blk w d t cs) (ht : t = 54 ∨ t = 4) (hf : Fr (fun k => k = d) w w') : OwnI base w' v lo := by
 have go : ∀ {e : TypeId} {z n : Nat} {u : Value} {xs : List Value}, e ≠ t → w.ownsRow base e z u n xs → w'.ownsRow base e z u n xs := fun he o => zah o hf (fun g hg e => zak o hb he (by rw [hg, e])); refine ⟨go (by rcases ht with rfl | rfl <;> decide) h.1, fun p hp => ?_⟩; obtain ⟨a1, a2, a3, a4, a5, a6, a7⟩ := h.2 p hp; have q1 : (319 : Nat) ≠ t := by rcases ht with rfl | rfl <;> decide
 have q2 : (2 : Nat) ≠ t := by rcases ht with rfl | rfl <;> decide
 have q3 : (111 : Nat) ≠ t := by rcases ht with rfl | rfl <;> decide
 exact ⟨go q1 a1, go q1 a2, go q2 a3, go q2 a4, go q3 a5, go q3 a6, go q3 a7⟩
theorem zeN {W w5 w6 : World} {b t : Nat} {cs : Array Value} {v5 : Value} {lo : List (Rhs × Value)} (h : Blk W b t cs) (hf5 : Fr (fun _ => False) W.drew w5) (ho : OwnHW W.drew.heap.size w5 v5 lo) (hf6 : Fr (fun k => some k = v5.ownBlock) w5 w6) : Blk w6 b t cs :=
 (h.drew.fr hf5 (fun e => e)).fr hf6 (fun e => by have h1 := (ho.1.lt b e.symm).1; have h2 : b < W.heap.size := h.lt; exact zlR _ (zlw h2 h1))
def zjV (pre : List Rhs) (xs : List UInt8) : List Rhs := match zct xs with | some l => (pre ++ l).map (fun x => { x with h := x.h.cutF }) | none => []
def zjO (w : World) (bb bp bo : Nat) (pre : List Rhs) (xs : List UInt8) (r : Ending) (w' : World) : Prop :=
 r = .returned (.tuple #[]) ∧ Fr (fun k => k = bb ∨ k = bp ∨ k = bo) w w' ∧ Blk w' bo 4 #[.bool (zct xs).isSome] ∧
  ∃ lv lo, Blk w' bp 54 #[.slice none 0 0, .slice none 0 0, .slice none 0 0, .slice none 0 0, .slice none 0 0, .slice none 0 0, lv] ∧ OwnI w.heap.size w' lv lo ∧ lo.map Prod.fst = zjV pre xs
theorem zjs {S : Nat → Prop} {w w' : World} {base : Nat} {lo : List (Rhs × Value)} {xs : List UInt8} {r : Ending} (h : zdP S w base lo (zct xs) r w') :
 ∃ v' e l2, r = .returned (.tuple #[v', e]) ∧ OwnHF base w' v' l2 ∧ (l2.map fun p => ({ p.1 with h := p.1.h.cutF } : Rhs)) = zjV (lo.map Prod.fst) xs ∧ Fr S w w' ∧ ((e = .nilIface ∧ (zct xs).isSome = true ∧ ∀ l, zct xs = some l → l2.map Prod.fst = lo.map Prod.fst ++ l) ∨ (∃ t a, e = .iface t a ∧ (zct xs).isSome = false ∧ l2 = [])) := by
 unfold zdP at h; unfold zjV; rcases hd : zct xs with _ | l
 ·rw [hd] at h
  obtain ⟨hf, t, a, rfl⟩ := h; exact ⟨_, _, [], rfl, OwnHF.nil _ _, rfl, hf, .inr ⟨_, _, rfl, rfl, rfl⟩⟩
 ·rw [hd] at h
  obtain ⟨hf, v', l3, rfl, hl3, ho⟩ := h; refine ⟨_, _, lo ++ l3, rfl, ho, ?_, hf, .inl ⟨rfl, rfl, fun l' e => ?_⟩⟩
  ·show _ = ((lo.map Prod.fst ++ l).map (fun x => ({ x with h := x.h.cutF } : Rhs)))
   rw [← hl3, ← zlx, List.map_map]; rfl
  ·injection e with e
   subst e; rw [zlx, hl3]
theorem zeO {W w5 w6 : World} {b t : Nat} {cs : Array Value} {v5 : Value} {lo : List (Rhs × Value)} (h : Blk W b t cs) (hf5 : Fr (fun _ => False) W.drew w5) (ho : OwnHF W.drew.heap.size w5 v5 lo) (hf6 : Fr (fun k => some k = v5.ownBlock) w5 w6) : Blk w6 b t cs :=
 (h.drew.fr hf5 (fun e => e)).fr hf6 (fun e => by have h1 := (ho.1.lt b e.symm).1; have h2 : b < W.heap.size := h.lt; exact zlR _ (zlw h2 h1))
theorem zdc : (∀ (_ : True) (te : TypeId) (pe : Value) (bb bk bq bp bo : Nat) (P : Nat → Prop) (q0 q1 q2 q3 q4 q5 q6 v : Value) (xs : List UInt8) (kz : Nat) (hkz : kz = 7 ∨ kz = 9) (w : World) (hb : Blk w bb 44 #[v]) (hv : Sl P w v 1 xs.length (bc xs)) (hk : Blk w bk 3 #[.int .i64 (kz : Int)]) (hq : Blk w bq 54 #[q0, q1, q2, q3, q4, q5, q6]) (pre : List (Rhs × Hsl)) (hs : SlH P w q6 pre) (hpl : pre.length ≤ 1024)
 (hpf : ∀ p ∈ pre, p.1.h.few 1099511627776) (hxf : ∀ l, zcs xs = some l → l.length ≤ 1024 ∧ ∀ x ∈ l, x.h.few 1099511627776)
 (hp : Blk w bp 54 #[.slice none 0 0, .slice none 0 0, .slice none 0 0, .slice none 0 0, .slice none 0 0, .slice none 0 0, .slice none 0 0]) (ho : Blk w bo 4 #[.bool false]) (hE : w.cell? ⟨2, 0, none⟩ = some (.iface te pe)) (hxl : xs.length ≤ 1073741824)
 (hPb : ∀ g, P g → g ≠ bb) (hpq : bp ≠ bq) (h2 : bb ≠ 2 ∧ bp ≠ 2 ∧ bo ≠ 2)
 (Good : St → Prop) (hG : ∀ kd rest, xs = kd :: rest → (kd = 7 ∨ kd = 9) → ∀ l, Good (some l) → zcM (some l) ∧ Good (zaL (zac (some rest)).1 (zaq (zac (some rest)).2).1 (some l)).2) (hG0 : ∀ kd rest, xs = kd :: rest → (kd = 7 ∨ kd = 9) → rest ≠ [] → Good (zaq (zac (some rest)).2).2),
 Calls Tryz.prog 66 #[.pointer (some ⟨bb, 0, none⟩), .pointer (some ⟨bk, 0, none⟩), .pointer (some ⟨bq, 0, none⟩), .pointer (some ⟨bp, 0, none⟩), .pointer (some ⟨bo, 0, none⟩)] w (zjN w bb bp bo (pre.map Prod.fst) xs)) ∧ (∀ (_ : True) (te : TypeId) (pe : Value) (bb bk bq bp bo : Nat) (P : Nat → Prop) (q0 q1 q2 q3 q4 q5 q6 v : Value) (xs : List UInt8) (kz : Nat) (hkz : kz = 8 ∨ kz = 10) (w : World) (hb : Blk w bb 44 #[v]) (hv : Sl P w v 1 xs.length (bc xs)) (hk : Blk w bk 3 #[.int .i64 (kz : Int)]) (hq : Blk w bq 54 #[q0, q1, q2, q3, q4, q5, q6]) (pre : List (Rhs × Hsl)) (hs : SlH P w q6 pre) (hpl : pre.length ≤ 1024)
 (hpf : ∀ p ∈ pre, p.1.h.few 1099511627776) (hxf : ∀ l, zct xs = some l → l.length ≤ 1024 ∧ ∀ x ∈ l, x.h.few 1099511627776)
 (hp : Blk w bp 54 #[.slice none 0 0, .slice none 0 0, .slice none 0 0, .slice none 0 0, .slice none 0 0, .slice none 0 0, .slice none 0 0]) (ho : Blk w bo 4 #[.bool false]) (hE : w.cell? ⟨2, 0, none⟩ = some (.iface te pe)) (hxl : xs.length ≤ 1073741824)
 (hPb : ∀ g, P g → g ≠ bb) (hpq : bp ≠ bq) (h2 : bb ≠ 2 ∧ bp ≠ 2 ∧ bo ≠ 2)
 (Good : St → Prop) (hG : ∀ kd rest, xs = kd :: rest → (kd = 8 ∨ kd = 10) → ∀ l, Good (some l) → zcN (some l) ∧ Good (zaM (zac (some rest)).1 (zaq (zac (some rest)).2).1 (some l)).2) (hG0 : ∀ kd rest, xs = kd :: rest → (kd = 8 ∨ kd = 10) → rest ≠ [] → Good (zaq (zac (some rest)).2).2),
 Calls Tryz.prog 66 #[.pointer (some ⟨bb, 0, none⟩), .pointer (some ⟨bk, 0, none⟩), .pointer (some ⟨bq, 0, none⟩), .pointer (some ⟨bp, 0, none⟩), .pointer (some ⟨bo, 0, none⟩)] w (zjO w bb bp bo (pre.map Prod.fst) xs)) := by
 refine ⟨fun isW te pe bb bk bq bp bo P q0 q1 q2 q3 q4 q5 q6 v xs kz hkz w hb hv hk hq pre hs hpl hpf hxf hp ho hE hxl hPb hpq h2 Good hG hG0 => ?_, fun _ te pe bb bk bq bp bo P q0 q1 q2 q3 q4 q5 q6 v xs kz hkz w hb hv hk hq pre hs hpl hpf hxf hp ho hE hxl hPb hpq h2 Good hG hG0 => ?_⟩; all_goals
  have HGD := zk7 hG; have HGD0 := zk7 hG0; have HXF := zk7 hxf; have HPF := zk7 hpf; clear hG hG0 hxf hpf; obtain ⟨i0, hi0, hz0, hz1, hz2⟩ := info_parts Tryz.info5; have HB := zk7 hb; have HV := zk7 hv; have HK := zk7 hk; have HQ := zk7 hq; have HS := zk7 hs; have HP := zk7 hp; have HO := zk7 ho; have HE := zk7 hE; have HPB := zk7 hPb
  have hv1 : ∃ A m c, v = .slice A m c := let ⟨A, c, h, _⟩ := hv; ⟨A, _, c, h⟩
  obtain ⟨A, m, c, rfl⟩ := hv1; clear hb hv hk hq hs hp ho hE hPb; go_enter Tryz.func66, Tryz.ntmps66; go_wp2_with (first | (go_at_call 67; refine (zcU _ _).mono ?_; rintro r w1 ⟨v1, rfl, ⟨a, rfl⟩, hf1⟩; refine Hid.out ?_))
  have hB1 := ((HB.out.fr hf1 (fun e => e)).alloc (.cells #[.slice (some a) 0 0, .string ⟨#[]⟩, .slice none 0 0] 119)).alloc (.cells #[] 5); have b1 := hB1.cell 0; simp at b1; clear hB1; refine zk7 ?_; go_wp2_with (at_builtin; refine Hid.out ?_)
  have hO0 := World.ownsRow_made (base := w.heap.size) (e := 5) (size := 1) (w1.alloc (.cells #[.slice (some a) 0 0, .string ⟨#[]⟩, .slice none 0 0] 119)) #[] 0 (by have := hf1.size; simp; omega) (zli _) rfl; have hFA : Fr (fun _ => False) w ((w1.alloc (.cells #[.slice (some a) 0 0, .string ⟨#[]⟩, .slice none 0 0] 119)).alloc (.cells #[] 5)) := (hf1.alloc _).alloc _; have hs1 := hf1.size
  refine zk7 ?_; have hg0 : (w1.alloc (.cells #[.slice (some a) 0 0, .string ⟨#[]⟩, .slice none 0 0] 119)).heap.size = w1.heap.size + 1 := by simp
  rw [hg0] at hO0; clear b1; generalize World.alloc _ (Obj.cells #[] 5) = WA at hO0 hFA ⊢; have hsA := hFA.size; have hsrc := zc8 Tryz.underlying44 (HV.out.fr hFA (fun _ _ e => e)) (zet xs)
  refine zad _ rfl _ _ 44 44 rfl w.heap.size 5 i0 (.int .u8 0) 1 1 Tryz.underlying44 hi0 hz0 hz1 hz2 rfl (by decide) (.slice (some ⟨w1.heap.size + 1, 0, none⟩) 0 0) 0 [] rfl hO0 (.slice A m c) xs.length (bc xs) rfl hsrc (by unfold maxLen; omega) (by omega) (by omega) ?_; intro v' w2 hown' hgrow hat
  rw [zlC, zlJ] at hown'; obtain ⟨a2, k2, rfl⟩ := zaa hown'; have hge : ∀ k, (Value.slice (some ⟨w1.heap.size + 1, 0, none⟩) 0 0).ownBlock = some k → w.heap.size ≤ k := fun k hk => by
   have hk : w1.heap.size + 1 = k := zlV hk; omega
  have F2 : Fr (fun _ => False) w w2 := hFA.grown hgrow (fun k hk => .inr (hge k hk)); have hrow2 : ∃ g2 cur2, a2 = some ⟨g2, 0, none⟩ ∧ w.heap.size ≤ g2 ∧ Blk w2 g2 5 cur2 ∧ xs.length ≤ k2 ∧ k2 ≤ maxLen ∧ cur2.toList.take xs.length = bc xs := by
   rcases hown'.2 with ⟨h, _⟩ | ⟨g2, cap, cur2, h, h1, h3, h4, h5, _, h6⟩
   ·rw [h] at hat
    rcases hat with hat | hat <;> exact absurd hat (by simp [Value.ownBlock])
   ·injection h with e1 e2 e3
    subst e3; exact ⟨g2, cur2, e1, h1, h3, h4, h5, by simpa using h6⟩
  have hge2 : ∀ k, (Value.slice a2 xs.length k2).ownBlock = some k → w.heap.size ≤ k := fun k hk => (hown'.lt k hk).1; have lB := HB.out.lt; have gB := HB.out.fr F2 (fun e => e); have y0 := gB.cell 0; have y1 := gB.frozen 0; simp at y0
  have F3 : Fr (fun k => k = bb) w (w2.setCell ⟨bb, 0, none⟩ (.slice a2 xs.length k2)) := (F2.mono (S' := fun k => k = bb) (fun _ _ e => e.elim)).setCell (p := ⟨bb, 0, none⟩) (.inl rfl) _; have O3 : (w2.setCell ⟨bb, 0, none⟩ (.slice a2 xs.length k2)).ownsRow w.heap.size 5 1 (.slice a2 xs.length k2) xs.length (bc xs) := zah hown' (Fr.put_ w2 bb 0 _) (fun k hk e => by have := hge2 k hk; omega)
  have B3 : Blk (w2.setCell ⟨bb, 0, none⟩ (.slice a2 xs.length k2)) bb 44 #[.slice a2 xs.length k2] := by simpa using gB.set_ 0 (.slice a2 xs.length k2)
  have K3 := (HK.out.fr F3 (fun e => Blk.ne_ HK.out HB.out (by decide) e)).cell 0; have Q3 := HQ.out.fr F3 (fun e => Blk.ne_ HQ.out HB.out (by decide) e); have P3 := HP.out.fr F3 (fun e => Blk.ne_ HP.out HB.out (by decide) e); have O4 := HO.out.fr F3 (fun e => Blk.ne_ HO.out HB.out (by decide) e)
  have E3 : (w2.setCell ⟨bb, 0, none⟩ (.slice a2 xs.length k2)).cell? ⟨2, 0, none⟩ = some (.iface te pe) := by
   rw [F3.cell (p := ⟨2, 0, none⟩) (zle w _ HE.out) (fun e => h2.1 e.symm)]; exact HE.out
  simp at K3; have HF3 := zk7 F3; have HO3 := zk7 O3; have HB3 := zk7 B3; have HQ3 := zk7 Q3; have HP3 := zk7 P3; have HO4 := zk7 O4; have HE3 := zk7 E3; have HGE := zk7 hge2; obtain ⟨g2, cur2, rfl, hg2, hbk2, hk2, hk2m, htk2⟩ := hrow2
  have R3 : Rec te pe (w2.setCell ⟨bb, 0, none⟩ (.slice (some ⟨g2, 0, none⟩) xs.length k2)) g2 cur2 xs (.slice (some ⟨g2, 0, none⟩) xs.length k2) := by
   refine ⟨0, k2, rfl, hbk2.far (p := ⟨bb, 0, none⟩) (by show g2 ≠ bb; omega) _, hk2, ⟨by simp [maxLen] at hk2m; omega, by omega⟩, fun j u hu => ?_, E3⟩; rw [zlC, ← Array.getElem?_toList]; have hj : j < xs.length := by
    rcases zlA j xs.length with h | h
    ·exact h
    ·rw [zlB (by rw [zc6]; exact h)] at hu; cases hu
   rw [← htk2, List.getElem?_take_of_lt hj] at hu; exact hu
  have HR3 := zk7 R3; have hg2l := hbk2.lt; clear R3 hk2m htk2 hbk2; clear F2 F3 O3 B3 Q3 P3 O4 E3 gB hge hge2 hown' hgrow hat hsrc hO0 hFA hf1; rcases hkz with rfl | rfl; all_goals
   go_wp2_with fail
   generalize w2.setCell ⟨bb, 0, none⟩ (.slice (some ⟨g2, 0, none⟩) xs.length k2) = W3 at HF3 HO3 HB3 HQ3 HP3 HO4 HE3 HR3 ⊢; have hl3 := HR3.out; have hg3 : g2 < W3.heap.size := let ⟨_, _, _, h, _⟩ := hl3; h.lt
   have h23 : 2 < W3.heap.size := zle W3 _ HE3.out; clear hl3; have hS3 : SlH P W3.drew q6 pre := HS.out.fr HF3.out.drew (fun g hg e => HPB.out g hg e)
   first | (guard_hyp isW; have hR1 := zcx P q6 pre W3.drew hS3 (by omega) HPF.out) | (have hR1 := zdE P q6 pre W3.drew hS3 (by omega) HPF.out)
   have hq1 : ∃ A m c, q6 = .slice A m c := let ⟨A, c, h, _⟩ := HS.out.1; ⟨A, _, c, h⟩
   obtain ⟨Aq, mq, cq, rfl⟩ := hq1; have x0 := HB3.out.cell 0; have x1 := HQ3.out.cell 6; have x0d : W3.drew.cell? ⟨bb, 0, none⟩ = some (.slice (some ⟨g2, 0, none⟩) xs.length k2) := x0; have x1d : W3.drew.cell? ⟨bq, 6, none⟩ = some (.slice Aq mq cq) := x1; simp at x0 x1; clear y0 y1 K3
   go_region_held3 (fun w' => w'.cell? ⟨bb, 0, none⟩ = some (.slice (some ⟨g2, 0, none⟩) xs.length k2) ∧ w'.cell? ⟨bq, 6, none⟩ = some (.slice Aq mq cq))
    ((first | (go_split_ands; refine ⟨?_, ?_⟩ <;> first | exact (HB3.out.drew.fr hf5 (fun e => e)).cell 0 | exact (HQ3.out.drew.fr hf5 (fun e => e)).cell 6) | (go_split_ands; refine ⟨?_, ?_⟩ <;> first | exact KB.out.cell 0 | exact KQ.out.cell 6) | go_keep))
    ((first
      | (go_at_call 84; refine hR1.mono ?_; rintro r5 w5 ⟨v5, lo5, rfl, hlo5, hown5, hf5⟩)
      | (go_at_call 87; refine hR1.mono ?_; rintro r5 w5 ⟨v5, lo5, rfl, hlo5, hown5, hf5⟩)
      | (go_at_call 83; refine (zkV te pe _ g2 W3.drew.heap.size cur2 lo5 xs _ v5 w5 (HR3.out.fr (w := W3) (((zlW (fun _ => False) W3).drew).same hf5) (fun e => e) (fun e => e)) hown5 ⟨h23, hf5.size⟩ (by have h := congrArg List.length hlo5; simp at h; omega) Good HGD.out HGD0.out).mono ?_; rintro r6 w6 hE6; obtain ⟨v6, e6, l6, rfl, hown6, hmap6, hf6, hor6⟩ := zjp hE6; clear hE6; have KB := zk7 (zeN HB3.out hf5 hown5 hf6); have KQ := zk7 (zeN HQ3.out hf5 hown5 hf6))
      | (go_at_call 86; refine (zkW te pe _ g2 W3.drew.heap.size cur2 lo5 xs _ v5 w5 (HR3.out.fr (w := W3) (((zlW (fun _ => False) W3).drew).same hf5) (fun e => e) (fun e => e)) hown5 ⟨h23, hf5.size⟩ (by have h := congrArg List.length hlo5; simp at h; omega) Good HGD.out HGD0.out).mono ?_; rintro r6 w6 hE6; obtain ⟨v6, e6, l6, rfl, hown6, hmap6, hf6, hor6⟩ := zjs hE6; clear hE6; have KB := zk7 (zeO HB3.out hf5 hown5 hf6); have KQ := zk7 (zeO HQ3.out hf5 hown5 hf6))))
   have T6 : Fr (fun k => k = bb) w w6 := ((HF3.out.trans (((zlW (fun _ => False) W3).drew).same hf5) (fun _ _ e => e.elim)).trans hf6 (fun k hk e => by
    have h1 := (hown5.1.lt k e.symm).1; have h2 := HF3.out.size
    simp at h1; omega))
   first | (guard_hyp isW; have P6 := zeN HP3.out hf5 hown5 hf6) | (have P6 := zeO HP3.out hf5 hown5 hf6)
   first | (guard_hyp isW; have O6 := zeN HO4.out hf5 hown5 hf6) | (have O6 := zeO HO4.out hf5 hown5 hf6)
   rw [hlo5] at hmap6; have hl6 : l6.length ≤ 4096 ∧ ∀ p ∈ l6, p.1.h.few 1099511627776 := by
    rcases hor6 with ⟨_, hs1, hl1⟩ | ⟨_, _, _, _, rfl⟩
    ·obtain ⟨l, hl⟩ := Option.isSome_iff_exists.1 hs1
     have e := hl1 l hl; rw [hlo5] at e; obtain ⟨f1, f2⟩ := HXF.out l hl; have h9 := congrArg List.length e; simp at h9; refine ⟨by omega, fun p hp => ?_⟩; have hm : p.1 ∈ pre.map Prod.fst ++ l := by rw [← e]; exact zlD.2 ⟨p, hp, rfl⟩
     rcases zlN.1 hm with hm | hm
     ·obtain ⟨q, hq1, hq2⟩ := zlD.1 hm
      rw [← hq2]; exact HPF.out q hq1
     ·exact f2 _ hm
    ·exact ⟨zli _, fun p hp => by cases hp⟩
   first | (guard_hyp isW; have hU := fun W (hW : Fr (fun _ => False) w6 W) => zdR _ v6 l6 W ((hown6.fr hW (fun _ _ _ e => e)).rd) (by omega) hl6.2) | (have hU := fun W (hW : Fr (fun _ => False) w6 W) => ze8 _ v6 l6 W ((hown6.fr hW (fun _ _ _ e => e)).rd) (by omega) hl6.2)
   have HU := zk7 hU; have HT6 := zk7 T6; have HP6 := zk7 P6; have HO6 := zk7 O6; have HM6 := zk7 hmap6
   first
    | guard_hyp isW
      have HOR : Hid ((e6 = .nilIface ∧ (zcs xs).isSome = true) ∨ (∃ t a, e6 = .iface t a ∧ (zcs xs).isSome = false)) := zk7 (by
       rcases hor6 with ⟨h1, h3, _⟩ | ⟨t, a, h1, h3, _⟩
       ·exact .inl ⟨h1, h3⟩
       ·exact .inr ⟨t, a, h1, h3⟩)
    | have HOR : Hid ((e6 = .nilIface ∧ (zct xs).isSome = true) ∨ (∃ t a, e6 = .iface t a ∧ (zct xs).isSome = false)) := zk7 (by
       rcases hor6 with ⟨h1, h3, _⟩ | ⟨t, a, h1, h3, _⟩
       ·exact .inl ⟨h1, h3⟩
       ·exact .inr ⟨t, a, h1, h3⟩)
   have hsz5 := hf5.size; have hsz6 := hf6.size; have hz6 : w.heap.size ≤ w6.heap.size := T6.size; clear x0 x1 x0d x1d hR1 T6 P6 O6 hor6 hown5 hf5 hown6 hf6 KB KQ HO3 HB3 HQ3 HP3 HO4 HE3 HR3 HF3 hU hmap6 hlo5 hl6; go_wp2_with fail
   have hbpo : bo ≠ bp := Blk.ne_ HO6.out HP6.out (by decide); have F0 : Fr (fun _ => False) w6 w6.drew := (zlW (fun _ => False) w6).drew; have hU0 := HU.out w6.drew F0; rcases HOR.out with ⟨rfl, hsome⟩ | ⟨t, ae, rfl, hsome⟩; all_goals
    have HSO := zk7 hsome; clear hsome
    first
     | guard_hyp isW
       go_region_held3 (fun w' => True)
        (trivial)
        ((go_at_call 85; refine hU0.mono ?_; rintro r8 w8 ⟨v8, lo8, rfl, hlo8, hown8, hf8⟩
          have P8 := zk7 (HP6.out.fr (F0.same hf8) (fun e => e)); have O8 := zk7 (HO6.out.fr (F0.same hf8) (fun e => e)); obtain ⟨a8, n8, k8, rfl⟩ := zae hown8.1; have HW8 := zk7 hown8; have HL8 := zk7 hlo8; have HF8 := zk7 (F0.same hf8); have s0 := P8.out.cell 6; have s1 := P8.out.frozen 6; have s2 := (O8.out.far (p := ⟨bp, 6, none⟩) hbpo (.slice a8 n8 k8)).cell 0
          have s3 := (O8.out.far (p := ⟨bp, 6, none⟩) hbpo (.slice a8 n8 k8)).frozen 0; have s4 := O8.out.cell 0; have s5 := O8.out.frozen 0; simp at s0 s2 s4
          clear hown8 hlo8 hf8))
     | go_region_held3 (fun w' => True)
        (trivial)
        ((go_at_call 88; refine hU0.mono ?_; rintro r8 w8 ⟨v8, lo8, rfl, hlo8, hown8, hf8⟩
          have P8 := zk7 (HP6.out.fr (F0.same hf8) (fun e => e)); have O8 := zk7 (HO6.out.fr (F0.same hf8) (fun e => e)); obtain ⟨a8, n8, k8, rfl⟩ := zae hown8.1; have HW8 := zk7 hown8; have HL8 := zk7 hlo8; have HF8 := zk7 (F0.same hf8); have s0 := P8.out.cell 6; have s1 := P8.out.frozen 6; have s2 := (O8.out.far (p := ⟨bp, 6, none⟩) hbpo (.slice a8 n8 k8)).cell 0
          have s3 := (O8.out.far (p := ⟨bp, 6, none⟩) hbpo (.slice a8 n8 k8)).frozen 0; have s4 := O8.out.cell 0; have s5 := O8.out.frozen 0; simp at s0 s2 s4
          clear hown8 hlo8 hf8))
    go_end0; have e1 := HF8.out.size; refine ⟨rfl, ?_, ?_, .slice a8 n8 k8, lo8, ?_, ?_, by rw [HL8.out]; exact HM6.out⟩
    ·exact ((((HT6.out.trans HF8.out (fun _ _ e => e.elim)).mono (S' := fun k => k = bb ∨ k = bp ∨ k = bo) (fun _ _ e => .inl e)).setCell (p := ⟨bp, 6, none⟩) (.inl (.inr (.inl rfl))) _)).setCell (p := ⟨bo, 0, none⟩) (.inl (.inr (.inr rfl))) _
    ·rw [HSO.out]
     simpa using (O8.out.far (p := ⟨bp, 6, none⟩) hbpo (.slice a8 n8 k8)).set_ 0 _
    ·simpa using (P8.out.set_ 6 (.slice a8 n8 k8)).far (p := ⟨bo, 0, none⟩) (Ne.symm hbpo) _
    ·have h8 : OwnI w.heap.size w8 (.slice a8 n8 k8) lo8 := HW8.out.mono (by simpa using hz6)
     have hP9 := P8.out.lt; exact (h8.fr9 P8.out (.inl rfl) (Fr.put_ w8 bp 6 _)).fr9 (O8.out.far (p := ⟨bp, 6, none⟩) hbpo _) (.inr rfl) (Fr.put_ _ bo 0 _)
theorem read1_hsW : type_of% (zdc.1 trivial) := zdc.1 trivial
theorem read1_hsF : type_of% (zdc.2 trivial) := zdc.2 trivial
theorem zb1 {base e z n : Nat} {u : Value} {xs : List Value} {w w' : World} (h : w.ownsRow base e z u n xs) (h1 : e ≠ 4) (h2 : e ≠ 54) (hv : ziN w w') : w'.ownsRow base e z u n xs :=
 zah h hv (fun g hg => by rintro ⟨cs, k | k⟩; exact zak h k h1 hg; exact zak h k h2 hg)
theorem OwnR.vars {base : Nat} {v : Value} {lo : List (Ser × Value)} {w w' : World} (h : OwnR base w v lo) (hv : ziN w w') : OwnR base w' v lo :=
 ⟨zb1 h.1 (by decide) (by decide) hv, fun p hp => zb1 (h.2 p hp) (by decide) (by decide) hv⟩
theorem OwnX.vars {base : Nat} {v : Value} {lo : List (Exm × Value)} {w w' : World} (h : OwnX base w v lo) (hv : ziN w w') : OwnX base w' v lo :=
 ⟨zb1 h.1 (by decide) (by decide) hv, fun p hp => zb1 (h.2 p hp) (by decide) (by decide) hv⟩
theorem OwnI.varsR {base : Nat} {v : Value} {lo : List (Rhs × Hsl)} {w w' : World} (h : OwnI base w v lo) (hv : ziN w w') : OwnI base w' v lo := by
 refine ⟨zb1 h.1 (by decide) (by decide) hv, fun p hp => ?_⟩; obtain ⟨a1, a2, a3, a4, a5, a6, a7⟩ := h.2 p hp; exact ⟨zb1 a1 (by decide) (by decide) hv, zb1 a2 (by decide) (by decide) hv, zb1 a3 (by decide) (by decide) hv, zb1 a4 (by decide) (by decide) hv, zb1 a5 (by decide) (by decide) hv, zb1 a6 (by decide) (by decide) hv, zb1 a7 (by decide) (by decide) hv⟩
theorem zd3 {a0 a1 a2 a3 a4 a5 a6 : Value} (h : ∀ s ∈ [a0, a1, a2, a3, a4, a5, a6], ∃ A m c, s = .slice A m c) : zk4 #[a0, a1, a2, a3, a4, a5, a6] := by
 obtain ⟨A0, m0, c0, rfl⟩ := h a0 (by simp); obtain ⟨A1, m1, c1, rfl⟩ := h a1 (by simp); obtain ⟨A2, m2, c2, rfl⟩ := h a2 (by simp); obtain ⟨A3, m3, c3, rfl⟩ := h a3 (by simp); obtain ⟨A4, m4, c4, rfl⟩ := h a4 (by simp); obtain ⟨A5, m5, c5, rfl⟩ := h a5 (by simp); obtain ⟨A6, m6, c6, rfl⟩ := h a6 (by simp); exact ⟨_, _, _, _, _, _, _, _, _, _, _, _, _, _, _, _, _, _, _, _, _, rfl⟩
def SerParts (base : Nat) (l : List Ser) (ps : Array Value) (w : World) : Prop :=
 ∃ v lo, ps = #[v, .slice none 0 0, .slice none 0 0, .slice none 0 0, .slice none 0 0, .slice none 0 0, .slice none 0 0] ∧ lo.map Prod.fst = l ∧ OwnR base w v lo
theorem zeY (te : TypeId) (pe : Value) (q0 q1 q2 q3 q4 q5 q6 bv : Value) (pre : List (Ser × Value)) (xs : List UInt8) (P : Nat → Prop) (w : World) (hb : Sl P w bv 1 xs.length (bc xs)) (hxl : xs.length ≤ 1073741824) (hP : ∀ g, P g → g < w.heap.size)
 (hsl : ∀ s ∈ [q0, q1, q2, q3, q4, q5, q6], ∃ A m c, s = .slice A m c) (hs : SlR P w q0 pre) (hpl : pre.length ≤ 1024) (hpf : ∀ p ∈ pre, LabOk p.1.labs 12 600) (hxf : ∀ x ∈ ziQ ((pre.map Prod.fst).map tos) xs, x.labs.length ≤ 4096 ∧ ∀ p ∈ x.labs, p.1.size ≤ 1048576 ∧ p.2.size ≤ 1048576) (hxn : (ziQ ((pre.map Prod.fst).map tos) xs).length ≤ 1048576) (hE : w.cell? ⟨2, 0, none⟩ = some (.iface te pe))
 (Good : St → Prop) (hG : ∀ l, Good (some l) → zdq (some l) ∧ Good (za0 (some l)).2) (hG0 : ∀ r, xs = 1 :: r → Good (some r)) :
 Calls Tryz.prog 29 #[.int .i64 1, bv, .agg #[q0, q1, q2, q3, q4, q5, q6]] w (ReadDone (SerParts w.heap.size ((ziQ ((pre.map Prod.fst).map tos) xs).map toSer)) (zba xs).isSome w) := by
 have h2 := zle w _ hE; refine zbh 1 q0 q1 q2 q3 q4 q5 q6 bv xs P _ _ w hb hsl ?_ ?_
 ·rintro ps W W' ⟨v, lo, rfl, hm, ho⟩ hv
  exact ⟨v, lo, rfl, hm, ho.vars hv⟩
 ·intro bb bk bq bp bo W hk hb' hq hp ho hbb hbp hbo hpq hF
  have hEW : W.cell? ⟨2, 0, none⟩ = some (.iface te pe) := by rw [hF.cell (p := ⟨2, 0, none⟩) h2 (fun e => e)]; exact hE
  refine (zh0 te pe bb bk bq bp bo P q0 q1 q2 q3 q4 q5 q6 bv xs W hb' (hb.fr hF (fun _ _ e => e)) hk hq pre (hs.fr hF (fun _ _ e => e)) hpl hpf hxf hxn hp ho hEW hxl (fun g hg e => by have := hP g hg; omega) hpq (by simp only [] at h2; omega) Good hG hG0).mono ?_; rintro r w' ⟨rfl, hf, hbo', v, lo, hbp', hown, hm⟩; have hz := hF.size; obtain ⟨a, c, hlv⟩ := zaa hown.1
  refine ⟨rfl, hf, hbo', _, zd3 ?_, hbp', v, lo, rfl, hm, hown.mono hz⟩; intro s hs; simp only [zlL, zlK, or_false] at hs; rcases hs with rfl | rfl | rfl | rfl | rfl | rfl | rfl; all_goals first | exact ⟨_, _, _, rfl⟩ | exact ⟨_, _, _, hlv⟩
def ExmParts (base : Nat) (l : List Exm) (ps : Array Value) (w : World) : Prop :=
 ∃ v lo, ps = #[.slice none 0 0, .slice none 0 0, .slice none 0 0, v, .slice none 0 0, .slice none 0 0, .slice none 0 0] ∧ lo.map Prod.fst = l ∧ OwnX base w v lo
theorem zfP (te : TypeId) (pe : Value) (q0 q1 q2 q3 q4 q5 q6 bv : Value) (pre : List (Exm × Value)) (xs : List UInt8) (P : Nat → Prop) (w : World) (hb : Sl P w bv 1 xs.length (bc xs)) (hxl : xs.length ≤ 1073741824) (hP : ∀ g, P g → g < w.heap.size)
 (hsl : ∀ s ∈ [q0, q1, q2, q3, q4, q5, q6], ∃ A m c, s = .slice A m c) (hs : SlX P w q3 pre) (hpl : pre.length ≤ 1024) (hpf : ∀ p ∈ pre, LabOk p.1.labs 12 600) (hxf : ∀ x ∈ ziP ((pre.map Prod.fst).map toe) xs, x.labs.length ≤ 4096 ∧ ∀ p ∈ x.labs, p.1.size ≤ 1048576 ∧ p.2.size ≤ 1048576) (hxn : (ziP ((pre.map Prod.fst).map toe) xs).length ≤ 1048576) (hE : w.cell? ⟨2, 0, none⟩ = some (.iface te pe))
 (Good : St → Prop) (hG : ∀ rest, xs = 4 :: rest → ∀ l, Good (some l) → zd0 (some l) ∧ Good (zaQ (zac (some rest)).1 (zaq (zac (some rest)).2).1 (some l)).2) (hG0 : ∀ rest, xs = 4 :: rest → rest ≠ [] → Good (zaq (zac (some rest)).2).2) :
 Calls Tryz.prog 29 #[.int .i64 4, bv, .agg #[q0, q1, q2, q3, q4, q5, q6]] w (ReadDone (ExmParts w.heap.size ((ziP ((pre.map Prod.fst).map toe) xs).map toExm)) (zbf xs).isSome w) := by
 have h2 := zle w _ hE; refine zbh 4 q0 q1 q2 q3 q4 q5 q6 bv xs P _ _ w hb hsl ?_ ?_
 ·rintro ps W W' ⟨v, lo, rfl, hm, ho⟩ hv
  exact ⟨v, lo, rfl, hm, ho.vars hv⟩
 ·intro bb bk bq bp bo W hk hb' hq hp ho hbb hbp hbo hpq hF
  have hEW : W.cell? ⟨2, 0, none⟩ = some (.iface te pe) := by rw [hF.cell (p := ⟨2, 0, none⟩) h2 (fun e => e)]; exact hE
  refine (zkh te pe bb bk bq bp bo P q0 q1 q2 q3 q4 q5 q6 bv xs W hb' (hb.fr hF (fun _ _ e => e)) hk hq pre (hs.fr hF (fun _ _ e => e)) hpl hpf hxf hxn hp ho hEW hxl (fun g hg e => by have := hP g hg; omega) hpq (by simp only [] at h2; omega) Good hG hG0).mono ?_; rintro r w' ⟨rfl, hf, hbo', v, lo, hbp', hown, hm⟩; have hz := hF.size; obtain ⟨a, c, hlv⟩ := zaa hown.1
  refine ⟨rfl, hf, hbo', _, zd3 ?_, hbp', v, lo, rfl, hm, hown.mono hz⟩; intro s hs; simp only [zlL, zlK, or_false] at hs; rcases hs with rfl | rfl | rfl | rfl | rfl | rfl | rfl; all_goals first | exact ⟨_, _, _, rfl⟩ | exact ⟨_, _, _, hlv⟩
def MtaParts (base : Nat) (l : List Mta) (ps : Array Value) (w : World) : Prop :=
 ∃ v, ps = #[.slice none 0 0, .slice none 0 0, .slice none 0 0, .slice none 0 0, v, .slice none 0 0, .slice none 0 0] ∧ w.ownsRow base 176 4 v l.length (l.flatMap Mta.c)
theorem zfl (te : TypeId) (pe : Value) (q0 q1 q2 q3 q4 q5 q6 bv : Value) (pre : List Mta) (xs : List UInt8) (P : Nat → Prop) (w : World) (hb : Sl P w bv 1 xs.length (bc xs)) (hxl : xs.length ≤ 1073741824) (hP : ∀ g, P g → g < w.heap.size)
 (hsl : ∀ s ∈ [q0, q1, q2, q3, q4, q5, q6], ∃ A m c, s = .slice A m c) (hs : Sl P w q4 4 pre.length (pre.flatMap Mta.c)) (hpl : pre.length ≤ 1073741824) (hE : w.cell? ⟨2, 0, none⟩ = some (.iface te pe))
 (Good : St → Prop) (hG : ∀ l, Good (some l) → zef (some l) ∧ Good (za1 (some l)).2) (hG0 : ∀ r, xs = 6 :: r → Good (some r)) :
 Calls Tryz.prog 29 #[.int .i64 6, bv, .agg #[q0, q1, q2, q3, q4, q5, q6]] w (ReadDone (MtaParts w.heap.size (outT pre xs)) (zaN xs).isSome w) := by
 have h2 := zle w _ hE; refine zbh 6 q0 q1 q2 q3 q4 q5 q6 bv xs P _ _ w hb hsl ?_ ?_
 ·rintro ps W W' ⟨v, rfl, ho⟩ hv
  exact ⟨v, rfl, zb1 ho (by decide) (by decide) hv⟩
 ·intro bb bk bq bp bo W hk hb' hq hp ho hbb hbp hbo hpq hF
  have hEW : W.cell? ⟨2, 0, none⟩ = some (.iface te pe) := by rw [hF.cell (p := ⟨2, 0, none⟩) h2 (fun e => e)]; exact hE
  refine (zje te pe bb bk bq bp bo P q0 q1 q2 q3 q4 q5 q6 bv xs W hb' (hb.fr hF (fun _ _ e => e)) hk hq pre (hs.fr hF (fun _ _ e => e)) hpl hp ho hEW hxl (fun g hg e => by have := hP g hg; omega) hpq (by simp only [] at h2; omega) Good hG hG0).mono ?_; rintro r w' ⟨rfl, hf, hbo', v, hbp', hown⟩; have hz := hF.size; obtain ⟨a, c, hlv⟩ := zaa hown
  refine ⟨rfl, hf, hbo', _, zd3 ?_, hbp', v, rfl, zai hown hz⟩; intro s hs; simp only [zlL, zlK, or_false] at hs; rcases hs with rfl | rfl | rfl | rfl | rfl | rfl | rfl; all_goals first | exact ⟨_, _, _, rfl⟩ | exact ⟨_, _, _, hlv⟩
def zka (base : Nat) (l : List Rhs) (ps : Array Value) (w : World) : Prop :=
 ∃ v lo, ps = #[.slice none 0 0, .slice none 0 0, .slice none 0 0, .slice none 0 0, .slice none 0 0, .slice none 0 0, v] ∧ lo.map Prod.fst = l ∧ OwnI base w v lo
theorem zgs (te : TypeId) (pe : Value) (q0 q1 q2 q3 q4 q5 q6 bv : Value) (kz : Nat) (hkz : kz = 7 ∨ kz = 9) (pre : List (Rhs × Hsl)) (xs : List UInt8) (P : Nat → Prop) (w : World) (hb : Sl P w bv 1 xs.length (bc xs)) (hxl : xs.length ≤ 1073741824) (hP : ∀ g, P g → g < w.heap.size)
 (hsl : ∀ s ∈ [q0, q1, q2, q3, q4, q5, q6], ∃ A m c, s = .slice A m c) (hs : SlH P w q6 pre) (hpl : pre.length ≤ 1024) (hpf : ∀ p ∈ pre, p.1.h.few 1099511627776) (hxf : ∀ l, zcs xs = some l → l.length ≤ 1024 ∧ ∀ x ∈ l, x.h.few 1099511627776) (hE : w.cell? ⟨2, 0, none⟩ = some (.iface te pe))
 (Good : St → Prop) (hG : ∀ kd rest, xs = kd :: rest → (kd = 7 ∨ kd = 9) → ∀ l, Good (some l) → zcM (some l) ∧ Good (zaL (zac (some rest)).1 (zaq (zac (some rest)).2).1 (some l)).2) (hG0 : ∀ kd rest, xs = kd :: rest → (kd = 7 ∨ kd = 9) → rest ≠ [] → Good (zaq (zac (some rest)).2).2) :
 Calls Tryz.prog 29 #[.int .i64 (kz : Int), bv, .agg #[q0, q1, q2, q3, q4, q5, q6]] w (ReadDone (zka w.heap.size (zjU (pre.map Prod.fst) xs)) (zcs xs).isSome w) := by
 have h2 := zle w _ hE; refine zbh (kz : Int) q0 q1 q2 q3 q4 q5 q6 bv xs P _ _ w hb hsl ?_ ?_
 ·rintro ps W W' ⟨v, lo, rfl, hm, ho⟩ hv
  exact ⟨v, lo, rfl, hm, ho.varsR hv⟩
 ·intro bb bk bq bp bo W hk hb' hq hp ho hbb hbp hbo hpq hF
  have hEW : W.cell? ⟨2, 0, none⟩ = some (.iface te pe) := by rw [hF.cell (p := ⟨2, 0, none⟩) h2 (fun e => e)]; exact hE
  refine (read1_hsW te pe bb bk bq bp bo P q0 q1 q2 q3 q4 q5 q6 bv xs kz hkz W hb' (hb.fr hF (fun _ _ e => e)) hk hq pre (hs.fr hF (fun _ _ e => e)) hpl hpf hxf hp ho hEW hxl (fun g hg e => by have := hP g hg; omega) hpq (by simp only [] at h2; omega) Good hG hG0).mono ?_; rintro r w' ⟨rfl, hf, hbo', v, lo, hbp', hown, hm⟩; have hz := hF.size; obtain ⟨a, c, hlv⟩ := zaa hown.1
  refine ⟨rfl, hf, hbo', _, zd3 ?_, hbp', v, lo, rfl, hm, hown.mono hz⟩; intro s hs; simp only [zlL, zlK, or_false] at hs; rcases hs with rfl | rfl | rfl | rfl | rfl | rfl | rfl; all_goals first | exact ⟨_, _, _, rfl⟩ | exact ⟨_, _, _, hlv⟩
theorem zgt (te : TypeId) (pe : Value) (q0 q1 q2 q3 q4 q5 q6 bv : Value) (kz : Nat) (hkz : kz = 8 ∨ kz = 10) (pre : List (Rhs × Hsl)) (xs : List UInt8) (P : Nat → Prop) (w : World) (hb : Sl P w bv 1 xs.length (bc xs)) (hxl : xs.length ≤ 1073741824) (hP : ∀ g, P g → g < w.heap.size)
 (hsl : ∀ s ∈ [q0, q1, q2, q3, q4, q5, q6], ∃ A m c, s = .slice A m c) (hs : SlH P w q6 pre) (hpl : pre.length ≤ 1024) (hpf : ∀ p ∈ pre, p.1.h.few 1099511627776) (hxf : ∀ l, zct xs = some l → l.length ≤ 1024 ∧ ∀ x ∈ l, x.h.few 1099511627776) (hE : w.cell? ⟨2, 0, none⟩ = some (.iface te pe))
 (Good : St → Prop) (hG : ∀ kd rest, xs = kd :: rest → (kd = 8 ∨ kd = 10) → ∀ l, Good (some l) → zcN (some l) ∧ Good (zaM (zac (some rest)).1 (zaq (zac (some rest)).2).1 (some l)).2) (hG0 : ∀ kd rest, xs = kd :: rest → (kd = 8 ∨ kd = 10) → rest ≠ [] → Good (zaq (zac (some rest)).2).2) :
 Calls Tryz.prog 29 #[.int .i64 (kz : Int), bv, .agg #[q0, q1, q2, q3, q4, q5, q6]] w (ReadDone (zka w.heap.size (zjV (pre.map Prod.fst) xs)) (zct xs).isSome w) := by
 have h2 := zle w _ hE; refine zbh (kz : Int) q0 q1 q2 q3 q4 q5 q6 bv xs P _ _ w hb hsl ?_ ?_
 ·rintro ps W W' ⟨v, lo, rfl, hm, ho⟩ hv
  exact ⟨v, lo, rfl, hm, ho.varsR hv⟩
 ·intro bb bk bq bp bo W hk hb' hq hp ho hbb hbp hbo hpq hF
  have hEW : W.cell? ⟨2, 0, none⟩ = some (.iface te pe) := by rw [hF.cell (p := ⟨2, 0, none⟩) h2 (fun e => e)]; exact hE
  refine (read1_hsF te pe bb bk bq bp bo P q0 q1 q2 q3 q4 q5 q6 bv xs kz hkz W hb' (hb.fr hF (fun _ _ e => e)) hk hq pre (hs.fr hF (fun _ _ e => e)) hpl hpf hxf hp ho hEW hxl (fun g hg e => by have := hP g hg; omega) hpq (by simp only [] at h2; omega) Good hG hG0).mono ?_; rintro r w' ⟨rfl, hf, hbo', v, lo, hbp', hown, hm⟩; have hz := hF.size; obtain ⟨a, c, hlv⟩ := zaa hown.1
  refine ⟨rfl, hf, hbo', _, zd3 ?_, hbp', v, lo, rfl, hm, hown.mono hz⟩; intro s hs; simp only [zlL, zlK, or_false] at hs; rcases hs with rfl | rfl | rfl | rfl | rfl | rfl | rfl; all_goals first | exact ⟨_, _, _, rfl⟩ | exact ⟨_, _, _, hlv⟩
def zc1 (d k : Nat) : Bool := if d = 7 ∨ d = 9 then decide (k = 7 ∨ k = 9) else if d = 8 ∨ d = 10 then decide (k = 8 ∨ k = 10) else decide (d = k)
theorem reads_any (d k : Nat) (hd : 1 ≤ d ∧ d ≤ 10) (hk : 1 ≤ k ∧ k ≤ 10) (w : World) : Calls Tryz.prog 41 #[.int .i64 d, .int .i64 k] w fun r w' => r = .returned (.bool (zc1 d k)) ∧ w = w' := by
 obtain ⟨d1, d2⟩ := hd; obtain ⟨k1, k2⟩ := hk; obtain rfl | rfl | rfl | rfl | rfl | rfl | rfl | rfl | rfl | rfl : d = 1 ∨ d = 2 ∨ d = 3 ∨ d = 4 ∨ d = 5 ∨ d = 6 ∨ d = 7 ∨ d = 8 ∨ d = 9 ∨ d = 10 := by omega
 all_goals
  obtain rfl | rfl | rfl | rfl | rfl | rfl | rfl | rfl | rfl | rfl : k = 1 ∨ k = 2 ∨ k = 3 ∨ k = 4 ∨ k = 5 ∨ k = 6 ∨ k = 7 ∨ k = 8 ∨ k = 9 ∨ k = 10 := by omega
 all_goals
  go_enter Tryz.func41, Tryz.ntmps41; go_wp2; go_ret; exact ⟨rfl, rfl⟩
def zju (s : Ston) : List Stn := s.ivs.map fun p => ⟨s.ref, p.1, p.2⟩
def zeS (l : List Ston) : List Stn := l.flatMap zju
def Ston.wf (s : Ston) : Prop := s.ref < 18446744073709551616 ∧ ∀ p ∈ s.ivs, (-9223372036854775808 ≤ p.1 ∧ p.1 ≤ 9223372036854775807) ∧ (-9223372036854775808 ≤ p.2 ∧ p.2 ≤ 9223372036854775807)
def zbY (l : List Ston) : List UInt8 := zjy (zeS l)
def zfo (r : Nat) (p : Int × Int) : List UInt8 := zcc ⟨r, p.1, p.2⟩
theorem zip (r : Nat) (p : Int × Int) (h : (-9223372036854775808 ≤ p.1 ∧ p.1 ≤ 9223372036854775807) ∧ (-9223372036854775808 ≤ p.2 ∧ p.2 ≤ 9223372036854775807)) : (zfo r p).length ≤ 28 := by
 have h1 := zdQ p.1 h.1.1 h.1.2; have h2 := zdQ p.2 h.2.1 h.2.2; simp only [zfo, zcc, zk8, zlh]; omega
theorem zf6 (s : Ston) : (zju s).flatMap zcc = s.ivs.flatMap (zfo s.ref) := by
 unfold zju; rw [List.flatMap_map]; rfl
theorem zdg {α : Type} (f : α → List UInt8) (m : Nat) : ∀ l : List α, (∀ x ∈ l, (f x).length ≤ m) → (l.flatMap f).length ≤ l.length * m
 | [], _ => by simp
 | x :: l, hf => by
   have h1 := zdg f m l (fun y hy => hf y (by simp [hy])); have h2 := hf x (by simp); rw [zlm, zk8, zlp, Nat.add_mul]; omega
theorem zif (l : List Ston) (hw : ∀ s ∈ l, s.wf) (hi : ∀ s ∈ l, s.ivs.length ≤ 4096) : ((zeS l).flatMap zcc).length ≤ l.length * 114688 := by
 have e : (zeS l).flatMap zcc = l.flatMap (fun s => s.ivs.flatMap (zfo s.ref)) := by
  unfold zeS; rw [List.flatMap_assoc]; congr 1
  funext s
  exact zf6 s
 rw [e]; refine zdg _ _ _ (fun s hs => ?_); have h1 := zdg (zfo s.ref) 28 s.ivs (fun p hp => zip _ _ ((hw s hs).2 p hp)); have h2 := hi s hs; have h3 : s.ivs.length * 28 ≤ 4096 * 28 := zlk _ h2; omega
theorem zkx (l : List Ston) (k : Nat) (x : Ston) (h : l[k]? = some x) : (zeS (l.take (k + 1))).flatMap zcc = (zeS (l.take k)).flatMap zcc ++ x.ivs.flatMap (zfo x.ref) := by
 rw [zlI, h]; unfold zeS; rw [zlG, zlG, ← zf6]; simp
theorem zhw (ep : Value) (sv : Value) (P : Nat → Prop) (v : Value) (xs : List UInt8) (lv : List (Ston × Value)) (w : World) (h : SlS P w sv lv) (hown : w.ownsRow 0 5 1 v xs.length (bc xs)) (hl : xs.length ≤ 1073741824)
 (hsl : lv.length ≤ 4096) (hil : ∀ p ∈ lv, p.1.ivs.length ≤ 4096) (hwf : ∀ s ∈ lv.map Prod.fst, s.wf) (hP : ∀ g, P g → g < w.heap.size ∧ some g ≠ v.ownBlock) :
 Calls Tryz.prog 93 #[ep, sv, v] w (zbN w v.ownBlock (xs ++ zbY (lv.map Prod.fst))) := by
 obtain ⟨⟨A, c, rfl, hlen, hnc, hr⟩, hin⟩ := h; obtain ⟨a', n', k', rfl⟩ := zae hown; obtain ⟨n, hn⟩ : ∃ n, lv.length = n := ⟨_, rfl⟩; rw [hn] at hnc hr hsl ⊢; have hE := Enc.made (z := .int .u8 0) hown _ rfl; have hQ := zcn w.heap.size _ xs 3 _ hE (by omega); have e2 : ((3 : UInt8).toNat : Int) = 3 := rfl; rw [e2] at hQ; have HN := zk7 hn; have HR := zk7 hr; have HP := zk7 hP
 have HE := zk7 hE; have HIN := zk7 hin
 have HIL := zk7 hil; have HWF := zk7 hwf; clear hE hr e2 hn hlen hP hin hil hwf; go_enter Tryz.func93, Tryz.ntmps93; go_wp2_with (go_at_call 180; refine hQ.mono ?_; rintro r1 w1 ⟨rfl, R⟩; refine Hid.out ?_)
 have HR1 := zk7 R; clear R hQ; refine zk7 ?_; go_wp2_with fail
 have hFW : Fr (fun k => some k = (Value.slice a' n' k').ownBlock) w (w.alloc (.cells #[.slice a' n' k', .int .u8 0, .int .u8 0, .int .u8 0, .int .u8 0, .int .u8 0, .int .u8 0, .int .u8 0, .int .u8 0, .int .u8 0, .int .u8 0] 224)) := (zlW _ w).alloc _; generalize hWB : w.alloc _ = WB at HE HR1 hFW; have hB : w.heap.size < WB.heap.size := by rw [← hWB]; simp
 clear hWB; have HFW := zk7 hFW; clear hFW; go_loopw [17] (fun i wr => ∃ k : Nat, k ≤ n ∧ i = .int .i64 k ∧ Put WB w.heap.size (Value.slice a' n' k').ownBlock xs ([3] ++ (zeS ((lv.map Prod.fst).take k)).flatMap zcc) wr) (fun i _ => n - (intOf i).toNat)
 case atStart => exact ⟨0, zli _, rfl, by simpa [zeS] using HR1.out⟩
 case round =>
  obtain ⟨k, hk, rfl, R⟩ := hrel; by_cases hlt : k < n
  ·obtain ⟨g, off, rfl, hPg, hcell⟩ := HR.out (by omega)
   have hg := HP.out g hPg; obtain ⟨x, hx⟩ : ∃ x, lv[k]? = some x := ⟨_, zk9 (by rw [HN.out]; exact hlt)⟩; have hxm := zlf hx; have hiv := HIN.out x hxm; have hivl := HIL.out x hxm; have hwx : x.1.wf := HWF.out _ (zlD.2 ⟨x, hxm, rfl⟩); have hx1 : (lv.map Prod.fst)[k]? = some x.1 := by rw [zlH, hx]; rfl
   have hFk : Fr (fun k => some k = (Value.slice a' n' k').ownBlock) w wr := HFW.out.trans R.fr (fun k hk e => by
    rcases e with e | e
    ·omega
    ·exact e)
   have cc : ∀ j, j < 2 → ∀ u, (stc x)[j]? = some u → wr.cell? ⟨g, off + (k * 2 + j), none⟩ = some u := fun j hj u hu => by
    have := hcell (k * 2 + j) u (by rw [zci stc (fun _ => rfl) lv k x hx j hj]; exact hu); rw [hFk.cell (p := ⟨g, off + (k * 2 + j), none⟩) hg.1 hg.2]; exact this
   have d0 : wr.cell? ⟨g, off + k * 2, none⟩ = some (.int .u64 x.1.ref) := cc 0 (by omega) _ rfl; have d1 : wr.cell? ⟨g, off + k * 2 + 1, none⟩ = some x.2 := cc 1 (by omega) _ rfl; obtain ⟨⟨ref, ivs⟩, iv⟩ := x; simp only [] at d0 d1 hiv hivl hx1; obtain ⟨Ai, ci, rfl, _, hci, hri⟩ := hiv; obtain ⟨m, hm⟩ : ∃ m, ivs.length = m := ⟨_, rfl⟩; rw [hm] at d1 hci hri hivl
   have hyl : ([(3 : UInt8)] ++ (zeS ((lv.map Prod.fst).take k)).flatMap zcc).length ≤ 1 + 4096 * 114688 := by
    have h1 := zif ((lv.map Prod.fst).take k) (fun s hs => HWF.out s (List.mem_of_mem_take hs)) (fun s hs => by
     obtain ⟨p, hp, rfl⟩ := zlD.1 (List.mem_of_mem_take hs)
     exact HIL.out p hp)
    have h2 : ((lv.map Prod.fst).take k).length ≤ 4096 := by
     have := List.length_take_le k (lv.map Prod.fst); omega
    have h3 : ((lv.map Prod.fst).take k).length * 114688 ≤ 4096 * 114688 := zlk _ h2; rw [zk8, zlo]; omega
   have RA := R.alloc (.cells #[.int .u64 ref, .slice Ai m ci] 147); have hBx := Blk.new wr 147 #[.int .u64 ref, .slice Ai m ci]; have x1 := hBx.cell 1; simp at x1; have HX1 := zk7 hx1; have HBX := zk7 hBx; have HL := zk7 hyl; have HRI := zk7 hri; have HM := zk7 hm; have HRA := zk7 RA; have hwz := hFk.size; clear hx hFk cc hBx hyl hcell hri hm RA hx1 hxm; go_wp2_with fail
   generalize hys : [(3 : UInt8)] ++ (zeS ((lv.map Prod.fst).take k)).flatMap zcc = ys at HRA HL; clear R x1 d0 d1 hwz; generalize wr.alloc (.cells #[.int .u64 ref, .slice Ai m ci] 147) = W9 at HRA HBX ⊢; generalize wr.heap.size = b9 at HBX ⊢
   go_loopw [24] (fun i w' => ∃ j : Nat, j ≤ m ∧ i = .int .i64 j ∧ Hid (Put WB w.heap.size (Value.slice a' n' k').ownBlock xs (ys ++ (ivs.take j).flatMap (zfo ref)) w') ∧ Hid (Blk w' b9 147 #[.int .u64 ref, .slice Ai m ci])) (fun i _ => m - (intOf i).toNat)
   case atStart => exact ⟨0, zli _, rfl, zk7 (by simpa using HRA.out), HBX⟩
   case round =>
    obtain ⟨j, hj, rfl, RJ, BJ⟩ := hrel; clear HRA HBX; by_cases hlt2 : j < m
    ·obtain ⟨g2, off2, rfl, hPg2, hcell2⟩ := HRI.out (by omega)
     have hg2 := HP.out g2 hPg2; obtain ⟨y, hy⟩ : ∃ y, ivs[j]? = some y := ⟨_, zk9 (by rw [HM.out]; exact hlt2)⟩; have hwy := hwx.2 y (zlf hy)
     have hFj : Fr (fun k => some k = (Value.slice a' n' k').ownBlock) w wr := HFW.out.trans RJ.out.fr (fun k hk e => by
      rcases e with e | e
      ·omega
      ·exact e)
     have cc : ∀ i, i < 2 → ∀ u, (ivc y)[i]? = some u → wr.cell? ⟨g2, off2 + (j * 2 + i), none⟩ = some u := fun i hi u hu => by
      have := hcell2 (j * 2 + i) u (by rw [zci ivc (fun _ => rfl) ivs j y hy i hi]; exact hu); rw [hFj.cell (p := ⟨g2, off2 + (j * 2 + i), none⟩) hg2.1 hg2.2]; exact this
     have d0 : wr.cell? ⟨g2, off2 + j * 2, none⟩ = some (.int .i64 y.1) := cc 0 (by omega) _ rfl; have d1 : wr.cell? ⟨g2, off2 + j * 2 + 1, none⟩ = some (.int .i64 y.2) := cc 1 (by omega) _ rfl; have hzl : (ys ++ (ivs.take j).flatMap (zfo ref)).length ≤ 1 + 4096 * 114688 + 114688 := by
      have h1 := zdg (zfo ref) 28 (ivs.take j) (fun p hp => zip _ _ (hwx.2 p (List.mem_of_mem_take hp))); have h2 : (ivs.take j).length ≤ 4096 := by
       have := List.length_take_le j ivs; omega
      have h3 : (ivs.take j).length * 28 ≤ 4096 * 28 := zlk _ h2; have h4 := HL.out; rw [zk8]; omega
     have RA := RJ.out.alloc (.cells #[.int .i64 y.1, .int .i64 y.2] 279); have B9 := BJ.out.alloc (.cells #[.int .i64 y.1, .int .i64 y.2] 279); have hBy := Blk.new wr 279 #[.int .i64 y.1, .int .i64 y.2]; have z0 := B9.cell 0; simp at z0
     have hQ1 := zag RA (f := 181) (args := #[.pointer (some ⟨w.heap.size, 0, none⟩), .int .u64 ref]) (zs := Lib.beBytes 8 ref) (fun o2 he => zco _ o2 _ _ hwx.1 _ he (by rw [zk8]; omega)); have HY := zk7 hy; have HB9 := zk7 B9; have HBY := zk7 hBy; have HZL := zk7 hzl; have hl1 := zdQ y.1 hwy.1.1 hwy.1.2; clear hy hFj cc hBy hcell2 B9 hzl
     go_wp2_with (go_at_call 181; refine hQ1.mono ?_; rintro rA wA ⟨rfl, RB, KB⟩; refine Hid.out ?_)
     have HBA := zk7 (KB.out _ _ _ (by decide) (by decide) HB9.out); have hBy := KB.out _ _ _ (by decide) (by decide) HBY.out; have y0 := hBy.cell 0; simp at y0; have HBY2 := zk7 hBy
     have hQ2 := zag RB (f := 183) (args := #[.pointer (some ⟨w.heap.size, 0, none⟩), .int .i64 y.1]) (zs := Lib.uvarint (Lib.zigzag y.1)) (fun o2 he => zay _ o2 _ _ hwy.1.1 hwy.1.2 _ he (by have := HZL.out; rw [zk8, zk8, zlh]; omega)); clear hQ1 d0 d1 z0 hBy; refine zk7 ?_
     go_wp2_with (go_at_call 183; refine hQ2.mono ?_; rintro rB wB ⟨rfl, RC, KC⟩; refine Hid.out ?_)
     have HBB := zk7 (KC.out _ _ _ (by decide) (by decide) HBA.out); have hBy := KC.out _ _ _ (by decide) (by decide) HBY2.out; have y1 := hBy.cell 1; simp at y1
     have hQ3 := zag RC (f := 183) (args := #[.pointer (some ⟨w.heap.size, 0, none⟩), .int .i64 y.2]) (zs := Lib.uvarint (Lib.zigzag y.2)) (fun o2 he => zay _ o2 _ _ hwy.2.1 hwy.2.2 _ he (by have := HZL.out; rw [zk8, zk8, zk8, zlh]; omega)); clear hQ2 y0 hBy; refine zk7 ?_
     go_wp2_with (go_at_call 183; refine hQ3.mono ?_; rintro rD wD ⟨rfl, RD, KD⟩)
     have HBD := zk7 (KD.out _ _ _ (by decide) (by decide) HBB.out); have RE : Put WB w.heap.size (Value.slice a' n' k').ownBlock xs (ys ++ (ivs.take (j + 1)).flatMap (zfo ref)) wD := by
      rw [zan (zfo ref) ivs j y HY.out]; simpa [zfo, zcc, zla] using RD
     have HRE := zk7 RE; clear RE RD RC RB hQ3 y1 KB KC KD RA RJ BJ; go_wp2; go_roundw
     case rel => exact ⟨j + 1, by omega, by go_num, HRE, HBD⟩
     case measure => simp [intOf]; omega
    ·obtain rfl : j = m := by omega
     have RE : Put WB w.heap.size (Value.slice a' n' k').ownBlock xs ([3] ++ (zeS ((lv.map Prod.fst).take (k + 1))).flatMap zcc) wr := by
      rw [zkx _ _ _ HX1.out, ← zla, hys]; have h := RJ.out; have e1 : ivs.take j = ivs := zlg (by rw [HM.out]; exact zlj _); rw [e1] at h; exact h
     have HRE := zk7 RE; clear RE RJ; go_wp2; go_roundw
     case rel => exact ⟨k + 1, by omega, by go_num, HRE.out⟩
     case measure => simp [intOf]; omega
  ·obtain rfl : k = n := by omega
   obtain ⟨oZ, hEZ, hfZ, hoZ⟩ := R; have hG := zdY _ _ _ _ hEZ; have HEZ := zk7 hEZ; have HZ := zk7 hfZ; clear hEZ hfZ; go_wp2_with (go_at_call 116; refine hG.mono ?_; rintro rr w2 ⟨v2, rfl, rfl, hown2, hv2⟩)
   go_ret; refine ⟨v2, rfl, ?_, HFW.out.trans HZ.out (fun k hk e => ?_), ?_⟩
   ·have e1 : (lv.map Prod.fst).take k = lv.map Prod.fst := zlg (by rw [zlv, HN.out]; exact zlj _)
    rw [e1] at hown2; simpa [zbY, zjy] using hown2
   ·rcases e with e | e
    ·omega
    ·exact e
   ·rw [hv2]
    rcases hoZ with h | ⟨k2, h, hk2⟩
    ·exact .inl h
    ·exact .inr ⟨k2, h, by omega⟩
def one (s : Stn) : Ston := ⟨s.ref, [(s.lo, s.hi)]⟩
def zbM (w : World) (base : Nat) (o : Option Nat) (pre : List Ston) (xs : List UInt8) (r : Ending) (w' : World) : Prop :=
 Fr (fun k => some k = o) w w' ∧ match zaG xs with
  | some l => ∃ v' lv, r = .returned (.tuple #[v', .nilIface]) ∧ lv.map Prod.fst = pre ++ l.map one ∧ OwnS base 147 279 w' v' lv
  | none => ∃ t a, r = .returned (.tuple #[.slice none 0 0, .iface t a])
theorem zd2 {w w' : World} {base : Nat} {o : Option Nat} {pre : List Ston} {xs : List UInt8} {t : TypeId} {a : Value} (hd : zaG xs = none) (hf : Fr (fun k => some k = o) w w') : zbM w base o pre xs (.returned (.tuple #[.slice none 0 0, .iface t a])) w' := by
 unfold zbM; rw [hd]; exact ⟨hf, _, _, rfl⟩
theorem zfH {w w' : World} {base : Nat} {o : Option Nat} {pre : List Ston} {xs : List UInt8} {l : List Stn} {v : Value} {lv : List (Ston × Value)} (hd : zaG xs = some l) (hf : Fr (fun k => some k = o) w w') (hm : lv.map Prod.fst = pre ++ l.map one) (ho : OwnS base 147 279 w' v lv) : zbM w base o pre xs (.returned (.tuple #[v, .nilIface])) w' := by
 unfold zbM; rw [hd]; exact ⟨hf, _, _, rfl, hm, ho⟩
theorem own_one {w : World} {base e : Nat} {a b : Value} (hb : base ≤ w.heap.size) : (w.alloc (.cells #[a, b] e)).ownsRow base e 2 (.slice (some ⟨w.heap.size, 0, none⟩) 1 1) 1 [a, b] :=
 ⟨rfl, .inr ⟨_, _, _, rfl, hb, Blk.new w e #[a, b], zlj _, by unfold maxLen; omega, rfl, rfl⟩⟩
theorem zi1 {l0 l : List UInt8} (h : (zbt (some l0)).2 = some l) : l.length < l0.length := by
 obtain ⟨l1, h1, h1'⟩ := zb4 (st := (zaE (zac (some l0)).2).2) h; obtain ⟨l2, h2, h2'⟩ := zb4 (st := (zac (some l0)).2) h1; obtain ⟨l3, h3, h3'⟩ := zbC (st := some l0) h2; injection h3 with h3; subst h3; omega
theorem zgy (te : TypeId) (pe : Value) (dv : Value) (g base : Nat) (cur : Array Value) (pre : List Ston) (xs : List UInt8) (v sv : Value) (w : World) (h : Rec te pe w g cur xs v) (hx : (zaB (some xs)).1 ≠ 3) :
 Calls Tryz.prog 74 #[dv, v, sv] w (zbM w base sv.ownBlock pre xs) := by
 have hd : zaG xs = none := by
  rcases xs with _ | ⟨b, r⟩
  ·rfl
  ·have : ¬ b = 3 := by rintro rfl; exact hx rfl
   simp [zaG, za5, this]
 unfold zbM; rw [hd]; clear hd; have hD := h.dec; obtain ⟨off, c, rfl, _⟩ := h; have hQ := zbo te pe w.heap.size g cur _ _ hD; have hx2 : ¬ ((zaB (some xs)).1 : Int) = 3 := by omega
 clear hD hx; generalize (zaB (some xs)).1 = x at hQ hx2; generalize (zaB (some xs)).2 = st at hQ; go_enter Tryz.func74, Tryz.ntmps74; go_wp2_with (first | (go_at_call 160; refine hQ.mono ?_; rintro r w1 ⟨rfl, hD1, hf1⟩) | (go_at_call 161; refine (zbL _ _).mono ?_; rintro r w2 ⟨t, a, rfl, hf2⟩))
 go_ret2; refine ⟨?_, _, _, rfl⟩; have f1 := (((zlW (fun k => some k = sv.ownBlock) w).alloc (.cells #[.slice (some ⟨g, off, none⟩) xs.length c, .nilIface] 229)).trans hf1 (fun k hk e => by omega)); exact f1.trans hf2 (fun _ _ e => e.elim)
theorem OwnS.off {base te ti b t : Nat} {w w' : World} {v : Value} {lv : List (Ston × Value)} {cs : Array Value} (h : OwnS base te ti w v lv) (hb : Blk w b t cs) (h1 : te ≠ t) (h2 : ti ≠ t) (hf : Fr (fun k => k = b) w w') : OwnS base te ti w' v lv :=
 ⟨zah h.1 hf (fun g hg e => zak h.1 hb h1 (by rw [hg, e])), fun p hp => zah (h.2 p hp) hf (fun g hg e => zak (h.2 p hp) hb h2 (by rw [hg, e]))⟩
theorem OwnS.alloc {base te ti : Nat} {w : World} {v : Value} {lv : List (Ston × Value)} (h : OwnS base te ti w v lv) (o : Obj) : OwnS base te ti (w.alloc o) v lv := h.fr ((zlW (fun _ => False) w).alloc o) (fun _ _ _ e => e)
theorem Dec.blk {te : TypeId} {pe : Value} {w : World} {d g : Nat} {cur : Array Value} {st : St} (h : Dec te pe w d g cur st) : ∃ cs, Blk w d 229 cs := by
 rcases st with _ | l
 ·obtain ⟨_, off, c, hb, _⟩ := h; exact ⟨_, hb⟩
 ·obtain ⟨off, c, hb, _⟩ := h; exact ⟨_, hb⟩
theorem zgz (te : TypeId) (pe : Value) (dv : Value) (g base : Nat) (cur : Array Value) (lp : List (Ston × Value)) (rest : List UInt8) (v sv : Value) (w : World) (h : Rec te pe w g cur (3 :: rest) v) (ho : OwnS base 147 279 w sv lp) (hb : g < base ∧ 2 < base ∧ base ≤ w.heap.size) (hpl : lp.length ≤ 1073741824) :
 Calls Tryz.prog 74 #[dv, v, sv] w (zbM w base sv.ownBlock (lp.map Prod.fst) (3 :: rest)) := by
 obtain ⟨i0, hi0, hz0, hz1, hz2⟩ := info_parts Tryz.info147; have hD := h.dec; obtain ⟨off, c, rfl, _⟩ := h; have hQ := zbo te pe w.heap.size g cur _ _ hD; have e1 : zaB (some (3 :: rest)) = (3, some rest) := rfl; rw [e1] at hQ; have HO := zk7 ho; obtain ⟨a', k', rfl⟩ := zaa ho.1; have hrl : rest.length ≤ 1099511627776 := by
  obtain ⟨n, off', c', _, _, hn, hnc, _⟩ := hD.open_; have := hn _ rfl; simp at this; omega
 obtain ⟨np, hnp⟩ : ∃ np, lp.length = np := ⟨_, rfl⟩; have HNP := zk7 hnp; rw [hnp] at HO hpl ⊢; have hBD := hD.blk; clear hD e1 ho hnp; go_enter Tryz.func74, Tryz.ntmps74
 go_wp2_with (first
  | (go_at_call 160; refine hQ.mono ?_; rintro r w1 ⟨rfl, hD1, hf1⟩; refine Hid.out ?_))
 obtain ⟨csD, hBD⟩ := hBD; have F1 : Fr (fun k => some k = (Value.slice a' np k').ownBlock) w w1 := ((zlW (fun k => some k = (Value.slice a' np k').ownBlock) w).alloc _).trans hf1 (fun k hk e => by omega); have O1 : OwnS base 147 279 w1 (.slice a' np k') lp := (HO.out.alloc _).off hBD (by decide) (by decide) hf1; have hs1 := F1.size
 have hn1 : ∀ k, (Value.slice a' np k').ownBlock = some k → k < w.heap.size := fun k hk => zav HO.out.1 hk; have HF1 := zk7 F1; have HO1 := zk7 O1; have HD1 := zk7 hD1; have HN1 := zk7 hn1; clear hD1 hf1 hQ F1 O1 hn1 hBD; refine zk7 ?_; go_wp2_with fail
 go_loopw [2] (fun sv wr => ∃ (st : St) (acc : List Stn) (lo : List (Ston × Value)) (j : Nat), Hid (Dec te pe wr w.heap.size g cur st) ∧ Hid (OwnS base 147 279 wr sv lo) ∧ Hid (lo.map Prod.fst = lp.map Prod.fst ++ acc.map one) ∧ Hid (lo.length = np + acc.length) ∧ Hid (Fr (fun k => some k = (Value.slice a' np k').ownBlock) w wr) ∧ Hid (∀ k, sv.ownBlock = some k → (some k = (Value.slice a' np k').ownBlock ∨ w.heap.size < k)) ∧
  Hid (zaj zbt j st acc = zaj zbt rest.length (some rest) []) ∧ Hid (∀ l, st = some l → l.length ≤ j ∧ acc.length + l.length ≤ rest.length) ∧ acc.length ≤ rest.length + 1) (fun _ wr => zhE w.heap.size wr)
 case atStart => exact ⟨some rest, [], lp, rest.length, HD1, HO1, zk7 (by simp), zk7 (by simpa using HNP.out), HF1, zk7 (fun k hk => .inl hk.symm), zk7 rfl, zk7 (fun l hl => by cases hl; simp), by simp⟩
 case round =>
  obtain ⟨st, acc, lo, j, HD, HO, HM, HLO, HF, HB, HE, HL, hal⟩ := hrel; obtain ⟨n6, off6, c6, p0, p1, hnl, hnc, hd, hg, h2⟩ := HD.out.open_; have hE := zgh te pe _ _ _ _ _ HD.out; have hLn := decLen2 te pe _ _ _ _ _ HD.out; obtain ⟨a6, k6, rfl⟩ := zaa HO.out.1; rcases st with _ | l
  ·clear hnl p1 p0
   have hres : zaj zbt rest.length (some rest) [] = (acc, none) := by rw [← HE.out]; unfold zaj; rcases j with _ | j <;> rfl
   have HR := zk7 (show zaG (3 :: rest) = none from zcS hres); clear hres; simp only [ziS] at hE; go_wp2_with (go_at_call 118; refine hLn.mono ?_; rintro r w7 ⟨n7, rfl, _, hb7, rfl⟩; refine Hid.out ?_)
   rcases zlu n7 with rfl | hn6
   ·refine zk7 ?_
    go_wp2_with (go_at_call 119; refine hE.mono ?_; rintro r w7 ⟨rfl, rfl⟩)
    go_ret2; exact zd2 HR.out HF.out
   ·have hn7 : (0 : Int) < (n7 : Int) := by omega
    refine zk7 ?_; go_wp2_with (go_at_call 119; refine hE.mono ?_; rintro r w7 ⟨rfl, rfl⟩)
    go_ret2; exact zd2 HR.out HF.out
  ·obtain rfl : n6 = l.length := hnl l rfl
   simp only [ziS] at hE; rcases l with _ | ⟨x, r⟩
   ·have hres : zaj zbt rest.length (some rest) [] = (acc, some []) := by rw [← HE.out]; unfold zaj; rcases j with _ | j <;> rfl
    have HR := zk7 (show zaG (3 :: rest) = some acc from zcR hres); clear hres hnl p1; simp only [List.length_nil] at p0; go_wp2_with (go_at_call 118; refine hLn.mono ?_; rintro r w7 ⟨n7, rfl, hn7, hb7, rfl⟩; refine Hid.out ?_)
    have hn8 : n7 = 0 := hn7 [] rfl; have hn9 : ¬ (0 : Int) < (n7 : Int) := by omega
    clear hn7 hn8; refine zk7 ?_; go_wp2_with (go_at_call 119; refine hE.mono ?_; rintro r w7 ⟨rfl, rfl⟩)
    go_ret2; exact zfH HR.out HF.out HM.out HO.out
   ·obtain ⟨n7, hn7⟩ : ∃ n7, (x :: r).length = n7 := ⟨_, rfl⟩
    have hn8 : (0 : Int) < (n7 : Int) := by rw [← hn7]; simp
    have hlb := HL.out _ rfl; have hM := zbm HD.out; rw [hn7] at p0 hlb hM; have hV1 := zcA te pe _ _ _ _ _ HD.out; have HN7 := zk7 hn7; clear hnl p1 hn7
    go_wp2_with (first
     | (go_at_call 118; refine hLn.mono ?_; rintro r w7 ⟨n9, rfl, hn9, hb7, rfl⟩; have hn9' : n7 = n9 := ((hn9 _ rfl).trans HN7.out).symm; subst hn9')
     | (go_at_call 119; refine hE.mono ?_; rintro r w7 ⟨rfl, rfl⟩)
     | (go_at_call 162; refine hV1.mono ?_; rintro r w8 ⟨rfl, hD8, hf8⟩; refine Hid.out ?_))
    have s8 := hf8.size; have D8 := zk7 hD8; have hV2 := zcO te pe _ _ _ _ _ hD8; have F8 := zk7 hf8; clear hD8 hf8 hV1 p0; refine zk7 ?_; go_wp2_with (go_at_call 165; refine hV2.mono ?_; rintro r w9 ⟨rfl, hD9, hf9⟩; refine Hid.out ?_)
    have s9 := hf9.size; have D9 := zk7 hD9; have hV3 := zcO te pe _ _ _ _ _ hD9; have F9 := zk7 hf9; clear hD9 hf9 hV2; refine zk7 ?_; go_wp2_with (go_at_call 165; refine hV3.mono ?_; rintro r wA ⟨rfl, hDA, hfA⟩; refine Hid.out ?_)
    have FA : Fr (fun k => k = w.heap.size) wr wA := (F8.out.same F9.out).same hfA; have sA := FA.size; have DA := zk7 hDA; have HFA := zk7 FA; obtain ⟨csD, hBD⟩ := HD.out.blk; have OA : OwnS base 147 279 wA (.slice a6 lo.length k6) lo := HO.out.off hBD (by decide) (by decide) FA; have HOA := zk7 OA; clear hDA hfA hV3 FA OA D8 F8 D9 F9 hBD; refine zk7 ?_
    go_wp2_with (first
     | (at_builtin; refine Hid.out ?_))
    have hlen7 : ∀ l, (zbt (some (x :: r))).2 = some l → l.length < n7 := fun l hl => HN7.out ▸ zi1 hl; have hDS : Dec te pe wA w.heap.size g cur (zbt (some (x :: r))).2 := DA.out
    have HE2 : Hid (∀ j', j = j' + 1 → zaj zbt j' (zbt (some (x :: r))).2 (acc ++ [(zbt (some (x :: r))).1]) = zaj zbt rest.length (some rest) []) := zk7 (by rintro j' rfl; exact HE.out); have q1 : (zac (some (x :: r))).1 = (zbt (some (x :: r))).1.ref := rfl; have q2 : (zaE (zac (some (x :: r))).2).1 = (zbt (some (x :: r))).1.lo := rfl
    have q3 : (zaE (zaE (zac (some (x :: r))).2).2).1 = (zbt (some (x :: r))).1.hi := rfl; rw [q3, q2, q1]; clear DA hE HE q1 q2 q3; generalize zbt (some (x :: r)) = S at hDS hlen7 HE2 ⊢; obtain ⟨s1, st9⟩ := S; simp only [] at hDS hlen7 HE2 ⊢; have hDS2 := zk7 hDS; have hlen8 := zk7 hlen7; clear hDS hlen7; refine zk7 ?_; have hbA : base ≤ wA.heap.size := by omega
    have hown1 := own_one (w := wA) (base := base) (e := 279) (a := .int .i64 s1.lo) (b := .int .i64 s1.hi) hbA; have hloz : lo.length ≤ 1073741824 + 1099511627776 + 1 := by have := HLO.out; omega
    refine zad _ rfl _ _ 139 139 rfl base 147 i0 _ 2 32 Tryz.underlying139 hi0 hz0 hz1 hz2 rfl (by decide) (.slice a6 lo.length k6) lo.length (lo.flatMap stc) rfl ((HOA.out.alloc _).alloc _).1 _ 1 (stc (one s1, .slice (some ⟨wA.heap.size, 0, none⟩) 1 1)) rfl (zaF Tryz.underlying139 (za6 wA _ 147 (stc (one s1, .slice (some ⟨wA.heap.size, 0, none⟩) 1 1)).toArray) rfl (by simp [stc, Value.oneCell'])) (by unfold maxLen; omega) (by omega) (by simp; omega) ?_
    intro v' w2 hown' hgrow hat
    obtain ⟨a9, k9, rfl⟩ := zaa hown'
    have hrow : ∀ k, (Value.slice a6 lo.length k6).ownBlock = some k → base ≤ k ∧ k ≠ w.heap.size := fun k hk => ⟨(HOA.out.1.lt k hk).1, by
     rcases HB.out k hk with h | h
     ·have := HN1.out k h.symm; omega
     ·omega⟩
    have hsG := hgrow.size; simp at hsG; have fG : Fr (fun k => some k = (Value.slice a6 lo.length k6).ownBlock) wA w2 := (((zlW (fun k => some k = (Value.slice a6 lo.length k6).ownBlock) wA).alloc _).alloc _).grown hgrow (fun k hk => .inl hk.symm)
    have rD : Dec te pe w2 w.heap.size g cur st9 := hDS2.out.fr fG (fun e => (hrow _ e.symm).2 rfl) (fun e => by have := (hrow _ e.symm).1; omega) (fun e => by have := (hrow _ e.symm).1; omega); have rO : OwnS base 147 279 w2 (.slice a9 (lo.length + 1) k9) (lo ++ [(one s1, .slice (some ⟨wA.heap.size, 0, none⟩) 1 1)]) :=
     OwnS.push (p := (one s1, .slice (some ⟨wA.heap.size, 0, none⟩) 1 1)) ((HOA.out.alloc _).alloc _) (hown1.alloc _) hgrow hown' (by decide)
    have rMM : (lo ++ [(one s1, Value.slice (some ⟨wA.heap.size, 0, none⟩) 1 1)]).map Prod.fst = lp.map Prod.fst ++ (acc ++ [s1]).map one := by
     rw [zlx, zlx, HM.out, zla]; rfl
    have rL : (lo ++ [(one s1, Value.slice (some ⟨wA.heap.size, 0, none⟩) 1 1)]).length = np + (acc ++ [s1]).length := by
     rw [zk8, zk8, HLO.out]; simp [Nat.add_assoc]
    have rF : Fr (fun k => some k = (Value.slice a' np k').ownBlock) w w2 := (HF.out.trans HFA.out (fun k hk e => by omega)).trans fG (fun k hk e => by
     rcases HB.out k e.symm with h | h
     ·exact h
     ·omega)
    have rB : ∀ k, (Value.slice a9 (lo.length + 1) k9).ownBlock = some k → (some k = (Value.slice a' np k').ownBlock ∨ w.heap.size < k) := fun k hk => by
     rcases hat with h | h
     ·exact HB.out k (h ▸ hk)
     ·rw [h] at hk; injection hk with hk; simp at hk; exact .inr (by omega)
    have rM : zhE w.heap.size w2 < n7 + 1 := by
     rcases st9 with _ | l9
     ·rw [zc5 rD]; omega
     ·rw [zbm rD]; have := hlen8.out l9 rfl; omega
    have RD := zk7 rD; have RO := zk7 rO; have RF := zk7 rF; have RB := zk7 rB; have RMM := zk7 rMM; have RL := zk7 rL; clear rD rO rF rB rMM rL hown' hgrow hat hrow fG hown1 HOA; go_wp2; go_roundw
    case rel =>
     obtain ⟨j', rfl⟩ : ∃ j', j = j' + 1 := ⟨j - 1, by have := HN7.out; simp at this; omega⟩; have hsl : ∃ a m c, (Value.slice a9 (lo.length + 1) k9) = .slice a m c := ⟨_, _, _, rfl⟩; refine ⟨st9, acc ++ [s1], _, j', RD, RO, RMM, RL, RF, RB, zk7 (HE2.out j' rfl), zk7 (fun l hl => ?_), by simp; omega⟩; have := hlen8.out l hl; rw [zk8, zlo]; omega
    case measure => rw [hM]; exact rM
theorem zhz (te : TypeId) (pe : Value) (dv : Value) (g base : Nat) (cur : Array Value) (lp : List (Ston × Value)) (xs : List UInt8) (v sv : Value) (w : World) (h : Rec te pe w g cur xs v) (ho : OwnS base 147 279 w sv lp) (hb : g < base ∧ 2 < base ∧ base ≤ w.heap.size) (hpl : lp.length ≤ 1073741824) :
 Calls Tryz.prog 74 #[dv, v, sv] w (zbM w base sv.ownBlock (lp.map Prod.fst) xs) := by
 by_cases hx : (zaB (some xs)).1 = 3
 ·rcases xs with _ | ⟨b, rest⟩
  ·exact absurd hx (by decide)
  ·have hb2 : b = 3 := by
    have : b.toNat = (3 : UInt8).toNat := hx; exact UInt8.toNat_inj.1 this
   subst hb2; exact zgz te pe dv g base cur lp rest v sv w h ho hb hpl
 ·exact zgy te pe dv g base cur (lp.map Prod.fst) xs v sv w h hx
theorem zdN {α : Type} (t : UInt8) (step : St → α × St) (b : UInt8) (r : List UInt8) (h : ¬ b = t) : za5 t step (b :: r) = none := by rw [za5, if_neg h]
theorem zkU (b : UInt8) (r : List UInt8) (h : ¬ b = 1) : zba (b :: r) = none := zdN 1 _ b r h
theorem zhA (b : UInt8) (r : List UInt8) (h : ¬ b = 2) : zal (b :: r) = none := by rw [zal, if_neg h]
theorem ziv (b : UInt8) (r : List UInt8) (h : ¬ b = 3) : zaG (b :: r) = none := zdN 3 _ b r h
theorem zkX (b : UInt8) (r : List UInt8) (h : ¬ b = 4) : zbf (b :: r) = none := by rw [zbf, if_neg h]
theorem zhD (b : UInt8) (r : List UInt8) (h : ¬ b = 5) : zaC (b :: r) = none := zdN 5 _ b r h
theorem zjE (b : UInt8) (r : List UInt8) (h : ¬ b = 6) : zaN (b :: r) = none := zdN 6 _ b r h
theorem ziA (b : UInt8) (r : List UInt8) (h : ¬ (b = 7 ∨ b = 9)) : zcs (b :: r) = none := by show (if b = 7 ∨ b = 9 then zaY r else none) = _; rw [if_neg h]
theorem ziC (b : UInt8) (r : List UInt8) (h : ¬ (b = 8 ∨ b = 10)) : zct (b :: r) = none := by show (if b = 8 ∨ b = 10 then zaZ r else none) = _; rw [if_neg h]
def outS (pre : List Ston) (xs : List UInt8) : List Ston := match zaG xs with | some l => pre ++ l.map one | none => []
def ReadEndsS (w : World) (bb bp bo : Nat) (pre : List Ston) (xs : List UInt8) (r : Ending) (w' : World) : Prop :=
 r = .returned (.tuple #[]) ∧ Fr (fun k => k = bb ∨ k = bp ∨ k = bo) w w' ∧ Blk w' bo 4 #[.bool (zaG xs).isSome] ∧
  ∃ v lo, Blk w' bp 54 #[.slice none 0 0, .slice none 0 0, v, .slice none 0 0, .slice none 0 0, .slice none 0 0, .slice none 0 0] ∧ lo.map Prod.fst = outS pre xs ∧ OwnS w.heap.size 151 281 w' v lo
theorem outS_len (pre : List Ston) (xs : List UInt8) : (outS pre xs).length ≤ pre.length + xs.length := by
 unfold outS; split
 ·rename_i h
  have := zed h; rw [zk8, zlv]; omega
 ·simp
theorem outS_ivs {pre : List Ston} {xs : List UInt8} (h : ∀ s ∈ pre, s.ivs.length ≤ 1073741824) : ∀ s ∈ outS pre xs, s.ivs.length ≤ 1073741824 := by
 unfold outS; split
 ·intro s hs
  rcases zlN.1 hs with hs | hs
  ·exact h s hs
  ·obtain ⟨t, _, rfl⟩ := zlD.1 hs
   simp [one]
 ·intro s hs; cases hs
theorem zgp {w w' : World} {base : Nat} {o : Option Nat} {pre : List Ston} {xs : List UInt8} {r : Ending} (h : zbM w base o pre xs r w') :
 ∃ v' e lo, r = .returned (.tuple #[v', e]) ∧ lo.map Prod.fst = outS pre xs ∧ OwnS base 147 279 w' v' lo ∧ Fr (fun k => some k = o) w w' ∧ ((e = .nilIface ∧ (zaG xs).isSome = true) ∨ (∃ t a, e = .iface t a ∧ (zaG xs).isSome = false)) := by
 unfold zbM at h; unfold outS; rcases hd : zaG xs with _ | l
 ·rw [hd] at h
  obtain ⟨hf, t, a, rfl⟩ := h; exact ⟨_, _, [], rfl, rfl, OwnS.nil _ _ _ _, hf, .inr ⟨_, _, rfl, rfl⟩⟩
 ·rw [hd] at h
  obtain ⟨hf, v', lo, rfl, hm, ho⟩ := h; exact ⟨_, _, lo, rfl, hm, ho, hf, .inl ⟨rfl, rfl⟩⟩
theorem zfw {W w5 w6 : World} {b t : Nat} {cs : Array Value} {v5 : Value} {lo : List (Ston × Value)} (h : Blk W b t cs) (hf5 : Fr (fun _ => False) W.drew w5) (ho : OwnS W.drew.heap.size 147 279 w5 v5 lo) (hf6 : Fr (fun k => some k = v5.ownBlock) w5 w6) : Blk w6 b t cs :=
 (h.drew.fr hf5 (fun e => e)).fr hf6 (fun e => by have h1 := (ho.1.lt b e.symm).1; have h2 : b < W.heap.size := h.lt; exact zlR _ (zlw h2 h1))
theorem zhZ (te : TypeId) (pe : Value) (bb bk bq bp bo : Nat) (P : Nat → Prop) (q0 q1 q2 q3 q4 q5 q6 v : Value) (xs : List UInt8) (w : World) (hb : Blk w bb 44 #[v]) (hv : Sl P w v 1 xs.length (bc xs)) (hk : Blk w bk 3 #[.int .i64 3]) (hq : Blk w bq 54 #[q0, q1, q2, q3, q4, q5, q6]) (lp : List (Ston × Value)) (hs : SlS P w q2 lp) (hpl : lp.length ≤ 1073741824) (hpi : ∀ s ∈ lp.map Prod.fst, s.ivs.length ≤ 1073741824)
 (hp : Blk w bp 54 #[.slice none 0 0, .slice none 0 0, .slice none 0 0, .slice none 0 0, .slice none 0 0, .slice none 0 0, .slice none 0 0]) (ho : Blk w bo 4 #[.bool false]) (hE : w.cell? ⟨2, 0, none⟩ = some (.iface te pe)) (hxl : xs.length ≤ 1073741824)
 (hPb : ∀ g, P g → g ≠ bb) (hpq : bp ≠ bq) (h2 : bb ≠ 2 ∧ bp ≠ 2 ∧ bo ≠ 2) :
 Calls Tryz.prog 66 #[.pointer (some ⟨bb, 0, none⟩), .pointer (some ⟨bk, 0, none⟩), .pointer (some ⟨bq, 0, none⟩), .pointer (some ⟨bp, 0, none⟩), .pointer (some ⟨bo, 0, none⟩)] w (ReadEndsS w bb bp bo (lp.map Prod.fst) xs) := by
 obtain ⟨i0, hi0, hz0, hz1, hz2⟩ := info_parts Tryz.info5; have HB := zk7 hb; have HV := zk7 hv; have HK := zk7 hk; have HQ := zk7 hq; have HS := zk7 hs; have HP := zk7 hp; have HO := zk7 ho; have HE := zk7 hE; have HPB := zk7 hPb; have hv1 : ∃ A m c, v = .slice A m c := let ⟨A, c, h, _⟩ := hv; ⟨A, _, c, h⟩
 obtain ⟨A, m, c, rfl⟩ := hv1; clear hb hv hk hq hs hp ho hE hPb; go_enter Tryz.func66, Tryz.ntmps66; go_wp2_with (first | (go_at_call 67; refine (zcU _ _).mono ?_; rintro r w1 ⟨v1, rfl, ⟨a, rfl⟩, hf1⟩; refine Hid.out ?_))
 have hB1 := ((HB.out.fr hf1 (fun e => e)).alloc (.cells #[.slice (some a) 0 0, .string ⟨#[]⟩, .slice none 0 0] 119)).alloc (.cells #[] 5); have b1 := hB1.cell 0; simp at b1; clear hB1; refine zk7 ?_; go_wp2_with (at_builtin; refine Hid.out ?_)
 have hO0 := World.ownsRow_made (base := w.heap.size) (e := 5) (size := 1) (w1.alloc (.cells #[.slice (some a) 0 0, .string ⟨#[]⟩, .slice none 0 0] 119)) #[] 0 (by have := hf1.size; simp; omega) (zli _) rfl; have hFA : Fr (fun _ => False) w ((w1.alloc (.cells #[.slice (some a) 0 0, .string ⟨#[]⟩, .slice none 0 0] 119)).alloc (.cells #[] 5)) := (hf1.alloc _).alloc _; have hs1 := hf1.size
 refine zk7 ?_; have hg0 : (w1.alloc (.cells #[.slice (some a) 0 0, .string ⟨#[]⟩, .slice none 0 0] 119)).heap.size = w1.heap.size + 1 := by simp
 rw [hg0] at hO0; clear b1; generalize World.alloc _ (Obj.cells #[] 5) = WA at hO0 hFA ⊢; have hsA := hFA.size; have hsrc := zc8 Tryz.underlying44 (HV.out.fr hFA (fun _ _ e => e)) (zet xs)
 refine zad _ rfl _ _ 44 44 rfl w.heap.size 5 i0 (.int .u8 0) 1 1 Tryz.underlying44 hi0 hz0 hz1 hz2 rfl (by decide) (.slice (some ⟨w1.heap.size + 1, 0, none⟩) 0 0) 0 [] rfl hO0 (.slice A m c) xs.length (bc xs) rfl hsrc (by unfold maxLen; omega) (by omega) (by omega) ?_; intro v' w2 hown' hgrow hat
 rw [zlC, zlJ] at hown'; obtain ⟨a2, k2, rfl⟩ := zaa hown'; have hge : ∀ k, (Value.slice (some ⟨w1.heap.size + 1, 0, none⟩) 0 0).ownBlock = some k → w.heap.size ≤ k := fun k hk => by
  have hk : w1.heap.size + 1 = k := zlV hk; omega
 have F2 : Fr (fun _ => False) w w2 := hFA.grown hgrow (fun k hk => .inr (hge k hk)); have hrow2 : ∃ g2 cur2, a2 = some ⟨g2, 0, none⟩ ∧ w.heap.size ≤ g2 ∧ Blk w2 g2 5 cur2 ∧ xs.length ≤ k2 ∧ k2 ≤ maxLen ∧ cur2.toList.take xs.length = bc xs := by
  rcases hown'.2 with ⟨h, _⟩ | ⟨g2, cap, cur2, h, h1, h3, h4, h5, _, h6⟩
  ·rw [h] at hat
   rcases hat with hat | hat <;> exact absurd hat (by simp [Value.ownBlock])
  ·injection h with e1 e2 e3
   subst e3; exact ⟨g2, cur2, e1, h1, h3, h4, h5, by simpa using h6⟩
 have hge2 : ∀ k, (Value.slice a2 xs.length k2).ownBlock = some k → w.heap.size ≤ k := fun k hk => (hown'.lt k hk).1; have lB := HB.out.lt; have gB := HB.out.fr F2 (fun e => e); have y0 := gB.cell 0; have y1 := gB.frozen 0; simp at y0
 have F3 : Fr (fun k => k = bb) w (w2.setCell ⟨bb, 0, none⟩ (.slice a2 xs.length k2)) := (F2.mono (S' := fun k => k = bb) (fun _ _ e => e.elim)).setCell (p := ⟨bb, 0, none⟩) (.inl rfl) _; have O3 : (w2.setCell ⟨bb, 0, none⟩ (.slice a2 xs.length k2)).ownsRow w.heap.size 5 1 (.slice a2 xs.length k2) xs.length (bc xs) := zah hown' (Fr.put_ w2 bb 0 _) (fun k hk e => by have := hge2 k hk; omega)
 have B3 : Blk (w2.setCell ⟨bb, 0, none⟩ (.slice a2 xs.length k2)) bb 44 #[.slice a2 xs.length k2] := by simpa using gB.set_ 0 (.slice a2 xs.length k2)
 have K3 := (HK.out.fr F3 (fun e => Blk.ne_ HK.out HB.out (by decide) e)).cell 0; have Q3 := HQ.out.fr F3 (fun e => Blk.ne_ HQ.out HB.out (by decide) e); have P3 := HP.out.fr F3 (fun e => Blk.ne_ HP.out HB.out (by decide) e); have O4 := HO.out.fr F3 (fun e => Blk.ne_ HO.out HB.out (by decide) e)
 have E3 : (w2.setCell ⟨bb, 0, none⟩ (.slice a2 xs.length k2)).cell? ⟨2, 0, none⟩ = some (.iface te pe) := by
  rw [F3.cell (p := ⟨2, 0, none⟩) (zle w _ HE.out) (fun e => h2.1 e.symm)]; exact HE.out
 simp at K3; have HF3 := zk7 F3; have HO3 := zk7 O3; have HB3 := zk7 B3; have HQ3 := zk7 Q3; have HP3 := zk7 P3; have HO4 := zk7 O4; have HE3 := zk7 E3; have HGE := zk7 hge2; obtain ⟨g2, cur2, rfl, hg2, hbk2, hk2, hk2m, htk2⟩ := hrow2
 have R3 : Rec te pe (w2.setCell ⟨bb, 0, none⟩ (.slice (some ⟨g2, 0, none⟩) xs.length k2)) g2 cur2 xs (.slice (some ⟨g2, 0, none⟩) xs.length k2) := by
  refine ⟨0, k2, rfl, hbk2.far (p := ⟨bb, 0, none⟩) (by show g2 ≠ bb; omega) _, hk2, ⟨by simp [maxLen] at hk2m; omega, by omega⟩, fun j u hu => ?_, E3⟩; rw [zlC, ← Array.getElem?_toList]; have hj : j < xs.length := by
   rcases zlA j xs.length with h | h
   ·exact h
   ·rw [zlB (by rw [zc6]; exact h)] at hu; cases hu
  rw [← htk2, List.getElem?_take_of_lt hj] at hu; exact hu
 have HR3 := zk7 R3; have hg2l := hbk2.lt; clear R3 hk2m htk2 hbk2; clear F2 F3 O3 B3 Q3 P3 O4 E3 gB hge hge2 hown' hgrow hat hsrc hO0 hFA hf1; go_wp2_with fail
 generalize w2.setCell ⟨bb, 0, none⟩ (.slice (some ⟨g2, 0, none⟩) xs.length k2) = W3 at HF3 HO3 HB3 HQ3 HP3 HO4 HE3 HR3 ⊢; have hl3 := HR3.out; have hg3 : g2 < W3.heap.size := let ⟨_, _, _, h, _⟩ := hl3; h.lt
 have h23 : 2 < W3.heap.size := zle W3 _ HE3.out; clear hl3; have hS3 : SlS P W3.drew q2 lp := HS.out.fr HF3.out.drew (fun g hg e => HPB.out g hg e); have hR1 := zeI P q2 lp W3.drew hS3 (by omega) (fun p hp => by have := hpi p.1 (zlD.2 ⟨p, hp, rfl⟩); omega); have hq1 : ∃ A m c, q2 = .slice A m c := let ⟨A, c, h, _⟩ := HS.out.1; ⟨A, _, c, h⟩
 obtain ⟨Aq, mq, cq, rfl⟩ := hq1; have x0 := HB3.out.cell 0; have x1 := HQ3.out.cell 2; have x0d : W3.drew.cell? ⟨bb, 0, none⟩ = some (.slice (some ⟨g2, 0, none⟩) xs.length k2) := x0; have x1d : W3.drew.cell? ⟨bq, 2, none⟩ = some (.slice Aq mq cq) := x1; simp at x0 x1; clear y0 y1 K3
 go_region_held3 (fun w' => w'.cell? ⟨bb, 0, none⟩ = some (.slice (some ⟨g2, 0, none⟩) xs.length k2) ∧ w'.cell? ⟨bq, 2, none⟩ = some (.slice Aq mq cq))
  ((first | (go_split_ands; refine ⟨?_, ?_⟩ <;> first | exact (HB3.out.drew.fr hf5 (fun e => e)).cell 0 | exact (HQ3.out.drew.fr hf5 (fun e => e)).cell 2) | (go_split_ands; refine ⟨?_, ?_⟩ <;> first | exact KB.out.cell 0 | exact KQ.out.cell 2) | go_keep))
  ((first
    | (go_at_call 75; refine hR1.mono ?_; rintro r5 w5 ⟨v5, l5, rfl, hm5, hown5, hf5⟩; have hl5 : l5.length ≤ 1073741824 := by have h := congrArg List.length hm5; simp at h; omega)
    | (go_at_call 74; refine (zhz te pe _ g2 W3.drew.heap.size cur2 l5 xs _ v5 w5 (HR3.out.fr (w := W3) (((zlW (fun _ => False) W3).drew).same hf5) (fun e => e) (fun e => e)) hown5 ⟨hg3, h23, hf5.size⟩ hl5).mono ?_; rintro r6 w6 hE6; obtain ⟨v6, e6, l6, rfl, hm6, hown6, hf6, hor6⟩ := zgp hE6; clear hE6; rw [hm5] at hm6; have KB := zk7 (zfw HB3.out hf5 hown5 hf6); have KQ := zk7 (zfw HQ3.out hf5 hown5 hf6))))
 have T6 : Fr (fun k => k = bb) w w6 := ((HF3.out.trans (((zlW (fun _ => False) W3).drew).same hf5) (fun _ _ e => e.elim)).trans hf6 (fun k hk e => by
  have h1 := (hown5.1.lt k e.symm).1; have h2 := HF3.out.size
  simp at h1; omega))
 have P6 := zfw HP3.out hf5 hown5 hf6; have O6 := zfw HO4.out hf5 hown5 hf6; have hz6 : w.heap.size ≤ W3.drew.heap.size := HF3.out.size; have V6 := OwnS.mono hown6 hz6; have HT6 := zk7 T6; have HP6 := zk7 P6; have HO6 := zk7 O6; have HV6 := zk7 V6; have HOR := zk7 hor6; have hsz5 := hf5.size; have hsz6 := hf6.size
 have hb6 : ∀ k, v6.ownBlock = some k → k < w6.heap.size := fun k hk => zav hown6.1 hk; clear x0 x1 x0d x1d hR1 T6 P6 O6 V6 hor6 hown5 hf5 hown6 hf6 KB KQ HO3 HB3 HQ3 HP3 HO4 HE3 HR3 HF3; have HM6 := zk7 hm6; clear hm6 hm5 hl5; have h6len : l6.length ≤ 1073741824 + 1073741824 := by
  have h1 := outS_len (lp.map Prod.fst) xs; have h2 := congrArg List.length HM6.out; rw [zlv] at h2; rw [zlv] at h1; omega
 have h6iv : ∀ p ∈ l6, p.1.ivs.length ≤ 1073741824 := fun p hp => outS_ivs hpi p.1 (by rw [← HM6.out]; exact zlD.2 ⟨p, hp, rfl⟩); have H6L := zk7 h6len; have H6I := zk7 h6iv; clear h6len h6iv hpi; obtain ⟨a6, k6, rfl⟩ := zaa HV6.out.1; go_wp2_with fail
 obtain ⟨n, hn⟩ : ∃ n, l6.length = n := ⟨_, rfl⟩; have HN := zk7 hn; rw [hn] at HV6 hb6 ⊢; clear hn; obtain ⟨i1, hi1, hy0, hy1, hy2⟩ := info_parts Tryz.info151
 go_loopw [113] (fun i wr => ∃ (k : Nat) (lv : Value) (lo : List (Ston × Value)), k ≤ n ∧ i = .int .i64 k ∧ Hid (Fr (fun j => j = bb ∨ j = bp) w wr) ∧ Hid (OwnS w.heap.size 147 279 wr (.slice a6 n k6) l6) ∧ Hid (Blk wr bo 4 #[.bool false]) ∧
  Hid (Blk wr bp 54 #[.slice none 0 0, .slice none 0 0, lv, .slice none 0 0, .slice none 0 0, .slice none 0 0, .slice none 0 0]) ∧ Hid (OwnS w.heap.size 151 281 wr lv lo) ∧ Hid (lo.map Prod.fst = (l6.take k).map Prod.fst) ∧ Hid (lo.length = k)) (fun i _ => n - (intOf i).toNat)
 case atStart => exact ⟨0, _, [], zli _, rfl, zk7 (Fr.mono HT6.out (fun _ _ e => Or.inl e)), HV6, HO6, HP6, zk7 (OwnS.nil _ _ _ _), zk7 rfl, zk7 rfl⟩
 case round =>
  obtain ⟨k, lv, lo, hk, rfl, RF, RV, RO, RP, RL, RM, RN⟩ := hrel; by_cases hlt : k < n
  ·obtain ⟨A7, c7, e7, _, _, hr7⟩ := Sl.ofOwn RV.out.1
   injection e7 with e7 e7n e7c; clear e7n; subst e7 e7c; obtain ⟨g7, off7, rfl, _, hcell7⟩ := hr7 (by have := HN.out; omega); obtain ⟨x, hx⟩ : ∃ x, l6[k]? = some x := ⟨_, zk9 (by rw [HN.out]; exact hlt)⟩; have cc : ∀ j, j < 2 → ∀ u, (stc x)[j]? = some u → wr.cell? ⟨g7, off7 + (k * 2 + j), none⟩ = some u := fun j hj u hu =>
    hcell7 (k * 2 + j) u (by rw [zci stc (fun _ => rfl) l6 k x hx j hj]; exact hu)
   have c0 : wr.cell? ⟨g7, off7 + k * 2, none⟩ = some (.int .u64 x.1.ref) := cc 0 (by omega) _ rfl; have c1 : wr.cell? ⟨g7, off7 + k * 2 + 1, none⟩ = some x.2 := cc 1 (by omega) _ rfl; have hxm := zlf hx; have hiv := RV.out.2 x hxm; have hivl := H6I.out x hxm; obtain ⟨⟨ref, ivs⟩, iv⟩ := x; simp only [] at c0 c1 hiv hivl; obtain ⟨Ai, ci, rfl⟩ := zaa hiv; have HX := zk7 hx
   have HIV := zk7 hiv; obtain ⟨aL, kL, rfl⟩ := zaa RL.out.1; clear hcell7 hr7 cc hx hxm hiv; go_wp2_with fail
   have hB8 := Blk.new wr 147 #[.int .u64 ref, .slice Ai ivs.length ci]; have s0 := hB8.cell 0; have s1 := hB8.cell 1; have hP8 := RP.out.alloc (.cells #[.int .u64 ref, .slice Ai ivs.length ci] 147); have s3 := hP8.cell 2; simp only [zls, zlq, zlr] at s0 s1 s3; have lP := RP.out.lt; have hsz := RF.out.size
   have hloz : lo.length ≤ 1073741824 + 1073741824 := by have h1 := RN.out; have h2 := H6L.out; have h3 := HN.out; omega
   have hk40 : k < 4294967296 := by have h1 := RN.out; omega
   have HB8 := zk7 hB8; have HP8 := zk7 hP8; have hC := zfD _ (.slice Ai ivs.length ci) ivs (wr.alloc (.cells #[.int .u64 ref, .slice Ai ivs.length ci] 147)).drew (Sl.ofOwn (HIV.out.alloc (.cells #[.int .u64 ref, .slice Ai ivs.length ci] 147)).drew) (by omega); clear hB8 hP8
   refine zcl (fun w' => w'.cell? ⟨bp, 2, none⟩ = some (.slice aL lo.length kL) ∧ w'.cell? ⟨wr.heap.size, 0, none⟩ = some (.int .u64 ref) ∧ w'.cell? ⟨wr.heap.size, 1, none⟩ = some (.slice Ai ivs.length ci)) 9 (by kernel_rfl) ⟨s3, s0, s1⟩ ?_; intro hS
   refine zaw 0 (.pointer (some ⟨bp, 2, none⟩)) rfl (by kernel_rfl) (by kernel_rfl) (by kernel_rfl) (by kernel_rfl) (fun _ _ _ h => h) (by rfl) (by intro w; go_simp) hS ?_; try simp only [Act.put, zlb, zlc, zld]
   refine zaO 1 [9, 11] (.slice aL lo.length kL) rfl (by kernel_rfl) (by kernel_rfl) (by kernel_rfl) (by kernel_rfl) (by kernel_rfl) (by kernel_rfl) (by kernel_rfl) (fun _ _ _ h => h) (by rfl) (by rintro w ⟨h1, h2, h3⟩; go_simp) hS ?_; try simp only [Act.put, zlb, zlc, zld]
   refine zaw 2 (.pointer (some ⟨wr.heap.size, 0, none⟩)) rfl (by kernel_rfl) (by kernel_rfl) (by kernel_rfl) (by kernel_rfl) (fun _ _ _ h => h) (by rfl) (by intro w; go_simp) hS ?_; try simp only [Act.put, zlb, zlc, zld]
   refine zaO 3 [7, 8, 9, 11] (.int .u64 ref) rfl (by kernel_rfl) (by kernel_rfl) (by kernel_rfl) (by kernel_rfl) (by kernel_rfl) (by kernel_rfl) (by kernel_rfl) (fun _ _ _ h => h) (by rfl) (by rintro w ⟨h1, h2, h3⟩; go_simp) hS ?_; try simp only [Act.put, zlb, zlc, zld]
   refine zaw 4 (.pointer (some ⟨wr.heap.size, 1, none⟩)) rfl (by kernel_rfl) (by kernel_rfl) (by kernel_rfl) (by kernel_rfl) (fun _ _ _ h => h) (by rfl) (by intro w; go_simp) hS ?_; try simp only [Act.put, zlb, zlc, zld]
   refine zaO 5 [6, 7, 8, 9, 11] (.slice Ai ivs.length ci) rfl (by kernel_rfl) (by kernel_rfl) (by kernel_rfl) (by kernel_rfl) (by kernel_rfl) (by kernel_rfl) (by kernel_rfl) (fun _ _ _ h => h) (by rfl) (by rintro w ⟨h1, h2, h3⟩; go_simp) hS ?_; try simp only [Act.put, zlb, zlc, zld]
   refine zbF 6 (by kernel_rfl) rfl (by rfl) (fun K hK => ?_); go_simp; go_at_call 76
   refine hC.mono ?_; rintro r w5 ⟨v5, rfl, hown5, hf5⟩; obtain ⟨a5, k5, rfl⟩ := zaa hown5; have F5 := zk7 (((zlW (fun _ => False) wr).alloc (.cells #[.int .u64 ref, .slice Ai ivs.length ci] 147)).drew.same hf5); have P5 := zk7 (HP8.out.drew.fr hf5 (fun e => e)); have B5 := zk7 (HB8.out.drew.fr hf5 (fun e => e))
   have hS5 : w5.cell? ⟨bp, 2, none⟩ = some (.slice aL lo.length kL) ∧ w5.cell? ⟨wr.heap.size, 0, none⟩ = some (.int .u64 ref) ∧ w5.cell? ⟨wr.heap.size, 1, none⟩ = some (.slice Ai ivs.length ci) := ⟨P5.out.cell 2, B5.out.cell 0, B5.out.cell 1⟩; have hz5 := F5.out.size; have N5 := zk7 (zai hown5 (base' := w.heap.size) (by simp; omega)); have L5 := zk7 (RL.out.fr F5.out (fun _ _ _ e => e))
   refine hK.out _ _ hS5 ?_; clear hK K hS hC hown5 hf5; try simp only [Act.put, zlb, zlc, zld]
   refine zaw 7 (.agg #[.int .u64 ref, .slice a5 ivs.length k5]) rfl (by kernel_rfl) (by kernel_rfl) (by kernel_rfl) (by kernel_rfl) (fun _ _ _ h => h) (by rfl) (by intro w; go_simp) hS5 ?_; try simp only [Act.put, zlb, zlc, zld]
   refine zbF 8 (by kernel_rfl) rfl (by rfl) (fun K hK => ?_); go_simp; refine hK.out _ _ ⟨(P5.out.alloc _).cell 2, (B5.out.alloc _).cell 0, (B5.out.alloc _).cell 1⟩ ?_; clear hK K hS5; try simp only [Act.put, zlb, zlc, zld]
   refine zaP 9 (by kernel_rfl) rfl (by kernel_rfl) (by rfl) (fun K hK => ?_)
   refine zbz _ _ _ 48 48 (by rfl) w.heap.size 151 i1 _ 2 32 Tryz.underlying48 hi1 hy0 hy1 hy2 rfl (by decide) (.slice aL lo.length kL) lo.length (lo.flatMap stc) (by rfl) (L5.out.alloc _).1 _ 1 (stc (⟨ref, ivs⟩, .slice a5 ivs.length k5)) (by rfl) (zaF Tryz.underlying48 (Blk.new w5 151 (stc (⟨ref, ivs⟩, .slice a5 ivs.length k5)).toArray) rfl (by simp [stc, Value.oneCell'])) (by unfold maxLen; omega) (by omega) (by simp; omega) ?_
   intro v' w2 hown' hgrow hat
   obtain ⟨a9, k9, rfl⟩ := zaa hown'; have KP9 := zk7 ((P5.out.alloc _).grown hgrow (Ne.symm (zak RL.out.1 RP.out (by decide)))); have p9 := KP9.out.cell 2; have z9 := KP9.out.frozen 2; simp at p9; refine hK.out _ _ ?_; clear hK K; try simp only [Act.put, zlb, zlc, zld]
   refine zaP 10 (by kernel_rfl) rfl (by kernel_rfl) (by rfl) (fun K hK => ?_); go_simp; refine hK.out _ _ ?_; clear hK K; refine zaP 11 (by kernel_rfl) rfl (by kernel_rfl) (by rfl) (fun K hK => ?_); go_simp; refine hK.out _ _ ?_; clear hK K; refine zds (by kernel_rfl) ?_ _
   have newP : Blk (w2.setCell ⟨bp, 2, none⟩ (.slice a9 (lo.length + 1) k9)) bp 54 #[.slice none 0 0, .slice none 0 0, .slice a9 (lo.length + 1) k9, .slice none 0 0, .slice none 0 0, .slice none 0 0, .slice none 0 0] := by simpa using KP9.out.set_ 2 (.slice a9 (lo.length + 1) k9)
   have O5 := (RO.out.fr F5.out (fun e => e)).alloc (.cells (stc (⟨ref, ivs⟩, .slice a5 ivs.length k5)).toArray 151); have newO : Blk (w2.setCell ⟨bp, 2, none⟩ (.slice a9 (lo.length + 1) k9)) bo 4 #[.bool false] := (O5.grown hgrow (Ne.symm (zak RL.out.1 RO.out (by decide)))).far (p := ⟨bp, 2, none⟩) (Blk.ne_ RO.out RP.out (by decide)) _
   have newL0 : OwnS w.heap.size 151 281 w2 (.slice a9 (lo.length + 1) k9) (lo ++ [(⟨ref, ivs⟩, .slice a5 ivs.length k5)]) :=
    OwnS.push (p := (⟨ref, ivs⟩, .slice a5 ivs.length k5)) (L5.out.alloc _) (N5.out.alloc _) hgrow hown' (by decide)
   have newL : OwnS w.heap.size 151 281 (w2.setCell ⟨bp, 2, none⟩ (.slice a9 (lo.length + 1) k9)) (.slice a9 (lo.length + 1) k9) (lo ++ [(⟨ref, ivs⟩, .slice a5 ivs.length k5)]) := newL0.off KP9.out (by decide) (by decide) (Fr.put_ w2 bp 2 _); have fG : Fr (fun j => some j = (Value.slice aL lo.length kL).ownBlock ∨ j = bp) wr (w2.setCell ⟨bp, 2, none⟩ (.slice a9 (lo.length + 1) k9)) :=
    (((F5.out.mono (S' := fun j => some j = (Value.slice aL lo.length kL).ownBlock ∨ j = bp) (fun _ _ e => e.elim)).alloc _).grown hgrow (fun g hg => .inl (.inl hg.symm))).setCell (p := ⟨bp, 2, none⟩) (.inl (.inr rfl)) _
   have newV : OwnS w.heap.size 147 279 (w2.setCell ⟨bp, 2, none⟩ (.slice a9 (lo.length + 1) k9)) (.slice (some ⟨g7, off7, none⟩) n k6) l6 := by
    refine ⟨zah RV.out.1 fG (fun g hg e => ?_), fun p hp => zah (RV.out.2 p hp) fG (fun g hg e => ?_)⟩
    ·rcases e with e | e
     ·exact zbU RV.out.1 RL.out.1 (by decide) g hg e.symm
     ·exact zak RV.out.1 RP.out (by decide) (by rw [hg, e])
    ·rcases e with e | e
     ·exact zbU (RV.out.2 p hp) RL.out.1 (by decide) g hg e.symm
     ·exact zak (RV.out.2 p hp) RP.out (by decide) (by rw [hg, e])
   have newF : Fr (fun j => j = bb ∨ j = bp) w (w2.setCell ⟨bp, 2, none⟩ (.slice a9 (lo.length + 1) k9)) := RF.out.trans fG (fun j hj e => by
    rcases e with e | e
    ·have := (RL.out.1.lt j e.symm).1; omega
    ·exact .inr e)
   have newM : (lo ++ [((⟨ref, ivs⟩ : Ston), Value.slice a5 ivs.length k5)]).map Prod.fst = (l6.take (k + 1)).map Prod.fst := by
    rw [zlI, HX.out, zlx, zlx, RM.out]; rfl
   have newN : (lo ++ [((⟨ref, ivs⟩ : Ston), Value.slice a5 ivs.length k5)]).length = k + 1 := by rw [zk8, RN.out]; rfl
   have NP := zk7 newP; have NO := zk7 newO; have NL := zk7 newL; have NV := zk7 newV; have NF := zk7 newF; have NM := zk7 newM; have NN := zk7 newN; clear newP newO newL0 newL newV newF newM newN fG hown' hgrow hat p9 z9 c0 c1 s0 s1 s3 O5 L5 N5 F5 P5 B5; go_wp2; go_roundw
   case rel => exact ⟨k + 1, _, _, by omega, by go_num, NF, NV, NO, NP, NL, NM, NN⟩
   case measure => simp [intOf]; omega
  ·obtain rfl : k = n := by omega
   have o0 := RO.out.cell 0; have o1 := RO.out.frozen 0; simp at o0; have W1 : Blk (wr.setCell ⟨bo, 0, none⟩ (.bool (zaG xs).isSome)) bo 4 #[.bool (zaG xs).isSome] := by simpa using RO.out.set_ 0 (.bool (zaG xs).isSome)
   have W2 := RP.out.far (p := ⟨bo, 0, none⟩) (Blk.ne_ RP.out RO.out (by decide)) (.bool (zaG xs).isSome); have W3' := OwnS.off RL.out RO.out (by decide) (by decide) (Fr.put_ wr bo 0 (.bool (zaG xs).isSome))
   have W4 : Fr (fun k => k = bb ∨ k = bp ∨ k = bo) w (wr.setCell ⟨bo, 0, none⟩ (.bool (zaG xs).isSome)) := (Fr.mono (S' := fun k => k = bb ∨ k = bp ∨ k = bo) RF.out (fun _ _ e => e.elim (fun h => Or.inl h) (fun h => Or.inr (Or.inl h)))).setCell (p := ⟨bo, 0, none⟩) (.inl (.inr (.inr rfl))) _; rcases HOR.out with ⟨rfl, hsome⟩ | ⟨t, ae, rfl, hsome⟩; all_goals
    rw [hsome] at W1 W2 W3' W4; have hW1 := zk7 W1; have hW2 := zk7 W2; have hW3 := zk7 W3'; have hW4 := zk7 W4; clear W1 W2 W3' W4; go_wp2_with fail
    go_end0; refine ⟨rfl, hW4.out, by rw [hsome]; exact hW1.out, lv, lo, hW2.out, ?_, hW3.out⟩; have e1 : l6.take k = l6 := zlg (by rw [HN.out]; exact zlj _); rw [RM.out, e1, HM6.out]
def StnParts (base : Nat) (l : List Ston) (ps : Array Value) (w : World) : Prop :=
 ∃ v lo, ps = #[.slice none 0 0, .slice none 0 0, v, .slice none 0 0, .slice none 0 0, .slice none 0 0, .slice none 0 0] ∧ lo.map Prod.fst = l ∧ OwnS base 151 281 w v lo
theorem seven_of2 {lv : Value} (h : ∃ A m c, lv = .slice A m c) : zk4 #[.slice none 0 0, .slice none 0 0, lv, .slice none 0 0, .slice none 0 0, .slice none 0 0, .slice none 0 0] := by
 obtain ⟨A, m, c, rfl⟩ := h; exact ⟨_, _, _, _, _, _, _, _, _, _, _, _, _, _, _, _, _, _, _, _, _, rfl⟩
theorem zeX (te : TypeId) (pe : Value) (q0 q1 q2 q3 q4 q5 q6 bv : Value) (lp : List (Ston × Value)) (xs : List UInt8) (P : Nat → Prop) (w : World) (hb : Sl P w bv 1 xs.length (bc xs)) (hxl : xs.length ≤ 1073741824) (hP : ∀ g, P g → g < w.heap.size)
 (hsl : ∀ s ∈ [q0, q1, q2, q3, q4, q5, q6], ∃ A m c, s = .slice A m c) (hs : SlS P w q2 lp) (hpl : lp.length ≤ 1073741824) (hpi : ∀ s ∈ lp.map Prod.fst, s.ivs.length ≤ 1073741824) (hE : w.cell? ⟨2, 0, none⟩ = some (.iface te pe)) :
 Calls Tryz.prog 29 #[.int .i64 3, bv, .agg #[q0, q1, q2, q3, q4, q5, q6]] w (ReadDone (StnParts w.heap.size (outS (lp.map Prod.fst) xs)) (zaG xs).isSome w) := by
 have h2 := zle w _ hE; refine zbh 3 q0 q1 q2 q3 q4 q5 q6 bv xs P _ _ w hb hsl ?_ ?_
 ·rintro ps W W' ⟨v, lo, rfl, hm, ho⟩ hv
  refine ⟨v, lo, rfl, hm, zah ho.1 hv ?_, fun p hp => zah (ho.2 p hp) hv ?_⟩
  ·rintro g hg ⟨cs, h | h⟩
   ·exact zak ho.1 h (by decide) hg
   ·exact zak ho.1 h (by decide) hg
  ·rintro g hg ⟨cs, h | h⟩
   ·exact zak (ho.2 p hp) h (by decide) hg
   ·exact zak (ho.2 p hp) h (by decide) hg
 ·intro bb bk bq bp bo W hk hb' hq hp ho hbb hbp hbo hpq hF
  have hEW : W.cell? ⟨2, 0, none⟩ = some (.iface te pe) := by rw [hF.cell (p := ⟨2, 0, none⟩) h2 (fun e => e)]; exact hE
  refine (zhZ te pe bb bk bq bp bo P q0 q1 q2 q3 q4 q5 q6 bv xs W hb' (hb.fr hF (fun _ _ e => e)) hk hq lp (hs.fr hF (fun _ _ e => e)) hpl hpi hp ho hEW hxl (fun g hg e => by have := hP g hg; omega) hpq (by simp only [] at h2; omega)).mono ?_; rintro r w' ⟨rfl, hf, hbo', v, lo, hbp', hm, hown⟩; have hz := hF.size; obtain ⟨a, c, hlv⟩ := zaa hown.1
  exact ⟨rfl, hf, hbo', _, seven_of2 ⟨_, _, _, hlv⟩, hbp', v, lo, rfl, hm, OwnS.mono hown hz⟩
end Go.Proofs.YtbkookiigkckdaaGreatDoor
