/- Merged. -/
import Derived.Test.YtbkookiigkckdaaGreatDoorKD14
import Derived.Test.YtbkookiigkckdaaGreatDoorKD20
set_option linter.unusedVariables false
set_option linter.unusedSimpArgs false
set_option maxRecDepth 100000
set_option maxHeartbeats 8000000
namespace Go.Proofs.YtbkookiigkckdaaGreatDoor
open Go.RowKit Go.Proofs.Tryz
def UnX (w : World) (h : Hst) (r : Ending) (w' : World) : Prop :=
 ∃ (A1 : Option Addr) (m1 c1 : Nat) (A2 : Option Addr) (m2 c2 : Nat) (A3 : Option Addr) (m3 c3 : Nat) (A4 : Option Addr) (m4 c4 : Nat) (A5 : Option Addr) (m5 c5 : Nat) (A6 : Option Addr) (m6 c6 : Nat) (A7 : Option Addr) (m7 c7 : Nat), r = .returned (.agg #[.int .u8 h.hint.toNat, .int .i32 h.schema, .int .u64 h.thr, .int .u64 h.sum, .int .u64 h.zc, .int .u64 h.cnt, .slice A1 m1 c1, .slice A2 m2 c2, .slice A3 m3 c3, .slice A4 m4 c4, .slice A5 m5 c5, .slice A6 m6 c6, .slice A7 m7 c7]) /\ OwnHs w.heap.size w' h ⟨.slice A1 m1 c1, .slice A2 m2 c2, .slice A3 m3 c3, .slice A4 m4 c4, .slice A5 m5 c5, .slice A6 m6 c6, .slice A7 m7 c7⟩ /\ z_F w w'
def UnHEnds (w : World) (l : List Rhs) (r : Ending) (w' : World) : Prop :=
 ∃ v lu, r = .returned v /\ lu.map Prod.fst = l /\ OwnI w.heap.size w' v lu /\ z_F w w'
theorem ziw (P : Nat -> Prop) (h : Hst) (v : Value) (w : World) (hr : RdW P w h v) (hl : h.few 1099511627776) : Calls prog 176 #[v] w (UnX w h.cutW) := by
 refine (zjC P h v w hr hl).mono ?_; rintro r w' ⟨⟨p, n, u, d, fu, fd, c⟩, rfl, ho, hf, hs⟩; obtain ⟨A1, m1, c1, rfl⟩ := hs p (by simp); obtain ⟨A2, m2, c2, rfl⟩ := hs n (by simp); obtain ⟨A3, m3, c3, rfl⟩ := hs u (by simp); obtain ⟨A4, m4, c4, rfl⟩ := hs d (by simp); obtain ⟨A5, m5, c5, rfl⟩ := hs fu (by simp); obtain ⟨A6, m6, c6, rfl⟩ := hs fd (by simp)
 obtain ⟨A7, m7, c7, rfl⟩ := hs c (by simp); exact ⟨A1, m1, c1, A2, m2, c2, A3, m3, c3, A4, m4, c4, A5, m5, c5, A6, m6, c6, A7, m7, c7, rfl, ho, hf⟩
theorem zhP (P : Nat -> Prop) (h : Hst) (v : Value) (w : World) (hr : RdF P w h v) (hl : h.few 1099511627776) : Calls prog 179 #[v] w (UnX w h.cutF) := by
 refine (zix P h v w hr hl).mono ?_; rintro r w' ⟨⟨p, n, u, d, fu, fd, c⟩, rfl, ho, hf, hs⟩; obtain ⟨A1, m1, c1, rfl⟩ := hs p (by simp); obtain ⟨A2, m2, c2, rfl⟩ := hs n (by simp); obtain ⟨A3, m3, c3, rfl⟩ := hs u (by simp); obtain ⟨A4, m4, c4, rfl⟩ := hs d (by simp); obtain ⟨A5, m5, c5, rfl⟩ := hs fu (by simp); obtain ⟨A6, m6, c6, rfl⟩ := hs fd (by simp)
 obtain ⟨A7, m7, c7, rfl⟩ := hs c (by simp); exact ⟨A1, m1, c1, A2, m2, c2, A3, m3, c3, A4, m4, c4, A5, m5, c5, A6, m6, c6, A7, m7, c7, rfl, ho, hf⟩
theorem zbF : (∀ (_ : True) (P : Nat -> Prop) (v : Value) (lv : List (Rhs × Value)) (w : World) (h : RdHW P w v lv) (hl : lv.length <= 1048576) (aP : ∀ p ∈ lv, p.1.h.few 1099511627776),
 Calls prog 85 #[v] w (UnHEnds w (lv.map fun p => ({ p.1 with h := p.1.h.cutW } : Rhs)))) /\ (∀ (_ : True) (P : Nat -> Prop) (v : Value) (lv : List (Rhs × Value)) (w : World) (h : RdHF P w v lv) (hl : lv.length <= 1048576) (aP : ∀ p ∈ lv, p.1.h.few 1099511627776),
 Calls prog 88 #[v] w (UnHEnds w (lv.map fun p => ({ p.1 with h := p.1.h.cutF } : Rhs)))) := by
 refine ⟨fun ag P v lv w h hl aP => ?_, fun bU P v lv w h hl aP => ?_⟩; all_goals
  have mixed : prog.follows .mixedOrders = true := by kernel_rfl
  obtain ⟨⟨A, c, rfl, ai, aQ, hr⟩, hin⟩ := h; obtain ⟨n, hn⟩ := exE lv.length; rw [hn] at hr aQ hl ⊢; have HN := zmh hn; have HR := zmh hr; have HI := zmh hin
  have gz := zmh aP; obtain ⟨i0, aC, az, ay, aB⟩ := info_parts zj7; clear hn hr ai hin aP
  first | (guard_hyp ag; go_enter func85, ntmps85) | (go_enter func88, ntmps88)
  go_wp2
  first | (guard_hyp ag; go_loopw [2, 7] (fun v i wr => ∃ (k : Nat) (lo : List (Rhs × Hsl)), k <= n /\ i = .int .i64 k /\ Hid (lo.map Prod.fst = (lv.take k).map fun p => ({ p.1 with h := p.1.h.cutW } : Rhs)) /\ Hid (lo.length = k) /\ Hid (OwnI w.heap.size wr v lo) /\ Hid (z_F w wr)) (fun _ i _ => n - (intOf i).toNat)) | (go_loopw [2, 7] (fun v i wr => ∃ (k : Nat) (lo : List (Rhs × Hsl)), k <= n /\ i = .int .i64 k /\ Hid (lo.map Prod.fst = (lv.take k).map fun p => ({ p.1 with h := p.1.h.cutF } : Rhs)) /\ Hid (lo.length = k) /\ Hid (OwnI w.heap.size wr v lo) /\ Hid (z_F w wr)) (fun _ i _ => n - (intOf i).toNat))
  case atStart => exact ⟨0, [], zms _, rfl, zmh rfl, zmh rfl, zmh (OwnI.nil _ _), zmh (znl _ _)⟩
  case round =>
   obtain ⟨k, lo, hk, rfl, HM, it, HO, HF⟩ := hrel; by_cases hlt : k < n
   ·obtain ⟨g, off, rfl, _, aa⟩ := HR.out (by omega)
    obtain ⟨x, hx⟩ : ∃ x, lv[k]? = some x := ⟨_, zmj (by rw [HN.out]; exact hlt)⟩; have cc : ∀ j, j < 3 -> ∀ u, (rhc x)[j]? = some u -> wr.cell? ⟨g, off + (k * 3 + j), none⟩ = some u := fun j hj u hu => by
     have := aa (k * 3 + j) u (by rw [ze2 rhc (fun _ => rfl) lv k x hx j hj]; exact hu); rw [HF.out.cell (p := ⟨g, off + (k * 3 + j), none⟩) (zmo w _ this) id]; exact this
    have mK : wr.cell? ⟨g, off + k * 3, none⟩ = some (.int .u64 x.1.ref) := cc 0 (by omega) _ rfl; have mJ : wr.cell? ⟨g, off + k * 3 + 1, none⟩ = some (.int .i64 x.1.t) := cc 1 (by omega) _ rfl; have mI : wr.cell? ⟨g, off + k * 3 + 2, none⟩ = some x.2 := cc 2 (by omega) _ rfl; have aF := zmp hx; have aY := HI.out x aF; have bF := gz.out x aF; obtain ⟨⟨ref, t, h⟩, pv⟩ := x
    simp only [] at mK mJ mI aY bF; have ny := aY; obtain ⟨gx, _, rfl, _⟩ := ny; have bD := HF.out.size; have HX := zmh hx
    first | (guard_hyp ag; have HC := zmh (fun W (hW : z_F w W) => ziw P h _ W (aY.fr hW z_i) bF)) | (have HC := zmh (fun W (hW : z_F w W) => zhP P h _ W (aY.fr hW z_i) bF))
    obtain ⟨a', n', k', rfl⟩ := zab HO.out.1; clear aa cc hx aF aY bF; go_wp2_with fail
    first | (guard_hyp ag; have cO := zmh (znm wr 290 #[.int .u64 ref, .int .i64 t, .pointer (some ⟨gx, 0, none⟩)])) | (have cO := zmh (znm wr 298 #[.int .u64 ref, .int .i64 t, .pointer (some ⟨gx, 0, none⟩)]))
    first | (guard_hyp ag; have F8 := zmh ((HF.out.alloc (.cells #[.int .u64 ref, .int .i64 t, .pointer (some ⟨gx, 0, none⟩)] 290)).drew)) | (have F8 := zmh ((HF.out.alloc (.cells #[.int .u64 ref, .int .i64 t, .pointer (some ⟨gx, 0, none⟩)] 298)).drew))
    have rP := it.out; have jE : lo.length <= 1048576 := by omega
    first | (guard_hyp ag; have s0 : (wr.alloc (.cells #[.int .u64 ref, .int .i64 t, .pointer (some ⟨gx, 0, none⟩)] 290)).drew.cell? ⟨wr.heap.size, 0, none⟩ = some (.int .u64 ref) := cO.out.cell 0) | (have s0 : (wr.alloc (.cells #[.int .u64 ref, .int .i64 t, .pointer (some ⟨gx, 0, none⟩)] 298)).drew.cell? ⟨wr.heap.size, 0, none⟩ = some (.int .u64 ref) := cO.out.cell 0)
    first | (guard_hyp ag; have s1 : (wr.alloc (.cells #[.int .u64 ref, .int .i64 t, .pointer (some ⟨gx, 0, none⟩)] 290)).drew.cell? ⟨wr.heap.size, 1, none⟩ = some (.int .i64 t) := cO.out.cell 1) | (have s1 : (wr.alloc (.cells #[.int .u64 ref, .int .i64 t, .pointer (some ⟨gx, 0, none⟩)] 298)).drew.cell? ⟨wr.heap.size, 1, none⟩ = some (.int .i64 t) := cO.out.cell 1)
    first | (guard_hyp ag; have s2 : (wr.alloc (.cells #[.int .u64 ref, .int .i64 t, .pointer (some ⟨gx, 0, none⟩)] 290)).drew.cell? ⟨wr.heap.size, 2, none⟩ = some (.pointer (some ⟨gx, 0, none⟩)) := cO.out.cell 2) | (have s2 : (wr.alloc (.cells #[.int .u64 ref, .int .i64 t, .pointer (some ⟨gx, 0, none⟩)] 298)).drew.cell? ⟨wr.heap.size, 2, none⟩ = some (.pointer (some ⟨gx, 0, none⟩)) := cO.out.cell 2)
    go_region_held3 (fun w' => w'.cell? ⟨wr.heap.size, 0, none⟩ = some (.int .u64 ref) /\ w'.cell? ⟨wr.heap.size, 1, none⟩ = some (.int .i64 t) /\ w'.cell? ⟨wr.heap.size, 2, none⟩ = some (.pointer (some ⟨gx, 0, none⟩)))
     ((first | exact ⟨ef.out.cell 0, ef.out.cell 1, ef.out.cell 2⟩ | exact ⟨(cC.out.alloc _).cell 0, (cC.out.alloc _).cell 1, (cC.out.alloc _).cell 2⟩ | exact ⟨cC.out.cell 0, cC.out.cell 1, cC.out.cell 2⟩ | go_keep))
     ((first
       | (go_at_call 176; refine (HC.out _ F8.out).mono ?_; rintro r5 w5 ⟨A1, m1, c1, A2, m2, c2, A3, m3, c3, A4, m4, c4, A5, m5, c5, A6, m6, c6, A7, m7, c7, rfl, es, ap⟩; simp only [Hst.cutW]; have cC := zmh (cO.out.drew.fr ap id); have F5 := zmh (F8.out.same ap); have G5 := zmh ((((znl (fun _ => False) wr).alloc (.cells #[.int .u64 ref, .int .i64 t, .pointer (some ⟨gx, 0, none⟩)] 290)).drew).same ap); have O5 := zmh (HO.out.fr G5.out (fun _ _ _ e => e)); have j3 := zmh (es.mono F8.out.size); have lZ := F5.out.size)
       | (go_at_call 179; refine (HC.out _ F8.out).mono ?_; rintro r5 w5 ⟨A1, m1, c1, A2, m2, c2, A3, m3, c3, A4, m4, c4, A5, m5, c5, A6, m6, c6, A7, m7, c7, rfl, es, ap⟩; simp only [Hst.cutF]; have cC := zmh (cO.out.drew.fr ap id); have F5 := zmh (F8.out.same ap); have G5 := zmh ((((znl (fun _ => False) wr).alloc (.cells #[.int .u64 ref, .int .i64 t, .pointer (some ⟨gx, 0, none⟩)] 298)).drew).same ap); have O5 := zmh (HO.out.fr G5.out (fun _ _ _ e => e)); have j3 := zmh (es.mono F8.out.size); have lZ := F5.out.size)
       | (refine zat _ (by rfl) _ _ 52 52 (by rfl) w.heap.size 194 i0 _ 15 224 underlying52 aC az ay aB rfl (by decide) (.slice a' n' k') lo.length (lo.flatMap hsc) (by rfl) (O5.out.1.alloc _) _ 1 [.int .u64 ref, .int .i64 t, .int .u8 h.hint.toNat, .int .i32 h.schema, .int .u64 h.thr, .int .u64 h.sum, .int .u64 h.zc, .int .u64 h.cnt, .slice A1 m1 c1, .slice A2 m2 c2, .slice A3 m3 c3, .slice A4 m4 c4, .slice A5 m5 c5, .slice A6 m6 c6, .slice A7 m7 c7] (by rfl) (zaF underlying52 (znm w5 194 #[.int .u64 ref, .int .i64 t, .int .u8 h.hint.toNat, .int .i32 h.schema, .int .u64 h.thr, .int .u64 h.sum, .int .u64 h.zc, .int .u64 h.cnt, .slice A1 m1 c1, .slice A2 m2 c2, .slice A3 m3 c3, .slice A4 m4 c4, .slice A5 m5 c5, .slice A6 m6 c6, .slice A7 m7 c7]) rfl (by simp [Value.oneCell'])) (by unfold maxLen; omega) (by omega) (by simp; omega) ?_; intro v' w2 ac ad av; have ef := zmh ((cC.out.alloc (.cells #[.int .u64 ref, .int .i64 t, .int .u8 h.hint.toNat, .int .i32 h.schema, .int .u64 h.thr, .int .u64 h.sum, .int .u64 h.zc, .int .u64 h.cnt, .slice A1 m1 c1, .slice A2 m2 c2, .slice A3 m3 c3, .slice A4 m4 c4, .slice A5 m5 c5, .slice A6 m6 c6, .slice A7 m7 c7] 194)).grown ad (fun e => zm1 _ (zaq HO.out.1 e.symm))))))
    first
     | guard_hyp ag
       have aU : OwnI w.heap.size w2 v' (lo ++ [(⟨ref, t, h.cutW⟩, ⟨.slice A1 m1 c1, .slice A2 m2 c2, .slice A3 m3 c3, .slice A4 m4 c4, .slice A5 m5 c5, .slice A6 m6 c6, .slice A7 m7 c7⟩)]) :=
        OwnI.push (p := (⟨ref, t, h.cutW⟩, ⟨.slice A1 m1 c1, .slice A2 m2 c2, .slice A3 m3 c3, .slice A4 m4 c4, .slice A5 m5 c5, .slice A6 m6 c6, .slice A7 m7 c7⟩)) (O5.out.fr ((znl (fun _ => False) w5).alloc (.cells #[.int .u64 ref, .int .i64 t, .int .u8 h.hint.toNat, .int .i32 h.schema, .int .u64 h.thr, .int .u64 h.sum, .int .u64 h.zc, .int .u64 h.cnt, .slice A1 m1 c1, .slice A2 m2 c2, .slice A3 m3 c3, .slice A4 m4 c4, .slice A5 m5 c5, .slice A6 m6 c6, .slice A7 m7 c7] 194)) (fun _ _ _ e => e)) (j3.out.fr ((znl (fun _ => False) w5).alloc (.cells #[.int .u64 ref, .int .i64 t, .int .u8 h.hint.toNat, .int .i32 h.schema, .int .u64 h.thr, .int .u64 h.sum, .int .u64 h.zc, .int .u64 h.cnt, .slice A1 m1 c1, .slice A2 m2 c2, .slice A3 m3 c3, .slice A4 m4 c4, .slice A5 m5 c5, .slice A6 m6 c6, .slice A7 m7 c7] 194)) (fun _ _ _ e => e)) ad ac
     | have aU : OwnI w.heap.size w2 v' (lo ++ [(⟨ref, t, h.cutF⟩, ⟨.slice A1 m1 c1, .slice A2 m2 c2, .slice A3 m3 c3, .slice A4 m4 c4, .slice A5 m5 c5, .slice A6 m6 c6, .slice A7 m7 c7⟩)]) :=
        OwnI.push (p := (⟨ref, t, h.cutF⟩, ⟨.slice A1 m1 c1, .slice A2 m2 c2, .slice A3 m3 c3, .slice A4 m4 c4, .slice A5 m5 c5, .slice A6 m6 c6, .slice A7 m7 c7⟩)) (O5.out.fr ((znl (fun _ => False) w5).alloc (.cells #[.int .u64 ref, .int .i64 t, .int .u8 h.hint.toNat, .int .i32 h.schema, .int .u64 h.thr, .int .u64 h.sum, .int .u64 h.zc, .int .u64 h.cnt, .slice A1 m1 c1, .slice A2 m2 c2, .slice A3 m3 c3, .slice A4 m4 c4, .slice A5 m5 c5, .slice A6 m6 c6, .slice A7 m7 c7] 194)) (fun _ _ _ e => e)) (j3.out.fr ((znl (fun _ => False) w5).alloc (.cells #[.int .u64 ref, .int .i64 t, .int .u8 h.hint.toNat, .int .i32 h.schema, .int .u64 h.thr, .int .u64 h.sum, .int .u64 h.zc, .int .u64 h.cnt, .slice A1 m1 c1, .slice A2 m2 c2, .slice A3 m3 c3, .slice A4 m4 c4, .slice A5 m5 c5, .slice A6 m6 c6, .slice A7 m7 c7] 194)) (fun _ _ _ e => e)) ad ac
    have bN : z_F w w2 := (F5.out.alloc _).grown ad (fun g hg => .inr ((HO.out.1.lt g hg).1))
    first
     | guard_hyp ag
       have c9 : (lo ++ [((⟨ref, t, h.cutW⟩ : Rhs), (⟨.slice A1 m1 c1, .slice A2 m2 c2, .slice A3 m3 c3, .slice A4 m4 c4, .slice A5 m5 c5, .slice A6 m6 c6, .slice A7 m7 c7⟩ : Hsl))]).map Prod.fst = (lv.take (k + 1)).map fun p => ({ p.1 with h := p.1.h.cutW } : Rhs) := by
        rw [zmS, HX.out, zmH, zmH, HM.out]; rfl
     | have c9 : (lo ++ [((⟨ref, t, h.cutF⟩ : Rhs), (⟨.slice A1 m1 c1, .slice A2 m2 c2, .slice A3 m3 c3, .slice A4 m4 c4, .slice A5 m5 c5, .slice A6 m6 c6, .slice A7 m7 c7⟩ : Hsl))]).map Prod.fst = (lv.take (k + 1)).map fun p => ({ p.1 with h := p.1.h.cutF } : Rhs) := by
        rw [zmS, HX.out, zmH, zmH, HM.out]; rfl
    first | (guard_hyp ag; have cG : (lo ++ [((⟨ref, t, h.cutW⟩ : Rhs), (⟨.slice A1 m1 c1, .slice A2 m2 c2, .slice A3 m3 c3, .slice A4 m4 c4, .slice A5 m5 c5, .slice A6 m6 c6, .slice A7 m7 c7⟩ : Hsl))]).length = k + 1 := by rw [zmi, it.out]; rfl) | (have cG : (lo ++ [((⟨ref, t, h.cutF⟩ : Rhs), (⟨.slice A1 m1 c1, .slice A2 m2 c2, .slice A3 m3 c3, .slice A4 m4 c4, .slice A5 m5 c5, .slice A6 m6 c6, .slice A7 m7 c7⟩ : Hsl))]).length = k + 1 := by rw [zmi, it.out]; rfl)
    have NO := zmh aU; have NF := zmh bN; have NM := zmh c9; have NN := zmh cG; clear aU bN c9 cG ac ad av mK mJ mI s0 s1 s2 ap ef O5 j3 es HC; go_wp2; go_roundw
    case rel => exact ⟨k + 1, _, by omega, by go_num, NM, NN, NO, NF⟩
    case measure => simp [intOf]; omega
   ·go_wp2
    go_ret; obtain rfl : k = n := by omega
    refine ⟨_, lo, rfl, ?_, HO.out, HF.out⟩; rw [HM.out, <- HN.out, zmI]
theorem zdW : type_of% (zbF.1 trivial) := zbF.1 trivial
theorem zfr : type_of% (zbF.2 trivial) := zbF.2 trivial
theorem zhz {h : Hst} (k : h.few 60) : h.few 1099511627776 := by
 obtain ⟨a, b, c, d, e, f, g⟩ := k; exact ⟨by omega, by omega, by omega, by omega, by omega, by omega, by omega⟩
def leftW (l : List Rhs) : List Rhs := (l.filter zaV).map fun s => { s with h := s.h.cutW }
def leftF (l : List Rhs) : List Rhs := (l.filter zaV).map fun s => { s with h := s.h.cutF }
def LeftIs (base : Nat) (l : List Rhs) (u : Value) (W : World) : Prop := ∃ lu, lu.map Prod.fst = l /\ OwnI base W u lu
theorem LeftIs.shape {base : Nat} {l : List Rhs} {u : Value} {W : World} (h : LeftIs base l u W) : ∃ A m c, u = .slice A m c := let ⟨_, _, h⟩ := h; zab h.1
theorem LeftIs.vars {base : Nat} {l : List Rhs} {u : Value} {W W' : World} (h : LeftIs base l u W) (hv : Vars W W') : LeftIs base l u W' := by
 obtain ⟨lu, h1, h2, h3⟩ := h
 have go : ∀ {e : TypeId} {z n : Nat} {u : Value} {xs : List Value}, e ≠ 4 -> e ≠ 44 -> e ≠ 52 -> W.ownsRow base e z u n xs -> W'.ownsRow base e z u n xs := fun e1 e2 e3 o => zai o hv (fun g hg k => by
  obtain ⟨cs, k | k | k⟩ := k
  ·exact zak o k e1 hg
  ·exact zak o k e2 hg
  ·exact zak o k e3 hg)
 refine ⟨lu, h1, go (by decide) (by decide) (by decide) h2, fun p hp => ?_⟩; obtain ⟨a1, a2, a3, a4, a5, a6, a7⟩ := h3 p hp
 exact ⟨go (by decide) (by decide) (by decide) a1, go (by decide) (by decide) (by decide) a2, go (by decide) (by decide) (by decide) a3, go (by decide) (by decide) (by decide) a4, go (by decide) (by decide) (by decide) a5, go (by decide) (by decide) (by decide) a6, go (by decide) (by decide) (by decide) a7⟩
theorem zcB : (∀ (_ : True) (bk bp bb br : Nat) (ep lp : Value) (P : Nat -> Prop) (s0 s1 s2 s3 s4 s5 s6 v z : Value) (xs : List UInt8) (lv : List (Rhs × Hsl)) (w : World) (hk : Blk w bk 3 #[.int .i64 9]) (hp : Blk w bp 54 #[s0, s1, s2, s3, s4, s5, s6]) (hb : Blk w bb 44 #[v]) (hr : Blk w br 44 #[z])
 (ab : w.ownsRow 0 5 1 v xs.length (bc xs)) (hs : SlH P w s6 lv) (hl : xs.length <= 536870912) (au : lv.length <= 12) (aD : ∀ s ∈ (lv.map Prod.fst), s.ok) (bM : bb ≠ br),
 Calls prog 90 #[.pointer (some ⟨bk, 0, none⟩), ep, .pointer (some ⟨bp, 0, none⟩), .pointer (some ⟨bb, 0, none⟩), .pointer (some ⟨br, 0, none⟩), lp] w (zcs w br v.ownBlock (xs ++ za3 9 (fun _ => true) (lv.map Prod.fst)))) /\ (∀ (_ : True) (bk bp bb br : Nat) (ep lp : Value) (P : Nat -> Prop) (s0 s1 s2 s3 s4 s5 s6 v z : Value) (xs : List UInt8) (lv : List (Rhs × Hsl)) (w : World) (hk : Blk w bk 3 #[.int .i64 10]) (hp : Blk w bp 54 #[s0, s1, s2, s3, s4, s5, s6]) (hb : Blk w bb 44 #[v]) (hr : Blk w br 44 #[z])
 (ab : w.ownsRow 0 5 1 v xs.length (bc xs)) (hs : SlH P w s6 lv) (hl : xs.length <= 536870912) (au : lv.length <= 12) (aD : ∀ s ∈ (lv.map Prod.fst), s.ok) (bM : bb ≠ br),
 Calls prog 90 #[.pointer (some ⟨bk, 0, none⟩), ep, .pointer (some ⟨bp, 0, none⟩), .pointer (some ⟨bb, 0, none⟩), .pointer (some ⟨br, 0, none⟩), lp] w (zcs w br v.ownBlock (xs ++ za4 10 (fun _ => true) (lv.map Prod.fst)))) := by
 refine ⟨fun ag bk bp bb br ep lp P s0 s1 s2 s3 s4 s5 s6 v z xs lv w hk hp hb hr ab hs hl au aD bM => ?_, fun bU bk bp bb br ep lp P s0 s1 s2 s3 s4 s5 s6 v z xs lv w hk hp hb hr ab hs hl au aD bM => ?_⟩; all_goals
  have iC : bp ≠ br := znn hp hr (by decide); have k0 := hk.cell 0; have p1 := hp.cell 6; have b0 := hb.cell 0; simp at k0 p1 b0; obtain ⟨a', n', k', rfl⟩ := zab ab; have bh : ∃ A m c, s6 = .slice A m c := let ⟨A, c, h, _⟩ := hs.1; ⟨A, _, c, h⟩
  obtain ⟨A, m, c, rfl⟩ := bh
  first | (guard_hyp ag; have hQ := zcv P (.slice A m c) lv w.drew hs (by omega) (fun p hp => zhz (aD p.1 (zmN.2 ⟨p, hp, rfl⟩)).2.2.2.few)) | (have hQ := zdG P (.slice A m c) lv w.drew hs (by omega) (fun p hp => zhz (aD p.1 (zmN.2 ⟨p, hp, rfl⟩)).2.2.2.few))
  have HB := zmh hb; have HP := zmh hp; have HR := zmh hr; have HO := zmh ab; have gA : w.drew.cell? ⟨bp, 6, none⟩ = some (.slice A m c) := p1; have ib : w.drew.cell? ⟨bb, 0, none⟩ = some (.slice a' n' k') := b0; obtain ⟨LS, nM⟩ := exE (lv.map Prod.fst); have cX : LS.length <= 12 := by rw [<- nM, zmF]; exact au
  rw [nM] at hQ aD ⊢; clear hk hp hb hr ab hs nM au; go_enter func90, ntmps90; go_wp2_with fail
  have HW := zmh aD; clear aD; go_region_held3 (fun w' => w'.cell? ⟨bp, 6, none⟩ = some (.slice A m c) /\ w'.cell? ⟨bb, 0, none⟩ = some (.slice a' n' k'))
   ((first | (go_split_ands; refine ⟨?_, ?_⟩ <;> first | exact ((HP.out.drew).fr ah id).cell 6 | exact ((HB.out.drew).fr ah id).cell 0) | (go_split_ands; refine ⟨?_, ?_⟩ <;> first | exact KP.out.cell 6 | exact KB.out.cell 0) | (go_split_ands; refine ⟨?_, ?_⟩ <;> first | exact (KP.out.far (p := ⟨br, 0, none⟩) iC _).cell 6 | exact (KB.out.far (p := ⟨br, 0, none⟩) bM _).cell 0) | go_keep))
   ((first
     | (go_at_call 84; refine hQ.mono ?_; rintro r1 w1 ⟨v1, lo, rfl, hlo, am, ah⟩)
     | (go_at_call 87; refine hQ.mono ?_; rintro r1 w1 ⟨v1, lo, rfl, hlo, am, ah⟩)
     | (go_at_call 99; refine (zkm ep v1 (fun g => w.drew.heap.size <= g /\ g < w1.heap.size) (.slice a' n' k') xs lo w1 am.rd (zai (World.ownsRow.drew HO.out) ah z_i) hl (by rw [<- hlo, zmF] at cX; exact cX) (fun p hp => HW.out p.1 (by rw [<- hlo]; exact zmN.2 ⟨p, hp, rfl⟩)) (fun g hg => ⟨hg.2, fun e => by have h1 : w.heap.size <= g := hg.1; have h2 := zaq HO.out e.symm; omega⟩)).mono ?_; rintro r2 w2 ⟨v2, rfl, af, aq, bA⟩; rw [hlo] at af; obtain ⟨KP, KB, KR⟩ := za7 HP.out HB.out HR.out HO.out ah aq; have q0 := KR.out.cell 0; simp at q0; have q1 := KR.out.frozen 0; obtain ⟨a2, n2, k2, rfl⟩ := zab af)
     | (go_at_call 100; refine (zkn ep v1 (fun g => w.drew.heap.size <= g /\ g < w1.heap.size) (.slice a' n' k') xs lo w1 am.rd (zai (World.ownsRow.drew HO.out) ah z_i) hl (by rw [<- hlo, zmF] at cX; exact cX) (fun p hp => HW.out p.1 (by rw [<- hlo]; exact zmN.2 ⟨p, hp, rfl⟩)) (fun g hg => ⟨hg.2, fun e => by have h1 : w.heap.size <= g := hg.1; have h2 := zaq HO.out e.symm; omega⟩)).mono ?_; rintro r2 w2 ⟨v2, rfl, af, aq, bA⟩; rw [hlo] at af; obtain ⟨KP, KB, KR⟩ := za7 HP.out HB.out HR.out HO.out ah aq; have q0 := KR.out.cell 0; simp at q0; have q1 := KR.out.frozen 0; obtain ⟨a2, n2, k2, rfl⟩ := zab af)))
  have HE : Fr (fun k => some k = (Value.slice a' n' k').ownBlock ∨ k = br) w (w2.setCell ⟨br, 0, none⟩ (.slice a2 n2 k2)) :=
   ((((znl (fun k => some k = (Value.slice a' n' k').ownBlock ∨ k = br) w).drew).trans ah (fun _ _ e => e.elim)).trans aq (fun _ _ e => .inl e)).setCell (p := ⟨br, 0, none⟩) (.inl (.inr rfl)) _
  have HV : Blk (w2.setCell ⟨br, 0, none⟩ (.slice a2 n2 k2)) br 44 #[.slice a2 n2 k2] := by simpa using KR.out.set_ 0 (.slice a2 n2 k2)
  have HF := zmh HE; have iX := zmh HV
  first | (guard_hyp ag; have eU : (w2.setCell ⟨br, 0, none⟩ (.slice a2 n2 k2)).ownsRow 0 5 1 (.slice a2 n2 k2) (xs ++ za3 9 (fun _ => true) LS).length (bc (xs ++ za3 9 (fun _ => true) LS)) := zai af (Fr.put_ w2 br 0 _) (fun g hg e => zak af KR.out (by decide) (by rw [hg, e]))) | (have eU : (w2.setCell ⟨br, 0, none⟩ (.slice a2 n2 k2)).ownsRow 0 5 1 (.slice a2 n2 k2) (xs ++ za4 10 (fun _ => true) LS).length (bc (xs ++ za4 10 (fun _ => true) LS)) := zai af (Fr.put_ w2 br 0 _) (fun g hg e => zak af KR.out (by decide) (by rw [hg, e])))
  have dO := zmh eU; have bD := ah.size; have gl := zmh bA; clear HE HV eU am ah af aq bA q0 q1 hQ p1 gA b0 ib; go_wp2; go_end0; refine ⟨rfl, _, iX.out, dO.out, HF.out, ?_⟩; rcases gl.out with h | ⟨k, h, hk⟩
  ·exact .inl h
  ·exact .inr ⟨k, h, by simp at bD; omega⟩
theorem zjy : type_of% (zcB.1 trivial) := zcB.1 trivial
theorem zjz : type_of% (zcB.2 trivial) := zcB.2 trivial
theorem zfF (s0 s1 s2 s3 s4 s5 s6 bv : Value) (xs : List UInt8) (lv : List (Rhs × Hsl)) (P : Nat -> Prop) (w : World) (hb : Sl P w bv 1 xs.length (bc xs)) (bm : xs.length <= 536870912)
 (au : ∀ s ∈ [s0, s1, s2, s3, s4, s5, s6], ∃ A m c, s = .slice A m c) (hs : SlH P w s6 lv) (dh : lv.length <= 12) (aD : ∀ s ∈ (lv.map Prod.fst), s.ok) :
 Calls prog 31 #[.int .i64 9, .agg #[s0, s1, s2, s3, s4, s5, s6], bv] w (za5 (fun lv _ => lv = .slice none 0 0) w (xs ++ za3 9 (fun _ => true) (lv.map Prod.fst))) := by
 refine zaP 9 s0 s1 s2 s3 s4 s5 s6 bv xs _ P _ w hb (by omega) au (by rintro lv W rfl; exact ⟨_, _, _, rfl⟩) (fun _ _ _ h _ => h) ?_; intro bk be bp bb br bl v W hk hp bJ hr hl ab bM hF
 exact (zjy bk bp bb br _ _ P s0 s1 s2 s3 s4 s5 s6 v _ xs lv W hk hp bJ hr (zah ab (zms _)) (hs.fr hF z_i) bm dh aD bM).mono fun r w' h => zdd (zah ab (zms _)) hr hl h
theorem zfG (s0 s1 s2 s3 s4 s5 s6 bv : Value) (xs : List UInt8) (lv : List (Rhs × Hsl)) (P : Nat -> Prop) (w : World) (hb : Sl P w bv 1 xs.length (bc xs)) (bm : xs.length <= 536870912)
 (au : ∀ s ∈ [s0, s1, s2, s3, s4, s5, s6], ∃ A m c, s = .slice A m c) (hs : SlH P w s6 lv) (dh : lv.length <= 12) (aD : ∀ s ∈ (lv.map Prod.fst), s.ok) :
 Calls prog 31 #[.int .i64 10, .agg #[s0, s1, s2, s3, s4, s5, s6], bv] w (za5 (fun lv _ => lv = .slice none 0 0) w (xs ++ za4 10 (fun _ => true) (lv.map Prod.fst))) := by
 refine zaP 10 s0 s1 s2 s3 s4 s5 s6 bv xs _ P _ w hb (by omega) au (by rintro lv W rfl; exact ⟨_, _, _, rfl⟩) (fun _ _ _ h _ => h) ?_; intro bk be bp bb br bl v W hk hp bJ hr hl ab bM hF
 exact (zjz bk bp bb br _ _ P s0 s1 s2 s3 s4 s5 s6 v _ xs lv W hk hp bJ hr (zah ab (zms _)) (hs.fr hF z_i) bm dh aD bM).mono fun r w' h => zdd (zah ab (zms _)) hr hl h
theorem zcR : (∀ (_ : True) (bk bp bb br bl base : Nat) (ep : Value) (P : Nat -> Prop) (s0 s1 s2 s3 s4 s5 s6 v z zl : Value) (xs : List UInt8) (lv : List (Rhs × Hsl)) (w : World) (hk : Blk w bk 3 #[.int .i64 7]) (hp : Blk w bp 54 #[s0, s1, s2, s3, s4, s5, s6]) (hb : Blk w bb 44 #[v]) (hr : Blk w br 44 #[z]) (mz : Blk w bl 52 #[zl])
 (ab : w.ownsRow 0 5 1 v xs.length (bc xs)) (hs : SlH P w s6 lv) (hl : xs.length <= 536870912) (au : lv.length <= 12) (aD : ∀ s ∈ (lv.map Prod.fst), s.ok) (bM : bb ≠ br) (bS : base <= w.heap.size) (aA : (lv.map Prod.fst) = [] ∨ ∃ s ∈ (lv.map Prod.fst), zaV s = false),
 Calls prog 90 #[.pointer (some ⟨bk, 0, none⟩), ep, .pointer (some ⟨bp, 0, none⟩), .pointer (some ⟨bb, 0, none⟩), .pointer (some ⟨br, 0, none⟩), .pointer (some ⟨bl, 0, none⟩)] w (zk4 (LeftIs base (leftW (lv.map Prod.fst))) w br bl v.ownBlock (xs ++ za3 7 (fun s => !zaV s) (lv.map Prod.fst)))) /\ (∀ (_ : True) (bk bp bb br bl base : Nat) (ep : Value) (P : Nat -> Prop) (s0 s1 s2 s3 s4 s5 s6 v z zl : Value) (xs : List UInt8) (lv : List (Rhs × Hsl)) (w : World) (hk : Blk w bk 3 #[.int .i64 8]) (hp : Blk w bp 54 #[s0, s1, s2, s3, s4, s5, s6]) (hb : Blk w bb 44 #[v]) (hr : Blk w br 44 #[z]) (mz : Blk w bl 52 #[zl])
 (ab : w.ownsRow 0 5 1 v xs.length (bc xs)) (hs : SlH P w s6 lv) (hl : xs.length <= 536870912) (au : lv.length <= 12) (aD : ∀ s ∈ (lv.map Prod.fst), s.ok) (bM : bb ≠ br) (bS : base <= w.heap.size) (aA : (lv.map Prod.fst) = [] ∨ ∃ s ∈ (lv.map Prod.fst), zaV s = false),
 Calls prog 90 #[.pointer (some ⟨bk, 0, none⟩), ep, .pointer (some ⟨bp, 0, none⟩), .pointer (some ⟨bb, 0, none⟩), .pointer (some ⟨br, 0, none⟩), .pointer (some ⟨bl, 0, none⟩)] w (zk4 (LeftIs base (leftF (lv.map Prod.fst))) w br bl v.ownBlock (xs ++ za4 8 (fun s => !zaV s) (lv.map Prod.fst)))) := by
 refine ⟨fun ag bk bp bb br bl base ep P s0 s1 s2 s3 s4 s5 s6 v z zl xs lv w hk hp hb hr mz ab hs hl au aD bM bS aA => ?_, fun bU bk bp bb br bl base ep P s0 s1 s2 s3 s4 s5 s6 v z zl xs lv w hk hp hb hr mz ab hs hl au aD bM bS aA => ?_⟩; all_goals
  have k0 := hk.cell 0; have p1 := hp.cell 6; have b0 := hb.cell 0; simp at k0 p1 b0; have qn : br ≠ bl := znn hr mz (by decide); obtain ⟨a', n', k', rfl⟩ := zab ab; have bh : ∃ A m c, s6 = .slice A m c := let ⟨A, c, h, _⟩ := hs.1; ⟨A, _, c, h⟩
  obtain ⟨A, m, c, rfl⟩ := bh
  first | (guard_hyp ag; have hQ := zcv P (.slice A m c) lv w.drew hs (by omega) (fun p hp => zhz (aD p.1 (zmN.2 ⟨p, hp, rfl⟩)).2.2.2.few)) | (have hQ := zdG P (.slice A m c) lv w.drew hs (by omega) (fun p hp => zhz (aD p.1 (zmN.2 ⟨p, hp, rfl⟩)).2.2.2.few))
  have HB := zmh hb; have HP := zmh hp; have HR := zmh hr; have mT := zmh mz; have HO := zmh ab; have gA : w.drew.cell? ⟨bp, 6, none⟩ = some (.slice A m c) := p1; have ib : w.drew.cell? ⟨bb, 0, none⟩ = some (.slice a' n' k') := b0; obtain ⟨LS, nM⟩ := exE (lv.map Prod.fst); have cX : LS.length <= 12 := by rw [<- nM, zmF]; exact au
  rw [nM] at hQ aD aA ⊢; have HW := zmh aD; have iY := zmh aA; clear hk hp hb hr ab hs nM au mz aD aA; go_enter func90, ntmps90; go_wp2_with fail
  first
   | guard_hyp ag
     go_region_held3 (fun w' => w'.cell? ⟨bp, 6, none⟩ = some (.slice A m c) /\ w'.cell? ⟨bb, 0, none⟩ = some (.slice a' n' k'))
      ((first | (go_split_ands; refine ⟨?_, ?_⟩ <;> first | exact ((HP.out.drew).fr ah id).cell 6 | exact ((HB.out.drew).fr ah id).cell 0) | (go_split_ands; refine ⟨?_, ?_⟩ <;> first | exact KP.out.cell 6 | exact KB.out.cell 0) | go_keep))
      ((first
        | (go_at_call 84; refine hQ.mono ?_; rintro r1 w1 ⟨v1, lo, rfl, hlo, am, ah⟩)
        | (go_at_call 97; refine (zlT ep v1 (fun g => w.drew.heap.size <= g /\ g < w1.heap.size) (.slice a' n' k') xs lo w1 am.rd (zai (World.ownsRow.drew HO.out) ah z_i) hl (by rw [<- hlo, zmF] at cX; exact cX) (fun p hp => HW.out p.1 (by rw [<- hlo]; exact zmN.2 ⟨p, hp, rfl⟩)) (fun g hg => ⟨hg.2, fun e => by have h1 : w.heap.size <= g := hg.1; have h2 := zaq HO.out e.symm; omega⟩) (by
            have h := iY.out; rw [<- hlo] at h; rcases h with h | ⟨s, hs, hq⟩
            ·exact .inl (List.map_eq_nil_iff.1 h)
            ·obtain ⟨p, hp, rfl⟩ := zmN.1 hs
             exact .inr ⟨p, hp, hq⟩)).mono ?_; rintro r2 w2 ⟨v2, cv, rfl, af, gr, aq, bA⟩; obtain ⟨KP, KB, KR⟩ := za7 HP.out HB.out HR.out HO.out ah aq; have KL := zmh ((mT.out.drew.fr ah id).fr aq (fun e => zak HO.out mT.out (by decide) e.symm)); obtain ⟨a2, n2, k2, rfl⟩ := zab af; obtain ⟨a3, k3, rfl⟩ := zaa gr)))
   | go_region_held3 (fun w' => w'.cell? ⟨bp, 6, none⟩ = some (.slice A m c) /\ w'.cell? ⟨bb, 0, none⟩ = some (.slice a' n' k'))
      ((first | (go_split_ands; refine ⟨?_, ?_⟩ <;> first | exact ((HP.out.drew).fr ah id).cell 6 | exact ((HB.out.drew).fr ah id).cell 0) | (go_split_ands; refine ⟨?_, ?_⟩ <;> first | exact KP.out.cell 6 | exact KB.out.cell 0) | go_keep))
      ((first
        | (go_at_call 87; refine hQ.mono ?_; rintro r1 w1 ⟨v1, lo, rfl, hlo, am, ah⟩)
        | (go_at_call 98; refine (zlU ep v1 (fun g => w.drew.heap.size <= g /\ g < w1.heap.size) (.slice a' n' k') xs lo w1 am.rd (zai (World.ownsRow.drew HO.out) ah z_i) hl (by rw [<- hlo, zmF] at cX; exact cX) (fun p hp => HW.out p.1 (by rw [<- hlo]; exact zmN.2 ⟨p, hp, rfl⟩)) (fun g hg => ⟨hg.2, fun e => by have h1 : w.heap.size <= g := hg.1; have h2 := zaq HO.out e.symm; omega⟩) (by
            have h := iY.out; rw [<- hlo] at h; rcases h with h | ⟨s, hs, hq⟩
            ·exact .inl (List.map_eq_nil_iff.1 h)
            ·obtain ⟨p, hp, rfl⟩ := zmN.1 hs
             exact .inr ⟨p, hp, hq⟩)).mono ?_; rintro r2 w2 ⟨v2, cv, rfl, af, gr, aq, bA⟩; obtain ⟨KP, KB, KR⟩ := za7 HP.out HB.out HR.out HO.out ah aq; have KL := zmh ((mT.out.drew.fr ah id).fr aq (fun e => zak HO.out mT.out (by decide) e.symm)); obtain ⟨a2, n2, k2, rfl⟩ := zab af; obtain ⟨a3, k3, rfl⟩ := zaa gr)))
  have dL : (lo.filter fun p => zaV p.1).map Prod.fst = LS.filter zaV := by rw [<- hlo, List.filter_map]; rfl
  first
   | guard_hyp ag
     have fO : RdHW (fun g => w.drew.heap.size <= g /\ g < w2.heap.size) w2 (.slice a3 (lo.filter fun p => zaV p.1).length k3) (lo.filter fun p => zaV p.1) := by
      refine ⟨(zno gr).mono (fun g hg => ⟨zm0 ah.size (gr.lt g hg).1, zaq gr hg⟩), fun p hp => ?_⟩; have h1 := (am.rd.2 p (zmW.1 hp).1).fr aq (fun g hg e => by have h1 : w.heap.size <= g := hg.1; have h2 := zaq HO.out e.symm; omega); exact h1.mono (fun g hg => ⟨hg.1, zmG hg.2 aq.size⟩)
   | have fO : RdHF (fun g => w.drew.heap.size <= g /\ g < w2.heap.size) w2 (.slice a3 (lo.filter fun p => zaV p.1).length k3) (lo.filter fun p => zaV p.1) := by
      refine ⟨(zno gr).mono (fun g hg => ⟨zm0 ah.size (gr.lt g hg).1, zaq gr hg⟩), fun p hp => ?_⟩; have h1 := (am.rd.2 p (zmW.1 hp).1).fr aq (fun g hg e => by have h1 : w.heap.size <= g := hg.1; have h2 := zaq HO.out e.symm; omega); exact h1.mono (fun g hg => ⟨hg.1, zmG hg.2 aq.size⟩)
  have ko : (lo.filter fun p => zaV p.1).length <= 1048576 := by
   have h1 := znf (fun p : Rhs × Value => zaV p.1) lo; have h2 : lo.length = LS.length := by rw [<- hlo, zmF]
   omega
  first | (guard_hyp ag; have hU := zdW _ _ _ w2 fO ko (fun p hp => zhz (HW.out p.1 (by rw [<- hlo]; exact zmN.2 ⟨p, (zmW.1 hp).1, rfl⟩)).2.2.2.few)) | (have hU := zfr _ _ _ w2 fO ko (fun p hp => zhz (HW.out p.1 (by rw [<- hlo]; exact zmN.2 ⟨p, (zmW.1 hp).1, rfl⟩)).2.2.2.few))
  first
   | guard_hyp ag
     have bQ : ((lo.filter fun p => zaV p.1).map fun p => ({ p.1 with h := p.1.h.cutW } : Rhs)) = leftW LS := by
      rw [leftW, <- dL, znj]; rfl
   | have bQ : ((lo.filter fun p => zaV p.1).map fun p => ({ p.1 with h := p.1.h.cutF } : Rhs)) = leftF LS := by
      rw [leftF, <- dL, znj]; rfl
  rw [bQ] at hU; rw [hlo] at af; have HU := zmh hU; have H1 := zmh ah; have H2 := zmh aq; have cD := zmh af; have gl := zmh bA; clear dL fO ko bQ hU ah aq am af gr bA hQ p1 gA b0 ib hlo; generalize (lo.filter fun p => zaV p.1).length = m3 at HU ⊢
  first | (guard_hyp ag; go_wp2_with (go_at_call 85; refine HU.out.mono ?_; rintro r3 w3 ⟨v3, lu, rfl, pV, aE, bL⟩; have MR := zmh (KR.out.fr bL id); have ML := zmh (KL.out.fr bL id); have q0 : w3.cell? ⟨br, 0, none⟩ = some z := MR.out.cell 0; have q1 := MR.out.frozen 0; have q2 : w3.cell? ⟨bl, 0, none⟩ = some zl := ML.out.cell 0; have q3 := ML.out.frozen 0; obtain ⟨a4, n4, k4, rfl⟩ := zab aE.1; have H3 := zmh bL; have eq := zmh aE; have HLU := zmh pV; clear bL aE pV)) | (go_wp2_with (go_at_call 88; refine HU.out.mono ?_; rintro r3 w3 ⟨v3, lu, rfl, pV, aE, bL⟩; have MR := zmh (KR.out.fr bL id); have ML := zmh (KL.out.fr bL id); have q0 : w3.cell? ⟨br, 0, none⟩ = some z := MR.out.cell 0; have q1 := MR.out.frozen 0; have q2 : w3.cell? ⟨bl, 0, none⟩ = some zl := ML.out.cell 0; have q3 := ML.out.frozen 0; obtain ⟨a4, n4, k4, rfl⟩ := zab aE.1; have H3 := zmh bL; have eq := zmh aE; have HLU := zmh pV; clear bL aE pV))
  go_end0; have cP : Blk (w3.setCell ⟨br, 0, none⟩ (.slice a2 n2 k2)) br 44 #[.slice a2 n2 k2] := by simpa using MR.out.set_ 0 (.slice a2 n2 k2)
  have ip : Blk (w3.setCell ⟨br, 0, none⟩ (.slice a2 n2 k2)) bl 52 #[zl] := ML.out.far (p := ⟨br, 0, none⟩) (Ne.symm qn) _; have jP : Blk ((w3.setCell ⟨br, 0, none⟩ (.slice a2 n2 k2)).setCell ⟨bl, 0, none⟩ (.slice a4 n4 k4)) bl 52 #[.slice a4 n4 k4] := by simpa using ip.set_ 0 (.slice a4 n4 k4)
  have hV4 := cP.far (p := ⟨bl, 0, none⟩) qn (.slice a4 n4 k4); have hFF : Fr (fun k => k = br ∨ k = bl) w3 ((w3.setCell ⟨br, 0, none⟩ (.slice a2 n2 k2)).setCell ⟨bl, 0, none⟩ (.slice a4 n4 k4)) := ((znl (fun k => k = br ∨ k = bl) w3).setCell (p := ⟨br, 0, none⟩) (.inl (.inl rfl)) _).setCell (p := ⟨bl, 0, none⟩) (.inl (.inr rfl)) _; refine ⟨rfl, _, _, hV4, jP, ⟨lu, HLU.out, ?_⟩, ?_, ?_, ?_⟩
  ·refine (eq.out.fr hFF (fun k h1 h2 h => ?_)).mono (by have := H1.out.size; have := H2.out.size; simp at *; omega)
   have e1 := KR.out.lt; have e2 := KL.out.lt; rcases h with rfl | rfl <;> omega
  ·refine zai (zai cD.out H3.out z_i) hFF (fun g hg h => ?_)
   rcases h with rfl | rfl
   ·exact zak cD.out KR.out (by decide) hg
   ·exact zak cD.out KL.out (by decide) hg
  ·exact (((((znl (fun k => some k = (Value.slice a' n' k').ownBlock ∨ k = br ∨ k = bl) w).drew).trans H1.out (fun _ _ e => e.elim)).trans H2.out (fun _ _ e => .inl e)).trans H3.out (fun _ _ e => e.elim)).trans hFF (fun _ _ e => .inr e)
  ·rcases gl.out with h | ⟨k, h, hk⟩
   ·exact .inl h
   ·exact .inr ⟨k, h, by have := H1.out.size; simp at this; omega⟩
theorem zk6 : type_of% (zcR.1 trivial) := zcR.1 trivial
theorem zk7 : type_of% (zcR.2 trivial) := zcR.2 trivial
theorem zgi (s0 s1 s2 s3 s4 s5 s6 bv : Value) (xs : List UInt8) (lv : List (Rhs × Hsl)) (P : Nat -> Prop) (w : World) (hb : Sl P w bv 1 xs.length (bc xs)) (bm : xs.length <= 536870912)
 (au : ∀ s ∈ [s0, s1, s2, s3, s4, s5, s6], ∃ A m c, s = .slice A m c) (hs : SlH P w s6 lv) (dh : lv.length <= 12) (aD : ∀ s ∈ (lv.map Prod.fst), s.ok) (aA : (lv.map Prod.fst) = [] ∨ ∃ s ∈ (lv.map Prod.fst), zaV s = false) :
 Calls prog 31 #[.int .i64 7, .agg #[s0, s1, s2, s3, s4, s5, s6], bv] w (za5 (LeftIs w.heap.size (leftW (lv.map Prod.fst))) w (xs ++ za3 7 (fun s => !zaV s) (lv.map Prod.fst))) := by
 refine zaP 7 s0 s1 s2 s3 s4 s5 s6 bv xs _ P _ w hb (by omega) au (fun _ _ h => h.shape) (fun _ _ _ h hv => h.vars hv) ?_; intro bk be bp bb br bl v W hk hp bJ hr hl ab bM hF; exact zk6 bk bp bb br bl w.heap.size _ P s0 s1 s2 s3 s4 s5 s6 v _ _ xs lv W hk hp bJ hr hl (zah ab (zms _)) (hs.fr hF z_i) bm dh aD bM hF.size aA
theorem zgj (s0 s1 s2 s3 s4 s5 s6 bv : Value) (xs : List UInt8) (lv : List (Rhs × Hsl)) (P : Nat -> Prop) (w : World) (hb : Sl P w bv 1 xs.length (bc xs)) (bm : xs.length <= 536870912)
 (au : ∀ s ∈ [s0, s1, s2, s3, s4, s5, s6], ∃ A m c, s = .slice A m c) (hs : SlH P w s6 lv) (dh : lv.length <= 12) (aD : ∀ s ∈ (lv.map Prod.fst), s.ok) (aA : (lv.map Prod.fst) = [] ∨ ∃ s ∈ (lv.map Prod.fst), zaV s = false) :
 Calls prog 31 #[.int .i64 8, .agg #[s0, s1, s2, s3, s4, s5, s6], bv] w (za5 (LeftIs w.heap.size (leftF (lv.map Prod.fst))) w (xs ++ za4 8 (fun s => !zaV s) (lv.map Prod.fst))) := by
 refine zaP 8 s0 s1 s2 s3 s4 s5 s6 bv xs _ P _ w hb (by omega) au (fun _ _ h => h.shape) (fun _ _ _ h hv => h.vars hv) ?_; intro bk be bp bb br bl v W hk hp bJ hr hl ab bM hF; exact zk7 bk bp bb br bl w.heap.size _ P s0 s1 s2 s3 s4 s5 s6 v _ _ xs lv W hk hp bJ hr hl (zah ab (zms _)) (hs.fr hF z_i) bm dh aD bM hF.size aA
end Go.Proofs.YtbkookiigkckdaaGreatDoor
