/- Texts of this seat, merged and shortened. -/
import Derived.Test.YtbkookiigkckdaaGreatDoorK16
import Derived.Test.YtbkookiigkckdaaGreatDoorK18
set_option linter.unusedVariables false
set_option linter.unusedSimpArgs false
set_option maxRecDepth 100000
set_option maxHeartbeats 8000000
namespace Go.Proofs.YtbkookiigkckdaaGreatDoor
open Go.RowKit Go.Proofs.Tryz
def UnX (w : World) (h : Hst) (r : Ending) (w' : World) : Prop :=
 ∃ (A1 : Option Addr) (m1 c1 : Nat) (A2 : Option Addr) (m2 c2 : Nat) (A3 : Option Addr) (m3 c3 : Nat) (A4 : Option Addr) (m4 c4 : Nat) (A5 : Option Addr) (m5 c5 : Nat) (A6 : Option Addr) (m6 c6 : Nat) (A7 : Option Addr) (m7 c7 : Nat), r = .returned (.agg #[.int .u8 h.hint.toNat, .int .i32 h.schema, .int .u64 h.thr, .int .u64 h.sum, .int .u64 h.zc, .int .u64 h.cnt, .slice A1 m1 c1, .slice A2 m2 c2, .slice A3 m3 c3, .slice A4 m4 c4, .slice A5 m5 c5, .slice A6 m6 c6, .slice A7 m7 c7]) /\ OwnHs w.heap.size w' h ⟨.slice A1 m1 c1, .slice A2 m2 c2, .slice A3 m3 c3, .slice A4 m4 c4, .slice A5 m5 c5, .slice A6 m6 c6, .slice A7 m7 c7⟩ /\ Fr (fun _ => False) w w'
def UnHEnds (w : World) (l : List Rhs) (r : Ending) (w' : World) : Prop :=
 ∃ v lu, r = .returned v /\ lu.map Prod.fst = l /\ OwnI w.heap.size w' v lu /\ Fr (fun _ => False) w w'
theorem zip (P : Nat -> Prop) (h : Hst) (v : Value) (w : World) (hr : RdW P w h v) (hl : h.few 1099511627776) : Calls prog 176 #[v] w (UnX w h.cutW) := by
 refine (zjq P h v w hr hl).mono ?_; rintro r w' ⟨⟨p, n, u, d, fu, fd, c⟩, rfl, ho, hf, hs⟩; obtain ⟨A1, m1, c1, rfl⟩ := hs p (by simp); obtain ⟨A2, m2, c2, rfl⟩ := hs n (by simp); obtain ⟨A3, m3, c3, rfl⟩ := hs u (by simp); obtain ⟨A4, m4, c4, rfl⟩ := hs d (by simp); obtain ⟨A5, m5, c5, rfl⟩ := hs fu (by simp); obtain ⟨A6, m6, c6, rfl⟩ := hs fd (by simp)
 obtain ⟨A7, m7, c7, rfl⟩ := hs c (by simp); exact ⟨A1, m1, c1, A2, m2, c2, A3, m3, c3, A4, m4, c4, A5, m5, c5, A6, m6, c6, A7, m7, c7, rfl, ho, hf⟩
theorem zhL (P : Nat -> Prop) (h : Hst) (v : Value) (w : World) (hr : RdF P w h v) (hl : h.few 1099511627776) : Calls prog 179 #[v] w (UnX w h.cutF) := by
 refine (ziq P h v w hr hl).mono ?_; rintro r w' ⟨⟨p, n, u, d, fu, fd, c⟩, rfl, ho, hf, hs⟩; obtain ⟨A1, m1, c1, rfl⟩ := hs p (by simp); obtain ⟨A2, m2, c2, rfl⟩ := hs n (by simp); obtain ⟨A3, m3, c3, rfl⟩ := hs u (by simp); obtain ⟨A4, m4, c4, rfl⟩ := hs d (by simp); obtain ⟨A5, m5, c5, rfl⟩ := hs fu (by simp); obtain ⟨A6, m6, c6, rfl⟩ := hs fd (by simp)
 obtain ⟨A7, m7, c7, rfl⟩ := hs c (by simp); exact ⟨A1, m1, c1, A2, m2, c2, A3, m3, c3, A4, m4, c4, A5, m5, c5, A6, m6, c6, A7, m7, c7, rfl, ho, hf⟩
theorem zbH : (∀ (_ : True) (P : Nat -> Prop) (v : Value) (lv : List (Rhs × Value)) (w : World) (h : RdHW P w v lv) (hl : lv.length <= 1048576) (aQ : ∀ p ∈ lv, p.1.h.few 1099511627776),
 Calls prog 85 #[v] w (UnHEnds w (lv.map fun p => ({ p.1 with h := p.1.h.cutW } : Rhs)))) /\ (∀ (_ : True) (P : Nat -> Prop) (v : Value) (lv : List (Rhs × Value)) (w : World) (h : RdHF P w v lv) (hl : lv.length <= 1048576) (aQ : ∀ p ∈ lv, p.1.h.few 1099511627776),
 Calls prog 88 #[v] w (UnHEnds w (lv.map fun p => ({ p.1 with h := p.1.h.cutF } : Rhs)))) := by
 refine ⟨fun aj P v lv w h hl aQ => ?_, fun cf P v lv w h hl aQ => ?_⟩; all_goals
  have mixed : prog.follows .mixedOrders = true := by kernel_rfl
  obtain ⟨⟨A, c, rfl, ai, aR, hr⟩, co⟩ := h; obtain ⟨n, hn⟩ := exE lv.length; rw [hn] at hr aR hl ⊢; have HN := zlM hn; have HR := zlM hr; have HI := zlM co
  have gr := zlM aQ; obtain ⟨i0, aB, ay, ax, aA⟩ := info_parts info194; clear hn hr ai co aQ
  first | (guard_hyp aj; go_enter func85, ntmps85) | (go_enter func88, ntmps88)
  go_wp2
  first | (guard_hyp aj; go_loopw [2, 7] (fun v i wr => ∃ (k : Nat) (lo : List (Rhs × Hsl)), k <= n /\ i = .int .i64 k /\ Hid (lo.map Prod.fst = (lv.take k).map fun p => ({ p.1 with h := p.1.h.cutW } : Rhs)) /\ Hid (lo.length = k) /\ Hid (OwnI w.heap.size wr v lo) /\ Hid (Fr (fun _ => False) w wr)) (fun _ i _ => n - (intOf i).toNat)) | (go_loopw [2, 7] (fun v i wr => ∃ (k : Nat) (lo : List (Rhs × Hsl)), k <= n /\ i = .int .i64 k /\ Hid (lo.map Prod.fst = (lv.take k).map fun p => ({ p.1 with h := p.1.h.cutF } : Rhs)) /\ Hid (lo.length = k) /\ Hid (OwnI w.heap.size wr v lo) /\ Hid (Fr (fun _ => False) w wr)) (fun _ i _ => n - (intOf i).toNat))
  case atStart => exact ⟨0, [], zlX _, rfl, zlM rfl, zlM rfl, zlM (OwnI.nil _ _), zlM (zmR _ _)⟩
  case round =>
   obtain ⟨k, lo, hk, rfl, HM, ip, HO, HF⟩ := hrel; by_cases hlt : k < n
   ·obtain ⟨g, off, rfl, _, aa⟩ := HR.out (by omega)
    obtain ⟨x, hx⟩ : ∃ x, lv[k]? = some x := ⟨_, zlO (by rw [HN.out]; exact hlt)⟩; have cc : ∀ j, j < 3 -> ∀ u, (rhc x)[j]? = some u -> wr.cell? ⟨g, off + (k * 3 + j), none⟩ = some u := fun j hj u hu => by
     have := aa (k * 3 + j) u (by rw [ze4 rhc (fun _ => rfl) lv k x hx j hj]; exact hu); rw [HF.out.cell (p := ⟨g, off + (k * 3 + j), none⟩) (zlT w _ this) (fun e => e)]; exact this
    have mx : wr.cell? ⟨g, off + k * 3, none⟩ = some (.int .u64 x.1.ref) := cc 0 (by omega) _ rfl; have mu : wr.cell? ⟨g, off + k * 3 + 1, none⟩ = some (.int .i64 x.1.t) := cc 1 (by omega) _ rfl; have mt : wr.cell? ⟨g, off + k * 3 + 2, none⟩ = some x.2 := cc 2 (by omega) _ rfl; have aH := zlU hx; have aX := HI.out x aH; have bA := gr.out x aH; obtain ⟨⟨ref, t, h⟩, pv⟩ := x
    simp only [] at mx mu mt aX bA; have nh := aX; obtain ⟨gx, _, rfl, _⟩ := nh; have bF := HF.out.size; have HX := zlM hx
    first | (guard_hyp aj; have HC := zlM (fun W (hW : Fr (fun _ => False) w W) => zip P h _ W (aX.fr hW (fun _ _ e => e)) bA)) | (have HC := zlM (fun W (hW : Fr (fun _ => False) w W) => zhL P h _ W (aX.fr hW (fun _ _ e => e)) bA))
    obtain ⟨a', n', k', rfl⟩ := zab HO.out.1; clear aa cc hx aH aX bA; go_wp2_with fail
    first | (guard_hyp aj; have dt := zlM (zmS wr 290 #[.int .u64 ref, .int .i64 t, .pointer (some ⟨gx, 0, none⟩)])) | (have dt := zlM (zmS wr 298 #[.int .u64 ref, .int .i64 t, .pointer (some ⟨gx, 0, none⟩)]))
    first | (guard_hyp aj; have F8 := zlM ((HF.out.alloc (.cells #[.int .u64 ref, .int .i64 t, .pointer (some ⟨gx, 0, none⟩)] 290)).drew)) | (have F8 := zlM ((HF.out.alloc (.cells #[.int .u64 ref, .int .i64 t, .pointer (some ⟨gx, 0, none⟩)] 298)).drew))
    have ri := ip.out; have jw : lo.length <= 1048576 := by omega
    first | (guard_hyp aj; have s0 : (wr.alloc (.cells #[.int .u64 ref, .int .i64 t, .pointer (some ⟨gx, 0, none⟩)] 290)).drew.cell? ⟨wr.heap.size, 0, none⟩ = some (.int .u64 ref) := dt.out.cell 0) | (have s0 : (wr.alloc (.cells #[.int .u64 ref, .int .i64 t, .pointer (some ⟨gx, 0, none⟩)] 298)).drew.cell? ⟨wr.heap.size, 0, none⟩ = some (.int .u64 ref) := dt.out.cell 0)
    first | (guard_hyp aj; have s1 : (wr.alloc (.cells #[.int .u64 ref, .int .i64 t, .pointer (some ⟨gx, 0, none⟩)] 290)).drew.cell? ⟨wr.heap.size, 1, none⟩ = some (.int .i64 t) := dt.out.cell 1) | (have s1 : (wr.alloc (.cells #[.int .u64 ref, .int .i64 t, .pointer (some ⟨gx, 0, none⟩)] 298)).drew.cell? ⟨wr.heap.size, 1, none⟩ = some (.int .i64 t) := dt.out.cell 1)
    first | (guard_hyp aj; have s2 : (wr.alloc (.cells #[.int .u64 ref, .int .i64 t, .pointer (some ⟨gx, 0, none⟩)] 290)).drew.cell? ⟨wr.heap.size, 2, none⟩ = some (.pointer (some ⟨gx, 0, none⟩)) := dt.out.cell 2) | (have s2 : (wr.alloc (.cells #[.int .u64 ref, .int .i64 t, .pointer (some ⟨gx, 0, none⟩)] 298)).drew.cell? ⟨wr.heap.size, 2, none⟩ = some (.pointer (some ⟨gx, 0, none⟩)) := dt.out.cell 2)
    go_region_held3 (fun w' => w'.cell? ⟨wr.heap.size, 0, none⟩ = some (.int .u64 ref) /\ w'.cell? ⟨wr.heap.size, 1, none⟩ = some (.int .i64 t) /\ w'.cell? ⟨wr.heap.size, 2, none⟩ = some (.pointer (some ⟨gx, 0, none⟩)))
     ((first | exact ⟨ej.out.cell 0, ej.out.cell 1, ej.out.cell 2⟩ | exact ⟨(cK.out.alloc _).cell 0, (cK.out.alloc _).cell 1, (cK.out.alloc _).cell 2⟩ | exact ⟨cK.out.cell 0, cK.out.cell 1, cK.out.cell 2⟩ | go_keep))
     ((first
       | (go_at_call 176; refine (HC.out _ F8.out).mono ?_; rintro r5 w5 ⟨A1, m1, c1, A2, m2, c2, A3, m3, c3, A4, m4, c4, A5, m5, c5, A6, m6, c6, A7, m7, c7, rfl, eu, aq⟩; simp only [Hst.cutW]; have cK := zlM (dt.out.drew.fr aq (fun e => e)); have F5 := zlM (F8.out.same aq); have G5 := zlM ((((zmR (fun _ => False) wr).alloc (.cells #[.int .u64 ref, .int .i64 t, .pointer (some ⟨gx, 0, none⟩)] 290)).drew).same aq); have O5 := zlM (HO.out.fr G5.out (fun _ _ _ e => e)); have io := zlM (eu.mono F8.out.size); have lM := F5.out.size)
       | (go_at_call 179; refine (HC.out _ F8.out).mono ?_; rintro r5 w5 ⟨A1, m1, c1, A2, m2, c2, A3, m3, c3, A4, m4, c4, A5, m5, c5, A6, m6, c6, A7, m7, c7, rfl, eu, aq⟩; simp only [Hst.cutF]; have cK := zlM (dt.out.drew.fr aq (fun e => e)); have F5 := zlM (F8.out.same aq); have G5 := zlM ((((zmR (fun _ => False) wr).alloc (.cells #[.int .u64 ref, .int .i64 t, .pointer (some ⟨gx, 0, none⟩)] 298)).drew).same aq); have O5 := zlM (HO.out.fr G5.out (fun _ _ _ e => e)); have io := zlM (eu.mono F8.out.size); have lM := F5.out.size)
       | (refine zas _ (by rfl) _ _ 52 52 (by rfl) w.heap.size 194 i0 _ 15 224 underlying52 aB ay ax aA rfl (by decide) (.slice a' n' k') lo.length (lo.flatMap hsc) (by rfl) (O5.out.1.alloc _) _ 1 [.int .u64 ref, .int .i64 t, .int .u8 h.hint.toNat, .int .i32 h.schema, .int .u64 h.thr, .int .u64 h.sum, .int .u64 h.zc, .int .u64 h.cnt, .slice A1 m1 c1, .slice A2 m2 c2, .slice A3 m3 c3, .slice A4 m4 c4, .slice A5 m5 c5, .slice A6 m6 c6, .slice A7 m7 c7] (by rfl) (zaF underlying52 (zmS w5 194 #[.int .u64 ref, .int .i64 t, .int .u8 h.hint.toNat, .int .i32 h.schema, .int .u64 h.thr, .int .u64 h.sum, .int .u64 h.zc, .int .u64 h.cnt, .slice A1 m1 c1, .slice A2 m2 c2, .slice A3 m3 c3, .slice A4 m4 c4, .slice A5 m5 c5, .slice A6 m6 c6, .slice A7 m7 c7]) rfl (by simp [Value.oneCell'])) (by unfold maxLen; omega) (by omega) (by simp; omega) ?_; intro v' w2 ac ad aw; have ej := zlM ((cK.out.alloc (.cells #[.int .u64 ref, .int .i64 t, .int .u8 h.hint.toNat, .int .i32 h.schema, .int .u64 h.thr, .int .u64 h.sum, .int .u64 h.zc, .int .u64 h.cnt, .slice A1 m1 c1, .slice A2 m2 c2, .slice A3 m3 c3, .slice A4 m4 c4, .slice A5 m5 c5, .slice A6 m6 c6, .slice A7 m7 c7] 194)).grown ad (fun e => zmw _ (zar HO.out.1 e.symm))))))
    first
     | guard_hyp aj
       have aT : OwnI w.heap.size w2 v' (lo ++ [(⟨ref, t, h.cutW⟩, ⟨.slice A1 m1 c1, .slice A2 m2 c2, .slice A3 m3 c3, .slice A4 m4 c4, .slice A5 m5 c5, .slice A6 m6 c6, .slice A7 m7 c7⟩)]) :=
        OwnI.push (p := (⟨ref, t, h.cutW⟩, ⟨.slice A1 m1 c1, .slice A2 m2 c2, .slice A3 m3 c3, .slice A4 m4 c4, .slice A5 m5 c5, .slice A6 m6 c6, .slice A7 m7 c7⟩)) (O5.out.fr ((zmR (fun _ => False) w5).alloc (.cells #[.int .u64 ref, .int .i64 t, .int .u8 h.hint.toNat, .int .i32 h.schema, .int .u64 h.thr, .int .u64 h.sum, .int .u64 h.zc, .int .u64 h.cnt, .slice A1 m1 c1, .slice A2 m2 c2, .slice A3 m3 c3, .slice A4 m4 c4, .slice A5 m5 c5, .slice A6 m6 c6, .slice A7 m7 c7] 194)) (fun _ _ _ e => e)) (io.out.fr ((zmR (fun _ => False) w5).alloc (.cells #[.int .u64 ref, .int .i64 t, .int .u8 h.hint.toNat, .int .i32 h.schema, .int .u64 h.thr, .int .u64 h.sum, .int .u64 h.zc, .int .u64 h.cnt, .slice A1 m1 c1, .slice A2 m2 c2, .slice A3 m3 c3, .slice A4 m4 c4, .slice A5 m5 c5, .slice A6 m6 c6, .slice A7 m7 c7] 194)) (fun _ _ _ e => e)) ad ac
     | have aT : OwnI w.heap.size w2 v' (lo ++ [(⟨ref, t, h.cutF⟩, ⟨.slice A1 m1 c1, .slice A2 m2 c2, .slice A3 m3 c3, .slice A4 m4 c4, .slice A5 m5 c5, .slice A6 m6 c6, .slice A7 m7 c7⟩)]) :=
        OwnI.push (p := (⟨ref, t, h.cutF⟩, ⟨.slice A1 m1 c1, .slice A2 m2 c2, .slice A3 m3 c3, .slice A4 m4 c4, .slice A5 m5 c5, .slice A6 m6 c6, .slice A7 m7 c7⟩)) (O5.out.fr ((zmR (fun _ => False) w5).alloc (.cells #[.int .u64 ref, .int .i64 t, .int .u8 h.hint.toNat, .int .i32 h.schema, .int .u64 h.thr, .int .u64 h.sum, .int .u64 h.zc, .int .u64 h.cnt, .slice A1 m1 c1, .slice A2 m2 c2, .slice A3 m3 c3, .slice A4 m4 c4, .slice A5 m5 c5, .slice A6 m6 c6, .slice A7 m7 c7] 194)) (fun _ _ _ e => e)) (io.out.fr ((zmR (fun _ => False) w5).alloc (.cells #[.int .u64 ref, .int .i64 t, .int .u8 h.hint.toNat, .int .i32 h.schema, .int .u64 h.thr, .int .u64 h.sum, .int .u64 h.zc, .int .u64 h.cnt, .slice A1 m1 c1, .slice A2 m2 c2, .slice A3 m3 c3, .slice A4 m4 c4, .slice A5 m5 c5, .slice A6 m6 c6, .slice A7 m7 c7] 194)) (fun _ _ _ e => e)) ad ac
    have bM : Fr (fun _ => False) w w2 := (F5.out.alloc _).grown ad (fun g hg => .inr ((HO.out.1.lt g hg).1))
    first
     | guard_hyp aj
       have cg : (lo ++ [((⟨ref, t, h.cutW⟩ : Rhs), (⟨.slice A1 m1 c1, .slice A2 m2 c2, .slice A3 m3 c3, .slice A4 m4 c4, .slice A5 m5 c5, .slice A6 m6 c6, .slice A7 m7 c7⟩ : Hsl))]).map Prod.fst = (lv.take (k + 1)).map fun p => ({ p.1 with h := p.1.h.cutW } : Rhs) := by
        rw [zmn, HX.out, zmc, zmc, HM.out]; rfl
     | have cg : (lo ++ [((⟨ref, t, h.cutF⟩ : Rhs), (⟨.slice A1 m1 c1, .slice A2 m2 c2, .slice A3 m3 c3, .slice A4 m4 c4, .slice A5 m5 c5, .slice A6 m6 c6, .slice A7 m7 c7⟩ : Hsl))]).map Prod.fst = (lv.take (k + 1)).map fun p => ({ p.1 with h := p.1.h.cutF } : Rhs) := by
        rw [zmn, HX.out, zmc, zmc, HM.out]; rfl
    first | (guard_hyp aj; have cM : (lo ++ [((⟨ref, t, h.cutW⟩ : Rhs), (⟨.slice A1 m1 c1, .slice A2 m2 c2, .slice A3 m3 c3, .slice A4 m4 c4, .slice A5 m5 c5, .slice A6 m6 c6, .slice A7 m7 c7⟩ : Hsl))]).length = k + 1 := by rw [zlN, ip.out]; rfl) | (have cM : (lo ++ [((⟨ref, t, h.cutF⟩ : Rhs), (⟨.slice A1 m1 c1, .slice A2 m2 c2, .slice A3 m3 c3, .slice A4 m4 c4, .slice A5 m5 c5, .slice A6 m6 c6, .slice A7 m7 c7⟩ : Hsl))]).length = k + 1 := by rw [zlN, ip.out]; rfl)
    have NO := zlM aT; have NF := zlM bM; have NM := zlM cg; have NN := zlM cM; clear aT bM cg cM ac ad aw mx mu mt s0 s1 s2 aq ej O5 io eu HC; go_wp2; go_roundw
    case rel => exact ⟨k + 1, _, by omega, by go_num, NM, NN, NO, NF⟩
    case measure => simp [intOf]; omega
   ·go_wp2
    go_ret; obtain rfl : k = n := by omega
    refine ⟨_, lo, rfl, ?_, HO.out, HF.out⟩; rw [HM.out, <- HN.out, zmd]
theorem zdZ : type_of% (zbH.1 trivial) := zbH.1 trivial
theorem zfn : type_of% (zbH.2 trivial) := zbH.2 trivial
def zgk (pre : List Rhs) (xs : List UInt8) : List Rhs := match zcQ xs with | some l => (pre ++ l).map (fun x => { x with h := x.h.cutW }) | none => []
def zkl (w : World) (bb bp bo : Nat) (pre : List Rhs) (xs : List UInt8) (r : Ending) (w' : World) : Prop :=
 r = .returned (.tuple #[]) /\ Fr (fun k => k = bb ∨ k = bp ∨ k = bo) w w' /\ Blk w' bo 4 #[.bool (zcQ xs).isSome] /\
  ∃ lv lo, Blk w' bp 54 #[.slice none 0 0, .slice none 0 0, .slice none 0 0, .slice none 0 0, .slice none 0 0, .slice none 0 0, lv] /\ OwnI w.heap.size w' lv lo /\ lo.map Prod.fst = zgk pre xs
theorem zjY {S : Nat -> Prop} {w w' : World} {base : Nat} {lo : List (Rhs × Value)} {xs : List UInt8} {r : Ending} (h : zdW S w base lo (zcQ xs) r w') :
 ∃ v' e l2, r = .returned (.tuple #[v', e]) /\ OwnHW base w' v' l2 /\ (l2.map fun p => ({ p.1 with h := p.1.h.cutW } : Rhs)) = zgk (lo.map Prod.fst) xs /\ Fr S w w' /\ ((e = .nilIface /\ (zcQ xs).isSome = true /\ ∀ l, zcQ xs = some l -> l2.map Prod.fst = lo.map Prod.fst ++ l) ∨ (∃ t a, e = .iface t a /\ (zcQ xs).isSome = false /\ l2 = [])) := by
 unfold zdW at h; unfold zgk; rcases hd : zcQ xs with _ | l
 ·rw [hd] at h
  obtain ⟨hf, t, a, rfl⟩ := h; exact ⟨_, _, [], rfl, OwnHW.nil _ _, rfl, hf, .inr ⟨_, _, rfl, rfl, rfl⟩⟩
 ·rw [hd] at h
  obtain ⟨hf, v', l3, rfl, f9, ho⟩ := h; refine ⟨_, _, lo ++ l3, rfl, ho, ?_, hf, .inl ⟨rfl, rfl, fun l' e => ?_⟩⟩
  ·show _ = ((lo.map Prod.fst ++ l).map (fun x => ({ x with h := x.h.cutW } : Rhs)))
   rw [<- f9, <- zmc, zmP]; rfl
  ·injection e with e
   subst e; rw [zmc, f9]
theorem OwnI.fr9 {base : Nat} {w w' : World} {v : Value} {lo : List (Rhs × Hsl)} {d t : Nat} {cs : Array Value} (h : OwnI base w v lo) (hb : Blk w d t cs) (ht : t = 54 ∨ t = 4) (hf : Fr (fun k => k = d) w w') : OwnI base w' v lo := by
 have go : ∀ {e : TypeId} {z n : Nat} {u : Value} {xs : List Value}, e ≠ t -> w.ownsRow base e z u n xs -> w'.ownsRow base e z u n xs := fun he o => zai o hf (fun g hg e => zak o hb he (by rw [hg, e])); refine ⟨go (by rcases ht with rfl | rfl <;> decide) h.1, fun p hp => ?_⟩; obtain ⟨a1, a2, a3, a4, a5, a6, a7⟩ := h.2 p hp; have q1 : (319 : Nat) ≠ t := by rcases ht with rfl | rfl <;> decide
 have q2 : (2 : Nat) ≠ t := by rcases ht with rfl | rfl <;> decide
 have q3 : (111 : Nat) ≠ t := by rcases ht with rfl | rfl <;> decide
 exact ⟨go q1 a1, go q1 a2, go q2 a3, go q2 a4, go q3 a5, go q3 a6, go q3 a7⟩
theorem zeY {W w5 w6 : World} {b t : Nat} {cs : Array Value} {v5 : Value} {lo : List (Rhs × Value)} (h : Blk W b t cs) (aq : Fr (fun _ => False) W.drew w5) (ho : OwnHW W.drew.heap.size w5 v5 lo) (aS : Fr (fun k => some k = v5.ownBlock) w5 w6) : Blk w6 b t cs :=
 (h.drew.fr aq (fun e => e)).fr aS (fun e => by have h1 := (ho.1.lt b e.symm).1; have h2 : b < W.heap.size := h.lt; exact zmw _ (zmb h2 h1))
def zgl (pre : List Rhs) (xs : List UInt8) : List Rhs := match zcR xs with | some l => (pre ++ l).map (fun x => { x with h := x.h.cutF }) | none => []
def zkm (w : World) (bb bp bo : Nat) (pre : List Rhs) (xs : List UInt8) (r : Ending) (w' : World) : Prop :=
 r = .returned (.tuple #[]) /\ Fr (fun k => k = bb ∨ k = bp ∨ k = bo) w w' /\ Blk w' bo 4 #[.bool (zcR xs).isSome] /\
  ∃ lv lo, Blk w' bp 54 #[.slice none 0 0, .slice none 0 0, .slice none 0 0, .slice none 0 0, .slice none 0 0, .slice none 0 0, lv] /\ OwnI w.heap.size w' lv lo /\ lo.map Prod.fst = zgl pre xs
theorem zj1 {S : Nat -> Prop} {w w' : World} {base : Nat} {lo : List (Rhs × Value)} {xs : List UInt8} {r : Ending} (h : zdX S w base lo (zcR xs) r w') :
 ∃ v' e l2, r = .returned (.tuple #[v', e]) /\ OwnHF base w' v' l2 /\ (l2.map fun p => ({ p.1 with h := p.1.h.cutF } : Rhs)) = zgl (lo.map Prod.fst) xs /\ Fr S w w' /\ ((e = .nilIface /\ (zcR xs).isSome = true /\ ∀ l, zcR xs = some l -> l2.map Prod.fst = lo.map Prod.fst ++ l) ∨ (∃ t a, e = .iface t a /\ (zcR xs).isSome = false /\ l2 = [])) := by
 unfold zdX at h; unfold zgl; rcases hd : zcR xs with _ | l
 ·rw [hd] at h
  obtain ⟨hf, t, a, rfl⟩ := h; exact ⟨_, _, [], rfl, OwnHF.nil _ _, rfl, hf, .inr ⟨_, _, rfl, rfl, rfl⟩⟩
 ·rw [hd] at h
  obtain ⟨hf, v', l3, rfl, f9, ho⟩ := h; refine ⟨_, _, lo ++ l3, rfl, ho, ?_, hf, .inl ⟨rfl, rfl, fun l' e => ?_⟩⟩
  ·show _ = ((lo.map Prod.fst ++ l).map (fun x => ({ x with h := x.h.cutF } : Rhs)))
   rw [<- f9, <- zmc, zmP]; rfl
  ·injection e with e
   subst e; rw [zmc, f9]
theorem zeZ {W w5 w6 : World} {b t : Nat} {cs : Array Value} {v5 : Value} {lo : List (Rhs × Value)} (h : Blk W b t cs) (aq : Fr (fun _ => False) W.drew w5) (ho : OwnHF W.drew.heap.size w5 v5 lo) (aS : Fr (fun k => some k = v5.ownBlock) w5 w6) : Blk w6 b t cs :=
 (h.drew.fr aq (fun e => e)).fr aS (fun e => by have h1 := (ho.1.lt b e.symm).1; have h2 : b < W.heap.size := h.lt; exact zmw _ (zmb h2 h1))
theorem zdi : (∀ (_ : True) (te : TypeId) (pe : Value) (bb bk bq bp bo : Nat) (P : Nat -> Prop) (q0 q1 q2 q3 q4 q5 q6 v : Value) (xs : List UInt8) (kz : Nat) (kg : kz = 7 ∨ kz = 9) (w : World) (hb : Blk w bb 44 #[v]) (hv : Sl P w v 1 xs.length (bc xs)) (hk : Blk w bk 3 #[.int .i64 (kz : Int)]) (hq : Blk w bq 54 #[q0, q1, q2, q3, q4, q5, q6]) (pre : List (Rhs × Hsl)) (hs : SlH P w q6 pre) (bj : pre.length <= 1024)
 (fh : ∀ p ∈ pre, p.1.h.few 1099511627776) (dM : ∀ l, zcQ xs = some l -> l.length <= 1024 /\ ∀ x ∈ l, x.h.few 1099511627776)
 (hp : Blk w bp 54 #[.slice none 0 0, .slice none 0 0, .slice none 0 0, .slice none 0 0, .slice none 0 0, .slice none 0 0, .slice none 0 0]) (ho : Blk w bo 4 #[.bool false]) (hE : w.cell? ⟨2, 0, none⟩ = some (.iface te pe)) (bg : xs.length <= 1073741824)
 (dX : ∀ g, P g -> g ≠ bb) (dy : bp ≠ bq) (h2 : bb ≠ 2 /\ bp ≠ 2 /\ bo ≠ 2)
 (al : St -> Prop) (hG : ∀ kd rest, xs = kd :: rest -> (kd = 7 ∨ kd = 9) -> ∀ l, al (some l) -> zda (some l) /\ al (zaQ (zac (some rest)).1 (zav (zac (some rest)).2).1 (some l)).2) (aY : ∀ kd rest, xs = kd :: rest -> (kd = 7 ∨ kd = 9) -> rest ≠ [] -> al (zav (zac (some rest)).2).2),
 Calls prog 66 #[.pointer (some ⟨bb, 0, none⟩), .pointer (some ⟨bk, 0, none⟩), .pointer (some ⟨bq, 0, none⟩), .pointer (some ⟨bp, 0, none⟩), .pointer (some ⟨bo, 0, none⟩)] w (zkl w bb bp bo (pre.map Prod.fst) xs)) /\ (∀ (_ : True) (te : TypeId) (pe : Value) (bb bk bq bp bo : Nat) (P : Nat -> Prop) (q0 q1 q2 q3 q4 q5 q6 v : Value) (xs : List UInt8) (kz : Nat) (kg : kz = 8 ∨ kz = 10) (w : World) (hb : Blk w bb 44 #[v]) (hv : Sl P w v 1 xs.length (bc xs)) (hk : Blk w bk 3 #[.int .i64 (kz : Int)]) (hq : Blk w bq 54 #[q0, q1, q2, q3, q4, q5, q6]) (pre : List (Rhs × Hsl)) (hs : SlH P w q6 pre) (bj : pre.length <= 1024)
 (fh : ∀ p ∈ pre, p.1.h.few 1099511627776) (dM : ∀ l, zcR xs = some l -> l.length <= 1024 /\ ∀ x ∈ l, x.h.few 1099511627776)
 (hp : Blk w bp 54 #[.slice none 0 0, .slice none 0 0, .slice none 0 0, .slice none 0 0, .slice none 0 0, .slice none 0 0, .slice none 0 0]) (ho : Blk w bo 4 #[.bool false]) (hE : w.cell? ⟨2, 0, none⟩ = some (.iface te pe)) (bg : xs.length <= 1073741824)
 (dX : ∀ g, P g -> g ≠ bb) (dy : bp ≠ bq) (h2 : bb ≠ 2 /\ bp ≠ 2 /\ bo ≠ 2)
 (al : St -> Prop) (hG : ∀ kd rest, xs = kd :: rest -> (kd = 8 ∨ kd = 10) -> ∀ l, al (some l) -> zdb (some l) /\ al (zaR (zac (some rest)).1 (zav (zac (some rest)).2).1 (some l)).2) (aY : ∀ kd rest, xs = kd :: rest -> (kd = 8 ∨ kd = 10) -> rest ≠ [] -> al (zav (zac (some rest)).2).2),
 Calls prog 66 #[.pointer (some ⟨bb, 0, none⟩), .pointer (some ⟨bk, 0, none⟩), .pointer (some ⟨bq, 0, none⟩), .pointer (some ⟨bp, 0, none⟩), .pointer (some ⟨bo, 0, none⟩)] w (zkm w bb bp bo (pre.map Prod.fst) xs)) := by
 refine ⟨fun aj te pe bb bk bq bp bo P q0 q1 q2 q3 q4 q5 q6 v xs kz kg w hb hv hk hq pre hs bj fh dM hp ho hE bg dX dy h2 al hG aY => ?_, fun cf te pe bb bk bq bp bo P q0 q1 q2 q3 q4 q5 q6 v xs kz kg w hb hv hk hq pre hs bj fh dM hp ho hE bg dX dy h2 al hG aY => ?_⟩; all_goals
  have ib := zlM hG; have ia := zlM aY; have HXF := zlM dM; have oK := zlM fh; clear hG aY dM fh; obtain ⟨i0, aB, ay, ax, aA⟩ := info_parts zfd; have HB := zlM hb; have HV := zlM hv; have HK := zlM hk; have HQ := zlM hq; have HS := zlM hs; have HP := zlM hp; have HO := zlM ho; have HE := zlM hE; have kr := zlM dX
  have bT : ∃ A m c, v = .slice A m c := let ⟨A, c, h, _⟩ := hv; ⟨A, _, c, h⟩
  obtain ⟨A, m, c, rfl⟩ := bT; clear hb hv hk hq hs hp ho hE dX; go_enter func66, ntmps66; go_wp2_with (first | (go_at_call 67; refine (zdz _ _).mono ?_; rintro r w1 ⟨v1, rfl, ⟨a, rfl⟩, ag⟩; refine Hid.out ?_))
  have av := ((HB.out.fr ag (fun e => e)).alloc (.cells #[.slice (some a) 0 0, .string ⟨#[]⟩, .slice none 0 0] 119)).alloc (.cells #[] 5); have b1 := av.cell 0; simp at b1; clear av; refine zlM ?_; go_wp2_with (at_builtin; refine Hid.out ?_)
  have er := zmQ (base := w.heap.size) (e := 5) (size := 1) (w1.alloc (.cells #[.slice (some a) 0 0, .string ⟨#[]⟩, .slice none 0 0] 119)) #[] 0 (by have := ag.size; simp; omega) (zlX _) rfl; have dC : Fr (fun _ => False) w ((w1.alloc (.cells #[.slice (some a) 0 0, .string ⟨#[]⟩, .slice none 0 0] 119)).alloc (.cells #[] 5)) := (ag.alloc _).alloc _; have bw := ag.size
  refine zlM ?_; have kV : (w1.alloc (.cells #[.slice (some a) 0 0, .string ⟨#[]⟩, .slice none 0 0] 119)).heap.size = w1.heap.size + 1 := by simp
  rw [kV] at er; clear b1; generalize World.alloc _ (Obj.cells #[] 5) = WA at er dC ⊢; have hsA := dC.size; have cO := zde underlying44 (HV.out.fr dC (fun _ _ e => e)) (zfx xs)
  refine zae _ rfl _ _ 44 44 rfl w.heap.size 5 i0 (.int .u8 0) 1 1 underlying44 aB ay ax aA rfl (by decide) (.slice (some ⟨w1.heap.size + 1, 0, none⟩) 0 0) 0 [] rfl er (.slice A m c) xs.length (bc xs) rfl cO (by unfold maxLen; omega) (by omega) (by omega) ?_; intro v' w2 ac ad aw
  rw [zmh, zmo] at ac; obtain ⟨a2, k2, rfl⟩ := zaa ac; have eN : ∀ k, (Value.slice (some ⟨w1.heap.size + 1, 0, none⟩) 0 0).ownBlock = some k -> w.heap.size <= k := fun k hk => by
   have hk : w1.heap.size + 1 = k := zmB hk; omega
  have F2 : Fr (fun _ => False) w w2 := dC.grown ad (fun k hk => .inr (eN k hk)); have dx : ∃ g2 aM, a2 = some ⟨g2, 0, none⟩ /\ w.heap.size <= g2 /\ Blk w2 g2 5 aM /\ xs.length <= k2 /\ k2 <= maxLen /\ aM.toList.take xs.length = bc xs := by
   rcases ac.2 with ⟨h, _⟩ | ⟨g2, aP, aM, h, h1, h3, h4, h5, _, h6⟩
   ·rw [h] at aw
    rcases aw with aw | aw <;> exact absurd aw (by simp [Value.ownBlock])
   ·injection h with e1 e2 e3
    subst e3; exact ⟨g2, aM, e1, h1, h3, h4, h5, by simpa using h6⟩
  have cr : ∀ k, (Value.slice a2 xs.length k2).ownBlock = some k -> w.heap.size <= k := fun k hk => (ac.lt k hk).1; have lB := HB.out.lt; have gB := HB.out.fr F2 (fun e => e); have y0 := gB.cell 0; have y1 := gB.frozen 0; simp at y0
  have F3 : Fr (fun k => k = bb) w (w2.setCell ⟨bb, 0, none⟩ (.slice a2 xs.length k2)) := (F2.mono (S' := fun k => k = bb) (fun _ _ e => e.elim)).setCell (p := ⟨bb, 0, none⟩) (.inl rfl) _; have O3 : (w2.setCell ⟨bb, 0, none⟩ (.slice a2 xs.length k2)).ownsRow w.heap.size 5 1 (.slice a2 xs.length k2) xs.length (bc xs) := zai ac (Fr.put_ w2 bb 0 _) (fun k hk e => by have := cr k hk; omega)
  have B3 : Blk (w2.setCell ⟨bb, 0, none⟩ (.slice a2 xs.length k2)) bb 44 #[.slice a2 xs.length k2] := by simpa using gB.set_ 0 (.slice a2 xs.length k2)
  have K3 := (HK.out.fr F3 (fun e => zmT HK.out HB.out (by decide) e)).cell 0; have Q3 := HQ.out.fr F3 (fun e => zmT HQ.out HB.out (by decide) e); have P3 := HP.out.fr F3 (fun e => zmT HP.out HB.out (by decide) e); have O4 := HO.out.fr F3 (fun e => zmT HO.out HB.out (by decide) e)
  have E3 : (w2.setCell ⟨bb, 0, none⟩ (.slice a2 xs.length k2)).cell? ⟨2, 0, none⟩ = some (.iface te pe) := by
   rw [F3.cell (p := ⟨2, 0, none⟩) (zlT w _ HE.out) (fun e => h2.1 e.symm)]; exact HE.out
  simp at K3; have bH := zlM F3; have es := zlM O3; have bI := zlM B3; have c8 := zlM Q3; have eO := zlM P3; have dq := zlM O4; have dK := zlM E3; have o9 := zlM cr; obtain ⟨g2, aM, rfl, eo, ct, cR, dz, dw⟩ := dx
  have R3 : Rec te pe (w2.setCell ⟨bb, 0, none⟩ (.slice (some ⟨g2, 0, none⟩) xs.length k2)) g2 aM xs (.slice (some ⟨g2, 0, none⟩) xs.length k2) := by
   refine ⟨0, k2, rfl, ct.far (p := ⟨bb, 0, none⟩) (by show g2 ≠ bb; omega) _, cR, ⟨by simp [maxLen] at dz; omega, by omega⟩, fun j u hu => ?_, E3⟩; rw [zmh, <- Array.getElem?_toList]; have hj : j < xs.length := by
    rcases zmf j xs.length with h | h
    ·exact h
    ·rw [zmg (by rw [zdF]; exact h)] at hu; cases hu
   rw [<- dw, List.getElem?_take_of_lt hj] at hu; exact hu
  have bC := zlM R3; have kU := ct.lt; clear R3 dz dw ct; clear F2 F3 O3 B3 Q3 P3 O4 E3 gB eN cr ac ad aw cO er dC ag; rcases kg with rfl | rfl; all_goals
   go_wp2_with fail
   generalize w2.setCell ⟨bb, 0, none⟩ (.slice (some ⟨g2, 0, none⟩) xs.length k2) = W3 at bH es bI c8 eO dq dK bC ⊢; have f9 := bC.out; have gl : g2 < W3.heap.size := let ⟨_, _, _, h, _⟩ := f9; h.lt
   have jc : 2 < W3.heap.size := zlT W3 _ dK.out; clear f9; have hS3 : SlH P W3.drew q6 pre := HS.out.fr bH.out.drew (fun g hg e => kr.out g hg e)
   first | (guard_hyp aj; have eH := zcA P q6 pre W3.drew hS3 (by omega) oK.out) | (have eH := zdK P q6 pre W3.drew hS3 (by omega) oK.out)
   have eZ : ∃ A m c, q6 = .slice A m c := let ⟨A, c, h, _⟩ := HS.out.1; ⟨A, _, c, h⟩
   obtain ⟨Aq, mq, cq, rfl⟩ := eZ; have x0 := bI.out.cell 0; have x1 := c8.out.cell 6; have ky : W3.drew.cell? ⟨bb, 0, none⟩ = some (.slice (some ⟨g2, 0, none⟩) xs.length k2) := x0; have ji : W3.drew.cell? ⟨bq, 6, none⟩ = some (.slice Aq mq cq) := x1; simp at x0 x1; clear y0 y1 K3
   go_region_held3 (fun w' => w'.cell? ⟨bb, 0, none⟩ = some (.slice (some ⟨g2, 0, none⟩) xs.length k2) /\ w'.cell? ⟨bq, 6, none⟩ = some (.slice Aq mq cq))
    ((first | (go_split_ands; refine ⟨?_, ?_⟩ <;> first | exact (bI.out.drew.fr aq (fun e => e)).cell 0 | exact (c8.out.drew.fr aq (fun e => e)).cell 6) | (go_split_ands; refine ⟨?_, ?_⟩ <;> first | exact KB.out.cell 0 | exact KQ.out.cell 6) | go_keep))
    ((first
      | (go_at_call 84; refine eH.mono ?_; rintro r5 w5 ⟨v5, lo5, rfl, iB, am, aq⟩)
      | (go_at_call 87; refine eH.mono ?_; rintro r5 w5 ⟨v5, lo5, rfl, iB, am, aq⟩)
      | (go_at_call 83; refine (zly te pe _ g2 W3.drew.heap.size aM lo5 xs _ v5 w5 (bC.out.fr (w := W3) (((zmR (fun _ => False) W3).drew).same aq) (fun e => e) (fun e => e)) am ⟨jc, aq.size⟩ (by have h := zmC List.length iB; simp at h; omega) al ib.out ia.out).mono ?_; rintro r6 w6 eI; obtain ⟨v6, e6, l6, rfl, aO, ii, aS, cn⟩ := zjY eI; clear eI; have KB := zlM (zeY bI.out aq am aS); have KQ := zlM (zeY c8.out aq am aS))
      | (go_at_call 86; refine (zlA te pe _ g2 W3.drew.heap.size aM lo5 xs _ v5 w5 (bC.out.fr (w := W3) (((zmR (fun _ => False) W3).drew).same aq) (fun e => e) (fun e => e)) am ⟨jc, aq.size⟩ (by have h := zmC List.length iB; simp at h; omega) al ib.out ia.out).mono ?_; rintro r6 w6 eI; obtain ⟨v6, e6, l6, rfl, aO, ii, aS, cn⟩ := zj1 eI; clear eI; have KB := zlM (zeZ bI.out aq am aS); have KQ := zlM (zeZ c8.out aq am aS))))
   have T6 : Fr (fun k => k = bb) w w6 := ((bH.out.trans (((zmR (fun _ => False) W3).drew).same aq) (fun _ _ e => e.elim)).trans aS (fun k hk e => by
    have h1 := (am.1.lt k e.symm).1; have h2 := bH.out.size
    simp at h1; omega))
   first | (guard_hyp aj; have P6 := zeY eO.out aq am aS) | (have P6 := zeZ eO.out aq am aS)
   first | (guard_hyp aj; have O6 := zeY dq.out aq am aS) | (have O6 := zeZ dq.out aq am aS)
   rw [iB] at ii; have hl6 : l6.length <= 4096 /\ ∀ p ∈ l6, p.1.h.few 1099511627776 := by
    rcases cn with ⟨_, bw, jA⟩ | ⟨_, _, _, _, rfl⟩
    ·obtain ⟨l, hl⟩ := Option.isSome_iff_exists.1 bw
     have e := jA l hl; rw [iB] at e; obtain ⟨f1, f2⟩ := HXF.out l hl; have h9 := zmC List.length e; simp at h9; refine ⟨by omega, fun p hp => ?_⟩; have hm : p.1 ∈ pre.map Prod.fst ++ l := by rw [<- e]; exact zmi.2 ⟨p, hp, rfl⟩
     rcases zms.1 hm with hm | hm
     ·obtain ⟨q, eZ, kK⟩ := zmi.1 hm
      rw [<- kK]; exact oK.out q eZ
     ·exact f2 _ hm
    ·exact ⟨zlX _, fun p hp => by cases hp⟩
   first | (guard_hyp aj; have hU := fun W (hW : Fr (fun _ => False) w6 W) => zdZ _ v6 l6 W ((aO.fr hW (fun _ _ _ e => e)).rd) (by omega) hl6.2) | (have hU := fun W (hW : Fr (fun _ => False) w6 W) => zfn _ v6 l6 W ((aO.fr hW (fun _ _ _ e => e)).rd) (by omega) hl6.2)
   have HU := zlM hU; have kq := zlM T6; have jf := zlM P6; have gq := zlM O6; have rh := zlM ii
   first
    | guard_hyp aj
      have ks : Hid ((e6 = .nilIface /\ (zcQ xs).isSome = true) ∨ (∃ t a, e6 = .iface t a /\ (zcQ xs).isSome = false)) := zlM (by
       rcases cn with ⟨h1, h3, _⟩ | ⟨t, a, h1, h3, _⟩
       ·exact .inl ⟨h1, h3⟩
       ·exact .inr ⟨t, a, h1, h3⟩)
    | have ks : Hid ((e6 = .nilIface /\ (zcR xs).isSome = true) ∨ (∃ t a, e6 = .iface t a /\ (zcR xs).isSome = false)) := zlM (by
       rcases cn with ⟨h1, h3, _⟩ | ⟨t, a, h1, h3, _⟩
       ·exact .inl ⟨h1, h3⟩
       ·exact .inr ⟨t, a, h1, h3⟩)
   have kJ := aq.size; have kI := aS.size; have kC : w.heap.size <= w6.heap.size := T6.size; clear x0 x1 ky ji eH T6 P6 O6 cn am aq aO aS KB KQ es bI c8 eO dq dK bC bH hU ii iB hl6; go_wp2_with fail
   have gK : bo ≠ bp := zmT gq.out jf.out (by decide); have F0 : Fr (fun _ => False) w6 w6.drew := (zmR (fun _ => False) w6).drew; have hU0 := HU.out w6.drew F0; rcases ks.out with ⟨rfl, aD⟩ | ⟨t, ae, rfl, aD⟩; all_goals
    have iT := zlM aD; clear aD
    first
     | guard_hyp aj
       go_region_held3 (fun w' => True)
        (trivial)
        ((go_at_call 85; refine hU0.mono ?_; rintro r8 w8 ⟨v8, lo8, rfl, jx, ez, cJ⟩
          have P8 := zlM (jf.out.fr (F0.same cJ) (fun e => e)); have O8 := zlM (gq.out.fr (F0.same cJ) (fun e => e)); obtain ⟨a8, n8, k8, rfl⟩ := zab ez.1; have HW8 := zlM ez; have HL8 := zlM jx; have jV := zlM (F0.same cJ); have s0 := P8.out.cell 6; have s1 := P8.out.frozen 6; have s2 := (O8.out.far (p := ⟨bp, 6, none⟩) gK (.slice a8 n8 k8)).cell 0
          have s3 := (O8.out.far (p := ⟨bp, 6, none⟩) gK (.slice a8 n8 k8)).frozen 0; have s4 := O8.out.cell 0; have s5 := O8.out.frozen 0; simp at s0 s2 s4
          clear ez jx cJ))
     | go_region_held3 (fun w' => True)
        (trivial)
        ((go_at_call 88; refine hU0.mono ?_; rintro r8 w8 ⟨v8, lo8, rfl, jx, ez, cJ⟩
          have P8 := zlM (jf.out.fr (F0.same cJ) (fun e => e)); have O8 := zlM (gq.out.fr (F0.same cJ) (fun e => e)); obtain ⟨a8, n8, k8, rfl⟩ := zab ez.1; have HW8 := zlM ez; have HL8 := zlM jx; have jV := zlM (F0.same cJ); have s0 := P8.out.cell 6; have s1 := P8.out.frozen 6; have s2 := (O8.out.far (p := ⟨bp, 6, none⟩) gK (.slice a8 n8 k8)).cell 0
          have s3 := (O8.out.far (p := ⟨bp, 6, none⟩) gK (.slice a8 n8 k8)).frozen 0; have s4 := O8.out.cell 0; have s5 := O8.out.frozen 0; simp at s0 s2 s4
          clear ez jx cJ))
    go_end0; have e1 := jV.out.size; refine ⟨rfl, ?_, ?_, .slice a8 n8 k8, lo8, ?_, ?_, by rw [HL8.out]; exact rh.out⟩
    ·exact ((((kq.out.trans jV.out (fun _ _ e => e.elim)).mono (S' := fun k => k = bb ∨ k = bp ∨ k = bo) (fun _ _ e => .inl e)).setCell (p := ⟨bp, 6, none⟩) (.inl (.inr (.inl rfl))) _)).setCell (p := ⟨bo, 0, none⟩) (.inl (.inr (.inr rfl))) _
    ·rw [iT.out]
     simpa using (O8.out.far (p := ⟨bp, 6, none⟩) gK (.slice a8 n8 k8)).set_ 0 _
    ·simpa using (P8.out.set_ 6 (.slice a8 n8 k8)).far (p := ⟨bo, 0, none⟩) (Ne.symm gK) _
    ·have h8 : OwnI w.heap.size w8 (.slice a8 n8 k8) lo8 := HW8.out.mono (by simpa using kC)
     have hP9 := P8.out.lt; exact (h8.fr9 P8.out (.inl rfl) (Fr.put_ w8 bp 6 _)).fr9 (O8.out.far (p := ⟨bp, 6, none⟩) gK _) (.inr rfl) (Fr.put_ _ bo 0 _)
theorem read1_hsW : type_of% (zdi.1 trivial) := zdi.1 trivial
theorem read1_hsF : type_of% (zdi.2 trivial) := zdi.2 trivial
def zlH (ps : Array Value) : Prop := ∃ A0 m0 c0 A1 m1 c1 A2 m2 c2 A3 m3 c3 A4 m4 c4 A5 m5 c5 A6 m6 c6, ps = #[.slice A0 m0 c0, .slice A1 m1 c1, .slice A2 m2 c2, .slice A3 m3 c3, .slice A4 m4 c4, .slice A5 m5 c5, .slice A6 m6 c6]
def zin : Array Value := #[.slice none 0 0, .slice none 0 0, .slice none 0 0, .slice none 0 0, .slice none 0 0, .slice none 0 0, .slice none 0 0]
def R1Ends (L : Array Value -> World -> Prop) (okb : Bool) (w : World) (bb bp bo : Nat) (r : Ending) (w' : World) : Prop :=
 r = .returned (.tuple #[]) /\ Fr (fun k => k = bb ∨ k = bp ∨ k = bo) w w' /\ Blk w' bo 4 #[.bool okb] /\ ∃ ps, zlH ps /\ Blk w' bp 54 ps /\ L ps w'
def ReadDone (L : Array Value -> World -> Prop) (okb : Bool) (w : World) (r : Ending) (w' : World) : Prop :=
 ∃ ps, r = .returned (.tuple #[.agg ps, .bool okb]) /\ zlH ps /\ (okb = true -> L ps w') /\ (okb = false -> ps = zin) /\ Fr (fun _ => False) w w'
def zjf (W W' : World) : Prop := Fr (fun k => ∃ cs, Blk W k 4 cs ∨ Blk W k 54 cs) W W'
theorem laidR_mk (w : World) (kind bv : Value) (q : Array Value) :
 let W := ((((w.alloc (.cells #[kind] 3)).alloc (.cells #[bv] 44)).alloc (.cells q 54)).alloc (.cells zin 54)).alloc (.cells #[.bool false] 4)
 Blk W w.heap.size 3 #[kind] /\ Blk W (w.heap.size + 1) 44 #[bv] /\ Blk W (w.heap.size + 2) 54 q /\ Blk W (w.heap.size + 3) 54 zin /\ Blk W (w.heap.size + 4) 4 #[.bool false] /\ Fr (fun _ => False) w W /\ W.heap.size = w.heap.size + 5 := by
 intro W; have e : ∀ (w : World) (o : Obj), (w.alloc o).heap.size = w.heap.size + 1 := fun w o => by simp
 refine ⟨?_, ?_, ?_, ?_, ?_, ?_, ?_⟩
 ·exact ((((zmS w 3 _).alloc _).alloc _).alloc _).alloc _
 ·have := (((zmS (w.alloc (.cells #[kind] 3)) 44 #[bv]).alloc (.cells q 54)).alloc (.cells zin 54)).alloc (.cells #[.bool false] 4)
  rwa [e] at this
 ·have := ((zmS ((w.alloc (.cells #[kind] 3)).alloc (.cells #[bv] 44)) 54 q).alloc (.cells zin 54)).alloc (.cells #[.bool false] 4)
  rwa [e, e] at this
 ·have := (zmS (((w.alloc (.cells #[kind] 3)).alloc (.cells #[bv] 44)).alloc (.cells q 54)) 54 zin).alloc (.cells #[.bool false] 4)
  rwa [e, e, e] at this
 ·have := zmS ((((w.alloc (.cells #[kind] 3)).alloc (.cells #[bv] 44)).alloc (.cells q 54)).alloc (.cells zin 54)) 4 #[.bool false]
  rwa [e, e, e, e] at this
 ·exact (((((zmR _ w).alloc _).alloc _).alloc _).alloc _).alloc _
 ·simp [W]
theorem zfU {w : World} {b : Nat} {t : TypeId} {a0 a1 a2 a3 a4 a5 a6 : Value} (u0 u1 u2 u3 u4 u5 u6 : Value) (h : Blk w b t #[a0, a1, a2, a3, a4, a5, a6]) :
 Blk (((((((w.setCell ⟨b, 0, none⟩ u0).setCell ⟨b, 1, none⟩ u1).setCell ⟨b, 2, none⟩ u2).setCell ⟨b, 3, none⟩ u3).setCell ⟨b, 4, none⟩ u4).setCell ⟨b, 5, none⟩ u5).setCell ⟨b, 6, none⟩ u6) b t #[u0, u1, u2, u3, u4, u5, u6] := by
 have := ((((((h.set_ 0 u0).set_ 1 u1).set_ 2 u2).set_ 3 u3).set_ 4 u4).set_ 5 u5).set_ 6 u6; simpa using this
theorem zei {S : Nat -> Prop} {w0 w : World} {b : Nat} (u0 u1 u2 u3 u4 u5 u6 : Value) (h : Fr S w0 w) (hb : S b ∨ w0.heap.size <= b) :
 Fr S w0 (((((((w.setCell ⟨b, 0, none⟩ u0).setCell ⟨b, 1, none⟩ u1).setCell ⟨b, 2, none⟩ u2).setCell ⟨b, 3, none⟩ u3).setCell ⟨b, 4, none⟩ u4).setCell ⟨b, 5, none⟩ u5).setCell ⟨b, 6, none⟩ u6) :=
 ((((((h.setCell (p := ⟨b, 0, none⟩) hb u0).setCell (p := ⟨b, 1, none⟩) hb u1).setCell (p := ⟨b, 2, none⟩) hb u2).setCell (p := ⟨b, 3, none⟩) hb u3).setCell (p := ⟨b, 4, none⟩) hb u4).setCell (p := ⟨b, 5, none⟩) hb u5).setCell (p := ⟨b, 6, none⟩) hb u6
theorem zbm (kind : Int) (q0 q1 q2 q3 q4 q5 q6 bv : Value) (xs : List UInt8) (P : Nat -> Prop) (L : Array Value -> World -> Prop) (okb : Bool) (w : World) (hb : Sl P w bv 1 xs.length (bc xs))
 (au : ∀ s ∈ [q0, q1, q2, q3, q4, q5, q6], ∃ A m c, s = .slice A m c)
 (hL : ∀ ps W W', L ps W -> zjf W W' -> L ps W')
 (hc : ∀ (bb bk bq bp bo : Nat) (W : World), Blk W bk 3 #[.int .i64 kind] -> Blk W bb 44 #[bv] -> Blk W bq 54 #[q0, q1, q2, q3, q4, q5, q6] -> Blk W bp 54 zin -> Blk W bo 4 #[.bool false] -> w.heap.size <= bb -> w.heap.size <= bp -> w.heap.size <= bo -> bp ≠ bq -> Fr (fun _ => False) w W ->
   Calls prog 66 #[.pointer (some ⟨bb, 0, none⟩), .pointer (some ⟨bk, 0, none⟩), .pointer (some ⟨bq, 0, none⟩), .pointer (some ⟨bp, 0, none⟩), .pointer (some ⟨bo, 0, none⟩)] W (R1Ends L okb W bb bp bo)) :
 Calls prog 29 #[.int .i64 kind, bv, .agg #[q0, q1, q2, q3, q4, q5, q6]] w (ReadDone L okb w) := by
 have HB := zlM hb; have HC := zlM hc; have HL := zlM hL; have hbv : ∃ A m c, bv = .slice A m c := let ⟨A, c, h, _⟩ := hb; ⟨A, _, c, h⟩
 obtain ⟨A, m, c, rfl⟩ := hbv; obtain ⟨A0, m0, c0, rfl⟩ := au q0 (by simp); obtain ⟨A1, m1, c1, rfl⟩ := au q1 (by simp); obtain ⟨A2, m2, c2, rfl⟩ := au q2 (by simp); obtain ⟨A3, m3, c3, rfl⟩ := au q3 (by simp); obtain ⟨A4, m4, c4, rfl⟩ := au q4 (by simp); obtain ⟨A5, m5, c5, rfl⟩ := au q5 (by simp); obtain ⟨A6, m6, c6, rfl⟩ := au q6 (by simp); clear hb hc hL au
 have hmf : ∀ (fn : Fn) (first aP : Array Value) (w : World), (Instr.makeFunc fn first aP).run prog w = .ok (.func fn first aP) w := fun _ _ _ _ => rfl; go_enter func29, ntmps29; go_wp2_with (go_at_call 65; refine Hid.out ?_)
 have hM := laidR_mk w (.int .i64 kind) (.slice A m c) #[.slice A0 m0 c0, .slice A1 m1 c1, .slice A2 m2 c2, .slice A3 m3 c3, .slice A4 m4 c4, .slice A5 m5 c5, .slice A6 m6 c6]; dsimp only at hM; unfold zin at hM; generalize hW : World.alloc _ (Obj.cells #[.bool false] 4) = W at hM ⊢; obtain ⟨B0, B1, B2, B3, B4, hF, hS⟩ := hM; clear hW
 have fV := HC.out (w.heap.size + 1) w.heap.size (w.heap.size + 1 + 1) (w.heap.size + 1 + 1 + 1) (w.heap.size + 1 + 1 + 1 + 1) _ (B0.alloc (.cells #[.bool false] 4)) (B1.alloc _) (B2.alloc _) (B3.alloc _) (B4.alloc _) (by omega) (by omega) (by omega) (by omega) (hF.alloc _)
 have fK := safe_ok 66 _ W _ (enters_of func66 (by kernel_rfl) rfl) (fV.mono (fun r w' hr => ⟨hr.1, hr.2, (zmS W 4 #[.bool false]).fr hr.2.1 (by
  rintro (h | h | h) <;> omega)⟩))
 have HF := zlM hF; have HS := zlM hS; clear fV B0 B1 B2 B3 B4 hF hS HC HB; refine zlM ?_; refine fK.mono ?_; rintro r w4 ⟨rfl, w5, hq, ch, rfl⟩; obtain ⟨qF, qO, ps, qS, qP, qL⟩ := hq; obtain ⟨D0, n0, e0, D1, n1, e1, D2, n2, e2, D3, n3, e3, D4, n4, e4, D5, n5, e5, D6, n6, e6, rfl⟩ := qS; have hS := HS.out
 have r7 := (qO.far (p := ⟨W.heap.size, 0, none⟩) (by show w.heap.size + 1 + 1 + 1 + 1 ≠ W.heap.size; omega) (.bool true)).far (p := ⟨W.heap.size, 0, none⟩) (by show w.heap.size + 1 + 1 + 1 + 1 ≠ W.heap.size; omega) (.bool true)
 have r6 := (qP.far (p := ⟨W.heap.size, 0, none⟩) (by show w.heap.size + 1 + 1 + 1 ≠ W.heap.size; omega) (.bool true)).far (p := ⟨W.heap.size, 0, none⟩) (by show w.heap.size + 1 + 1 + 1 ≠ W.heap.size; omega) (.bool true); have v5 : zjf w5 ((w5.setCell ⟨W.heap.size, 0, none⟩ (.bool true)).setCell ⟨W.heap.size, 0, none⟩ (.bool true)) :=
  ((zmR _ w5).setCell (p := ⟨W.heap.size, 0, none⟩) (.inl ⟨_, .inl ch⟩) _).setCell (p := ⟨W.heap.size, 0, none⟩) (.inl ⟨_, .inl ch⟩) _
 have f5 : Fr (fun _ => False) w ((w5.setCell ⟨W.heap.size, 0, none⟩ (.bool true)).setCell ⟨W.heap.size, 0, none⟩ (.bool true)) := by
  have bN := HF.out.size; refine Fr.setCell (Fr.setCell ?_ (p := ⟨W.heap.size, 0, none⟩) (.inr bN) _) (p := ⟨W.heap.size, 0, none⟩) (.inr bN) _; refine (HF.out.alloc (.cells #[.bool false] 4)).trans qF ?_; rintro k hk (h | h | h) <;> omega
 have kl := HL.out _ _ _ qL v5; refine Hid.out ?_; clear qF qO qP qL ch fK hS; generalize World.setCell _ _ _ = w6 at r6 r7 v5 f5 kl ⊢; have l7 := r7.cell 0; have l60 := r6.cell 0; have l61 := r6.cell 1; have l62 := r6.cell 2; have l63 := r6.cell 3; have l64 := r6.cell 4; have l65 := r6.cell 5; have l66 := r6.cell 6; have z60 := r6.frozen 0; have z61 := r6.frozen 1; have z62 := r6.frozen 2
 have z63 := r6.frozen 3; have z64 := r6.frozen 4; have z65 := r6.frozen 5; have z66 := r6.frozen 6; have z7 := r7.frozen 0; simp at l7; simp only [zl7, zl5, zl6] at l60 l61 l62 l63 l64 l65 l66; have R6 := zlM r6; have R7 := zlM r7; have F6 := zlM f5; have jT := zlM kl; clear v5 f5 kl; cases okb with
 | false =>
   refine zlM ?_; go_wp2_with fail
   have g7 := (zfU (.slice none 0 0) (.slice none 0 0) (.slice none 0 0) (.slice none 0 0) (.slice none 0 0) (.slice none 0 0) (.slice none 0 0) R6.out).far (p := ⟨w.heap.size + 1 + 1 + 1 + 1, 0, none⟩) (by show w.heap.size + 1 + 1 + 1 ≠ w.heap.size + 1 + 1 + 1 + 1; omega) (.bool false)
   have F7 := (zei (.slice none 0 0) (.slice none 0 0) (.slice none 0 0) (.slice none 0 0) (.slice none 0 0) (.slice none 0 0) (.slice none 0 0) F6.out (b := w.heap.size + 1 + 1 + 1) (.inr (by omega))).setCell (p := ⟨w.heap.size + 1 + 1 + 1 + 1, 0, none⟩) (.inr (by show w.heap.size <= w.heap.size + 1 + 1 + 1 + 1; omega)) (.bool false)
   have V7 : zjf w6 _ := (zei (.slice none 0 0) (.slice none 0 0) (.slice none 0 0) (.slice none 0 0) (.slice none 0 0) (.slice none 0 0) (.slice none 0 0) (zmR (fun k => ∃ cs, Blk w6 k 4 cs ∨ Blk w6 k 54 cs) w6) (b := w.heap.size + 1 + 1 + 1) (.inl ⟨_, .inr R6.out⟩)).setCell (p := ⟨w.heap.size + 1 + 1 + 1 + 1, 0, none⟩) (.inl ⟨_, .inl R7.out⟩) (.bool false)
   have o7 : (World.setCell (((((((w6.setCell ⟨w.heap.size + 1 + 1 + 1, 0, none⟩ (.slice none 0 0)).setCell ⟨w.heap.size + 1 + 1 + 1, 1, none⟩ (.slice none 0 0)).setCell ⟨w.heap.size + 1 + 1 + 1, 2, none⟩ (.slice none 0 0)).setCell ⟨w.heap.size + 1 + 1 + 1, 3, none⟩ (.slice none 0 0)).setCell ⟨w.heap.size + 1 + 1 + 1, 4, none⟩ (.slice none 0 0)).setCell ⟨w.heap.size + 1 + 1 + 1, 5, none⟩ (.slice none 0 0)).setCell ⟨w.heap.size + 1 + 1 + 1, 6, none⟩ (.slice none 0 0)) ⟨w.heap.size + 1 + 1 + 1 + 1, 0, none⟩ (.bool false)).cell? ⟨w.heap.size + 1 + 1 + 1 + 1, 0, none⟩ = some (.bool false) := by
    have h := R7.out; have e : ∀ i, w.heap.size + 1 + 1 + 1 + 1 ≠ (Addr.mk (w.heap.size + 1 + 1 + 1) i none).block := fun i => by show w.heap.size + 1 + 1 + 1 + 1 ≠ w.heap.size + 1 + 1 + 1; omega
    have h2 := ((((((((h.far (e 0) (.slice none 0 0)).far (e 1) (.slice none 0 0)).far (e 2) (.slice none 0 0)).far (e 3) (.slice none 0 0)).far (e 4) (.slice none 0 0)).far (e 5) (.slice none 0 0)).far (e 6) (.slice none 0 0)).set_ 0 (.bool false)).cell 0; simpa using h2
   generalize (World.setCell (World.setCell _ _ _) ⟨w.heap.size + 1 + 1 + 1 + 1, 0, none⟩ (.bool false)) = w7 at g7 F7 V7 o7 ⊢; have t0 := g7.cell 0; have t1 := g7.cell 1; have t2 := g7.cell 2; have t3 := g7.cell 3; have t4 := g7.cell 4; have t5 := g7.cell 5; have t6 := g7.cell 6; simp only [zl7, zl5, zl6] at t0 t1 t2 t3 t4 t5 t6
   have oc := zlM F7; have HV7 := zlM V7; clear F7 V7 g7; simp [Exit.then, bodyPost, results, results29, go_sem, t0, t1, t2, t3, t4, t5, t6, o7]; exact ⟨zin, rfl, ⟨_, _, _, _, _, _, _, _, _, _, _, _, _, _, _, _, _, _, _, _, _, rfl⟩, (fun h => by cases h), (fun _ => rfl), oc.out⟩
 | true =>
   refine zlM ?_; go_wp2_with fail
   have g7 := (zfU (.slice D0 n0 e0) (.slice D1 n1 e1) (.slice D2 n2 e2) (.slice D3 n3 e3) (.slice D4 n4 e4) (.slice D5 n5 e5) (.slice D6 n6 e6) R6.out).far (p := ⟨w.heap.size + 1 + 1 + 1 + 1, 0, none⟩) (by show w.heap.size + 1 + 1 + 1 ≠ w.heap.size + 1 + 1 + 1 + 1; omega) (.bool true)
   have F7 := (zei (.slice D0 n0 e0) (.slice D1 n1 e1) (.slice D2 n2 e2) (.slice D3 n3 e3) (.slice D4 n4 e4) (.slice D5 n5 e5) (.slice D6 n6 e6) F6.out (b := w.heap.size + 1 + 1 + 1) (.inr (by omega))).setCell (p := ⟨w.heap.size + 1 + 1 + 1 + 1, 0, none⟩) (.inr (by show w.heap.size <= w.heap.size + 1 + 1 + 1 + 1; omega)) (.bool true)
   have V7 : zjf w6 _ := (zei (.slice D0 n0 e0) (.slice D1 n1 e1) (.slice D2 n2 e2) (.slice D3 n3 e3) (.slice D4 n4 e4) (.slice D5 n5 e5) (.slice D6 n6 e6) (zmR (fun k => ∃ cs, Blk w6 k 4 cs ∨ Blk w6 k 54 cs) w6) (b := w.heap.size + 1 + 1 + 1) (.inl ⟨_, .inr R6.out⟩)).setCell (p := ⟨w.heap.size + 1 + 1 + 1 + 1, 0, none⟩) (.inl ⟨_, .inl R7.out⟩) (.bool true)
   have o7 : (World.setCell (((((((w6.setCell ⟨w.heap.size + 1 + 1 + 1, 0, none⟩ (.slice D0 n0 e0)).setCell ⟨w.heap.size + 1 + 1 + 1, 1, none⟩ (.slice D1 n1 e1)).setCell ⟨w.heap.size + 1 + 1 + 1, 2, none⟩ (.slice D2 n2 e2)).setCell ⟨w.heap.size + 1 + 1 + 1, 3, none⟩ (.slice D3 n3 e3)).setCell ⟨w.heap.size + 1 + 1 + 1, 4, none⟩ (.slice D4 n4 e4)).setCell ⟨w.heap.size + 1 + 1 + 1, 5, none⟩ (.slice D5 n5 e5)).setCell ⟨w.heap.size + 1 + 1 + 1, 6, none⟩ (.slice D6 n6 e6)) ⟨w.heap.size + 1 + 1 + 1 + 1, 0, none⟩ (.bool true)).cell? ⟨w.heap.size + 1 + 1 + 1 + 1, 0, none⟩ = some (.bool true) := by
    have h := R7.out; have e : ∀ i, w.heap.size + 1 + 1 + 1 + 1 ≠ (Addr.mk (w.heap.size + 1 + 1 + 1) i none).block := fun i => by show w.heap.size + 1 + 1 + 1 + 1 ≠ w.heap.size + 1 + 1 + 1; omega
    have h2 := ((((((((h.far (e 0) (.slice D0 n0 e0)).far (e 1) (.slice D1 n1 e1)).far (e 2) (.slice D2 n2 e2)).far (e 3) (.slice D3 n3 e3)).far (e 4) (.slice D4 n4 e4)).far (e 5) (.slice D5 n5 e5)).far (e 6) (.slice D6 n6 e6)).set_ 0 (.bool true)).cell 0; simpa using h2
   generalize (World.setCell (World.setCell _ _ _) ⟨w.heap.size + 1 + 1 + 1 + 1, 0, none⟩ (.bool true)) = w7 at g7 F7 V7 o7 ⊢; have t0 := g7.cell 0; have t1 := g7.cell 1; have t2 := g7.cell 2; have t3 := g7.cell 3; have t4 := g7.cell 4; have t5 := g7.cell 5; have t6 := g7.cell 6; simp only [zl7, zl5, zl6] at t0 t1 t2 t3 t4 t5 t6
   have oc := zlM F7; have HV7 := zlM V7; clear F7 V7 g7; simp [Exit.then, bodyPost, results, results29, go_sem, t0, t1, t2, t3, t4, t5, t6, o7]; exact ⟨_, rfl, ⟨_, _, _, _, _, _, _, _, _, _, _, _, _, _, _, _, _, _, _, _, _, rfl⟩, (fun _ => HL.out _ _ _ jT.out HV7.out), (fun h => by cases h), oc.out⟩
end Go.Proofs.YtbkookiigkckdaaGreatDoor
