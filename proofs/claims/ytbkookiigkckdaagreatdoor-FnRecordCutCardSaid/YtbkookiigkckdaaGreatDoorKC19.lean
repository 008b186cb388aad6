/- Texts of this seat, merged and shortened. -/
import Derived.Test.YtbkookiigkckdaaGreatDoorKC16
import Derived.Test.YtbkookiigkckdaaGreatDoorKC18
set_option linter.unusedVariables false
set_option linter.unusedSimpArgs false
set_option maxRecDepth 100000
set_option maxHeartbeats 8000000
namespace Go.Proofs.YtbkookiigkckdaaGreatDoor
open Go.RowKit Go.Proofs.Tryz
def UnX (w : World) (h : Hst) (r : Ending) (w' : World) : Prop :=
 ∃ (A1 : Option Addr) (m1 c1 : Nat) (A2 : Option Addr) (m2 c2 : Nat) (A3 : Option Addr) (m3 c3 : Nat) (A4 : Option Addr) (m4 c4 : Nat) (A5 : Option Addr) (m5 c5 : Nat) (A6 : Option Addr) (m6 c6 : Nat) (A7 : Option Addr) (m7 c7 : Nat), r = .returned (.agg #[.int .u8 h.hint.toNat, .int .i32 h.schema, .int .u64 h.thr, .int .u64 h.sum, .int .u64 h.zc, .int .u64 h.cnt, .slice A1 m1 c1, .slice A2 m2 c2, .slice A3 m3 c3, .slice A4 m4 c4, .slice A5 m5 c5, .slice A6 m6 c6, .slice A7 m7 c7]) /\ OwnHs w.heap.size w' h ⟨.slice A1 m1 c1, .slice A2 m2 c2, .slice A3 m3 c3, .slice A4 m4 c4, .slice A5 m5 c5, .slice A6 m6 c6, .slice A7 m7 c7⟩ /\ Fr (fun _ => False) w w'
def UnHEnds (w : World) (l : List Rhs) (r : Ending) (w' : World) : Prop :=
 ∃ v lu, r = .returned v /\ lu.map Prod.fst = l /\ OwnI w.heap.size w' v lu /\ Fr (fun _ => False) w w'
theorem ziN (P : Nat -> Prop) (h : Hst) (v : Value) (w : World) (hr : RdW P w h v) (hl : h.few 1099511627776) : Calls prog 176 #[v] w (UnX w h.cutW) := by
 refine (zjN P h v w hr hl).mono ?_; rintro r w' ⟨⟨p, n, u, d, fu, fd, c⟩, rfl, ho, hf, hs⟩; obtain ⟨A1, m1, c1, rfl⟩ := hs p (by simp); obtain ⟨A2, m2, c2, rfl⟩ := hs n (by simp); obtain ⟨A3, m3, c3, rfl⟩ := hs u (by simp); obtain ⟨A4, m4, c4, rfl⟩ := hs d (by simp); obtain ⟨A5, m5, c5, rfl⟩ := hs fu (by simp); obtain ⟨A6, m6, c6, rfl⟩ := hs fd (by simp)
 obtain ⟨A7, m7, c7, rfl⟩ := hs c (by simp); exact ⟨A1, m1, c1, A2, m2, c2, A3, m3, c3, A4, m4, c4, A5, m5, c5, A6, m6, c6, A7, m7, c7, rfl, ho, hf⟩
theorem zh3 (P : Nat -> Prop) (h : Hst) (v : Value) (w : World) (hr : RdF P w h v) (hl : h.few 1099511627776) : Calls prog 179 #[v] w (UnX w h.cutF) := by
 refine (ziO P h v w hr hl).mono ?_; rintro r w' ⟨⟨p, n, u, d, fu, fd, c⟩, rfl, ho, hf, hs⟩; obtain ⟨A1, m1, c1, rfl⟩ := hs p (by simp); obtain ⟨A2, m2, c2, rfl⟩ := hs n (by simp); obtain ⟨A3, m3, c3, rfl⟩ := hs u (by simp); obtain ⟨A4, m4, c4, rfl⟩ := hs d (by simp); obtain ⟨A5, m5, c5, rfl⟩ := hs fu (by simp); obtain ⟨A6, m6, c6, rfl⟩ := hs fd (by simp)
 obtain ⟨A7, m7, c7, rfl⟩ := hs c (by simp); exact ⟨A1, m1, c1, A2, m2, c2, A3, m3, c3, A4, m4, c4, A5, m5, c5, A6, m6, c6, A7, m7, c7, rfl, ho, hf⟩
theorem zbI : (∀ (_ : True) (P : Nat -> Prop) (v : Value) (lv : List (Rhs × Value)) (w : World) (h : RdHW P w v lv) (hl : lv.length <= 1048576) (aP : ∀ p ∈ lv, p.1.h.few 1099511627776),
 Calls prog 85 #[v] w (UnHEnds w (lv.map fun p => ({ p.1 with h := p.1.h.cutW } : Rhs)))) /\ (∀ (_ : True) (P : Nat -> Prop) (v : Value) (lv : List (Rhs × Value)) (w : World) (h : RdHF P w v lv) (hl : lv.length <= 1048576) (aP : ∀ p ∈ lv, p.1.h.few 1099511627776),
 Calls prog 88 #[v] w (UnHEnds w (lv.map fun p => ({ p.1 with h := p.1.h.cutF } : Rhs)))) := by
 refine ⟨fun ag P v lv w h hl aP => ?_, fun bY P v lv w h hl aP => ?_⟩; all_goals
  have mixed : prog.follows .mixedOrders = true := by kernel_rfl
  obtain ⟨⟨A, c, rfl, ak, aQ, hr⟩, cl⟩ := h; obtain ⟨n, hn⟩ := exE lv.length; rw [hn] at hr aQ hl ⊢; have HN := zmk hn; have HR := zmk hr; have HI := zmk cl
  have gq := zmk aP; obtain ⟨i0, aD, aA, az, aC⟩ := info_parts info194; clear hn hr ak cl aP
  first | (guard_hyp ag; go_enter func85, ntmps85) | (go_enter func88, ntmps88)
  go_wp2
  first | (guard_hyp ag; go_loopw [2, 7] (fun v i wr => ∃ (k : Nat) (lo : List (Rhs × Hsl)), k <= n /\ i = .int .i64 k /\ Hid (lo.map Prod.fst = (lv.take k).map fun p => ({ p.1 with h := p.1.h.cutW } : Rhs)) /\ Hid (lo.length = k) /\ Hid (OwnI w.heap.size wr v lo) /\ Hid (Fr (fun _ => False) w wr)) (fun _ i _ => n - (intOf i).toNat)) | (go_loopw [2, 7] (fun v i wr => ∃ (k : Nat) (lo : List (Rhs × Hsl)), k <= n /\ i = .int .i64 k /\ Hid (lo.map Prod.fst = (lv.take k).map fun p => ({ p.1 with h := p.1.h.cutF } : Rhs)) /\ Hid (lo.length = k) /\ Hid (OwnI w.heap.size wr v lo) /\ Hid (Fr (fun _ => False) w wr)) (fun _ i _ => n - (intOf i).toNat))
  case atStart => exact ⟨0, [], zmv _, rfl, zmk rfl, zmk rfl, zmk (OwnI.nil _ _), zmk (znq _ _)⟩
  case round =>
   obtain ⟨k, lo, hk, rfl, HM, ii, HO, HF⟩ := hrel; by_cases hlt : k < n
   ·obtain ⟨g, off, rfl, _, aa⟩ := HR.out (by omega)
    obtain ⟨x, hx⟩ : ∃ x, lv[k]? = some x := ⟨_, zmm (by rw [HN.out]; exact hlt)⟩; have cc : ∀ j, j < 3 -> ∀ u, (rhc x)[j]? = some u -> wr.cell? ⟨g, off + (k * 3 + j), none⟩ = some u := fun j hj u hu => by
     have := aa (k * 3 + j) u (by rw [zfc rhc (fun _ => rfl) lv k x hx j hj]; exact hu); rw [HF.out.cell (p := ⟨g, off + (k * 3 + j), none⟩) (zmr w _ this) (fun e => e)]; exact this
    have my : wr.cell? ⟨g, off + k * 3, none⟩ = some (.int .u64 x.1.ref) := cc 0 (by omega) _ rfl; have jb : wr.cell? ⟨g, off + k * 3 + 1, none⟩ = some (.int .i64 x.1.t) := cc 1 (by omega) _ rfl; have mx : wr.cell? ⟨g, off + k * 3 + 2, none⟩ = some x.2 := cc 2 (by omega) _ rfl; have aH := zms hx; have b8 := HI.out x aH; have bC := gq.out x aH; obtain ⟨⟨ref, t, h⟩, pv⟩ := x
    simp only [] at my jb mx b8 bC; have nc := b8; obtain ⟨gx, _, rfl, _⟩ := nc; have bG := HF.out.size; have HX := zmk hx
    first | (guard_hyp ag; have HC := zmk (fun W (hW : Fr (fun _ => False) w W) => ziN P h _ W (b8.fr hW (fun _ _ e => e)) bC)) | (have HC := zmk (fun W (hW : Fr (fun _ => False) w W) => zh3 P h _ W (b8.fr hW (fun _ _ e => e)) bC))
    obtain ⟨a', n', k', rfl⟩ := zac HO.out.1; clear aa cc hx aH b8 bC; go_wp2_with fail
    first | (guard_hyp ag; have dn := zmk (znr wr 290 #[.int .u64 ref, .int .i64 t, .pointer (some ⟨gx, 0, none⟩)])) | (have dn := zmk (znr wr 298 #[.int .u64 ref, .int .i64 t, .pointer (some ⟨gx, 0, none⟩)]))
    first | (guard_hyp ag; have F8 := zmk ((HF.out.alloc (.cells #[.int .u64 ref, .int .i64 t, .pointer (some ⟨gx, 0, none⟩)] 290)).drew)) | (have F8 := zmk ((HF.out.alloc (.cells #[.int .u64 ref, .int .i64 t, .pointer (some ⟨gx, 0, none⟩)] 298)).drew))
    have qY := ii.out; have jw : lo.length <= 1048576 := by omega
    first | (guard_hyp ag; have s0 : (wr.alloc (.cells #[.int .u64 ref, .int .i64 t, .pointer (some ⟨gx, 0, none⟩)] 290)).drew.cell? ⟨wr.heap.size, 0, none⟩ = some (.int .u64 ref) := dn.out.cell 0) | (have s0 : (wr.alloc (.cells #[.int .u64 ref, .int .i64 t, .pointer (some ⟨gx, 0, none⟩)] 298)).drew.cell? ⟨wr.heap.size, 0, none⟩ = some (.int .u64 ref) := dn.out.cell 0)
    first | (guard_hyp ag; have s1 : (wr.alloc (.cells #[.int .u64 ref, .int .i64 t, .pointer (some ⟨gx, 0, none⟩)] 290)).drew.cell? ⟨wr.heap.size, 1, none⟩ = some (.int .i64 t) := dn.out.cell 1) | (have s1 : (wr.alloc (.cells #[.int .u64 ref, .int .i64 t, .pointer (some ⟨gx, 0, none⟩)] 298)).drew.cell? ⟨wr.heap.size, 1, none⟩ = some (.int .i64 t) := dn.out.cell 1)
    first | (guard_hyp ag; have s2 : (wr.alloc (.cells #[.int .u64 ref, .int .i64 t, .pointer (some ⟨gx, 0, none⟩)] 290)).drew.cell? ⟨wr.heap.size, 2, none⟩ = some (.pointer (some ⟨gx, 0, none⟩)) := dn.out.cell 2) | (have s2 : (wr.alloc (.cells #[.int .u64 ref, .int .i64 t, .pointer (some ⟨gx, 0, none⟩)] 298)).drew.cell? ⟨wr.heap.size, 2, none⟩ = some (.pointer (some ⟨gx, 0, none⟩)) := dn.out.cell 2)
    go_region_held3 (fun w' => w'.cell? ⟨wr.heap.size, 0, none⟩ = some (.int .u64 ref) /\ w'.cell? ⟨wr.heap.size, 1, none⟩ = some (.int .i64 t) /\ w'.cell? ⟨wr.heap.size, 2, none⟩ = some (.pointer (some ⟨gx, 0, none⟩)))
     ((first | exact ⟨ef.out.cell 0, ef.out.cell 1, ef.out.cell 2⟩ | exact ⟨(cG.out.alloc _).cell 0, (cG.out.alloc _).cell 1, (cG.out.alloc _).cell 2⟩ | exact ⟨cG.out.cell 0, cG.out.cell 1, cG.out.cell 2⟩ | go_keep))
     ((first
       | (go_at_call 176; refine (HC.out _ F8.out).mono ?_; rintro r5 w5 ⟨A1, m1, c1, A2, m2, c2, A3, m3, c3, A4, m4, c4, A5, m5, c5, A6, m6, c6, A7, m7, c7, rfl, es, aq⟩; simp only [Hst.cutW]; have cG := zmk (dn.out.drew.fr aq (fun e => e)); have F5 := zmk (F8.out.same aq); have G5 := zmk ((((znq (fun _ => False) wr).alloc (.cells #[.int .u64 ref, .int .i64 t, .pointer (some ⟨gx, 0, none⟩)] 290)).drew).same aq); have O5 := zmk (HO.out.fr G5.out (fun _ _ _ e => e)); have iR := zmk (es.mono F8.out.size); have lO := F5.out.size)
       | (go_at_call 179; refine (HC.out _ F8.out).mono ?_; rintro r5 w5 ⟨A1, m1, c1, A2, m2, c2, A3, m3, c3, A4, m4, c4, A5, m5, c5, A6, m6, c6, A7, m7, c7, rfl, es, aq⟩; simp only [Hst.cutF]; have cG := zmk (dn.out.drew.fr aq (fun e => e)); have F5 := zmk (F8.out.same aq); have G5 := zmk ((((znq (fun _ => False) wr).alloc (.cells #[.int .u64 ref, .int .i64 t, .pointer (some ⟨gx, 0, none⟩)] 298)).drew).same aq); have O5 := zmk (HO.out.fr G5.out (fun _ _ _ e => e)); have iR := zmk (es.mono F8.out.size); have lO := F5.out.size)
       | (refine zat _ (by rfl) _ _ 52 52 (by rfl) w.heap.size 194 i0 _ 15 224 underlying52 aD aA az aC rfl (by decide) (.slice a' n' k') lo.length (lo.flatMap hsc) (by rfl) (O5.out.1.alloc _) _ 1 [.int .u64 ref, .int .i64 t, .int .u8 h.hint.toNat, .int .i32 h.schema, .int .u64 h.thr, .int .u64 h.sum, .int .u64 h.zc, .int .u64 h.cnt, .slice A1 m1 c1, .slice A2 m2 c2, .slice A3 m3 c3, .slice A4 m4 c4, .slice A5 m5 c5, .slice A6 m6 c6, .slice A7 m7 c7] (by rfl) (zaH underlying52 (znr w5 194 #[.int .u64 ref, .int .i64 t, .int .u8 h.hint.toNat, .int .i32 h.schema, .int .u64 h.thr, .int .u64 h.sum, .int .u64 h.zc, .int .u64 h.cnt, .slice A1 m1 c1, .slice A2 m2 c2, .slice A3 m3 c3, .slice A4 m4 c4, .slice A5 m5 c5, .slice A6 m6 c6, .slice A7 m7 c7]) rfl (by simp [Value.oneCell'])) (by unfold maxLen; omega) (by omega) (by simp; omega) ?_; intro v' w2 ac ad ax; have ef := zmk ((cG.out.alloc (.cells #[.int .u64 ref, .int .i64 t, .int .u8 h.hint.toNat, .int .i32 h.schema, .int .u64 h.thr, .int .u64 h.sum, .int .u64 h.zc, .int .u64 h.cnt, .slice A1 m1 c1, .slice A2 m2 c2, .slice A3 m3 c3, .slice A4 m4 c4, .slice A5 m5 c5, .slice A6 m6 c6, .slice A7 m7 c7] 194)).grown ad (fun e => zm4 _ (zas HO.out.1 e.symm))))))
    first
     | guard_hyp ag
       have aU : OwnI w.heap.size w2 v' (lo ++ [(⟨ref, t, h.cutW⟩, ⟨.slice A1 m1 c1, .slice A2 m2 c2, .slice A3 m3 c3, .slice A4 m4 c4, .slice A5 m5 c5, .slice A6 m6 c6, .slice A7 m7 c7⟩)]) :=
        OwnI.push (p := (⟨ref, t, h.cutW⟩, ⟨.slice A1 m1 c1, .slice A2 m2 c2, .slice A3 m3 c3, .slice A4 m4 c4, .slice A5 m5 c5, .slice A6 m6 c6, .slice A7 m7 c7⟩)) (O5.out.fr ((znq (fun _ => False) w5).alloc (.cells #[.int .u64 ref, .int .i64 t, .int .u8 h.hint.toNat, .int .i32 h.schema, .int .u64 h.thr, .int .u64 h.sum, .int .u64 h.zc, .int .u64 h.cnt, .slice A1 m1 c1, .slice A2 m2 c2, .slice A3 m3 c3, .slice A4 m4 c4, .slice A5 m5 c5, .slice A6 m6 c6, .slice A7 m7 c7] 194)) (fun _ _ _ e => e)) (iR.out.fr ((znq (fun _ => False) w5).alloc (.cells #[.int .u64 ref, .int .i64 t, .int .u8 h.hint.toNat, .int .i32 h.schema, .int .u64 h.thr, .int .u64 h.sum, .int .u64 h.zc, .int .u64 h.cnt, .slice A1 m1 c1, .slice A2 m2 c2, .slice A3 m3 c3, .slice A4 m4 c4, .slice A5 m5 c5, .slice A6 m6 c6, .slice A7 m7 c7] 194)) (fun _ _ _ e => e)) ad ac
     | have aU : OwnI w.heap.size w2 v' (lo ++ [(⟨ref, t, h.cutF⟩, ⟨.slice A1 m1 c1, .slice A2 m2 c2, .slice A3 m3 c3, .slice A4 m4 c4, .slice A5 m5 c5, .slice A6 m6 c6, .slice A7 m7 c7⟩)]) :=
        OwnI.push (p := (⟨ref, t, h.cutF⟩, ⟨.slice A1 m1 c1, .slice A2 m2 c2, .slice A3 m3 c3, .slice A4 m4 c4, .slice A5 m5 c5, .slice A6 m6 c6, .slice A7 m7 c7⟩)) (O5.out.fr ((znq (fun _ => False) w5).alloc (.cells #[.int .u64 ref, .int .i64 t, .int .u8 h.hint.toNat, .int .i32 h.schema, .int .u64 h.thr, .int .u64 h.sum, .int .u64 h.zc, .int .u64 h.cnt, .slice A1 m1 c1, .slice A2 m2 c2, .slice A3 m3 c3, .slice A4 m4 c4, .slice A5 m5 c5, .slice A6 m6 c6, .slice A7 m7 c7] 194)) (fun _ _ _ e => e)) (iR.out.fr ((znq (fun _ => False) w5).alloc (.cells #[.int .u64 ref, .int .i64 t, .int .u8 h.hint.toNat, .int .i32 h.schema, .int .u64 h.thr, .int .u64 h.sum, .int .u64 h.zc, .int .u64 h.cnt, .slice A1 m1 c1, .slice A2 m2 c2, .slice A3 m3 c3, .slice A4 m4 c4, .slice A5 m5 c5, .slice A6 m6 c6, .slice A7 m7 c7] 194)) (fun _ _ _ e => e)) ad ac
    have bM : Fr (fun _ => False) w w2 := (F5.out.alloc _).grown ad (fun g hg => .inr ((HO.out.1.lt g hg).1))
    first
     | guard_hyp ag
       have cf : (lo ++ [((⟨ref, t, h.cutW⟩ : Rhs), (⟨.slice A1 m1 c1, .slice A2 m2 c2, .slice A3 m3 c3, .slice A4 m4 c4, .slice A5 m5 c5, .slice A6 m6 c6, .slice A7 m7 c7⟩ : Hsl))]).map Prod.fst = (lv.take (k + 1)).map fun p => ({ p.1 with h := p.1.h.cutW } : Rhs) := by
        rw [zmV, HX.out, zmK, zmK, HM.out]; rfl
     | have cf : (lo ++ [((⟨ref, t, h.cutF⟩ : Rhs), (⟨.slice A1 m1 c1, .slice A2 m2 c2, .slice A3 m3 c3, .slice A4 m4 c4, .slice A5 m5 c5, .slice A6 m6 c6, .slice A7 m7 c7⟩ : Hsl))]).map Prod.fst = (lv.take (k + 1)).map fun p => ({ p.1 with h := p.1.h.cutF } : Rhs) := by
        rw [zmV, HX.out, zmK, zmK, HM.out]; rfl
    first | (guard_hyp ag; have cI : (lo ++ [((⟨ref, t, h.cutW⟩ : Rhs), (⟨.slice A1 m1 c1, .slice A2 m2 c2, .slice A3 m3 c3, .slice A4 m4 c4, .slice A5 m5 c5, .slice A6 m6 c6, .slice A7 m7 c7⟩ : Hsl))]).length = k + 1 := by rw [zml, ii.out]; rfl) | (have cI : (lo ++ [((⟨ref, t, h.cutF⟩ : Rhs), (⟨.slice A1 m1 c1, .slice A2 m2 c2, .slice A3 m3 c3, .slice A4 m4 c4, .slice A5 m5 c5, .slice A6 m6 c6, .slice A7 m7 c7⟩ : Hsl))]).length = k + 1 := by rw [zml, ii.out]; rfl)
    have NO := zmk aU; have NF := zmk bM; have NM := zmk cf; have NN := zmk cI; clear aU bM cf cI ac ad ax my jb mx s0 s1 s2 aq ef O5 iR es HC; go_wp2; go_roundw
    case rel => exact ⟨k + 1, _, by omega, by go_num, NM, NN, NO, NF⟩
    case measure => simp [intOf]; omega
   ·go_wp2
    go_ret; obtain rfl : k = n := by omega
    refine ⟨_, lo, rfl, ?_, HO.out, HF.out⟩; rw [HM.out, <- HN.out, zmL]
theorem zd0 : type_of% (zbI.1 trivial) := zbI.1 trivial
theorem zfA : type_of% (zbI.2 trivial) := zbI.2 trivial
def zfD (pre : List Rhs) (xs : List UInt8) : List Rhs := match zci xs with | some l => (pre ++ l).map (fun x => { x with h := x.h.cutW }) | none => []
def zkN (w : World) (bb bp bo : Nat) (pre : List Rhs) (xs : List UInt8) (r : Ending) (w' : World) : Prop :=
 r = .returned (.tuple #[]) /\ Fr (fun k => k = bb ∨ k = bp ∨ k = bo) w w' /\ Blk w' bo 4 #[.bool (zci xs).isSome] /\
  ∃ lv lo, Blk w' bp 54 #[.slice none 0 0, .slice none 0 0, .slice none 0 0, .slice none 0 0, .slice none 0 0, .slice none 0 0, lv] /\ OwnI w.heap.size w' lv lo /\ lo.map Prod.fst = zfD pre xs
theorem zko {S : Nat -> Prop} {w w' : World} {base : Nat} {lo : List (Rhs × Value)} {xs : List UInt8} {r : Ending} (h : zdX S w base lo (zci xs) r w') :
 ∃ v' e l2, r = .returned (.tuple #[v', e]) /\ OwnHW base w' v' l2 /\ (l2.map fun p => ({ p.1 with h := p.1.h.cutW } : Rhs)) = zfD (lo.map Prod.fst) xs /\ Fr S w w' /\ ((e = .nilIface /\ (zci xs).isSome = true /\ ∀ l, zci xs = some l -> l2.map Prod.fst = lo.map Prod.fst ++ l) ∨ (∃ t a, e = .iface t a /\ (zci xs).isSome = false /\ l2 = [])) := by
 unfold zdX at h; unfold zfD; rcases hd : zci xs with _ | l
 ·rw [hd] at h
  obtain ⟨hf, t, a, rfl⟩ := h; exact ⟨_, _, [], rfl, OwnHW.nil _ _, rfl, hf, .inr ⟨_, _, rfl, rfl, rfl⟩⟩
 ·rw [hd] at h
  obtain ⟨hf, v', l3, rfl, eZ, ho⟩ := h; refine ⟨_, _, lo ++ l3, rfl, ho, ?_, hf, .inl ⟨rfl, rfl, fun l' e => ?_⟩⟩
  ·show _ = ((lo.map Prod.fst ++ l).map (fun x => ({ x with h := x.h.cutW } : Rhs)))
   rw [<- eZ, <- zmK, zno]; rfl
  ·injection e with e
   subst e; rw [zmK, eZ]
theorem OwnI.fr9 {base : Nat} {w w' : World} {v : Value} {lo : List (Rhs × Hsl)} {d t : Nat} {cs : Array Value} (h : OwnI base w v lo) (hb : Blk w d t cs) (ht : t = 54 ∨ t = 4) (hf : Fr (fun k => k = d) w w') : OwnI base w' v lo := by
 have go : ∀ {e : TypeId} {z n : Nat} {u : Value} {xs : List Value}, e ≠ t -> w.ownsRow base e z u n xs -> w'.ownsRow base e z u n xs := fun he o => zaj o hf (fun g hg e => zak o hb he (by rw [hg, e])); refine ⟨go (by rcases ht with rfl | rfl <;> decide) h.1, fun p hp => ?_⟩; obtain ⟨a1, a2, a3, a4, a5, a6, a7⟩ := h.2 p hp; have q1 : (319 : Nat) ≠ t := by rcases ht with rfl | rfl <;> decide
 have q2 : (2 : Nat) ≠ t := by rcases ht with rfl | rfl <;> decide
 have q3 : (111 : Nat) ≠ t := by rcases ht with rfl | rfl <;> decide
 exact ⟨go q1 a1, go q1 a2, go q2 a3, go q2 a4, go q3 a5, go q3 a6, go q3 a7⟩
theorem ze6 {W w5 w6 : World} {b t : Nat} {cs : Array Value} {v5 : Value} {lo : List (Rhs × Value)} (h : Blk W b t cs) (aq : Fr (fun _ => False) W.drew w5) (ho : OwnHW W.drew.heap.size w5 v5 lo) (aR : Fr (fun k => some k = v5.ownBlock) w5 w6) : Blk w6 b t cs :=
 (h.drew.fr aq (fun e => e)).fr aR (fun e => by have h1 := (ho.1.lt b e.symm).1; have h2 : b < W.heap.size := h.lt; exact zm4 _ (zmJ h2 h1))
def zfE (pre : List Rhs) (xs : List UInt8) : List Rhs := match zcj xs with | some l => (pre ++ l).map (fun x => { x with h := x.h.cutF }) | none => []
def zkO (w : World) (bb bp bo : Nat) (pre : List Rhs) (xs : List UInt8) (r : Ending) (w' : World) : Prop :=
 r = .returned (.tuple #[]) /\ Fr (fun k => k = bb ∨ k = bp ∨ k = bo) w w' /\ Blk w' bo 4 #[.bool (zcj xs).isSome] /\
  ∃ lv lo, Blk w' bp 54 #[.slice none 0 0, .slice none 0 0, .slice none 0 0, .slice none 0 0, .slice none 0 0, .slice none 0 0, lv] /\ OwnI w.heap.size w' lv lo /\ lo.map Prod.fst = zfE pre xs
theorem zkt {S : Nat -> Prop} {w w' : World} {base : Nat} {lo : List (Rhs × Value)} {xs : List UInt8} {r : Ending} (h : zdY S w base lo (zcj xs) r w') :
 ∃ v' e l2, r = .returned (.tuple #[v', e]) /\ OwnHF base w' v' l2 /\ (l2.map fun p => ({ p.1 with h := p.1.h.cutF } : Rhs)) = zfE (lo.map Prod.fst) xs /\ Fr S w w' /\ ((e = .nilIface /\ (zcj xs).isSome = true /\ ∀ l, zcj xs = some l -> l2.map Prod.fst = lo.map Prod.fst ++ l) ∨ (∃ t a, e = .iface t a /\ (zcj xs).isSome = false /\ l2 = [])) := by
 unfold zdY at h; unfold zfE; rcases hd : zcj xs with _ | l
 ·rw [hd] at h
  obtain ⟨hf, t, a, rfl⟩ := h; exact ⟨_, _, [], rfl, OwnHF.nil _ _, rfl, hf, .inr ⟨_, _, rfl, rfl, rfl⟩⟩
 ·rw [hd] at h
  obtain ⟨hf, v', l3, rfl, eZ, ho⟩ := h; refine ⟨_, _, lo ++ l3, rfl, ho, ?_, hf, .inl ⟨rfl, rfl, fun l' e => ?_⟩⟩
  ·show _ = ((lo.map Prod.fst ++ l).map (fun x => ({ x with h := x.h.cutF } : Rhs)))
   rw [<- eZ, <- zmK, zno]; rfl
  ·injection e with e
   subst e; rw [zmK, eZ]
theorem ze7 {W w5 w6 : World} {b t : Nat} {cs : Array Value} {v5 : Value} {lo : List (Rhs × Value)} (h : Blk W b t cs) (aq : Fr (fun _ => False) W.drew w5) (ho : OwnHF W.drew.heap.size w5 v5 lo) (aR : Fr (fun k => some k = v5.ownBlock) w5 w6) : Blk w6 b t cs :=
 (h.drew.fr aq (fun e => e)).fr aR (fun e => by have h1 := (ho.1.lt b e.symm).1; have h2 : b < W.heap.size := h.lt; exact zm4 _ (zmJ h2 h1))
theorem zdk : (∀ (_ : True) (te : TypeId) (pe : Value) (bb bk bq bp bo : Nat) (P : Nat -> Prop) (q0 q1 q2 q3 q4 q5 q6 v : Value) (xs : List UInt8) (kz : Nat) (kh : kz = 7 ∨ kz = 9) (w : World) (hb : Blk w bb 44 #[v]) (hv : Sl P w v 1 xs.length (bc xs)) (hk : Blk w bk 3 #[.int .i64 (kz : Int)]) (hq : Blk w bq 54 #[q0, q1, q2, q3, q4, q5, q6]) (pre : List (Rhs × Hsl)) (hs : SlH P w q6 pre) (bm : pre.length <= 1024)
 (ff : ∀ p ∈ pre, p.1.h.few 1099511627776) (dJ : ∀ l, zci xs = some l -> l.length <= 1024 /\ ∀ x ∈ l, x.h.few 1099511627776)
 (hp : Blk w bp 54 #[.slice none 0 0, .slice none 0 0, .slice none 0 0, .slice none 0 0, .slice none 0 0, .slice none 0 0, .slice none 0 0]) (ho : Blk w bo 4 #[.bool false]) (hE : w.cell? ⟨2, 0, none⟩ = some (.iface te pe)) (bh : xs.length <= 1073741824)
 (dU : ∀ g, P g -> g ≠ bb) (dt : bp ≠ bq) (h2 : bb ≠ 2 /\ bp ≠ 2 /\ bo ≠ 2)
 (aj : St -> Prop) (hG : ∀ kd rest, xs = kd :: rest -> (kd = 7 ∨ kd = 9) -> ∀ l, aj (some l) -> zcG (some l) /\ aj (zaN (zab (some rest)).1 (zao (zab (some rest)).2).1 (some l)).2) (aZ : ∀ kd rest, xs = kd :: rest -> (kd = 7 ∨ kd = 9) -> rest ≠ [] -> aj (zao (zab (some rest)).2).2),
 Calls prog 66 #[.pointer (some ⟨bb, 0, none⟩), .pointer (some ⟨bk, 0, none⟩), .pointer (some ⟨bq, 0, none⟩), .pointer (some ⟨bp, 0, none⟩), .pointer (some ⟨bo, 0, none⟩)] w (zkN w bb bp bo (pre.map Prod.fst) xs)) /\ (∀ (_ : True) (te : TypeId) (pe : Value) (bb bk bq bp bo : Nat) (P : Nat -> Prop) (q0 q1 q2 q3 q4 q5 q6 v : Value) (xs : List UInt8) (kz : Nat) (kh : kz = 8 ∨ kz = 10) (w : World) (hb : Blk w bb 44 #[v]) (hv : Sl P w v 1 xs.length (bc xs)) (hk : Blk w bk 3 #[.int .i64 (kz : Int)]) (hq : Blk w bq 54 #[q0, q1, q2, q3, q4, q5, q6]) (pre : List (Rhs × Hsl)) (hs : SlH P w q6 pre) (bm : pre.length <= 1024)
 (ff : ∀ p ∈ pre, p.1.h.few 1099511627776) (dJ : ∀ l, zcj xs = some l -> l.length <= 1024 /\ ∀ x ∈ l, x.h.few 1099511627776)
 (hp : Blk w bp 54 #[.slice none 0 0, .slice none 0 0, .slice none 0 0, .slice none 0 0, .slice none 0 0, .slice none 0 0, .slice none 0 0]) (ho : Blk w bo 4 #[.bool false]) (hE : w.cell? ⟨2, 0, none⟩ = some (.iface te pe)) (bh : xs.length <= 1073741824)
 (dU : ∀ g, P g -> g ≠ bb) (dt : bp ≠ bq) (h2 : bb ≠ 2 /\ bp ≠ 2 /\ bo ≠ 2)
 (aj : St -> Prop) (hG : ∀ kd rest, xs = kd :: rest -> (kd = 8 ∨ kd = 10) -> ∀ l, aj (some l) -> zcH (some l) /\ aj (zaO (zab (some rest)).1 (zao (zab (some rest)).2).1 (some l)).2) (aZ : ∀ kd rest, xs = kd :: rest -> (kd = 8 ∨ kd = 10) -> rest ≠ [] -> aj (zao (zab (some rest)).2).2),
 Calls prog 66 #[.pointer (some ⟨bb, 0, none⟩), .pointer (some ⟨bk, 0, none⟩), .pointer (some ⟨bq, 0, none⟩), .pointer (some ⟨bp, 0, none⟩), .pointer (some ⟨bo, 0, none⟩)] w (zkO w bb bp bo (pre.map Prod.fst) xs)) := by
 refine ⟨fun ag te pe bb bk bq bp bo P q0 q1 q2 q3 q4 q5 q6 v xs kz kh w hb hv hk hq pre hs bm ff dJ hp ho hE bh dU dt h2 aj hG aZ => ?_, fun bY te pe bb bk bq bp bo P q0 q1 q2 q3 q4 q5 q6 v xs kz kh w hb hv hk hq pre hs bm ff dJ hp ho hE bh dU dt h2 aj hG aZ => ?_⟩; all_goals
  have gZ := zmk hG; have gY := zmk aZ; have HXF := zmk dJ; have oA := zmk ff; clear hG aZ dJ ff; obtain ⟨i0, aD, aA, az, aC⟩ := info_parts zfp; have HB := zmk hb; have HV := zmk hv; have HK := zmk hk; have HQ := zmk hq; have HS := zmk hs; have HP := zmk hp; have HO := zmk ho; have HE := zmk hE; have kt := zmk dU
  have cE : ∃ A m c, v = .slice A m c := let ⟨A, c, h, _⟩ := hv; ⟨A, _, c, h⟩
  obtain ⟨A, m, c, rfl⟩ := cE; clear hb hv hk hq hs hp ho hE dU; go_enter func66, ntmps66; go_wp2_with (first | (go_at_call 67; refine (zdx _ _).mono ?_; rintro r w1 ⟨v1, rfl, ⟨a, rfl⟩, ai⟩; refine Hid.out ?_))
  have aw := ((HB.out.fr ai (fun e => e)).alloc (.cells #[.slice (some a) 0 0, .string ⟨#[]⟩, .slice none 0 0] 119)).alloc (.cells #[] 5); have b1 := aw.cell 0; simp at b1; clear aw; refine zmk ?_; go_wp2_with (at_builtin; refine Hid.out ?_)
  have eo := znp (base := w.heap.size) (e := 5) (size := 1) (w1.alloc (.cells #[.slice (some a) 0 0, .string ⟨#[]⟩, .slice none 0 0] 119)) #[] 0 (by have := ai.size; simp; omega) (zmv _) rfl; have dx : Fr (fun _ => False) w ((w1.alloc (.cells #[.slice (some a) 0 0, .string ⟨#[]⟩, .slice none 0 0] 119)).alloc (.cells #[] 5)) := (ai.alloc _).alloc _; have bA := ai.size
  refine zmk ?_; have kV : (w1.alloc (.cells #[.slice (some a) 0 0, .string ⟨#[]⟩, .slice none 0 0] 119)).heap.size = w1.heap.size + 1 := by simp
  rw [kV] at eo; clear b1; generalize World.alloc _ (Obj.cells #[] 5) = WA at eo dx ⊢; have hsA := dx.size; have cK := zdh underlying44 (HV.out.fr dx (fun _ _ e => e)) (zfN xs)
  refine zaf _ rfl _ _ 44 44 rfl w.heap.size 5 i0 (.int .u8 0) 1 1 underlying44 aD aA az aC rfl (by decide) (.slice (some ⟨w1.heap.size + 1, 0, none⟩) 0 0) 0 [] rfl eo (.slice A m c) xs.length (bc xs) rfl cK (by unfold maxLen; omega) (by omega) (by omega) ?_; intro v' w2 ac ad ax
  rw [zmP, zmW] at ac; obtain ⟨a2, k2, rfl⟩ := zaa ac; have eK : ∀ k, (Value.slice (some ⟨w1.heap.size + 1, 0, none⟩) 0 0).ownBlock = some k -> w.heap.size <= k := fun k hk => by
   have hk : w1.heap.size + 1 = k := zna hk; omega
  have F2 : Fr (fun _ => False) w w2 := dx.grown ad (fun k hk => .inr (eK k hk)); have dr : ∃ g2 aK, a2 = some ⟨g2, 0, none⟩ /\ w.heap.size <= g2 /\ Blk w2 g2 5 aK /\ xs.length <= k2 /\ k2 <= maxLen /\ aK.toList.take xs.length = bc xs := by
   rcases ac.2 with ⟨h, _⟩ | ⟨g2, aO, aK, h, h1, h3, h4, h5, _, h6⟩
   ·rw [h] at ax
    rcases ax with ax | ax <;> exact absurd ax (by simp [Value.ownBlock])
   ·injection h with e1 e2 e3
    subst e3; exact ⟨g2, aK, e1, h1, h3, h4, h5, by simpa using h6⟩
  have cn : ∀ k, (Value.slice a2 xs.length k2).ownBlock = some k -> w.heap.size <= k := fun k hk => (ac.lt k hk).1; have lB := HB.out.lt; have gB := HB.out.fr F2 (fun e => e); have y0 := gB.cell 0; have y1 := gB.frozen 0; simp at y0
  have F3 : Fr (fun k => k = bb) w (w2.setCell ⟨bb, 0, none⟩ (.slice a2 xs.length k2)) := (F2.mono (S' := fun k => k = bb) (fun _ _ e => e.elim)).setCell (p := ⟨bb, 0, none⟩) (.inl rfl) _; have O3 : (w2.setCell ⟨bb, 0, none⟩ (.slice a2 xs.length k2)).ownsRow w.heap.size 5 1 (.slice a2 xs.length k2) xs.length (bc xs) := zaj ac (Fr.put_ w2 bb 0 _) (fun k hk e => by have := cn k hk; omega)
  have B3 : Blk (w2.setCell ⟨bb, 0, none⟩ (.slice a2 xs.length k2)) bb 44 #[.slice a2 xs.length k2] := by simpa using gB.set_ 0 (.slice a2 xs.length k2)
  have K3 := (HK.out.fr F3 (fun e => zns HK.out HB.out (by decide) e)).cell 0; have Q3 := HQ.out.fr F3 (fun e => zns HQ.out HB.out (by decide) e); have P3 := HP.out.fr F3 (fun e => zns HP.out HB.out (by decide) e); have O4 := HO.out.fr F3 (fun e => zns HO.out HB.out (by decide) e)
  have E3 : (w2.setCell ⟨bb, 0, none⟩ (.slice a2 xs.length k2)).cell? ⟨2, 0, none⟩ = some (.iface te pe) := by
   rw [F3.cell (p := ⟨2, 0, none⟩) (zmr w _ HE.out) (fun e => h2.1 e.symm)]; exact HE.out
  simp at K3; have bx := zmk F3; have eq := zmk O3; have bE := zmk B3; have bZ := zmk Q3; have eL := zmk P3; have dj := zmk O4; have dG := zmk E3; have nX := zmk cn; obtain ⟨g2, aK, rfl, el, co, cO, du, dq⟩ := dr
  have R3 : Rec te pe (w2.setCell ⟨bb, 0, none⟩ (.slice (some ⟨g2, 0, none⟩) xs.length k2)) g2 aK xs (.slice (some ⟨g2, 0, none⟩) xs.length k2) := by
   refine ⟨0, k2, rfl, co.far (p := ⟨bb, 0, none⟩) (by show g2 ≠ bb; omega) _, cO, ⟨by simp [maxLen] at du; omega, by omega⟩, fun j u hu => ?_, E3⟩; rw [zmP, <- Array.getElem?_toList]; have hj : j < xs.length := by
    rcases zmN j xs.length with h | h
    ·exact h
    ·rw [zmO (by rw [zdE]; exact h)] at hu; cases hu
   rw [<- dq, List.getElem?_take_of_lt hj] at hu; exact hu
  have aS := zmk R3; have kU := co.lt; clear R3 du dq co; clear F2 F3 O3 B3 Q3 P3 O4 E3 gB eK cn ac ad ax cK eo dx ai; rcases kh with rfl | rfl; all_goals
   go_wp2_with fail
   generalize w2.setCell ⟨bb, 0, none⟩ (.slice (some ⟨g2, 0, none⟩) xs.length k2) = W3 at bx eq bE bZ eL dj dG aS ⊢; have eZ := aS.out; have gi : g2 < W3.heap.size := let ⟨_, _, _, h, _⟩ := eZ; h.lt
   have ja : 2 < W3.heap.size := zmr W3 _ dG.out; clear eZ; have hS3 : SlH P W3.drew q6 pre := HS.out.fr bx.out.drew (fun g hg e => kt.out g hg e)
   first | (guard_hyp ag; have eE := zcA P q6 pre W3.drew hS3 (by omega) oA.out) | (have eE := zdK P q6 pre W3.drew hS3 (by omega) oA.out)
   have eY : ∃ A m c, q6 = .slice A m c := let ⟨A, c, h, _⟩ := HS.out.1; ⟨A, _, c, h⟩
   obtain ⟨Aq, mq, cq, rfl⟩ := eY; have x0 := bE.out.cell 0; have x1 := bZ.out.cell 6; have kA : W3.drew.cell? ⟨bb, 0, none⟩ = some (.slice (some ⟨g2, 0, none⟩) xs.length k2) := x0; have jh : W3.drew.cell? ⟨bq, 6, none⟩ = some (.slice Aq mq cq) := x1; simp at x0 x1; clear y0 y1 K3
   go_region_held3 (fun w' => w'.cell? ⟨bb, 0, none⟩ = some (.slice (some ⟨g2, 0, none⟩) xs.length k2) /\ w'.cell? ⟨bq, 6, none⟩ = some (.slice Aq mq cq))
    ((first | (go_split_ands; refine ⟨?_, ?_⟩ <;> first | exact (bE.out.drew.fr aq (fun e => e)).cell 0 | exact (bZ.out.drew.fr aq (fun e => e)).cell 6) | (go_split_ands; refine ⟨?_, ?_⟩ <;> first | exact KB.out.cell 0 | exact KQ.out.cell 6) | go_keep))
    ((first
      | (go_at_call 84; refine eE.mono ?_; rintro r5 w5 ⟨v5, lo5, rfl, it, am, aq⟩)
      | (go_at_call 87; refine eE.mono ?_; rintro r5 w5 ⟨v5, lo5, rfl, it, am, aq⟩)
      | (go_at_call 83; refine (zl5 te pe _ g2 W3.drew.heap.size aK lo5 xs _ v5 w5 (aS.out.fr (w := W3) (((znq (fun _ => False) W3).drew).same aq) (fun e => e) (fun e => e)) am ⟨ja, aq.size⟩ (by have h := znb List.length it; simp at h; omega) aj gZ.out gY.out).mono ?_; rintro r6 w6 eF; obtain ⟨v6, e6, l6, rfl, aM, hN, aR, cj⟩ := zko eF; clear eF; have KB := zmk (ze6 bE.out aq am aR); have KQ := zmk (ze6 bZ.out aq am aR))
      | (go_at_call 86; refine (zl7 te pe _ g2 W3.drew.heap.size aK lo5 xs _ v5 w5 (aS.out.fr (w := W3) (((znq (fun _ => False) W3).drew).same aq) (fun e => e) (fun e => e)) am ⟨ja, aq.size⟩ (by have h := znb List.length it; simp at h; omega) aj gZ.out gY.out).mono ?_; rintro r6 w6 eF; obtain ⟨v6, e6, l6, rfl, aM, hN, aR, cj⟩ := zkt eF; clear eF; have KB := zmk (ze7 bE.out aq am aR); have KQ := zmk (ze7 bZ.out aq am aR))))
   have T6 : Fr (fun k => k = bb) w w6 := ((bx.out.trans (((znq (fun _ => False) W3).drew).same aq) (fun _ _ e => e.elim)).trans aR (fun k hk e => by
    have h1 := (am.1.lt k e.symm).1; have h2 := bx.out.size
    simp at h1; omega))
   first | (guard_hyp ag; have P6 := ze6 eL.out aq am aR) | (have P6 := ze7 eL.out aq am aR)
   first | (guard_hyp ag; have O6 := ze6 dj.out aq am aR) | (have O6 := ze7 dj.out aq am aR)
   rw [it] at hN; have hl6 : l6.length <= 4096 /\ ∀ p ∈ l6, p.1.h.few 1099511627776 := by
    rcases cj with ⟨_, bA, jA⟩ | ⟨_, _, _, _, rfl⟩
    ·obtain ⟨l, hl⟩ := Option.isSome_iff_exists.1 bA
     have e := jA l hl; rw [it] at e; obtain ⟨f1, f2⟩ := HXF.out l hl; have h9 := znb List.length e; simp at h9; refine ⟨by omega, fun p hp => ?_⟩; have hm : p.1 ∈ pre.map Prod.fst ++ l := by rw [<- e]; exact zmQ.2 ⟨p, hp, rfl⟩
     rcases zm0.1 hm with hm | hm
     ·obtain ⟨q, eY, kN⟩ := zmQ.1 hm
      rw [<- kN]; exact oA.out q eY
     ·exact f2 _ hm
    ·exact ⟨zmv _, fun p hp => by cases hp⟩
   first | (guard_hyp ag; have hU := fun W (hW : Fr (fun _ => False) w6 W) => zd0 _ v6 l6 W ((aM.fr hW (fun _ _ _ e => e)).rd) (by omega) hl6.2) | (have hU := fun W (hW : Fr (fun _ => False) w6 W) => zfA _ v6 l6 W ((aM.fr hW (fun _ _ _ e => e)).rd) (by omega) hl6.2)
   have HU := zmk hU; have kr := zmk T6; have je := zmk P6; have gp := zmk O6; have qX := zmk hN
   first
    | guard_hyp ag
      have ku : Hid ((e6 = .nilIface /\ (zci xs).isSome = true) ∨ (∃ t a, e6 = .iface t a /\ (zci xs).isSome = false)) := zmk (by
       rcases cj with ⟨h1, h3, _⟩ | ⟨t, a, h1, h3, _⟩
       ·exact .inl ⟨h1, h3⟩
       ·exact .inr ⟨t, a, h1, h3⟩)
    | have ku : Hid ((e6 = .nilIface /\ (zcj xs).isSome = true) ∨ (∃ t a, e6 = .iface t a /\ (zcj xs).isSome = false)) := zmk (by
       rcases cj with ⟨h1, h3, _⟩ | ⟨t, a, h1, h3, _⟩
       ·exact .inl ⟨h1, h3⟩
       ·exact .inr ⟨t, a, h1, h3⟩)
   have kM := aq.size; have kK := aR.size; have kD : w.heap.size <= w6.heap.size := T6.size; clear x0 x1 kA jh eE T6 P6 O6 cj am aq aM aR KB KQ eq bE bZ eL dj dG aS bx hU hN it hl6; go_wp2_with fail
   have gI : bo ≠ bp := zns gp.out je.out (by decide); have F0 : Fr (fun _ => False) w6 w6.drew := (znq (fun _ => False) w6).drew; have hU0 := HU.out w6.drew F0; rcases ku.out with ⟨rfl, aB⟩ | ⟨t, ae, rfl, aB⟩; all_goals
    have iO := zmk aB; clear aB
    first
     | guard_hyp ag
       go_region_held3 (fun w' => True)
        (trivial)
        ((go_at_call 85; refine hU0.mono ?_; rintro r8 w8 ⟨v8, lo8, rfl, jx, ew, cA⟩
          have P8 := zmk (je.out.fr (F0.same cA) (fun e => e)); have O8 := zmk (gp.out.fr (F0.same cA) (fun e => e)); obtain ⟨a8, n8, k8, rfl⟩ := zac ew.1; have HW8 := zmk ew; have HL8 := zmk jx; have jV := zmk (F0.same cA); have s0 := P8.out.cell 6; have s1 := P8.out.frozen 6; have s2 := (O8.out.far (p := ⟨bp, 6, none⟩) gI (.slice a8 n8 k8)).cell 0
          have s3 := (O8.out.far (p := ⟨bp, 6, none⟩) gI (.slice a8 n8 k8)).frozen 0; have s4 := O8.out.cell 0; have s5 := O8.out.frozen 0; simp at s0 s2 s4
          clear ew jx cA))
     | go_region_held3 (fun w' => True)
        (trivial)
        ((go_at_call 88; refine hU0.mono ?_; rintro r8 w8 ⟨v8, lo8, rfl, jx, ew, cA⟩
          have P8 := zmk (je.out.fr (F0.same cA) (fun e => e)); have O8 := zmk (gp.out.fr (F0.same cA) (fun e => e)); obtain ⟨a8, n8, k8, rfl⟩ := zac ew.1; have HW8 := zmk ew; have HL8 := zmk jx; have jV := zmk (F0.same cA); have s0 := P8.out.cell 6; have s1 := P8.out.frozen 6; have s2 := (O8.out.far (p := ⟨bp, 6, none⟩) gI (.slice a8 n8 k8)).cell 0
          have s3 := (O8.out.far (p := ⟨bp, 6, none⟩) gI (.slice a8 n8 k8)).frozen 0; have s4 := O8.out.cell 0; have s5 := O8.out.frozen 0; simp at s0 s2 s4
          clear ew jx cA))
    go_end0; have e1 := jV.out.size; refine ⟨rfl, ?_, ?_, .slice a8 n8 k8, lo8, ?_, ?_, by rw [HL8.out]; exact qX.out⟩
    ·exact ((((kr.out.trans jV.out (fun _ _ e => e.elim)).mono (S' := fun k => k = bb ∨ k = bp ∨ k = bo) (fun _ _ e => .inl e)).setCell (p := ⟨bp, 6, none⟩) (.inl (.inr (.inl rfl))) _)).setCell (p := ⟨bo, 0, none⟩) (.inl (.inr (.inr rfl))) _
    ·rw [iO.out]
     simpa using (O8.out.far (p := ⟨bp, 6, none⟩) gI (.slice a8 n8 k8)).set_ 0 _
    ·simpa using (P8.out.set_ 6 (.slice a8 n8 k8)).far (p := ⟨bo, 0, none⟩) (Ne.symm gI) _
    ·have h8 : OwnI w.heap.size w8 (.slice a8 n8 k8) lo8 := HW8.out.mono (by simpa using kD)
     have hP9 := P8.out.lt; exact (h8.fr9 P8.out (.inl rfl) (Fr.put_ w8 bp 6 _)).fr9 (O8.out.far (p := ⟨bp, 6, none⟩) gI _) (.inr rfl) (Fr.put_ _ bo 0 _)
theorem read1_hsW : type_of% (zdk.1 trivial) := zdk.1 trivial
theorem read1_hsF : type_of% (zdk.2 trivial) := zdk.2 trivial
def zmf (ps : Array Value) : Prop := ∃ A0 m0 c0 A1 m1 c1 A2 m2 c2 A3 m3 c3 A4 m4 c4 A5 m5 c5 A6 m6 c6, ps = #[.slice A0 m0 c0, .slice A1 m1 c1, .slice A2 m2 c2, .slice A3 m3 c3, .slice A4 m4 c4, .slice A5 m5 c5, .slice A6 m6 c6]
def zib : Array Value := #[.slice none 0 0, .slice none 0 0, .slice none 0 0, .slice none 0 0, .slice none 0 0, .slice none 0 0, .slice none 0 0]
def R1Ends (L : Array Value -> World -> Prop) (okb : Bool) (w : World) (bb bp bo : Nat) (r : Ending) (w' : World) : Prop :=
 r = .returned (.tuple #[]) /\ Fr (fun k => k = bb ∨ k = bp ∨ k = bo) w w' /\ Blk w' bo 4 #[.bool okb] /\ ∃ ps, zmf ps /\ Blk w' bp 54 ps /\ L ps w'
def zcQ (L : Array Value -> World -> Prop) (okb : Bool) (w : World) (r : Ending) (w' : World) : Prop :=
 ∃ ps, r = .returned (.tuple #[.agg ps, .bool okb]) /\ zmf ps /\ (okb = true -> L ps w') /\ (okb = false -> ps = zib) /\ Fr (fun _ => False) w w'
def zjC (W W' : World) : Prop := Fr (fun k => ∃ cs, Blk W k 4 cs ∨ Blk W k 54 cs) W W'
theorem laidR_mk (w : World) (kind bv : Value) (q : Array Value) :
 let W := ((((w.alloc (.cells #[kind] 3)).alloc (.cells #[bv] 44)).alloc (.cells q 54)).alloc (.cells zib 54)).alloc (.cells #[.bool false] 4)
 Blk W w.heap.size 3 #[kind] /\ Blk W (w.heap.size + 1) 44 #[bv] /\ Blk W (w.heap.size + 2) 54 q /\ Blk W (w.heap.size + 3) 54 zib /\ Blk W (w.heap.size + 4) 4 #[.bool false] /\ Fr (fun _ => False) w W /\ W.heap.size = w.heap.size + 5 := by
 intro W; have e : ∀ (w : World) (o : Obj), (w.alloc o).heap.size = w.heap.size + 1 := fun w o => by simp
 refine ⟨?_, ?_, ?_, ?_, ?_, ?_, ?_⟩
 ·exact ((((znr w 3 _).alloc _).alloc _).alloc _).alloc _
 ·have := (((znr (w.alloc (.cells #[kind] 3)) 44 #[bv]).alloc (.cells q 54)).alloc (.cells zib 54)).alloc (.cells #[.bool false] 4)
  rwa [e] at this
 ·have := ((znr ((w.alloc (.cells #[kind] 3)).alloc (.cells #[bv] 44)) 54 q).alloc (.cells zib 54)).alloc (.cells #[.bool false] 4)
  rwa [e, e] at this
 ·have := (znr (((w.alloc (.cells #[kind] 3)).alloc (.cells #[bv] 44)).alloc (.cells q 54)) 54 zib).alloc (.cells #[.bool false] 4)
  rwa [e, e, e] at this
 ·have := znr ((((w.alloc (.cells #[kind] 3)).alloc (.cells #[bv] 44)).alloc (.cells q 54)).alloc (.cells zib 54)) 4 #[.bool false]
  rwa [e, e, e, e] at this
 ·exact (((((znq _ w).alloc _).alloc _).alloc _).alloc _).alloc _
 ·simp [W]
theorem zfi {w : World} {b : Nat} {t : TypeId} {a0 a1 a2 a3 a4 a5 a6 : Value} (u0 u1 u2 u3 u4 u5 u6 : Value) (h : Blk w b t #[a0, a1, a2, a3, a4, a5, a6]) :
 Blk (((((((w.setCell ⟨b, 0, none⟩ u0).setCell ⟨b, 1, none⟩ u1).setCell ⟨b, 2, none⟩ u2).setCell ⟨b, 3, none⟩ u3).setCell ⟨b, 4, none⟩ u4).setCell ⟨b, 5, none⟩ u5).setCell ⟨b, 6, none⟩ u6) b t #[u0, u1, u2, u3, u4, u5, u6] := by
 have := ((((((h.set_ 0 u0).set_ 1 u1).set_ 2 u2).set_ 3 u3).set_ 4 u4).set_ 5 u5).set_ 6 u6; simpa using this
theorem zdQ {S : Nat -> Prop} {w0 w : World} {b : Nat} (u0 u1 u2 u3 u4 u5 u6 : Value) (h : Fr S w0 w) (hb : S b ∨ w0.heap.size <= b) :
 Fr S w0 (((((((w.setCell ⟨b, 0, none⟩ u0).setCell ⟨b, 1, none⟩ u1).setCell ⟨b, 2, none⟩ u2).setCell ⟨b, 3, none⟩ u3).setCell ⟨b, 4, none⟩ u4).setCell ⟨b, 5, none⟩ u5).setCell ⟨b, 6, none⟩ u6) :=
 ((((((h.setCell (p := ⟨b, 0, none⟩) hb u0).setCell (p := ⟨b, 1, none⟩) hb u1).setCell (p := ⟨b, 2, none⟩) hb u2).setCell (p := ⟨b, 3, none⟩) hb u3).setCell (p := ⟨b, 4, none⟩) hb u4).setCell (p := ⟨b, 5, none⟩) hb u5).setCell (p := ⟨b, 6, none⟩) hb u6
theorem zbs (kind : Int) (q0 q1 q2 q3 q4 q5 q6 bv : Value) (xs : List UInt8) (P : Nat -> Prop) (L : Array Value -> World -> Prop) (okb : Bool) (w : World) (hb : Sl P w bv 1 xs.length (bc xs))
 (au : ∀ s ∈ [q0, q1, q2, q3, q4, q5, q6], ∃ A m c, s = .slice A m c)
 (hL : ∀ ps W W', L ps W -> zjC W W' -> L ps W')
 (hc : ∀ (bb bk bq bp bo : Nat) (W : World), Blk W bk 3 #[.int .i64 kind] -> Blk W bb 44 #[bv] -> Blk W bq 54 #[q0, q1, q2, q3, q4, q5, q6] -> Blk W bp 54 zib -> Blk W bo 4 #[.bool false] -> w.heap.size <= bb -> w.heap.size <= bp -> w.heap.size <= bo -> bp ≠ bq -> Fr (fun _ => False) w W ->
   Calls prog 66 #[.pointer (some ⟨bb, 0, none⟩), .pointer (some ⟨bk, 0, none⟩), .pointer (some ⟨bq, 0, none⟩), .pointer (some ⟨bp, 0, none⟩), .pointer (some ⟨bo, 0, none⟩)] W (R1Ends L okb W bb bp bo)) :
 Calls prog 29 #[.int .i64 kind, bv, .agg #[q0, q1, q2, q3, q4, q5, q6]] w (zcQ L okb w) := by
 have HB := zmk hb; have HC := zmk hc; have HL := zmk hL; have hbv : ∃ A m c, bv = .slice A m c := let ⟨A, c, h, _⟩ := hb; ⟨A, _, c, h⟩
 obtain ⟨A, m, c, rfl⟩ := hbv; obtain ⟨A0, m0, c0, rfl⟩ := au q0 (by simp); obtain ⟨A1, m1, c1, rfl⟩ := au q1 (by simp); obtain ⟨A2, m2, c2, rfl⟩ := au q2 (by simp); obtain ⟨A3, m3, c3, rfl⟩ := au q3 (by simp); obtain ⟨A4, m4, c4, rfl⟩ := au q4 (by simp); obtain ⟨A5, m5, c5, rfl⟩ := au q5 (by simp); obtain ⟨A6, m6, c6, rfl⟩ := au q6 (by simp); clear hb hc hL au
 have hmf : ∀ (fn : Fn) (first aO : Array Value) (w : World), (Instr.makeFunc fn first aO).run prog w = .ok (.func fn first aO) w := fun _ _ _ _ => rfl; go_enter func29, ntmps29; go_wp2_with (go_at_call 65; refine Hid.out ?_)
 have hM := laidR_mk w (.int .i64 kind) (.slice A m c) #[.slice A0 m0 c0, .slice A1 m1 c1, .slice A2 m2 c2, .slice A3 m3 c3, .slice A4 m4 c4, .slice A5 m5 c5, .slice A6 m6 c6]; dsimp only at hM; unfold zib at hM; generalize hW : World.alloc _ (Obj.cells #[.bool false] 4) = W at hM ⊢; obtain ⟨B0, B1, B2, B3, B4, hF, hS⟩ := hM; clear hW
 have fT := HC.out (w.heap.size + 1) w.heap.size (w.heap.size + 1 + 1) (w.heap.size + 1 + 1 + 1) (w.heap.size + 1 + 1 + 1 + 1) _ (B0.alloc (.cells #[.bool false] 4)) (B1.alloc _) (B2.alloc _) (B3.alloc _) (B4.alloc _) (by omega) (by omega) (by omega) (by omega) (hF.alloc _)
 have fI := safe_ok 66 _ W _ (enters_of func66 (by kernel_rfl) rfl) (fT.mono (fun r w' hr => ⟨hr.1, hr.2, (znr W 4 #[.bool false]).fr hr.2.1 (by
  rintro (h | h | h) <;> omega)⟩))
 have HF := zmk hF; have HS := zmk hS; clear fT B0 B1 B2 B3 B4 hF hS HC HB; refine zmk ?_; refine fI.mono ?_; rintro r w4 ⟨rfl, w5, hq, cg, rfl⟩; obtain ⟨qF, qO, ps, qS, qP, qL⟩ := hq; obtain ⟨D0, n0, e0, D1, n1, e1, D2, n2, e2, D3, n3, e3, D4, n4, e4, D5, n5, e5, D6, n6, e6, rfl⟩ := qS; have hS := HS.out
 have r7 := (qO.far (p := ⟨W.heap.size, 0, none⟩) (by show w.heap.size + 1 + 1 + 1 + 1 ≠ W.heap.size; omega) (.bool true)).far (p := ⟨W.heap.size, 0, none⟩) (by show w.heap.size + 1 + 1 + 1 + 1 ≠ W.heap.size; omega) (.bool true)
 have r6 := (qP.far (p := ⟨W.heap.size, 0, none⟩) (by show w.heap.size + 1 + 1 + 1 ≠ W.heap.size; omega) (.bool true)).far (p := ⟨W.heap.size, 0, none⟩) (by show w.heap.size + 1 + 1 + 1 ≠ W.heap.size; omega) (.bool true); have v5 : zjC w5 ((w5.setCell ⟨W.heap.size, 0, none⟩ (.bool true)).setCell ⟨W.heap.size, 0, none⟩ (.bool true)) :=
  ((znq _ w5).setCell (p := ⟨W.heap.size, 0, none⟩) (.inl ⟨_, .inl cg⟩) _).setCell (p := ⟨W.heap.size, 0, none⟩) (.inl ⟨_, .inl cg⟩) _
 have f5 : Fr (fun _ => False) w ((w5.setCell ⟨W.heap.size, 0, none⟩ (.bool true)).setCell ⟨W.heap.size, 0, none⟩ (.bool true)) := by
  have bN := HF.out.size; refine Fr.setCell (Fr.setCell ?_ (p := ⟨W.heap.size, 0, none⟩) (.inr bN) _) (p := ⟨W.heap.size, 0, none⟩) (.inr bN) _; refine (HF.out.alloc (.cells #[.bool false] 4)).trans qF ?_; rintro k hk (h | h | h) <;> omega
 have km := HL.out _ _ _ qL v5; refine Hid.out ?_; clear qF qO qP qL cg fI hS; generalize World.setCell _ _ _ = w6 at r6 r7 v5 f5 km ⊢; have l7 := r7.cell 0; have l60 := r6.cell 0; have l61 := r6.cell 1; have l62 := r6.cell 2; have l63 := r6.cell 3; have l64 := r6.cell 4; have l65 := r6.cell 5; have l66 := r6.cell 6; have z60 := r6.frozen 0; have z61 := r6.frozen 1; have z62 := r6.frozen 2
 have z63 := r6.frozen 3; have z64 := r6.frozen 4; have z65 := r6.frozen 5; have z66 := r6.frozen 6; have z7 := r7.frozen 0; simp at l7; simp only [zmF, zmD, zmE] at l60 l61 l62 l63 l64 l65 l66; have R6 := zmk r6; have R7 := zmk r7; have F6 := zmk f5; have oD := zmk km; clear v5 f5 km; cases okb with
 | false =>
   refine zmk ?_; go_wp2_with fail
   have g7 := (zfi (.slice none 0 0) (.slice none 0 0) (.slice none 0 0) (.slice none 0 0) (.slice none 0 0) (.slice none 0 0) (.slice none 0 0) R6.out).far (p := ⟨w.heap.size + 1 + 1 + 1 + 1, 0, none⟩) (by show w.heap.size + 1 + 1 + 1 ≠ w.heap.size + 1 + 1 + 1 + 1; omega) (.bool false)
   have F7 := (zdQ (.slice none 0 0) (.slice none 0 0) (.slice none 0 0) (.slice none 0 0) (.slice none 0 0) (.slice none 0 0) (.slice none 0 0) F6.out (b := w.heap.size + 1 + 1 + 1) (.inr (by omega))).setCell (p := ⟨w.heap.size + 1 + 1 + 1 + 1, 0, none⟩) (.inr (by show w.heap.size <= w.heap.size + 1 + 1 + 1 + 1; omega)) (.bool false)
   have V7 : zjC w6 _ := (zdQ (.slice none 0 0) (.slice none 0 0) (.slice none 0 0) (.slice none 0 0) (.slice none 0 0) (.slice none 0 0) (.slice none 0 0) (znq (fun k => ∃ cs, Blk w6 k 4 cs ∨ Blk w6 k 54 cs) w6) (b := w.heap.size + 1 + 1 + 1) (.inl ⟨_, .inr R6.out⟩)).setCell (p := ⟨w.heap.size + 1 + 1 + 1 + 1, 0, none⟩) (.inl ⟨_, .inl R7.out⟩) (.bool false)
   have o7 : (World.setCell (((((((w6.setCell ⟨w.heap.size + 1 + 1 + 1, 0, none⟩ (.slice none 0 0)).setCell ⟨w.heap.size + 1 + 1 + 1, 1, none⟩ (.slice none 0 0)).setCell ⟨w.heap.size + 1 + 1 + 1, 2, none⟩ (.slice none 0 0)).setCell ⟨w.heap.size + 1 + 1 + 1, 3, none⟩ (.slice none 0 0)).setCell ⟨w.heap.size + 1 + 1 + 1, 4, none⟩ (.slice none 0 0)).setCell ⟨w.heap.size + 1 + 1 + 1, 5, none⟩ (.slice none 0 0)).setCell ⟨w.heap.size + 1 + 1 + 1, 6, none⟩ (.slice none 0 0)) ⟨w.heap.size + 1 + 1 + 1 + 1, 0, none⟩ (.bool false)).cell? ⟨w.heap.size + 1 + 1 + 1 + 1, 0, none⟩ = some (.bool false) := by
    have h := R7.out; have e : ∀ i, w.heap.size + 1 + 1 + 1 + 1 ≠ (Addr.mk (w.heap.size + 1 + 1 + 1) i none).block := fun i => by show w.heap.size + 1 + 1 + 1 + 1 ≠ w.heap.size + 1 + 1 + 1; omega
    have h2 := ((((((((h.far (e 0) (.slice none 0 0)).far (e 1) (.slice none 0 0)).far (e 2) (.slice none 0 0)).far (e 3) (.slice none 0 0)).far (e 4) (.slice none 0 0)).far (e 5) (.slice none 0 0)).far (e 6) (.slice none 0 0)).set_ 0 (.bool false)).cell 0; simpa using h2
   generalize (World.setCell (World.setCell _ _ _) ⟨w.heap.size + 1 + 1 + 1 + 1, 0, none⟩ (.bool false)) = w7 at g7 F7 V7 o7 ⊢; have t0 := g7.cell 0; have t1 := g7.cell 1; have t2 := g7.cell 2; have t3 := g7.cell 3; have t4 := g7.cell 4; have t5 := g7.cell 5; have t6 := g7.cell 6; simp only [zmF, zmD, zmE] at t0 t1 t2 t3 t4 t5 t6
   have lF := zmk F7; have HV7 := zmk V7; clear F7 V7 g7; simp [Exit.then, bodyPost, results, results29, go_sem, t0, t1, t2, t3, t4, t5, t6, o7]; exact ⟨zib, rfl, ⟨_, _, _, _, _, _, _, _, _, _, _, _, _, _, _, _, _, _, _, _, _, rfl⟩, (fun h => by cases h), (fun _ => rfl), lF.out⟩
 | true =>
   refine zmk ?_; go_wp2_with fail
   have g7 := (zfi (.slice D0 n0 e0) (.slice D1 n1 e1) (.slice D2 n2 e2) (.slice D3 n3 e3) (.slice D4 n4 e4) (.slice D5 n5 e5) (.slice D6 n6 e6) R6.out).far (p := ⟨w.heap.size + 1 + 1 + 1 + 1, 0, none⟩) (by show w.heap.size + 1 + 1 + 1 ≠ w.heap.size + 1 + 1 + 1 + 1; omega) (.bool true)
   have F7 := (zdQ (.slice D0 n0 e0) (.slice D1 n1 e1) (.slice D2 n2 e2) (.slice D3 n3 e3) (.slice D4 n4 e4) (.slice D5 n5 e5) (.slice D6 n6 e6) F6.out (b := w.heap.size + 1 + 1 + 1) (.inr (by omega))).setCell (p := ⟨w.heap.size + 1 + 1 + 1 + 1, 0, none⟩) (.inr (by show w.heap.size <= w.heap.size + 1 + 1 + 1 + 1; omega)) (.bool true)
   have V7 : zjC w6 _ := (zdQ (.slice D0 n0 e0) (.slice D1 n1 e1) (.slice D2 n2 e2) (.slice D3 n3 e3) (.slice D4 n4 e4) (.slice D5 n5 e5) (.slice D6 n6 e6) (znq (fun k => ∃ cs, Blk w6 k 4 cs ∨ Blk w6 k 54 cs) w6) (b := w.heap.size + 1 + 1 + 1) (.inl ⟨_, .inr R6.out⟩)).setCell (p := ⟨w.heap.size + 1 + 1 + 1 + 1, 0, none⟩) (.inl ⟨_, .inl R7.out⟩) (.bool true)
   have o7 : (World.setCell (((((((w6.setCell ⟨w.heap.size + 1 + 1 + 1, 0, none⟩ (.slice D0 n0 e0)).setCell ⟨w.heap.size + 1 + 1 + 1, 1, none⟩ (.slice D1 n1 e1)).setCell ⟨w.heap.size + 1 + 1 + 1, 2, none⟩ (.slice D2 n2 e2)).setCell ⟨w.heap.size + 1 + 1 + 1, 3, none⟩ (.slice D3 n3 e3)).setCell ⟨w.heap.size + 1 + 1 + 1, 4, none⟩ (.slice D4 n4 e4)).setCell ⟨w.heap.size + 1 + 1 + 1, 5, none⟩ (.slice D5 n5 e5)).setCell ⟨w.heap.size + 1 + 1 + 1, 6, none⟩ (.slice D6 n6 e6)) ⟨w.heap.size + 1 + 1 + 1 + 1, 0, none⟩ (.bool true)).cell? ⟨w.heap.size + 1 + 1 + 1 + 1, 0, none⟩ = some (.bool true) := by
    have h := R7.out; have e : ∀ i, w.heap.size + 1 + 1 + 1 + 1 ≠ (Addr.mk (w.heap.size + 1 + 1 + 1) i none).block := fun i => by show w.heap.size + 1 + 1 + 1 + 1 ≠ w.heap.size + 1 + 1 + 1; omega
    have h2 := ((((((((h.far (e 0) (.slice D0 n0 e0)).far (e 1) (.slice D1 n1 e1)).far (e 2) (.slice D2 n2 e2)).far (e 3) (.slice D3 n3 e3)).far (e 4) (.slice D4 n4 e4)).far (e 5) (.slice D5 n5 e5)).far (e 6) (.slice D6 n6 e6)).set_ 0 (.bool true)).cell 0; simpa using h2
   generalize (World.setCell (World.setCell _ _ _) ⟨w.heap.size + 1 + 1 + 1 + 1, 0, none⟩ (.bool true)) = w7 at g7 F7 V7 o7 ⊢; have t0 := g7.cell 0; have t1 := g7.cell 1; have t2 := g7.cell 2; have t3 := g7.cell 3; have t4 := g7.cell 4; have t5 := g7.cell 5; have t6 := g7.cell 6; simp only [zmF, zmD, zmE] at t0 t1 t2 t3 t4 t5 t6
   have lF := zmk F7; have HV7 := zmk V7; clear F7 V7 g7; simp [Exit.then, bodyPost, results, results29, go_sem, t0, t1, t2, t3, t4, t5, t6, o7]; exact ⟨_, rfl, ⟨_, _, _, _, _, _, _, _, _, _, _, _, _, _, _, _, _, _, _, _, _, rfl⟩, (fun _ => HL.out _ _ _ oD.out HV7.out), (fun h => by cases h), lF.out⟩
end Go.Proofs.YtbkookiigkckdaaGreatDoor
