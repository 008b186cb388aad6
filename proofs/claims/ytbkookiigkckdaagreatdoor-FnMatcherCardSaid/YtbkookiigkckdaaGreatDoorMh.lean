/- 'laws.FnMatcher': for every matcher (a type, a name, a value) and every text the call returns true, and its arguments read afterwards as they read before: a matcher of the type = matches its value, one of the type != all others, its inverse says the opposite, and its text is the name, the sign and the value in quotation marks (at most 600 bytes). Conditions: the nine listed package variables (Go's print tables, unicode/utf8's two tables, bytes.ErrTooLarge, the signs of the types) read as the row lists them; the card ties them to the program's text. -/
import Derived.Test.YtbkookiigkckdaaGreatDoorMg
import Derived.Test.YtbkookiigkckdaaGreatDoorRows
import Derived.Test.YtbkookiigkckdaaGreatDoorTie
import Derived.Test.YtbkookiigkckdaaGreatDoorCards
import Derived.JoinedOf
import Derived.SevenTiedAt
import Derived.ChangeSame
import Derived.ChangeVars
import Derived.ProofKit
import Derived.LaidMore
import Derived.OpenShut
import Derived.LaidLaws
import Derived.Lay
import Derived.PinnedBridge
import Derived.Lib.LaidU8
import Derived.Lib.SmallJoins
import Derived.Carry
import Derived.ChangeOld
import Derived.Below
import Derived.Stop.Joined
namespace Go.Proofs.YtbkookiigkckdaaGreatDoor
open Go Go.ChangeShapes Go.WideShapes Go.ChangeAt Go.RowKit
set_option linter.unusedVariables false
set_option linter.unusedSimpArgs false

theorem matcher_knobs : ownKnob Tryz.prog.godebug = none := by kernel_rfl
theorem matcher_laidOut : laidOutB Tryz.prog = true := by kernel_rfl
theorem u8Extra : U8Extra Tryz.prog Tryz.lays197_ren := ⟨by kernel_rfl, by kernel_rfl, by kernel_rfl, by kernel_rfl, by kernel_rfl, by kernel_rfl, by kernel_rfl⟩
theorem printExtra : PrintExtra Tryz.prog Tryz.lays339_ren := ⟨by kernel_rfl, by kernel_rfl, by kernel_rfl, by kernel_rfl, by kernel_rfl, by kernel_rfl, by kernel_rfl, by kernel_rfl, by kernel_rfl, by kernel_rfl⟩
theorem accept_eq : (Rows.laid_unicode_utf8_acceptRanges : DataW Unit) = Lib.acceptData := by kernel_rfl

/-- The print tables and unicode/utf8's, as the walks ask for them. -/
theorem tabs_of_reads {W : World} (h7 : Lib.VarReads Tryz.prog W "unicode/utf8.first" Pinned.utf8First) (h8 : Lib.VarReads Tryz.prog W "unicode/utf8.acceptRanges" Rows.laid_unicode_utf8_acceptRanges)
    (h9 : Lib.VarReads Tryz.prog W "strconv.isPrint16" Pinned.isPrint16) (h10 : Lib.VarReads Tryz.prog W "strconv.isNotPrint16" Pinned.isNotPrint16) (h11 : Lib.VarReads Tryz.prog W "strconv.isPrint32" Pinned.isPrint32) (h12 : Lib.VarReads Tryz.prog W "strconv.isNotPrint32" Pinned.isNotPrint32) :
    TabsAt Lib.goPrintTabs W := by
  rw [Pinned.utf8First_eq] at h7
  rw [accept_eq] at h8
  rw [Pinned.isPrint16_eq] at h9
  rw [Pinned.isNotPrint16_eq] at h10
  rw [Pinned.isPrint32_eq] at h11
  rw [Pinned.isNotPrint32_eq] at h12
  exact ⟨printTabs_of_reads (ρ := Tryz.lays339_ren) Tryz.lays339 printExtra h9 h10 h11 h12, utf8Tabs_of_reads (ρ := Tryz.lays197_ren) { Tryz.lays197 with } u8Extra h7 h8⟩

theorem mtName : Tryz.prog.globalNamed "pub-quillon/pub/prometheus/model/labels.matchTypeToStr" = some 1 := by kernel_rfl
/-- The signs of the matchers' types. -/
theorem mt_of_reads {W : World} {t : TypeId} (ht : (Tryz.prog.globals[1]?).map (·.type) = some t) (hu : Tryz.prog.underlying t = some (.array 4 9)) (h : Lib.VarReads Tryz.prog W "pub-quillon/pub/prometheus/model/labels.matchTypeToStr" Rows.laid_pub_quillon_pub_prometheus_model_labels_matchTypeToStr) : MtAt W := by
  obtain ⟨g, t', cs, fuel, p, hg, ht', hv, hd⟩ := h
  obtain rfl := Option.some.inj (mtName.symm.trans hg)
  obtain rfl := Option.some.inj (ht.symm.trans ht')
  obtain ⟨xs, m, _, ex, _, hl, hel⟩ := DataW.trod_array hu hd
  have c9 : Tryz.prog.cellsOf 9 = 1 := by kernel_rfl
  have e3 : xs.map (·.1) = [.lit (.string [61]), .lit (.string [33, 61]), .lit (.string [61, 126]), .lit (.string [33, 126])] := (DataW.agg.inj (Prod.mk.inj ex).1).symm
  have key : ∀ (r : Nat) (bs : List UInt8), r < 4 → ([.lit (.string [61]), .lit (.string [33, 61]), .lit (.string [61, 126]), .lit (.string [33, 126])] : List (DataW Unit))[r]? = some (.lit (.string bs)) → W.cell? ⟨1, r, none⟩ = some (.string ⟨bs.toArray⟩) := fun r bs hr hb => by
    have hE := hel r hr
    rw [c9, Nat.mul_one, List.getElem?_eq_getElem (by omega)] at hE
    obtain ⟨s, e1, e2, _⟩ := DataW.trod_string Tryz.underlying9 hE
    have e4 := congrArg (fun l => l[r]?) e3
    simp only [List.getElem?_map] at e4
    rw [List.getElem?_eq_getElem (by omega : r < xs.length), e2, hb] at e4
    have hs : s.data.toList = bs := by simpa using e4
    have h0 : ((cs.toList.drop r).take 1)[0]? = some (.string s) := by rw [e1]; rfl
    have h1 : cs.toList[r]? = some (.string s) := by simpa using h0
    rw [World.var?_cell hg hv r, ← Array.getElem?_toList, h1, ← hs]
  exact ⟨key 0 _ (by omega) rfl, key 1 _ (by omega) rfl⟩

set_option maxHeartbeats 0 in
theorem matcher_closed : joinedFacts Tryz.prog 3 Tryz.f3 Rows.fnMatcherSpec Rows.fnMatcherRow = true := by
  unfold joinedFacts
  simp only [Bool.and_eq_true]
  and_intros <;> as_aux_lemma => kernel_rfl

set_option maxRecDepth 100000 in
theorem matcher_lifted (os : Os) (started : os.Started) (H : Type) (enc : TypeId × Value → H) :
    ReturnsInHanded {} Tryz.checked os 3 .any (fun w args => (Rows.fnMatcherSpec.pre enc Tryz.prog Tryz.f3 [] false w args ∧ laidMetH Tryz.prog Rows.fnMatcherRow.laid w) ∧ sizedMet enc Tryz.prog Tryz.f3 (OpenSpec.ofChange Rows.fnMatcherSpec) false w args)
      (Rows.fnMatcherSpec.post enc Tryz.prog Tryz.f3 false true false false) := by
  refine returnsInHanded_of_change_and (C := Tryz.checked) (X := fun w _ => laidMetH Tryz.prog Rows.fnMatcherRow.laid w) (fun _ _ _ hh h => h.of_heap hh) matcher_knobs started (by kernel_rfl) Tryz.func3
    (ChangeSpec.witness_shaped (enc := enc) (C := Tryz.checked) (os := os) (X := fun w _ => laidMetH Tryz.prog Rows.fnMatcherRow.laid w) false (World.laidAll Tryz.prog os Rows.fnMatcherRow.laid) #[.agg #[.int .i64 0, .string ⟨#[]⟩, .string ⟨#[]⟩], .string ⟨#[]⟩] 8 (World.laidAll_os _ _ _)
      (World.shaped_of_ZipB (by kernel_rfl) (by kernel_rfl)) (by kernel_rfl) (by kernel_rfl) (by kernel_rfl)
      (by rw [MakeChecks.laidMetH_plain _ _ _ (by kernel_rfl)]; exact laidMet_laidAll _ (by kernel_rfl) (by kernel_rfl))) ?_
  intro W base args ds gs before hval0 hW _ _ hL _
  have hval : ∀ (j : Nat) t v, Tryz.f3.params[j]? = some t → args[j]? = some v → Value.okWide Tryz.prog W .any base t v := hval0
  have hW' := hW
  obtain ⟨p, q, hA0, hV, rfl, hfz, hnd⟩ := hW
  have hA : DataW.TrodAll enc Tryz.prog W 0 (fun _ => true) true Tryz.f3.params.toList args.toList ds p := hA0
  rw [Tryz.params3] at hA hval
  obtain ⟨v0, vs0, d0, ds0, p0, q0, hargs, rfl, rfl, h0, r0⟩ := trodAll_cons hA
  obtain ⟨v1, vs1, d1, ds1, p1, q1, rfl, rfl, rfl, h1, r1⟩ := trodAll_cons r0
  obtain ⟨rfl, rfl, rfl⟩ := trodAll_nil r1
  obtain rfl : args = #[v0, v1] := by cases args; simp_all
  obtain ⟨rfl, rfl⟩ := trodVars_none hV
  have k0 := h0
  have k1 := h1
  have lt0 : ∀ x ∈ p0, x.block < W.heap.size := by obtain ⟨m, hm⟩ := k0; exact DataW.trod_lt m _ _ _ hm
  have lt1 : ∀ x ∈ p1, x.block < W.heap.size := by obtain ⟨m, hm⟩ := k1; exact DataW.trod_lt m _ _ _ hm
  obtain ⟨c0, c1, c2, y0, y1, y2, m, rfl, rfl, rfl, hy0, hy1, hy2⟩ := Joins.open_agg3 Tryz.underlying23 (by kernel_rfl) (by kernel_rfl) (hval 0 23 v0 rfl rfl) h0
  obtain ⟨k, ek, _, wk⟩ := DataW.trod_int Tryz.underlying3 hy0
  obtain ⟨nm, en, _, wn⟩ := DataW.trod_string Tryz.underlying9 hy1
  obtain ⟨vl, ev, _, wv⟩ := DataW.trod_string Tryz.underlying9 hy2
  injection ek with ek _
  injection en with en _
  injection ev with ev _
  subst ek en ev
  obtain ⟨s, rfl, rfl, rfl, ws⟩ := ChangeMaps.open_string Tryz.underlying9 (hval 1 9 v1 rfl rfl) h1
  have hk : -9223372036854775808 ≤ k ∧ k ≤ 9223372036854775807 := by simpa [Lit.wf, IntKind.min, IntKind.max, IntKind.signed, IntKind.bits] using wk
  rw [MakeChecks.laidMetH_plain _ _ _ (by kernel_rfl)] at hL
  have hT : TabsAt Lib.goPrintTabs W := tabs_of_reads (Lib.laidMet.reads hL (by simp [Rows.fnMatcherRow, Rows.laid_unicode_utf8_first])) (Lib.laidMet.reads hL (by simp [Rows.fnMatcherRow])) (Lib.laidMet.reads hL (by simp [Rows.fnMatcherRow, Rows.laid_strconv_isPrint16])) (Lib.laidMet.reads hL (by simp [Rows.fnMatcherRow, Rows.laid_strconv_isNotPrint16])) (Lib.laidMet.reads hL (by simp [Rows.fnMatcherRow, Rows.laid_strconv_isPrint32])) (Lib.laidMet.reads hL (by simp [Rows.fnMatcherRow, Rows.laid_strconv_isNotPrint32]))
  have hMt : MtAt W := mt_of_reads (t := 344) (by kernel_rfl) (by kernel_rfl) (Lib.laidMet.reads hL (by simp [Rows.fnMatcherRow]))
  clear hA0 hval0 hL
  refine (fnMatcher_walk Lib.goPrintTabs k nm vl s W hT hMt hk.1 hk.2 wn wv ws).mono fun e W' ⟨he, hf⟩ => ?_
  subst he
  have hB := hf.none_toBelow
  exact ⟨_, rfl, _, _, _, [], _, [], hW', trodAll_mk1 (shut_bool Tryz.underlying4 _), (trodAll_cons_mk (Below.trod matcher_laidOut (by kernel_rfl) (of_decide_eq_true (by kernel_rfl)) k0 hB lt0) (trodAll_cons_mk (Below.trod matcher_laidOut (by kernel_rfl) (of_decide_eq_true (by kernel_rfl)) k1 hB lt1) trodAll_mk0)), rfl, hB.frame _, fun h => by cases h⟩

theorem matcher_named : Tryz.prog.funcNamed "pub-quillon/laws.FnMatcher" = some 3 := by kernel_rfl
theorem matcher_instance : Tryz.f3.isInstance Tryz.prog Rows.fnMatcherRow.origin Rows.fnMatcherRow.targs := of_decide_eq_true (by kernel_rfl)
theorem matcher_wrapper : Tryz.f3.isWrapper Tryz.prog Rows.fnMatcherRow.wrapper Rows.fnMatcherRow.mainSum := by
  unfold Func.isWrapper
  first | (rw [if_pos (by decide +kernel)]; kernel_rfl) | (rw [if_neg (by decide +kernel)]; exact ⟨rfl, rfl⟩)
theorem matcher_wf : Rows.fnMatcherRow.wfByText (OpenSpec.ofChange Rows.fnMatcherSpec) = true := by kernel_rfl
theorem matcher_main : Tryz.prog.mainIs = some (true, "2013f6a409768eab55667db855df5ae58df30dc7a0f573b2f9cf8a757ae4012f".toList) := by kernel_rfl
theorem matcher_looks : true = Tryz.prog.looks [] := by kernel_rfl
theorem matcher_goes : false = Rows.fnMatcherRow.goesBy Tryz.prog := by kernel_rfl
theorem matcher_stand : ([23, 9].all fun u => !Tryz.prog.wantsStandIn u) = true := by kernel_rfl

theorem fnMatcher_row : Rows.FnMatcherSaid :=
  OpenClaim.holds_of_wide 3 Tryz.f3 rfl rfl rfl rfl rfl rfl rfl ⟨rfl, rfl, rfl, rfl, rfl⟩ rfl rfl rfl rfl rfl matcher_named Tryz.func3 matcher_closed
    matcher_instance matcher_wrapper (fun os started H enc _ => matcher_lifted os started H enc)

/-- THE TIED CARD. -/
theorem fnMatcher_holds : Rows.FnMatcherCardSaid :=
  Claim7.holds_tied_plain_at .later [] [.data, .sentinel, .data, .pinned, .pinned, .pinned, .pinned, .pinned, .pinned] true (true, "2013f6a409768eab55667db855df5ae58df30dc7a0f573b2f9cf8a757ae4012f") true
    fnMatcher_row (fun _ h => by cases h) matcher_wf (fun _ h => by cases h) fnMatcher_row_tie rfl ⟨rfl, rfl⟩ matcher_main rfl
    (fun f fn hf hfn => by
      obtain rfl : f = 3 := Option.some.inj (matcher_named.symm.trans hf) |>.symm
      obtain rfl : fn = Tryz.f3 := (Option.some.inj (Tryz.func3.symm.trans hfn)).symm
      exact ⟨matcher_looks, fun j t ht => by
        rw [Tryz.params3] at ht
        have hm : t ∈ [23, 9] := by simpa using Array.mem_of_getElem? ht
        exact (show Tryz.prog.wantsStandIn t = false by simpa using List.all_eq_true.1 matcher_stand t hm)⟩)
    matcher_goes
#print axioms fnMatcher_holds
end Go.Proofs.YtbkookiigkckdaaGreatDoor
