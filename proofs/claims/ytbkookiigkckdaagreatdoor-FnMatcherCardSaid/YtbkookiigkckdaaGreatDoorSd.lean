/- Samples: the decoder. -/
import Derived.Test.YtbkookiigkckdaaGreatDoorWa
import Derived.Test.YtbkookiigkckdaaGreatDoorDecB
import Derived.Laws.MakeOwn

namespace Go.Proofs.YtbkookiigkckdaaGreatDoor
open Go.RowKit
set_option linter.unusedVariables false
set_option linter.unusedSimpArgs false

def smpStep (br : Nat) (bt : Int) (st : St) : Smp × St :=
  (⟨u64 (wrap64 (i64 br + (gVar st).1)), wrap64 (bt + (gVar (gVar st).2).1), (gBe64 (gVar (gVar st).2).2).1⟩, (gBe64 (gVar (gVar st).2).2).2)

def smpLoop (br : Nat) (bt : Int) : Nat → St → List Smp → List Smp × St
  | k + 1, some (c :: r), acc => smpLoop br bt k (smpStep br bt (some (c :: r))).2 (acc ++ [(smpStep br bt (some (c :: r))).1])
  | _, st, acc => (acc, st)

theorem smp_cells (br : Nat) (bt : Int) (st : St) : (#[Value.int IntKind.u64 (IntKind.u64.wrap (wrap64 (wrap64 ↑br + (gVar st).fst))), Value.int IntKind.i64 (wrap64 (bt + (gVar (gVar st).snd).fst)), Value.float FloatKind.f64 (gBe64 (gVar (gVar st).snd).snd).fst] : Array Value) = (Smp.b (smpStep br bt st).1).toArray := by
  have h : ∀ x : Int, IntKind.u64.wrap x = (u64 x : Int) := fun x => by rw [IntKind.wrap_u64]; unfold u64; omega
  simp only [smpStep, Smp.b, h]
  rfl

/-- What Decoder.Samples reads. -/
def decSamples (xs : List UInt8) : Option (List Smp) :=
  match xs with
  | [] => none
  | b :: rest => if b = 2 then (if rest = [] then some [] else
      match smpLoop (gBe64 (some rest)).1 (gBe64i (gBe64 (some rest)).2).1 rest.length (gBe64i (gBe64 (some rest)).2).2 [] with
      | (l, some _) => some l
      | (_, none) => none) else none

theorem gUv_len {st : St} {l : List UInt8} (h : (gUv st).2 = some l) : ∃ l0, st = some l0 ∧ l.length < l0.length := by
  rcases st with _ | l0
  · cases h
  · refine ⟨l0, rfl, ?_⟩
    unfold gUv at h
    simp only [] at h
    by_cases hk : 1 ≤ (Lib.uvarintDec l0).2
    · rw [if_pos hk] at h
      injection h with h
      have := uvDec_le l0
      rw [← h, List.length_drop]; omega
    · rw [if_neg hk] at h; cases h
theorem gBe_len {st : St} {l : List UInt8} (h : (gBe64 st).2 = some l) : ∃ l0, st = some l0 ∧ l.length < l0.length := by
  rcases st with _ | l0
  · cases h
  · refine ⟨l0, rfl, ?_⟩
    by_cases hk : 8 ≤ l0.length
    · rw [gBe64_long hk] at h; injection h with h; rw [← h, List.length_drop]; omega
    · rw [gBe64_short (by omega)] at h; cases h
theorem smpStep_len {br : Nat} {bt : Int} {l0 l : List UInt8} (h : (smpStep br bt (some l0)).2 = some l) : l.length < l0.length := by
  obtain ⟨l1, h1, h1'⟩ := gBe_len h
  obtain ⟨l2, h2, h2'⟩ := gUv_len (st := (gVar (some l0)).2) h1
  obtain ⟨l3, h3, h3'⟩ := gUv_len (st := some l0) h2
  injection h3 with h3; subst h3; omega

theorem Dec.fr {te : TypeId} {pe : Value} {w w' : World} {d g : Nat} {cur : Array Value} {st : St} {S : Nat → Prop} (h : Dec te pe w d g cur st) (hf : Fr S w w') (hd : ¬ S d) (hg : ¬ S g) (h2 : ¬ S 2) : Dec te pe w' d g cur st := by
  have go : ∀ {rest : List UInt8} {E : Value}, DecOk (.iface te pe) w d g cur rest E → DecOk (.iface te pe) w' d g cur rest E := by
    rintro rest E ⟨off, c, hb, hg', hl, hm, hr, hE⟩
    refine ⟨off, c, hb.fr hf hd, hg'.fr hf hg, hl, hm, hr, ?_⟩
    rw [hf.cell (p := ⟨2, 0, none⟩) (World.block_lt_of_cell? w _ hE) h2]; exact hE
  rcases st with _ | l
  · obtain ⟨rest, h⟩ := h; exact ⟨rest, go h⟩
  · exact go h

/-- A measure of what is left to read: nothing, where there is an error. -/
def decM (d : Nat) (w : World) : Nat :=
  match w.cell? ⟨d, 1, none⟩, w.cell? ⟨d, 0, none⟩ with
  | some .nilIface, some (.slice _ n _) => n + 1
  | _, _ => 0
theorem decM_some {te : TypeId} {pe : Value} {w : World} {d g : Nat} {cur : Array Value} {l : List UInt8} (h : Dec te pe w d g cur (some l)) : decM d w = l.length + 1 := by
  obtain ⟨off, c, hb, _⟩ := h
  have h0 := hb.cell 0
  have h1 := hb.cell 1
  simp at h0 h1
  simp [decM, h0, h1]
theorem decM_none {te : TypeId} {pe : Value} {w : World} {d g : Nat} {cur : Array Value} (h : Dec te pe w d g cur none) : decM d w = 0 := by
  obtain ⟨rest, off, c, hb, _⟩ := h
  have h0 := hb.cell 0
  have h1 := hb.cell 1
  simp at h0 h1
  simp [decM, h0, h1]

/-- The cells of a Decbuf, as a walk reads them. -/
theorem Dec.open_ {te : TypeId} {pe : Value} {w : World} {d g : Nat} {cur : Array Value} {st : St} (h : Dec te pe w d g cur st) :
    ∃ (n : Nat) (off c : Nat), w.cell? ⟨d, 0, none⟩ = some (.slice (some ⟨g, off, none⟩) n c) ∧ w.cell? ⟨d, 1, none⟩ = some (errV te pe st) ∧ (∀ l, st = some l → n = l.length) ∧ n ≤ 1099511627776 ∧ d < w.heap.size ∧ g < w.heap.size ∧ 2 < w.heap.size := by
  have key : ∀ {rest : List UInt8} {E : Value}, DecOk (.iface te pe) w d g cur rest E → ∃ off c : Nat, w.cell? ⟨d, 0, none⟩ = some (.slice (some ⟨g, off, none⟩) rest.length c) ∧ w.cell? ⟨d, 1, none⟩ = some E ∧ rest.length ≤ 1099511627776 ∧ d < w.heap.size ∧ g < w.heap.size ∧ 2 < w.heap.size := by
    rintro rest E ⟨off, c, hb, hg', hl, hm, hr, hE⟩
    have h0 := hb.cell 0
    have h1 := hb.cell 1
    simp at h0 h1
    exact ⟨off, c, h0, h1, hm.2, hb.lt, hg'.lt, World.block_lt_of_cell? w _ hE⟩
  rcases st with _ | l
  · obtain ⟨rest, h⟩ := h
    obtain ⟨off, c, h0, h1, h2, h3⟩ := key h
    exact ⟨_, off, c, h0, h1, (fun _ e => by cases e), h2, h3⟩
  · obtain ⟨off, c, h0, h1, h2, h3⟩ := key h
    exact ⟨_, off, c, h0, h1, (fun _ e => by cases e; rfl), h2, h3⟩

/-- A call that hands back an error of its own. -/
def ErrNew (w : World) (r : Ending) (w' : World) : Prop := ∃ t a, r = .returned (.iface t a) ∧ Fr (fun _ => False) w w'

theorem errNew_any (s : ByteArray) (w : World) : Calls Tryz.prog 161 #[.string s] w (ErrNew w) := by
  go_enter Tryz.func161, Tryz.ntmps161
  go_wp2_with fail
  go_ret
  exact ⟨_, _, rfl, (Fr.refl _ w).alloc _⟩

theorem own_slice' {w : World} {base : Nat} {e : TypeId} {size n : Nat} {v : Value} {xs : List Value} (h : w.ownsRow base e size v n xs) : ∃ a c, v = .slice a n c := by
  rcases h.2 with ⟨rfl, rfl⟩ | ⟨g', cap, cur, rfl, _⟩
  · exact ⟨_, _, rfl⟩
  · exact ⟨_, _, rfl⟩

def LenEnds2 (w : World) (cur : Array Value) (st : St) (r : Ending) (w' : World) : Prop := ∃ n : Nat, r = .returned (.int .i64 n) ∧ (∀ l, st = some l → n = l.length) ∧ n ≤ 1099511627776 ∧ w = w'
theorem decLen2 (te : TypeId) (pe : Value) (d g : Nat) (cur : Array Value) (st : St) (w : World) (h : Dec te pe w d g cur st) : Calls Tryz.prog 118 #[.pointer (some ⟨d, 0, none⟩)] w (LenEnds2 w cur st) := by
  obtain ⟨n, off, c, hc0, _, H1, H2, _⟩ := h.open_
  have HH := Lib.hid H1
  clear h H1
  go_enter Tryz.func118, Tryz.ntmps118
  go_wp2
  go_ret
  exact ⟨n, rfl, HH.out, H2, rfl⟩

/-- The bytes of a record in block g, as a slice value. -/
def Rec (te : TypeId) (pe : Value) (w : World) (g : Nat) (cur : Array Value) (xs : List UInt8) (v : Value) : Prop :=
  ∃ off c, v = .slice (some ⟨g, off, none⟩) xs.length c ∧ Blk w g 5 cur ∧ xs.length ≤ c ∧ (c ≤ 9223372036854775807 ∧ xs.length ≤ 1099511627776) ∧ (∀ j u, (bc xs)[j]? = some u → cur[off + j]? = some u) ∧ w.cell? ⟨2, 0, none⟩ = some (.iface te pe)
theorem Rec.dec {te : TypeId} {pe : Value} {w : World} {g : Nat} {cur : Array Value} {xs : List UInt8} {v : Value} (h : Rec te pe w g cur xs v) : Dec te pe (w.alloc (.cells #[v, .nilIface] 229)) w.heap.size g cur (some xs) := by
  obtain ⟨off, c, rfl, hg, hl, hm, hr, hE⟩ := h
  refine ⟨off, c, Blk.new w 229 _, hg.alloc _, hl, hm, hr, ?_⟩
  rw [((Fr.refl (fun _ => False) w).alloc _).cell (p := ⟨2, 0, none⟩) (World.block_lt_of_cell? w _ hE) (fun e => e)]
  exact hE

def SamplesEnds (w : World) (base : Nat) (o : Option Nat) (xs : List UInt8) (r : Ending) (w' : World) : Prop :=
  Fr (fun k => some k = o) w w' ∧ match decSamples xs with
    | some l => ∃ v', r = .returned (.tuple #[v', .nilIface]) ∧ w'.ownsRow base 137 3 v' l.length (l.flatMap Smp.b)
    | none => ∃ t a, r = .returned (.tuple #[.slice none 0 0, .iface t a])

theorem samplesEnds_none {w w' : World} {base : Nat} {o : Option Nat} {xs : List UInt8} {t : TypeId} {a : Value} (hd : decSamples xs = none) (hf : Fr (fun k => some k = o) w w') : SamplesEnds w base o xs (.returned (.tuple #[.slice none 0 0, .iface t a])) w' := by
  unfold SamplesEnds; rw [hd]; exact ⟨hf, _, _, rfl⟩
theorem samplesEnds_some {w w' : World} {base : Nat} {o : Option Nat} {xs : List UInt8} {l : List Smp} {v : Value} (hd : decSamples xs = some l) (hf : Fr (fun k => some k = o) w w') (ho : w'.ownsRow base 137 3 v l.length (l.flatMap Smp.b)) : SamplesEnds w base o xs (.returned (.tuple #[v, .nilIface])) w' := by
  unfold SamplesEnds; rw [hd]; exact ⟨hf, _, rfl, ho⟩

set_option maxRecDepth 100000 in
set_option maxHeartbeats 1000000 in
theorem decSamples_type (te : TypeId) (pe : Value) (dv : Value) (g base : Nat) (cur : Array Value) (xs : List UInt8) (v sv : Value) (w : World) (h : Rec te pe w g cur xs v) (hx : (gByte (some xs)).1 ≠ 2) :
    Calls Tryz.prog 71 #[dv, v, sv] w (SamplesEnds w base sv.ownBlock xs) := by
  have hd : decSamples xs = none := by
    rcases xs with _ | ⟨b, r⟩
    · rfl
    · have : ¬ b = 2 := by rintro rfl; exact hx rfl
      simp [decSamples, this]
  unfold SamplesEnds
  rw [hd]
  clear hd
  have hD := h.dec
  obtain ⟨off, c, rfl, _⟩ := h
  have hQ := decByte te pe w.heap.size g cur _ _ hD
  have hx2 : ¬ ((gByte (some xs)).1 : Int) = 2 := by omega
  clear hD hx
  generalize (gByte (some xs)).1 = x at hQ hx2
  generalize (gByte (some xs)).2 = st at hQ
  go_enter Tryz.func71, Tryz.ntmps71
  go_wp2_with (first | (go_at_call 160; refine hQ.mono ?_; rintro r w1 ⟨rfl, hD1, hf1⟩) | (go_at_call 161; refine (errNew_any _ _).mono ?_; rintro r w2 ⟨t, a, rfl, hf2⟩))
  go_ret2
  refine ⟨?_, _, _, rfl⟩
  have f1 := (((Fr.refl (fun k => some k = sv.ownBlock) w).alloc (.cells #[.slice (some ⟨g, off, none⟩) xs.length c, .nilIface] 229)).trans hf1 (fun k hk e => by omega))
  exact f1.trans hf2 (fun _ _ e => e.elim)

set_option maxRecDepth 100000 in
set_option maxHeartbeats 1000000 in
theorem decSamples_empty (te : TypeId) (pe : Value) (dv : Value) (g base : Nat) (cur : Array Value) (v sv : Value) (w : World) (h : Rec te pe w g cur [2] v) (ho : w.ownsRow base 137 3 sv 0 []) (hb : g < base ∧ 2 < base) :
    Calls Tryz.prog 71 #[dv, v, sv] w (SamplesEnds w base sv.ownBlock [2]) := by
  have hD := h.dec
  obtain ⟨off, c, rfl, _⟩ := h
  have hQ := decByte te pe w.heap.size g cur _ _ hD
  have e1 : gByte (some [(2 : UInt8)]) = (2, some []) := rfl
  rw [e1] at hQ
  have HO := Lib.hid ho
  obtain ⟨a', n', k', rfl⟩ := own_slice ho
  clear hD e1 ho
  go_enter Tryz.func71, Tryz.ntmps71
  go_wp2_with (first | (go_at_call 160; refine hQ.mono ?_; rintro r w1 ⟨rfl, hD1, hf1⟩; have hL := decLen te pe _ _ _ _ _ hD1) | (go_at_call 118; refine hL.mono ?_; rintro r w2 ⟨n, rfl, hn, _, rfl⟩; have hn0 := hn _ rfl; subst hn0))
  go_ret2
  refine ⟨((Fr.refl _ w).alloc _).trans hf1 (fun k hk e => by omega), _, rfl, ?_⟩
  exact own_fr (HO.out.alloc _) hf1 (fun k hk => by have := own_lt HO.out hk; omega)

theorem Tryz.info137b : (Tryz.prog.info? 137).map (fun i => (i.zero, i.size, i.bytes)) = some (some (.agg #[.int .u64 0, .int .i64 0, .float .f64 0]), 3, 24) := Tryz.info137

set_option maxRecDepth 100000 in
set_option maxHeartbeats 2000000 in
theorem decSamples_main (te : TypeId) (pe : Value) (dv : Value) (g base : Nat) (cur : Array Value) (rest : List UInt8) (hne : rest ≠ []) (v sv : Value) (w : World) (h : Rec te pe w g cur (2 :: rest) v) (ho : w.ownsRow base 137 3 sv 0 []) (hb : g < base ∧ 2 < base ∧ base ≤ w.heap.size) :
    Calls Tryz.prog 71 #[dv, v, sv] w (SamplesEnds w base sv.ownBlock (2 :: rest)) := by
  obtain ⟨i0, hi0, hz0, hz1, hz2⟩ := info_parts Tryz.info137
  have hD := h.dec
  obtain ⟨off, c, rfl, _⟩ := h
  have hQ := decByte te pe w.heap.size g cur _ _ hD
  have e1 : gByte (some (2 :: rest)) = (2, some rest) := rfl
  rw [e1] at hQ
  have HO := Lib.hid ho
  obtain ⟨a', k', rfl⟩ := own_slice' ho
  have hms : ∀ (m : Int) (W : World), 0 ≤ m → m ≤ 1099511627776 → (Instr.makeSlice 131 (.int .i64 0) (.int .i64 m)).run Tryz.prog W = .ok (.slice (some ⟨W.heap.size, 0, none⟩) 0 m.toNat) (W.alloc (.cells (madeCells (Value.agg #[.int .u64 0, .int .i64 0, .float .f64 0]).cells (m.toNat * 3)) 137)) := fun m W h0 h1 => by
    have h := run_make (P := Tryz.prog) W 131 137 i0 _ Tryz.underlying131 hi0 hz0 .i64 .i64 0 m (by omega) (by omega) (by rw [hz2]; omega) (by omega)
    rw [hz1] at h
    exact h
  have hs1 : ∃ b st, gBe64 (some rest) = (b, st) := ⟨_, _, rfl⟩
  obtain ⟨bref, st1, hs1⟩ := hs1
  obtain ⟨bt, st2, hs2⟩ : ∃ b st, gBe64i st1 = (b, st) := ⟨_, _, rfl⟩
  have hdec : decSamples (2 :: rest) = match smpLoop bref bt rest.length st2 [] with | (l, some _) => some l | (_, none) => none := by
    show (if (2 : UInt8) = 2 then (if rest = [] then some [] else match smpLoop (gBe64 (some rest)).1 (gBe64i (gBe64 (some rest)).2).1 rest.length (gBe64i (gBe64 (some rest)).2).2 [] with | (l, some _) => some l | (_, none) => none) else none) = _
    rw [if_pos rfl, if_neg hne, hs1, hs2]
  have hst2 : ∀ l, st2 = some l → l.length ≤ rest.length := by
    rintro l rfl
    have e2 : (gBe64 st1).2 = some l := by have := congrArg Prod.snd hs2; exact this
    obtain ⟨l1, h1, h1'⟩ := gBe_len e2
    have e3 : (gBe64 (some rest)).2 = some l1 := by rw [hs1]; exact h1
    obtain ⟨l2, h2, h2'⟩ := gBe_len e3
    injection h2 with h2; subst h2; omega
  have hrl : rest.length ≤ 1099511627776 := by
    obtain ⟨n, off', c', _, _, hn, hnc, _⟩ := hD.open_
    have := hn _ rfl
    simp at this; omega
  have hr0 : 0 < rest.length := List.length_pos_iff.2 hne
  have HD2 := Lib.hid hst2
  have HDE := Lib.hid hdec
  clear hD e1 ho hdec hst2 hne
  go_enter Tryz.func71, Tryz.ntmps71
  go_wp2_with (first
    | (go_at_call 160; refine hQ.mono ?_; rintro r w1 ⟨rfl, hD1, hf1⟩; have hL := decLen te pe _ _ _ _ _ hD1; have hB := decBe64 te pe _ _ _ _ _ hD1; rw [hs1] at hB)
    | (go_at_call 118; refine hL.mono ?_; rintro r w2 ⟨n, rfl, hn, _, rfl⟩; have hn0 : n = rest.length := hn _ rfl; subst hn0; clear hL)
    | (go_at_call 162; refine hB.mono ?_; rintro r w3 ⟨rfl, hD3, hf3⟩; have hB4 := decBe64i te pe _ _ _ _ _ hD3; rw [hs2] at hB4)
    | (go_at_call 164; refine hB4.mono ?_; rintro r w4 ⟨rfl, hD4, hf4⟩; refine Hid.out ?_))
  have F4 : Fr (fun k => some k = (Value.slice a' 0 k').ownBlock) w w4 := (((((Fr.refl (fun k => some k = (Value.slice a' 0 k').ownBlock) w).alloc _).trans hf1 (fun k hk e => by omega)).trans hf3 (fun k hk e => by omega)).trans hf4 (fun k hk e => by omega))
  have f14 : Fr (fun k => k = w.heap.size) (w.alloc (.cells #[.slice (some ⟨g, off, none⟩) (2 :: rest).length c, .nilIface] 229)) w4 := (hf1.same hf3).same hf4
  have O4 : w4.ownsRow base 137 3 (.slice a' 0 k') 0 [] := own_fr (HO.out.alloc _) f14 (fun k hk => by have := own_lt HO.out hk; omega)
  have hs4 := F4.size
  have hn4 : ∀ k, (Value.slice a' 0 k').ownBlock = some k → k < w.heap.size := fun k hk => own_lt HO.out hk
  have hL2 := decLen2 te pe _ _ _ _ _ hD4
  obtain ⟨m4, off4, c4, q0, q1, _, _, hd4, _⟩ := hD4.open_
  have HF4 := Lib.hid F4
  have HO4 := Lib.hid O4
  have HD4 := Lib.hid hD4
  have HN4 := Lib.hid hn4
  clear hD1 hf1 hf3 hf4 hD3 hB hB4 hQ F4 f14 O4 hD4 hn4 q0 q1
  have hms' := hms
  clear hms
  have HMS := Lib.hid hms'
  clear hms'
  refine Lib.hid ?_
  go_wp2_with (first
    | (go_at_call 118; refine hL2.mono ?_; rintro r w5 ⟨n5, rfl, hn5, hnb5, rfl⟩; refine Hid.out ?_))
  have hm0 : (0 : Int) ≤ (n5 : Int) / 10 := by omega
  have hm1 : (n5 : Int) / 10 ≤ 1099511627776 := by omega
  have hms5 := HMS.out ((n5 : Int) / 10) w4 hm0 hm1
  have hO5 := World.ownsRow_made (base := base) (e := 137) (size := 3) w4 (madeCells #[.int .u64 0, .int .i64 0, .float .f64 0] (n5 / 10 * 3)) (n5 / 10) (by omega) (by unfold maxLen; omega) (size_madeCells _ _)
  have hD5 := HD4.out.fr ((Fr.refl (fun _ => False) w4).alloc (.cells (madeCells #[.int .u64 0, .int .i64 0, .float .f64 0] (n5 / 10 * 3)) 137)) (fun e => e) (fun e => e) (fun e => e)
  have hF5 := HF4.out.alloc (.cells (madeCells #[.int .u64 0, .int .i64 0, .float .f64 0] (n5 / 10 * 3)) 137)
  have HO5 := Lib.hid hO5
  have HD5 := Lib.hid hD5
  have HF5 := Lib.hid hF5
  clear hO5 hL2 hD5 hF5
  by_cases hcap : (k' : Int) < (n5 : Int) / 10
  case' pos =>
    refine Lib.hid ?_
    go_wp2_with fail
    have HB5 : Hid (∀ k, (Value.slice (some ⟨w4.heap.size, 0, none⟩) 0 (n5 / 10)).ownBlock = some k → (some k = (Value.slice a' 0 k').ownBlock ∨ w.heap.size < k)) := Lib.hid fun k hk => .inr (by have hk : w4.heap.size = k := Option.some.inj hk; omega)
    clear hms5 HO4 HD4 HF4 HMS
    generalize w4.alloc _ = W5 at HO5 HD5 HF5 ⊢
    clear hcap hm0 hm1 hnb5 hn5 hs4
    generalize (Value.slice (some ⟨w4.heap.size, 0, none⟩) 0 (n5 / 10)) = sv5 at HO5 HB5 ⊢
    clear hd4
  case' neg =>
    refine Lib.hid ?_
    go_wp2_with fail
    have HB5 : Hid (∀ k, (Value.slice a' 0 k').ownBlock = some k → (some k = (Value.slice a' 0 k').ownBlock ∨ w.heap.size < k)) := Lib.hid fun k hk => .inl hk.symm
    clear hms5 HO5 HD5 HF5 HMS
    have HO5 := HO4
    have HD5 := HD4
    have HF5 := HF4
    clear HO4 HD4 HF4 hcap hm0 hm1 hnb5 hn5 hs4 hd4
    generalize w4 = W5 at HO5 HD5 HF5 ⊢
  all_goals
    go_loopw [2] (fun sv wr => ∃ (st : St) (acc : List Smp) (j : Nat), Hid (Dec te pe wr w.heap.size g cur st) ∧ Hid (wr.ownsRow base 137 3 sv acc.length (acc.flatMap Smp.b)) ∧ Hid (Fr (fun k => some k = (Value.slice a' 0 k').ownBlock) w wr) ∧ Hid (∀ k, sv.ownBlock = some k → (some k = (Value.slice a' 0 k').ownBlock ∨ w.heap.size < k)) ∧
        Hid (smpLoop bref bt j st acc = smpLoop bref bt rest.length st2 []) ∧ Hid (∀ l, st = some l → l.length ≤ j ∧ acc.length + l.length ≤ rest.length) ∧ acc.length ≤ rest.length + 1) (fun _ wr => decM w.heap.size wr)
    case atStart => exact ⟨st2, [], rest.length, HD5, HO5, HF5, HB5, Lib.hid rfl, Lib.hid (fun l hl => ⟨HD2.out l hl, by simpa using HD2.out l hl⟩), by simp⟩
    case round =>
      obtain ⟨st, acc, j, HD, HO, HF, HB, HE, HL, hal⟩ := hrel
      obtain ⟨n6, off6, c6, p0, p1, hnl, hnc, hd, hg, h2⟩ := HD.out.open_
      have hE := decErr te pe _ _ _ _ _ HD.out
      obtain ⟨a6, k6, rfl⟩ := own_slice' HO.out
      rcases st with _ | l
      · clear hnl p1
        have hres : smpLoop bref bt rest.length st2 [] = (acc, none) := by rw [← HE.out]; unfold smpLoop; rcases j with _ | j <;> rfl
        have HR := Lib.hid (show decSamples (2 :: rest) = none by rw [HDE.out, hres])
        clear hres
        simp only [errV] at hE
        rcases Nat.eq_zero_or_pos n6 with rfl | hn6
        · go_wp2_with (go_at_call 119; refine hE.mono ?_; rintro r w7 ⟨rfl, rfl⟩)
          go_ret2
          exact samplesEnds_none HR.out HF.out
        · have hn7 : (0 : Int) < (n6 : Int) := by omega
          go_wp2_with (go_at_call 119; refine hE.mono ?_; rintro r w7 ⟨rfl, rfl⟩)
          go_ret2
          exact samplesEnds_none HR.out HF.out
      · obtain rfl : n6 = l.length := hnl l rfl
        simp only [errV] at hE
        rcases l with _ | ⟨x, r⟩
        · have hres : smpLoop bref bt rest.length st2 [] = (acc, some []) := by rw [← HE.out]; unfold smpLoop; rcases j with _ | j <;> rfl
          have HR := Lib.hid (show decSamples (2 :: rest) = some acc by rw [HDE.out, hres])
          clear hres hnl p1
          simp only [List.length_nil] at p0
          go_wp2_with (go_at_call 119; refine hE.mono ?_; rintro r w7 ⟨rfl, rfl⟩)
          go_ret2
          exact samplesEnds_some HR.out HF.out HO.out
        · obtain ⟨n7, hn7⟩ : ∃ n7, (x :: r).length = n7 := ⟨_, rfl⟩
          have hn8 : (0 : Int) < (n7 : Int) := by rw [← hn7]; simp
          have hlb := HL.out _ rfl
          have hM := decM_some HD.out
          rw [hn7] at p0 hlb hM
          have hV1 := decVar te pe _ _ _ _ _ HD.out
          have HN7 := Lib.hid hn7
          clear hnl p1 hn7
          go_wp2_with (first
            | (go_at_call 119; refine hE.mono ?_; rintro r w7 ⟨rfl, rfl⟩)
            | (go_at_call 165; refine hV1.mono ?_; rintro r w8 ⟨rfl, hD8, hf8⟩; refine Hid.out ?_))
          have s8 := hf8.size
          have D8 := Lib.hid hD8
          have hV2 := decVar te pe _ _ _ _ _ hD8
          have F8 := Lib.hid hf8
          clear hD8 hf8 hV1 p0
          refine Lib.hid ?_
          go_wp2_with (go_at_call 165; refine hV2.mono ?_; rintro r w9 ⟨rfl, hD9, hf9⟩; refine Hid.out ?_)
          have s9 := hf9.size
          have D9 := Lib.hid hD9
          have hV3 := decBe64 te pe _ _ _ _ _ hD9
          have F9 := Lib.hid hf9
          clear hD9 hf9 hV2
          refine Lib.hid ?_
          go_wp2_with (go_at_call 162; refine hV3.mono ?_; rintro r wA ⟨rfl, hDA, hfA⟩; refine Hid.out ?_)
          have FA : Fr (fun k => k = w.heap.size) wr wA := (F8.out.same F9.out).same hfA
          have sA := FA.size
          have DA := Lib.hid hDA
          have HFA := Lib.hid FA
          have OA : wA.ownsRow base 137 3 (.slice a6 acc.length k6) acc.length (acc.flatMap Smp.b) := own_fr HO.out FA (fun k hk e => by
            rcases HB.out k hk with h | h
            · have := HN4.out k h.symm; omega
            · omega)
          have HOA := Lib.hid OA
          have r6 := run166
          clear hDA hfA hV3 FA OA D8 F8 D9 F9
          refine Lib.hid ?_
          go_wp2_with (first
            | (at_builtin; refine Hid.out ?_))
          have hcells : (#[Value.int IntKind.u64 (IntKind.u64.wrap (wrap64 (wrap64 ↑bref + (gVar (some (x :: r))).fst))), Value.int IntKind.i64 (wrap64 (bt + (gVar (gVar (some (x :: r))).snd).fst)), Value.float FloatKind.f64 (gBe64 (gVar (gVar (some (x :: r))).snd).snd).fst] : Array Value) = (Smp.b (smpStep bref bt (some (x :: r))).1).toArray := smp_cells _ _ _
          rw [hcells]
          have hlen7 : ∀ l, (smpStep bref bt (some (x :: r))).2 = some l → l.length < n7 := fun l hl => HN7.out ▸ smpStep_len hl
          have hDS : Dec te pe wA w.heap.size g cur (smpStep bref bt (some (x :: r))).2 := DA.out
          have HE2 : Hid (∀ j', j = j' + 1 → smpLoop bref bt j' (smpStep bref bt (some (x :: r))).2 (acc ++ [(smpStep bref bt (some (x :: r))).1]) = smpLoop bref bt rest.length st2 []) := Lib.hid (by rintro j' rfl; exact HE.out)
          clear hcells DA hE HE
          generalize smpStep bref bt (some (x :: r)) = S at hDS hlen7 HE2 ⊢
          obtain ⟨s1, st9⟩ := S
          simp only [] at hDS hlen7 HE2 ⊢
          have hDS2 := Lib.hid hDS
          have hlen8 := Lib.hid hlen7
          clear hDS hlen7
          refine Lib.hid ?_
          refine wpList_append_src _ rfl _ _ 131 131 rfl base 137 i0 _ 3 24 Tryz.underlying131 hi0 hz0 hz1 hz2 rfl (by decide) (.slice a6 acc.length k6) acc.length (acc.flatMap Smp.b) rfl (HOA.out.alloc _) _ 1 (Smp.b s1) rfl (src_blk Tryz.underlying131 (Blk.new wA 137 (Smp.b s1).toArray) rfl (by simp [Smp.b, Value.oneCell'])) (by unfold maxLen; omega) (by omega) (by simp; omega) ?_
          intro v' w2 hown' hgrow hat
          obtain ⟨a9, k9, rfl⟩ := own_slice' hown'
          have hrow : ∀ k, (Value.slice a6 acc.length k6).ownBlock = some k → base ≤ k ∧ k ≠ w.heap.size := fun k hk => ⟨(HOA.out.lt k hk).1, by
            rcases HB.out k hk with h | h
            · have := HN4.out k h.symm; omega
            · omega⟩
          have hsG := hgrow.size
          simp at hsG
          have fG : Fr (fun k => some k = (Value.slice a6 acc.length k6).ownBlock) wA w2 := ((Fr.refl (fun k => some k = (Value.slice a6 acc.length k6).ownBlock) wA).alloc _).grown hgrow (fun k hk => .inl hk.symm)
          have rD : Dec te pe w2 w.heap.size g cur st9 := hDS2.out.fr fG (fun e => (hrow _ e.symm).2 rfl) (fun e => by have := (hrow _ e.symm).1; omega) (fun e => by have := (hrow _ e.symm).1; omega)
          have rO : w2.ownsRow base 137 3 (.slice a9 (acc.length + 1) k9) (acc ++ [s1]).length ((acc ++ [s1]).flatMap Smp.b) := by simpa using hown'
          have rF : Fr (fun k => some k = (Value.slice a' 0 k').ownBlock) w w2 := (HF.out.trans HFA.out (fun k hk e => by omega)).trans fG (fun k hk e => by
            rcases HB.out k e.symm with h | h
            · exact h
            · omega)
          have rB : ∀ k, (Value.slice a9 (acc.length + 1) k9).ownBlock = some k → (some k = (Value.slice a' 0 k').ownBlock ∨ w.heap.size < k) := fun k hk => by
            rcases hat with h | h
            · exact HB.out k (h ▸ hk)
            · rw [h] at hk; injection hk with hk; simp at hk; exact .inr (by omega)
          have rM : decM w.heap.size w2 < n7 + 1 := by
            rcases st9 with _ | l9
            · rw [decM_none rD]; omega
            · rw [decM_some rD]; have := hlen8.out l9 rfl; omega
          have RD := Lib.hid rD
          have RO := Lib.hid rO
          have RF := Lib.hid rF
          have RB := Lib.hid rB
          clear rD rO rF rB hown' hgrow hat hrow fG
          go_wp2
          go_roundw
          case rel =>
            obtain ⟨j', rfl⟩ : ∃ j', j = j' + 1 := ⟨j - 1, by have := HN7.out; simp at this; omega⟩
            refine ⟨st9, acc ++ [s1], j', RD, RO, RF, RB, Lib.hid (HE2.out j' rfl), Lib.hid (fun l hl => ?_), by simp; omega⟩
            have := hlen8.out l hl
            rw [List.length_append, List.length_singleton]
            omega
          case measure => rw [hM]; exact rM

/-- Decoder.Samples. -/
theorem decSamples_any (te : TypeId) (pe : Value) (dv : Value) (g base : Nat) (cur : Array Value) (xs : List UInt8) (v sv : Value) (w : World) (h : Rec te pe w g cur xs v) (ho : w.ownsRow base 137 3 sv 0 []) (hb : g < base ∧ 2 < base ∧ base ≤ w.heap.size) :
    Calls Tryz.prog 71 #[dv, v, sv] w (SamplesEnds w base sv.ownBlock xs) := by
  by_cases hx : (gByte (some xs)).1 = 2
  · rcases xs with _ | ⟨b, rest⟩
    · exact absurd hx (by decide)
    · have hb2 : b = 2 := by
        have : b.toNat = (2 : UInt8).toNat := hx
        exact UInt8.toNat_inj.1 this
      subst hb2
      by_cases hr : rest = []
      · subst hr; exact decSamples_empty te pe dv g base cur v sv w h ho ⟨hb.1, hb.2.1⟩
      · exact decSamples_main te pe dv g base cur rest hr v sv w h ho hb
  · exact decSamples_type te pe dv g base cur xs v sv w h hx

end Go.Proofs.YtbkookiigkckdaaGreatDoor
