/- Texts of this seat, merged: Sd, Ps, Pt. -/
import Derived.Test.YtbkookiigkckdaaGreatDoorK03
import Derived.Test.YtbkookiigkckdaaGreatDoorK07
import Derived.Laws.MakeOwn
import Derived.Lib.EndianMore
/- Samples: the decoder. -/
namespace Go.Proofs.YtbkookiigkckdaaGreatDoor
open Go.RowKit
set_option linter.unusedVariables false
set_option linter.unusedSimpArgs false

def smpStep (br : Nat) (bt : Int) (st : St) : Smp × St :=
  (⟨u64 (wrap64 (i64 br + (gVar st).1)), wrap64 (bt + (gVar (gVar st).2).1), (gBe64 (gVar (gVar st).2).2).1⟩, (gBe64 (gVar (gVar st).2).2).2)

def smpLoop (br : Nat) (bt : Int) : Nat → St → List Smp → List Smp × St
  | k + 1, some (c :: r), acc => smpLoop br bt k (smpStep br bt (some (c :: r))).2 (acc ++ [(smpStep br bt (some (c :: r))).1])
  | _, st, acc => (acc, st)

theorem smp_cells (br : Nat) (bt : Int) (st : St) : (#[Value.int IntKind.u64 (IntKind.u64.wrap (wrap64 (wrap64 ↑br + (gVar st).fst))), Value.int IntKind.i64 (wrap64 (bt + (gVar (gVar st).snd).fst)), Value.float FloatKind.f64 (gBe64 (gVar (gVar st).snd).snd).fst] : Array Value) = (Smp.b (smpStep br bt st).1).toArray := by
  have h : ∀ x : Int, IntKind.u64.wrap x = (u64 x : Int) := fun x => by rw [IntKind.wrap_u64]; unfold u64; omega
  simp only [smpStep, Smp.b, h]
  rfl

/-- What Decoder.Samples reads. -/
def decSamples (xs : List UInt8) : Option (List Smp) :=
  match xs with
  | [] => none
  | b :: rest => if b = 2 then (if rest = [] then some [] else
      match smpLoop (gBe64 (some rest)).1 (gBe64i (gBe64 (some rest)).2).1 rest.length (gBe64i (gBe64 (some rest)).2).2 [] with
      | (l, some _) => some l
      | (_, none) => none) else none

theorem gUv_len {st : St} {l : List UInt8} (h : (gUv st).2 = some l) : ∃ l0, st = some l0 ∧ l.length < l0.length := by
  rcases st with _ | l0
  · cases h
  · refine ⟨l0, rfl, ?_⟩
    unfold gUv at h
    simp only [] at h
    by_cases hk : 1 ≤ (Lib.uvarintDec l0).2
    · rw [if_pos hk] at h
      injection h with h
      have := uvDec_le l0
      rw [← h, List.length_drop]; omega
    · rw [if_neg hk] at h; cases h
theorem gBe_len {st : St} {l : List UInt8} (h : (gBe64 st).2 = some l) : ∃ l0, st = some l0 ∧ l.length < l0.length := by
  rcases st with _ | l0
  · cases h
  · refine ⟨l0, rfl, ?_⟩
    by_cases hk : 8 ≤ l0.length
    · rw [gBe64_long hk] at h; injection h with h; rw [← h, List.length_drop]; omega
    · rw [gBe64_short (by omega)] at h; cases h
theorem smpStep_len {br : Nat} {bt : Int} {l0 l : List UInt8} (h : (smpStep br bt (some l0)).2 = some l) : l.length < l0.length := by
  obtain ⟨l1, h1, h1'⟩ := gBe_len h
  obtain ⟨l2, h2, h2'⟩ := gUv_len (st := (gVar (some l0)).2) h1
  obtain ⟨l3, h3, h3'⟩ := gUv_len (st := some l0) h2
  injection h3 with h3; subst h3; omega

theorem Dec.fr {te : TypeId} {pe : Value} {w w' : World} {d g : Nat} {cur : Array Value} {st : St} {S : Nat → Prop} (h : Dec te pe w d g cur st) (hf : Fr S w w') (hd : ¬ S d) (hg : ¬ S g) (h2 : ¬ S 2) : Dec te pe w' d g cur st := by
  have go : ∀ {rest : List UInt8} {E : Value}, DecOk (.iface te pe) w d g cur rest E → DecOk (.iface te pe) w' d g cur rest E := by
    rintro rest E ⟨off, c, hb, hg', hl, hm, hr, hE⟩
    refine ⟨off, c, hb.fr hf hd, hg'.fr hf hg, hl, hm, hr, ?_⟩
    rw [hf.cell (p := ⟨2, 0, none⟩) (World.block_lt_of_cell? w _ hE) h2]; exact hE
  rcases st with _ | l
  · obtain ⟨rest, h⟩ := h; exact ⟨rest, go h⟩
  · exact go h

/-- A measure of what is left to read: nothing, where there is an error. -/
def decM (d : Nat) (w : World) : Nat :=
  match w.cell? ⟨d, 1, none⟩, w.cell? ⟨d, 0, none⟩ with
  | some .nilIface, some (.slice _ n _) => n + 1
  | _, _ => 0
theorem decM_some {te : TypeId} {pe : Value} {w : World} {d g : Nat} {cur : Array Value} {l : List UInt8} (h : Dec te pe w d g cur (some l)) : decM d w = l.length + 1 := by
  obtain ⟨off, c, hb, _⟩ := h
  have h0 := hb.cell 0
  have h1 := hb.cell 1
  simp at h0 h1
  simp [decM, h0, h1]
theorem decM_none {te : TypeId} {pe : Value} {w : World} {d g : Nat} {cur : Array Value} (h : Dec te pe w d g cur none) : decM d w = 0 := by
  obtain ⟨rest, off, c, hb, _⟩ := h
  have h0 := hb.cell 0
  have h1 := hb.cell 1
  simp at h0 h1
  simp [decM, h0, h1]

/-- The cells of a Decbuf, as a walk reads them. -/
theorem Dec.open_ {te : TypeId} {pe : Value} {w : World} {d g : Nat} {cur : Array Value} {st : St} (h : Dec te pe w d g cur st) :
    ∃ (n : Nat) (off c : Nat), w.cell? ⟨d, 0, none⟩ = some (.slice (some ⟨g, off, none⟩) n c) ∧ w.cell? ⟨d, 1, none⟩ = some (errV te pe st) ∧ (∀ l, st = some l → n = l.length) ∧ n ≤ 1099511627776 ∧ d < w.heap.size ∧ g < w.heap.size ∧ 2 < w.heap.size := by
  have key : ∀ {rest : List UInt8} {E : Value}, DecOk (.iface te pe) w d g cur rest E → ∃ off c : Nat, w.cell? ⟨d, 0, none⟩ = some (.slice (some ⟨g, off, none⟩) rest.length c) ∧ w.cell? ⟨d, 1, none⟩ = some E ∧ rest.length ≤ 1099511627776 ∧ d < w.heap.size ∧ g < w.heap.size ∧ 2 < w.heap.size := by
    rintro rest E ⟨off, c, hb, hg', hl, hm, hr, hE⟩
    have h0 := hb.cell 0
    have h1 := hb.cell 1
    simp at h0 h1
    exact ⟨off, c, h0, h1, hm.2, hb.lt, hg'.lt, World.block_lt_of_cell? w _ hE⟩
  rcases st with _ | l
  · obtain ⟨rest, h⟩ := h
    obtain ⟨off, c, h0, h1, h2, h3⟩ := key h
    exact ⟨_, off, c, h0, h1, (fun _ e => by cases e), h2, h3⟩
  · obtain ⟨off, c, h0, h1, h2, h3⟩ := key h
    exact ⟨_, off, c, h0, h1, (fun _ e => by cases e; rfl), h2, h3⟩

/-- A call that hands back an error of its own. -/
def ErrNew (w : World) (r : Ending) (w' : World) : Prop := ∃ t a, r = .returned (.iface t a) ∧ Fr (fun _ => False) w w'

theorem errNew_any (s : ByteArray) (w : World) : Calls Tryz.prog 161 #[.string s] w (ErrNew w) := by
  go_enter Tryz.func161, Tryz.ntmps161
  go_wp2_with fail
  go_ret
  exact ⟨_, _, rfl, (Fr.refl _ w).alloc _⟩

theorem own_slice' {w : World} {base : Nat} {e : TypeId} {size n : Nat} {v : Value} {xs : List Value} (h : w.ownsRow base e size v n xs) : ∃ a c, v = .slice a n c := by
  rcases h.2 with ⟨rfl, rfl⟩ | ⟨g', cap, cur, rfl, _⟩
  · exact ⟨_, _, rfl⟩
  · exact ⟨_, _, rfl⟩

def LenEnds2 (w : World) (cur : Array Value) (st : St) (r : Ending) (w' : World) : Prop := ∃ n : Nat, r = .returned (.int .i64 n) ∧ (∀ l, st = some l → n = l.length) ∧ n ≤ 1099511627776 ∧ w = w'
theorem decLen2 (te : TypeId) (pe : Value) (d g : Nat) (cur : Array Value) (st : St) (w : World) (h : Dec te pe w d g cur st) : Calls Tryz.prog 118 #[.pointer (some ⟨d, 0, none⟩)] w (LenEnds2 w cur st) := by
  obtain ⟨n, off, c, hc0, _, H1, H2, _⟩ := h.open_
  have HH := Lib.hid H1
  clear h H1
  go_enter Tryz.func118, Tryz.ntmps118
  go_wp2
  go_ret
  exact ⟨n, rfl, HH.out, H2, rfl⟩

/-- The bytes of a record in block g, as a slice value. -/
def Rec (te : TypeId) (pe : Value) (w : World) (g : Nat) (cur : Array Value) (xs : List UInt8) (v : Value) : Prop :=
  ∃ off c, v = .slice (some ⟨g, off, none⟩) xs.length c ∧ Blk w g 5 cur ∧ xs.length ≤ c ∧ (c ≤ 9223372036854775807 ∧ xs.length ≤ 1099511627776) ∧ (∀ j u, (bc xs)[j]? = some u → cur[off + j]? = some u) ∧ w.cell? ⟨2, 0, none⟩ = some (.iface te pe)
theorem Rec.dec {te : TypeId} {pe : Value} {w : World} {g : Nat} {cur : Array Value} {xs : List UInt8} {v : Value} (h : Rec te pe w g cur xs v) : Dec te pe (w.alloc (.cells #[v, .nilIface] 229)) w.heap.size g cur (some xs) := by
  obtain ⟨off, c, rfl, hg, hl, hm, hr, hE⟩ := h
  refine ⟨off, c, Blk.new w 229 _, hg.alloc _, hl, hm, hr, ?_⟩
  rw [((Fr.refl (fun _ => False) w).alloc _).cell (p := ⟨2, 0, none⟩) (World.block_lt_of_cell? w _ hE) (fun e => e)]
  exact hE

def SamplesEnds (w : World) (base : Nat) (o : Option Nat) (xs : List UInt8) (r : Ending) (w' : World) : Prop :=
  Fr (fun k => some k = o) w w' ∧ match decSamples xs with
    | some l => ∃ v', r = .returned (.tuple #[v', .nilIface]) ∧ w'.ownsRow base 137 3 v' l.length (l.flatMap Smp.b)
    | none => ∃ t a, r = .returned (.tuple #[.slice none 0 0, .iface t a])

theorem samplesEnds_none {w w' : World} {base : Nat} {o : Option Nat} {xs : List UInt8} {t : TypeId} {a : Value} (hd : decSamples xs = none) (hf : Fr (fun k => some k = o) w w') : SamplesEnds w base o xs (.returned (.tuple #[.slice none 0 0, .iface t a])) w' := by
  unfold SamplesEnds; rw [hd]; exact ⟨hf, _, _, rfl⟩
theorem samplesEnds_some {w w' : World} {base : Nat} {o : Option Nat} {xs : List UInt8} {l : List Smp} {v : Value} (hd : decSamples xs = some l) (hf : Fr (fun k => some k = o) w w') (ho : w'.ownsRow base 137 3 v l.length (l.flatMap Smp.b)) : SamplesEnds w base o xs (.returned (.tuple #[v, .nilIface])) w' := by
  unfold SamplesEnds; rw [hd]; exact ⟨hf, _, rfl, ho⟩

set_option maxRecDepth 100000 in
set_option maxHeartbeats 1000000 in
theorem decSamples_type (te : TypeId) (pe : Value) (dv : Value) (g base : Nat) (cur : Array Value) (xs : List UInt8) (v sv : Value) (w : World) (h : Rec te pe w g cur xs v) (hx : (gByte (some xs)).1 ≠ 2) :
    Calls Tryz.prog 71 #[dv, v, sv] w (SamplesEnds w base sv.ownBlock xs) := by
  have hd : decSamples xs = none := by
    rcases xs with _ | ⟨b, r⟩
    · rfl
    · have : ¬ b = 2 := by rintro rfl; exact hx rfl
      simp [decSamples, this]
  unfold SamplesEnds
  rw [hd]
  clear hd
  have hD := h.dec
  obtain ⟨off, c, rfl, _⟩ := h
  have hQ := decByte te pe w.heap.size g cur _ _ hD
  have hx2 : ¬ ((gByte (some xs)).1 : Int) = 2 := by omega
  clear hD hx
  generalize (gByte (some xs)).1 = x at hQ hx2
  generalize (gByte (some xs)).2 = st at hQ
  go_enter Tryz.func71, Tryz.ntmps71
  go_wp2_with (first | (go_at_call 160; refine hQ.mono ?_; rintro r w1 ⟨rfl, hD1, hf1⟩) | (go_at_call 161; refine (errNew_any _ _).mono ?_; rintro r w2 ⟨t, a, rfl, hf2⟩))
  go_ret2
  refine ⟨?_, _, _, rfl⟩
  have f1 := (((Fr.refl (fun k => some k = sv.ownBlock) w).alloc (.cells #[.slice (some ⟨g, off, none⟩) xs.length c, .nilIface] 229)).trans hf1 (fun k hk e => by omega))
  exact f1.trans hf2 (fun _ _ e => e.elim)

set_option maxRecDepth 100000 in
set_option maxHeartbeats 1000000 in
theorem decSamples_empty (te : TypeId) (pe : Value) (dv : Value) (g base : Nat) (cur : Array Value) (v sv : Value) (w : World) (h : Rec te pe w g cur [2] v) (ho : w.ownsRow base 137 3 sv 0 []) (hb : g < base ∧ 2 < base) :
    Calls Tryz.prog 71 #[dv, v, sv] w (SamplesEnds w base sv.ownBlock [2]) := by
  have hD := h.dec
  obtain ⟨off, c, rfl, _⟩ := h
  have hQ := decByte te pe w.heap.size g cur _ _ hD
  have e1 : gByte (some [(2 : UInt8)]) = (2, some []) := rfl
  rw [e1] at hQ
  have HO := Lib.hid ho
  obtain ⟨a', n', k', rfl⟩ := own_slice ho
  clear hD e1 ho
  go_enter Tryz.func71, Tryz.ntmps71
  go_wp2_with (first | (go_at_call 160; refine hQ.mono ?_; rintro r w1 ⟨rfl, hD1, hf1⟩; have hL := decLen te pe _ _ _ _ _ hD1) | (go_at_call 118; refine hL.mono ?_; rintro r w2 ⟨n, rfl, hn, _, rfl⟩; have hn0 := hn _ rfl; subst hn0))
  go_ret2
  refine ⟨((Fr.refl _ w).alloc _).trans hf1 (fun k hk e => by omega), _, rfl, ?_⟩
  exact own_fr (HO.out.alloc _) hf1 (fun k hk => by have := own_lt HO.out hk; omega)

theorem Tryz.info137b : (Tryz.prog.info? 137).map (fun i => (i.zero, i.size, i.bytes)) = some (some (.agg #[.int .u64 0, .int .i64 0, .float .f64 0]), 3, 24) := Tryz.info137

set_option maxRecDepth 100000 in
set_option maxHeartbeats 2000000 in
theorem decSamples_main (te : TypeId) (pe : Value) (dv : Value) (g base : Nat) (cur : Array Value) (rest : List UInt8) (hne : rest ≠ []) (v sv : Value) (w : World) (h : Rec te pe w g cur (2 :: rest) v) (ho : w.ownsRow base 137 3 sv 0 []) (hb : g < base ∧ 2 < base ∧ base ≤ w.heap.size) :
    Calls Tryz.prog 71 #[dv, v, sv] w (SamplesEnds w base sv.ownBlock (2 :: rest)) := by
  obtain ⟨i0, hi0, hz0, hz1, hz2⟩ := info_parts Tryz.info137
  have hD := h.dec
  obtain ⟨off, c, rfl, _⟩ := h
  have hQ := decByte te pe w.heap.size g cur _ _ hD
  have e1 : gByte (some (2 :: rest)) = (2, some rest) := rfl
  rw [e1] at hQ
  have HO := Lib.hid ho
  obtain ⟨a', k', rfl⟩ := own_slice' ho
  have hms : ∀ (m : Int) (W : World), 0 ≤ m → m ≤ 1099511627776 → (Instr.makeSlice 131 (.int .i64 0) (.int .i64 m)).run Tryz.prog W = .ok (.slice (some ⟨W.heap.size, 0, none⟩) 0 m.toNat) (W.alloc (.cells (madeCells (Value.agg #[.int .u64 0, .int .i64 0, .float .f64 0]).cells (m.toNat * 3)) 137)) := fun m W h0 h1 => by
    have h := run_make (P := Tryz.prog) W 131 137 i0 _ Tryz.underlying131 hi0 hz0 .i64 .i64 0 m (by omega) (by omega) (by rw [hz2]; omega) (by omega)
    rw [hz1] at h
    exact h
  have hs1 : ∃ b st, gBe64 (some rest) = (b, st) := ⟨_, _, rfl⟩
  obtain ⟨bref, st1, hs1⟩ := hs1
  obtain ⟨bt, st2, hs2⟩ : ∃ b st, gBe64i st1 = (b, st) := ⟨_, _, rfl⟩
  have hdec : decSamples (2 :: rest) = match smpLoop bref bt rest.length st2 [] with | (l, some _) => some l | (_, none) => none := by
    show (if (2 : UInt8) = 2 then (if rest = [] then some [] else match smpLoop (gBe64 (some rest)).1 (gBe64i (gBe64 (some rest)).2).1 rest.length (gBe64i (gBe64 (some rest)).2).2 [] with | (l, some _) => some l | (_, none) => none) else none) = _
    rw [if_pos rfl, if_neg hne, hs1, hs2]
  have hst2 : ∀ l, st2 = some l → l.length ≤ rest.length := by
    rintro l rfl
    have e2 : (gBe64 st1).2 = some l := by have := congrArg Prod.snd hs2; exact this
    obtain ⟨l1, h1, h1'⟩ := gBe_len e2
    have e3 : (gBe64 (some rest)).2 = some l1 := by rw [hs1]; exact h1
    obtain ⟨l2, h2, h2'⟩ := gBe_len e3
    injection h2 with h2; subst h2; omega
  have hrl : rest.length ≤ 1099511627776 := by
    obtain ⟨n, off', c', _, _, hn, hnc, _⟩ := hD.open_
    have := hn _ rfl
    simp at this; omega
  have hr0 : 0 < rest.length := List.length_pos_iff.2 hne
  have HD2 := Lib.hid hst2
  have HDE := Lib.hid hdec
  clear hD e1 ho hdec hst2 hne
  go_enter Tryz.func71, Tryz.ntmps71
  go_wp2_with (first
    | (go_at_call 160; refine hQ.mono ?_; rintro r w1 ⟨rfl, hD1, hf1⟩; have hL := decLen te pe _ _ _ _ _ hD1; have hB := decBe64 te pe _ _ _ _ _ hD1; rw [hs1] at hB)
    | (go_at_call 118; refine hL.mono ?_; rintro r w2 ⟨n, rfl, hn, _, rfl⟩; have hn0 : n = rest.length := hn _ rfl; subst hn0; clear hL)
    | (go_at_call 162; refine hB.mono ?_; rintro r w3 ⟨rfl, hD3, hf3⟩; have hB4 := decBe64i te pe _ _ _ _ _ hD3; rw [hs2] at hB4)
    | (go_at_call 164; refine hB4.mono ?_; rintro r w4 ⟨rfl, hD4, hf4⟩; refine Hid.out ?_))
  have F4 : Fr (fun k => some k = (Value.slice a' 0 k').ownBlock) w w4 := (((((Fr.refl (fun k => some k = (Value.slice a' 0 k').ownBlock) w).alloc _).trans hf1 (fun k hk e => by omega)).trans hf3 (fun k hk e => by omega)).trans hf4 (fun k hk e => by omega))
  have f14 : Fr (fun k => k = w.heap.size) (w.alloc (.cells #[.slice (some ⟨g, off, none⟩) (2 :: rest).length c, .nilIface] 229)) w4 := (hf1.same hf3).same hf4
  have O4 : w4.ownsRow base 137 3 (.slice a' 0 k') 0 [] := own_fr (HO.out.alloc _) f14 (fun k hk => by have := own_lt HO.out hk; omega)
  have hs4 := F4.size
  have hn4 : ∀ k, (Value.slice a' 0 k').ownBlock = some k → k < w.heap.size := fun k hk => own_lt HO.out hk
  have hL2 := decLen2 te pe _ _ _ _ _ hD4
  obtain ⟨m4, off4, c4, q0, q1, _, _, hd4, _⟩ := hD4.open_
  have HF4 := Lib.hid F4
  have HO4 := Lib.hid O4
  have HD4 := Lib.hid hD4
  have HN4 := Lib.hid hn4
  clear hD1 hf1 hf3 hf4 hD3 hB hB4 hQ F4 f14 O4 hD4 hn4 q0 q1
  have hms' := hms
  clear hms
  have HMS := Lib.hid hms'
  clear hms'
  refine Lib.hid ?_
  go_wp2_with (first
    | (go_at_call 118; refine hL2.mono ?_; rintro r w5 ⟨n5, rfl, hn5, hnb5, rfl⟩; refine Hid.out ?_))
  have hm0 : (0 : Int) ≤ (n5 : Int) / 10 := by omega
  have hm1 : (n5 : Int) / 10 ≤ 1099511627776 := by omega
  have hms5 := HMS.out ((n5 : Int) / 10) w4 hm0 hm1
  have hO5 := World.ownsRow_made (base := base) (e := 137) (size := 3) w4 (madeCells #[.int .u64 0, .int .i64 0, .float .f64 0] (n5 / 10 * 3)) (n5 / 10) (by omega) (by unfold maxLen; omega) (size_madeCells _ _)
  have hD5 := HD4.out.fr ((Fr.refl (fun _ => False) w4).alloc (.cells (madeCells #[.int .u64 0, .int .i64 0, .float .f64 0] (n5 / 10 * 3)) 137)) (fun e => e) (fun e => e) (fun e => e)
  have hF5 := HF4.out.alloc (.cells (madeCells #[.int .u64 0, .int .i64 0, .float .f64 0] (n5 / 10 * 3)) 137)
  have HO5 := Lib.hid hO5
  have HD5 := Lib.hid hD5
  have HF5 := Lib.hid hF5
  clear hO5 hL2 hD5 hF5
  by_cases hcap : (k' : Int) < (n5 : Int) / 10
  case' pos =>
    refine Lib.hid ?_
    go_wp2_with fail
    have HB5 : Hid (∀ k, (Value.slice (some ⟨w4.heap.size, 0, none⟩) 0 (n5 / 10)).ownBlock = some k → (some k = (Value.slice a' 0 k').ownBlock ∨ w.heap.size < k)) := Lib.hid fun k hk => .inr (by have hk : w4.heap.size = k := Option.some.inj hk; omega)
    clear hms5 HO4 HD4 HF4 HMS
    generalize w4.alloc _ = W5 at HO5 HD5 HF5 ⊢
    clear hcap hm0 hm1 hnb5 hn5 hs4
    generalize (Value.slice (some ⟨w4.heap.size, 0, none⟩) 0 (n5 / 10)) = sv5 at HO5 HB5 ⊢
    clear hd4
  case' neg =>
    refine Lib.hid ?_
    go_wp2_with fail
    have HB5 : Hid (∀ k, (Value.slice a' 0 k').ownBlock = some k → (some k = (Value.slice a' 0 k').ownBlock ∨ w.heap.size < k)) := Lib.hid fun k hk => .inl hk.symm
    clear hms5 HO5 HD5 HF5 HMS
    have HO5 := HO4
    have HD5 := HD4
    have HF5 := HF4
    clear HO4 HD4 HF4 hcap hm0 hm1 hnb5 hn5 hs4 hd4
    generalize w4 = W5 at HO5 HD5 HF5 ⊢
  all_goals
    go_loopw [2] (fun sv wr => ∃ (st : St) (acc : List Smp) (j : Nat), Hid (Dec te pe wr w.heap.size g cur st) ∧ Hid (wr.ownsRow base 137 3 sv acc.length (acc.flatMap Smp.b)) ∧ Hid (Fr (fun k => some k = (Value.slice a' 0 k').ownBlock) w wr) ∧ Hid (∀ k, sv.ownBlock = some k → (some k = (Value.slice a' 0 k').ownBlock ∨ w.heap.size < k)) ∧
        Hid (smpLoop bref bt j st acc = smpLoop bref bt rest.length st2 []) ∧ Hid (∀ l, st = some l → l.length ≤ j ∧ acc.length + l.length ≤ rest.length) ∧ acc.length ≤ rest.length + 1) (fun _ wr => decM w.heap.size wr)
    case atStart => exact ⟨st2, [], rest.length, HD5, HO5, HF5, HB5, Lib.hid rfl, Lib.hid (fun l hl => ⟨HD2.out l hl, by simpa using HD2.out l hl⟩), by simp⟩
    case round =>
      obtain ⟨st, acc, j, HD, HO, HF, HB, HE, HL, hal⟩ := hrel
      obtain ⟨n6, off6, c6, p0, p1, hnl, hnc, hd, hg, h2⟩ := HD.out.open_
      have hE := decErr te pe _ _ _ _ _ HD.out
      obtain ⟨a6, k6, rfl⟩ := own_slice' HO.out
      rcases st with _ | l
      · clear hnl p1
        have hres : smpLoop bref bt rest.length st2 [] = (acc, none) := by rw [← HE.out]; unfold smpLoop; rcases j with _ | j <;> rfl
        have HR := Lib.hid (show decSamples (2 :: rest) = none by rw [HDE.out, hres])
        clear hres
        simp only [errV] at hE
        rcases Nat.eq_zero_or_pos n6 with rfl | hn6
        · go_wp2_with (go_at_call 119; refine hE.mono ?_; rintro r w7 ⟨rfl, rfl⟩)
          go_ret2
          exact samplesEnds_none HR.out HF.out
        · have hn7 : (0 : Int) < (n6 : Int) := by omega
          go_wp2_with (go_at_call 119; refine hE.mono ?_; rintro r w7 ⟨rfl, rfl⟩)
          go_ret2
          exact samplesEnds_none HR.out HF.out
      · obtain rfl : n6 = l.length := hnl l rfl
        simp only [errV] at hE
        rcases l with _ | ⟨x, r⟩
        · have hres : smpLoop bref bt rest.length st2 [] = (acc, some []) := by rw [← HE.out]; unfold smpLoop; rcases j with _ | j <;> rfl
          have HR := Lib.hid (show decSamples (2 :: rest) = some acc by rw [HDE.out, hres])
          clear hres hnl p1
          simp only [List.length_nil] at p0
          go_wp2_with (go_at_call 119; refine hE.mono ?_; rintro r w7 ⟨rfl, rfl⟩)
          go_ret2
          exact samplesEnds_some HR.out HF.out HO.out
        · obtain ⟨n7, hn7⟩ : ∃ n7, (x :: r).length = n7 := ⟨_, rfl⟩
          have hn8 : (0 : Int) < (n7 : Int) := by rw [← hn7]; simp
          have hlb := HL.out _ rfl
          have hM := decM_some HD.out
          rw [hn7] at p0 hlb hM
          have hV1 := decVar te pe _ _ _ _ _ HD.out
          have HN7 := Lib.hid hn7
          clear hnl p1 hn7
          go_wp2_with (first
            | (go_at_call 119; refine hE.mono ?_; rintro r w7 ⟨rfl, rfl⟩)
            | (go_at_call 165; refine hV1.mono ?_; rintro r w8 ⟨rfl, hD8, hf8⟩; refine Hid.out ?_))
          have s8 := hf8.size
          have D8 := Lib.hid hD8
          have hV2 := decVar te pe _ _ _ _ _ hD8
          have F8 := Lib.hid hf8
          clear hD8 hf8 hV1 p0
          refine Lib.hid ?_
          go_wp2_with (go_at_call 165; refine hV2.mono ?_; rintro r w9 ⟨rfl, hD9, hf9⟩; refine Hid.out ?_)
          have s9 := hf9.size
          have D9 := Lib.hid hD9
          have hV3 := decBe64 te pe _ _ _ _ _ hD9
          have F9 := Lib.hid hf9
          clear hD9 hf9 hV2
          refine Lib.hid ?_
          go_wp2_with (go_at_call 162; refine hV3.mono ?_; rintro r wA ⟨rfl, hDA, hfA⟩; refine Hid.out ?_)
          have FA : Fr (fun k => k = w.heap.size) wr wA := (F8.out.same F9.out).same hfA
          have sA := FA.size
          have DA := Lib.hid hDA
          have HFA := Lib.hid FA
          have OA : wA.ownsRow base 137 3 (.slice a6 acc.length k6) acc.length (acc.flatMap Smp.b) := own_fr HO.out FA (fun k hk e => by
            rcases HB.out k hk with h | h
            · have := HN4.out k h.symm; omega
            · omega)
          have HOA := Lib.hid OA
          have r6 := run166
          clear hDA hfA hV3 FA OA D8 F8 D9 F9
          refine Lib.hid ?_
          go_wp2_with (first
            | (at_builtin; refine Hid.out ?_))
          have hcells : (#[Value.int IntKind.u64 (IntKind.u64.wrap (wrap64 (wrap64 ↑bref + (gVar (some (x :: r))).fst))), Value.int IntKind.i64 (wrap64 (bt + (gVar (gVar (some (x :: r))).snd).fst)), Value.float FloatKind.f64 (gBe64 (gVar (gVar (some (x :: r))).snd).snd).fst] : Array Value) = (Smp.b (smpStep bref bt (some (x :: r))).1).toArray := smp_cells _ _ _
          rw [hcells]
          have hlen7 : ∀ l, (smpStep bref bt (some (x :: r))).2 = some l → l.length < n7 := fun l hl => HN7.out ▸ smpStep_len hl
          have hDS : Dec te pe wA w.heap.size g cur (smpStep bref bt (some (x :: r))).2 := DA.out
          have HE2 : Hid (∀ j', j = j' + 1 → smpLoop bref bt j' (smpStep bref bt (some (x :: r))).2 (acc ++ [(smpStep bref bt (some (x :: r))).1]) = smpLoop bref bt rest.length st2 []) := Lib.hid (by rintro j' rfl; exact HE.out)
          clear hcells DA hE HE
          generalize smpStep bref bt (some (x :: r)) = S at hDS hlen7 HE2 ⊢
          obtain ⟨s1, st9⟩ := S
          simp only [] at hDS hlen7 HE2 ⊢
          have hDS2 := Lib.hid hDS
          have hlen8 := Lib.hid hlen7
          clear hDS hlen7
          refine Lib.hid ?_
          refine wpList_append_src _ rfl _ _ 131 131 rfl base 137 i0 _ 3 24 Tryz.underlying131 hi0 hz0 hz1 hz2 rfl (by decide) (.slice a6 acc.length k6) acc.length (acc.flatMap Smp.b) rfl (HOA.out.alloc _) _ 1 (Smp.b s1) rfl (src_blk Tryz.underlying131 (Blk.new wA 137 (Smp.b s1).toArray) rfl (by simp [Smp.b, Value.oneCell'])) (by unfold maxLen; omega) (by omega) (by simp; omega) ?_
          intro v' w2 hown' hgrow hat
          obtain ⟨a9, k9, rfl⟩ := own_slice' hown'
          have hrow : ∀ k, (Value.slice a6 acc.length k6).ownBlock = some k → base ≤ k ∧ k ≠ w.heap.size := fun k hk => ⟨(HOA.out.lt k hk).1, by
            rcases HB.out k hk with h | h
            · have := HN4.out k h.symm; omega
            · omega⟩
          have hsG := hgrow.size
          simp at hsG
          have fG : Fr (fun k => some k = (Value.slice a6 acc.length k6).ownBlock) wA w2 := ((Fr.refl (fun k => some k = (Value.slice a6 acc.length k6).ownBlock) wA).alloc _).grown hgrow (fun k hk => .inl hk.symm)
          have rD : Dec te pe w2 w.heap.size g cur st9 := hDS2.out.fr fG (fun e => (hrow _ e.symm).2 rfl) (fun e => by have := (hrow _ e.symm).1; omega) (fun e => by have := (hrow _ e.symm).1; omega)
          have rO : w2.ownsRow base 137 3 (.slice a9 (acc.length + 1) k9) (acc ++ [s1]).length ((acc ++ [s1]).flatMap Smp.b) := by simpa using hown'
          have rF : Fr (fun k => some k = (Value.slice a' 0 k').ownBlock) w w2 := (HF.out.trans HFA.out (fun k hk e => by omega)).trans fG (fun k hk e => by
            rcases HB.out k e.symm with h | h
            · exact h
            · omega)
          have rB : ∀ k, (Value.slice a9 (acc.length + 1) k9).ownBlock = some k → (some k = (Value.slice a' 0 k').ownBlock ∨ w.heap.size < k) := fun k hk => by
            rcases hat with h | h
            · exact HB.out k (h ▸ hk)
            · rw [h] at hk; injection hk with hk; simp at hk; exact .inr (by omega)
          have rM : decM w.heap.size w2 < n7 + 1 := by
            rcases st9 with _ | l9
            · rw [decM_none rD]; omega
            · rw [decM_some rD]; have := hlen8.out l9 rfl; omega
          have RD := Lib.hid rD
          have RO := Lib.hid rO
          have RF := Lib.hid rF
          have RB := Lib.hid rB
          clear rD rO rF rB hown' hgrow hat hrow fG
          go_wp2
          go_roundw
          case rel =>
            obtain ⟨j', rfl⟩ : ∃ j', j = j' + 1 := ⟨j - 1, by have := HN7.out; simp at this; omega⟩
            refine ⟨st9, acc ++ [s1], j', RD, RO, RF, RB, Lib.hid (HE2.out j' rfl), Lib.hid (fun l hl => ?_), by simp; omega⟩
            have := hlen8.out l hl
            rw [List.length_append, List.length_singleton]
            omega
          case measure => rw [hM]; exact rM

/-- Decoder.Samples. -/
theorem decSamples_any (te : TypeId) (pe : Value) (dv : Value) (g base : Nat) (cur : Array Value) (xs : List UInt8) (v sv : Value) (w : World) (h : Rec te pe w g cur xs v) (ho : w.ownsRow base 137 3 sv 0 []) (hb : g < base ∧ 2 < base ∧ base ≤ w.heap.size) :
    Calls Tryz.prog 71 #[dv, v, sv] w (SamplesEnds w base sv.ownBlock xs) := by
  by_cases hx : (gByte (some xs)).1 = 2
  · rcases xs with _ | ⟨b, rest⟩
    · exact absurd hx (by decide)
    · have hb2 : b = 2 := by
        have : b.toNat = (2 : UInt8).toNat := hx
        exact UInt8.toNat_inj.1 this
      subst hb2
      by_cases hr : rest = []
      · subst hr; exact decSamples_empty te pe dv g base cur v sv w h ho ⟨hb.1, hb.2.1⟩
      · exact decSamples_main te pe dv g base cur rest hr v sv w h ho hb
  · exact decSamples_type te pe dv g base cur xs v sv w h hx

end Go.Proofs.YtbkookiigkckdaaGreatDoor

/- Records of samples: what is written is what is read, in plain Lean. -/
namespace Go.Proofs.YtbkookiigkckdaaGreatDoor
open Go.RowKit
set_option linter.unusedVariables false
set_option linter.unusedSimpArgs false

/-- Reading back what uvarint writes. -/
theorem uvFrom_uv : ∀ (i x acc : Nat) (r : List UInt8), i ≤ 9 → x * 2 ^ (7 * i) < 18446744073709551616 →
    Lib.uvarintFrom i acc (Lib.uvarint x ++ r) = (acc + x * 2 ^ (7 * i), (i : Int) + (Lib.uvarint x).length) := by
  intro i x
  induction x using Nat.strongRecOn generalizing i with
  | _ x ih =>
    intro acc r hi hx
    rcases Nat.lt_or_ge x 128 with h | h
    · rw [Lib.uvarint_small h]
      show Lib.uvarintFrom i acc (x.toUInt8 :: r) = _
      have hn : (x.toUInt8).toNat = x := by simp; omega
      rw [Lib.uvarintFrom, if_neg (by omega), if_pos (by omega), hn]
      rw [if_neg]
      · simp
      · rintro ⟨rfl, h2⟩
        simp at hx
        omega
    · rw [Lib.uvarint_big h]
      show Lib.uvarintFrom i acc ((x % 128 + 128).toUInt8 :: (Lib.uvarint (x / 128) ++ r)) = _
      have hn : ((x % 128 + 128).toUInt8).toNat = x % 128 + 128 := by simp; omega
      have hi9 : i < 9 := by
        rcases Nat.lt_or_ge i 9 with h' | h'
        · exact h'
        · obtain rfl : i = 9 := by omega
          simp at hx; omega
      have hp : 2 ^ (7 * (i + 1)) = 128 * 2 ^ (7 * i) := by rw [Nat.mul_add, Nat.pow_add]; simp [Nat.mul_comm]
      have hx2 : (x / 128) * 2 ^ (7 * (i + 1)) ≤ x * 2 ^ (7 * i) := by
        rw [hp, ← Nat.mul_assoc]
        exact Nat.mul_le_mul_right _ (Nat.div_mul_le_self x 128)
      rw [Lib.uvarintFrom, if_neg (by omega), if_neg (by omega), hn, ih (x / 128) (by omega) (i + 1) _ r (by omega) (by omega)]
      have he : x * 2 ^ (7 * i) = x % 128 * 2 ^ (7 * i) + x / 128 * 2 ^ (7 * (i + 1)) := by
        rw [hp, ← Nat.mul_assoc, ← Nat.add_mul]
        congr 1
        omega
      have e1 : (x % 128 + 128) % 128 = x % 128 := by omega
      rw [e1, he]
      simp only [List.length_cons]
      refine Prod.ext (by simp only []; omega) (by simp only []; omega)

theorem gUv_uv (x : Nat) (hx : x < 18446744073709551616) (r : List UInt8) : gUv (some (Lib.uvarint x ++ r)) = (x, some r) := by
  have h : Lib.uvarintDec (Lib.uvarint x ++ r) = (x, ((Lib.uvarint x).length : Int)) := by
    rw [Lib.uvarintDec, uvFrom_uv 0 x 0 r (by omega) (by simpa using hx)]
    simp
  have hp := Lib.uvarint_pos x
  unfold gUv
  simp only [h]
  rw [if_pos (by omega)]
  simp

theorem unzz (x : Int) : Lib.unzigzag (Lib.zigzag x) = x := by
  unfold Lib.unzigzag Lib.zigzag
  split <;> split <;> omega

theorem gVar_zz (x : Int) (h0 : -9223372036854775808 ≤ x) (h1 : x ≤ 9223372036854775807) (r : List UInt8) : gVar (some (Lib.uvarint (Lib.zigzag x) ++ r)) = (x, some r) := by
  unfold gVar
  rw [gUv_uv _ (by unfold Lib.zigzag; split <;> omega), unzz]

theorem gBe64_be (v : Nat) (hv : v < 18446744073709551616) (r : List UInt8) : gBe64 (some (Lib.beBytes 8 v ++ r)) = (v, some r) := by
  have h := Lib.beNat_beBytes 8 v (by simpa using hv)
  have hl := Lib.beBytes_length 8 v
  generalize Lib.beBytes 8 v = l at h hl ⊢
  match l, hl with
  | [b0, b1, b2, b3, b4, b5, b6, b7], _ => rw [← h]; rfl

theorem i64_u64 (t : Int) (h0 : -9223372036854775808 ≤ t) (h1 : t ≤ 9223372036854775807) : i64 (u64 t) = t := by
  unfold i64 u64 wrap64; omega

theorem ref_back (a b : Nat) (ha : a < 18446744073709551616) : u64 (wrap64 (wrap64 b + wrap64 (wrap64 a - wrap64 b))) = a := by
  have h : wrap64 (wrap64 b + wrap64 (wrap64 a - wrap64 b)) % 18446744073709551616 = (a : Int) := by unfold wrap64; omega
  rw [u64, h]; rfl
theorem t_back (a b : Int) (h0 : -9223372036854775808 ≤ a) (h1 : a ≤ 9223372036854775807) : wrap64 (b + wrap64 (a - b)) = a := by unfold wrap64; omega

theorem smpStep_of {br : Nat} {bt x y : Int} {v : Nat} {s0 s1 s2 s3 : St} (h1 : gVar s0 = (x, s1)) (h2 : gVar s1 = (y, s2)) (h3 : gBe64 s2 = (v, s3)) : smpStep br bt s0 = (⟨u64 (wrap64 (i64 br + x)), wrap64 (bt + y), v⟩, s3) := by
  unfold smpStep
  rw [h1]
  show (Smp.mk _ (wrap64 (bt + (gVar s1).1)) (gBe64 (gVar s1).2).1, (gBe64 (gVar s1).2).2) = _
  rw [h2]
  show (Smp.mk _ _ (gBe64 s2).1, (gBe64 s2).2) = _
  rw [h3]

theorem smpStep_enc (f s : Smp) (hf : f.wf) (hs : s.wf) (r : List UInt8) : smpStep f.ref f.t (some (encSmp f s ++ r)) = (s, some r) := by
  have e0 : encSmp f s ++ r = Lib.uvarint (Lib.zigzag (dRef f s)) ++ (Lib.uvarint (Lib.zigzag (dT f s)) ++ (Lib.beBytes 8 s.v ++ r)) := by simp only [encSmp, List.append_assoc]
  rw [e0, smpStep_of (gVar_zz (dRef f s) (wrap64_bd _).1 (wrap64_bd _).2 _) (gVar_zz (dT f s) (wrap64_bd _).1 (wrap64_bd _).2 _) (gBe64_be _ hs.2.2.2 _)]
  show (Smp.mk (u64 (wrap64 (wrap64 f.ref + wrap64 (wrap64 s.ref - wrap64 f.ref)))) (wrap64 (f.t + wrap64 (s.t - f.t))) s.v, some r) = _
  rw [ref_back _ _ hs.1, t_back _ _ hs.2.1 hs.2.2.1]

theorem encSmp_pos (f s : Smp) : ∃ c r, encSmp f s = c :: r := by
  have := Lib.uvarint_pos (Lib.zigzag (dRef f s))
  rcases h : encSmp f s with _ | ⟨c, r⟩
  · have : (encSmp f s).length = 0 := by rw [h]; rfl
    unfold encSmp at this
    simp only [List.length_append] at this; omega
  · exact ⟨c, r, rfl⟩

theorem smpLoop_enc (f : Smp) (hf : f.wf) : ∀ (l : List Smp) (k : Nat) (acc : List Smp), (∀ s ∈ l, s.wf) → l.length ≤ k → smpLoop f.ref f.t k (some (l.flatMap (encSmp f))) acc = (acc ++ l, some [])
  | [], k, acc, _, _ => by cases k <;> simp [smpLoop]
  | s :: l, 0, acc, _, h => by simp at h
  | s :: l, k + 1, acc, hw, h => by
    obtain ⟨c, r, e⟩ := encSmp_pos f s
    have hst := smpStep_enc f s hf (hw s (by simp)) (l.flatMap (encSmp f))
    rw [List.flatMap_cons]
    rw [e] at hst ⊢
    show smpLoop f.ref f.t (k + 1) (some (c :: (r ++ l.flatMap (encSmp f)))) acc = _
    have hst' : smpStep f.ref f.t (some (c :: (r ++ l.flatMap (encSmp f)))) = (s, some (l.flatMap (encSmp f))) := hst
    rw [smpLoop, hst']
    simp only []
    rw [smpLoop_enc f hf l k (acc ++ [s]) (fun x hx => hw x (by simp [hx])) (by simpa using h)]
    simp

theorem encSmp_lenpos (f : Smp) (l : List Smp) : l.length ≤ (l.flatMap (encSmp f)).length := by
  induction l with
  | nil => simp
  | cons s l ih =>
    obtain ⟨c, r, e⟩ := encSmp_pos f s
    rw [List.flatMap_cons, List.length_append, e]
    simp only [List.length_cons]
    omega

theorem dec_enc (l : List Smp) (hl : ∀ s ∈ l, s.wf) : decSamples (encSamples l) = some l := by
  rcases l with _ | ⟨f, r⟩
  · rfl
  · have hf := hl f (by simp)
    have hn := encSmp_lenpos f (f :: r)
    obtain ⟨X, hX⟩ : ∃ X, (f :: r).flatMap (encSmp f) = X := ⟨_, rfl⟩
    have h1 := gBe64_be f.ref hf.1 (Lib.beBytes 8 (u64 f.t) ++ X)
    have h2 := gBe64_be (u64 f.t) (u64_lt _) X
    have hL := smpLoop_enc f hf (f :: r) (Lib.beBytes 8 f.ref ++ (Lib.beBytes 8 (u64 f.t) ++ X)).length [] hl (by simp only [List.length_append]; rw [← hX]; omega)
    rw [hX] at hL
    have e0 : encSamples (f :: r) = 2 :: (Lib.beBytes 8 f.ref ++ (Lib.beBytes 8 (u64 f.t) ++ X)) := by
      rw [← hX]; simp only [encSamples, encHdr, List.append_assoc]; rfl
    rw [e0, decSamples, if_pos rfl, if_neg (by
      intro h
      have := congrArg List.length h
      simp [Lib.beBytes_length] at this)]
    have e3 : gBe64i (gBe64 (some (Lib.beBytes 8 f.ref ++ (Lib.beBytes 8 (u64 f.t) ++ X)))).2 = (f.t, some X) := by
      rw [h1]
      show (i64 (gBe64 (some (Lib.beBytes 8 (u64 f.t) ++ X))).1, (gBe64 (some (Lib.beBytes 8 (u64 f.t) ++ X))).2) = _
      rw [h2]
      show (i64 (u64 f.t), some X) = _
      rw [i64_u64 _ hf.2.1 hf.2.2.1]
    rw [e3, h1]
    show (match smpLoop f.ref f.t _ (some X) [] with | (l, some _) => some l | (_, none) => none) = _
    rw [hL]
    rfl

theorem beFrom_lt : ∀ (l : List UInt8) (acc k : Nat), acc < 256 ^ k → Lib.beFrom acc l < 256 ^ (k + l.length)
  | [], acc, k, h => by simpa [Lib.beFrom] using h
  | b :: r, acc, k, h => by
    have h1 : acc * 256 + b.toNat < 256 ^ (k + 1) := by
      rw [Nat.pow_succ]
      have := b.toNat_lt
      omega
    have h2 := beFrom_lt r (acc * 256 + b.toNat) (k + 1) h1
    rw [Lib.beFrom, List.length_cons, show k + (r.length + 1) = k + 1 + r.length by omega]
    exact h2
theorem gBe64_lt (st : St) : (gBe64 st).1 < 18446744073709551616 := by
  unfold gBe64
  split
  · rename_i b0 b1 b2 b3 b4 b5 b6 b7 r
    have h := beFrom_lt [b0, b1, b2, b3, b4, b5, b6, b7] 0 0 (by decide)
    have e : 256 ^ (0 + [b0, b1, b2, b3, b4, b5, b6, b7].length) = 18446744073709551616 := by simp
    exact Nat.lt_of_lt_of_eq h e
  · show 0 < 18446744073709551616
    omega
theorem mk_wf {a : Nat} {b : Int} {c : Nat} (h1 : a < 18446744073709551616) (h2 : -9223372036854775808 ≤ b ∧ b ≤ 9223372036854775807) (h3 : c < 18446744073709551616) : (Smp.mk a b c).wf := ⟨h1, h2.1, h2.2, h3⟩
theorem smpStep_wf (br : Nat) (bt : Int) (st : St) : (smpStep br bt st).1.wf := mk_wf (u64_lt _) (wrap64_bd _) (gBe64_lt _)
theorem smpLoop_wf (br : Nat) (bt : Int) : ∀ (k : Nat) (st : St) (acc : List Smp), (∀ s ∈ acc, s.wf) → ∀ s ∈ (smpLoop br bt k st acc).1, s.wf
  | 0, st, acc, h => by simpa [smpLoop] using h
  | k + 1, none, acc, h => by simpa [smpLoop] using h
  | k + 1, some [], acc, h => by simpa [smpLoop] using h
  | k + 1, some (c :: r), acc, h => by
    rw [smpLoop]
    exact smpLoop_wf br bt k _ _ (fun s hs => by
      rcases List.mem_append.1 hs with h1 | h1
      · exact h s h1
      · rw [List.mem_singleton] at h1; subst h1; exact smpStep_wf _ _ _)
theorem decSamples_wf (xs : List UInt8) (l : List Smp) (h : decSamples xs = some l) : ∀ s ∈ l, s.wf := by
  unfold decSamples at h
  split at h
  · cases h
  · split at h
    · split at h
      · cases h; simp
      · split at h
        · rename_i e
          injection h with h
          subst h
          exact fun s hs => smpLoop_wf _ _ _ _ [] (by simp) s (by rw [e]; exact hs)
        · cases h
    · cases h

end Go.Proofs.YtbkookiigkckdaaGreatDoor

/- Records of markers and of tombstones: what is written is what is read, in plain Lean. -/
namespace Go.Proofs.YtbkookiigkckdaaGreatDoor
open Go.RowKit
set_option linter.unusedVariables false
set_option linter.unusedSimpArgs false

/-- A decoder's loop: parts are read as long as bytes are left. -/
def recLoop {α : Type} (step : St → α × St) : Nat → St → List α → List α × St
  | k + 1, some (c :: r), acc => recLoop step k (step (some (c :: r))).2 (acc ++ [(step (some (c :: r))).1])
  | _, st, acc => (acc, st)

theorem recLoop_enc {α : Type} (step : St → α × St) (enc : α → List UInt8) (Q : α → Prop) (hs : ∀ x r, Q x → step (some (enc x ++ r)) = (x, some r)) (hp : ∀ x, ∃ c r, enc x = c :: r) :
    ∀ (l : List α) (k : Nat) (acc : List α), (∀ x ∈ l, Q x) → l.length ≤ k → recLoop step k (some (l.flatMap enc)) acc = (acc ++ l, some [])
  | [], k, acc, _, _ => by cases k <;> simp [recLoop]
  | x :: l, 0, acc, _, h => by simp at h
  | x :: l, k + 1, acc, hw, h => by
    obtain ⟨c, r, e⟩ := hp x
    have hst := hs x (l.flatMap enc) (hw x (by simp))
    rw [List.flatMap_cons]
    rw [e] at hst ⊢
    show recLoop step (k + 1) (some (c :: (r ++ l.flatMap enc))) acc = _
    have hst' : step (some (c :: (r ++ l.flatMap enc))) = (x, some (l.flatMap enc)) := hst
    rw [recLoop, hst']
    simp only []
    rw [recLoop_enc step enc Q hs hp l k (acc ++ [x]) (fun y hy => hw y (by simp [hy])) (by simpa using h)]
    simp

theorem recLoop_all {α : Type} (step : St → α × St) (Q : α → Prop) (hq : ∀ st, Q (step st).1) : ∀ (k : Nat) (st : St) (acc : List α), (∀ x ∈ acc, Q x) → ∀ x ∈ (recLoop step k st acc).1, Q x
  | 0, st, acc, h => by simpa [recLoop] using h
  | k + 1, none, acc, h => by simpa [recLoop] using h
  | k + 1, some [], acc, h => by simpa [recLoop] using h
  | k + 1, some (c :: r), acc, h => by
    rw [recLoop]
    exact recLoop_all step Q hq k _ _ (fun s hs => by
      rcases List.mem_append.1 hs with h1 | h1
      · exact h s h1
      · rw [List.mem_singleton] at h1; subst h1; exact hq _)

/-- A record of the type t whose parts stand one behind the other. -/
def decParts {α : Type} (t : UInt8) (step : St → α × St) (xs : List UInt8) : Option (List α) :=
  match xs with
  | [] => none
  | b :: rest => if b = t then (match recLoop step rest.length (some rest) [] with
      | (l, some _) => some l
      | (_, none) => none) else none

theorem flat_pos {α : Type} (enc : α → List UInt8) (hp : ∀ x, ∃ c r, enc x = c :: r) (l : List α) : l.length ≤ (l.flatMap enc).length := by
  induction l with
  | nil => simp
  | cons s l ih =>
    obtain ⟨c, r, e⟩ := hp s
    rw [List.flatMap_cons, List.length_append, e]
    simp only [List.length_cons]
    omega

theorem decParts_enc {α : Type} (t : UInt8) (step : St → α × St) (enc : α → List UInt8) (Q : α → Prop) (hs : ∀ x r, Q x → step (some (enc x ++ r)) = (x, some r)) (hp : ∀ x, ∃ c r, enc x = c :: r) (l : List α) (hl : ∀ x ∈ l, Q x) :
    decParts t step (t :: l.flatMap enc) = some l := by
  rw [decParts, if_pos rfl, recLoop_enc step enc Q hs hp l _ [] hl (flat_pos enc hp l)]
  rfl

theorem decParts_all {α : Type} (t : UInt8) (step : St → α × St) (Q : α → Prop) (hq : ∀ st, Q (step st).1) (xs : List UInt8) (l : List α) (h : decParts t step xs = some l) : ∀ x ∈ l, Q x := by
  unfold decParts at h
  split at h
  · cases h
  · split at h
    · split at h
      · rename_i e
        injection h with h
        subst h
        exact fun s hs => recLoop_all step Q hq _ _ [] (by simp) s (by rw [e]; exact hs)
      · cases h
    · cases h

/-- Markers. -/
structure Mrk where
  ref : Nat
  mm : Nat
def Mrk.wf (s : Mrk) : Prop := s.ref < 18446744073709551616 ∧ s.mm < 18446744073709551616
def mrkStep (st : St) : Mrk × St := (⟨(gBe64 st).1, (gBe64 (gBe64 st).2).1⟩, (gBe64 (gBe64 st).2).2)
def encMrk (s : Mrk) : List UInt8 := Lib.beBytes 8 s.ref ++ Lib.beBytes 8 s.mm
theorem encMrk_pos (s : Mrk) : ∃ c r, encMrk s = c :: r := by
  rcases h : encMrk s with _ | ⟨c, r⟩
  · have := congrArg List.length h
    simp [encMrk, Lib.beBytes_length] at this
  · exact ⟨c, r, rfl⟩
theorem mrkStep_of {a b : Nat} {s0 s1 s2 : St} (h1 : gBe64 s0 = (a, s1)) (h2 : gBe64 s1 = (b, s2)) : mrkStep s0 = (⟨a, b⟩, s2) := by
  unfold mrkStep
  rw [h1]
  show (Mrk.mk a (gBe64 s1).1, (gBe64 s1).2) = _
  rw [h2]
theorem mrkStep_enc (s : Mrk) (r : List UInt8) (hs : s.wf) : mrkStep (some (encMrk s ++ r)) = (s, some r) := by
  have e0 : encMrk s ++ r = Lib.beBytes 8 s.ref ++ (Lib.beBytes 8 s.mm ++ r) := by simp only [encMrk, List.append_assoc]
  rw [e0, mrkStep_of (gBe64_be _ hs.1 _) (gBe64_be _ hs.2 _)]
def encMarkers (l : List Mrk) : List UInt8 := 5 :: l.flatMap encMrk
def decMarkers (xs : List UInt8) : Option (List Mrk) := decParts 5 mrkStep xs
theorem decMarkers_enc (l : List Mrk) (hl : ∀ s ∈ l, s.wf) : decMarkers (encMarkers l) = some l := decParts_enc 5 mrkStep encMrk Mrk.wf mrkStep_enc encMrk_pos l hl
theorem mrkStep_wf (st : St) : (mrkStep st).1.wf := ⟨gBe64_lt _, gBe64_lt _⟩
theorem decMarkers_wf (xs : List UInt8) (l : List Mrk) (h : decMarkers xs = some l) : ∀ s ∈ l, s.wf := decParts_all 5 mrkStep Mrk.wf mrkStep_wf xs l h

/-- Tombstones of one interval. -/
structure Stn where
  ref : Nat
  lo : Int
  hi : Int
def Stn.wf (s : Stn) : Prop := s.ref < 18446744073709551616 ∧ (-9223372036854775808 ≤ s.lo ∧ s.lo ≤ 9223372036854775807) ∧ (-9223372036854775808 ≤ s.hi ∧ s.hi ≤ 9223372036854775807)
def stnStep (st : St) : Stn × St := (⟨(gBe64 st).1, (gVar (gBe64 st).2).1, (gVar (gVar (gBe64 st).2).2).1⟩, (gVar (gVar (gBe64 st).2).2).2)
def encStn (s : Stn) : List UInt8 := Lib.beBytes 8 s.ref ++ (Lib.uvarint (Lib.zigzag s.lo) ++ Lib.uvarint (Lib.zigzag s.hi))
theorem encStn_pos (s : Stn) : ∃ c r, encStn s = c :: r := by
  rcases h : encStn s with _ | ⟨c, r⟩
  · have := congrArg List.length h
    simp [encStn, Lib.beBytes_length] at this
  · exact ⟨c, r, rfl⟩
theorem stnStep_of {a : Nat} {b c : Int} {s0 s1 s2 s3 : St} (h1 : gBe64 s0 = (a, s1)) (h2 : gVar s1 = (b, s2)) (h3 : gVar s2 = (c, s3)) : stnStep s0 = (⟨a, b, c⟩, s3) := by
  unfold stnStep
  rw [h1]
  show (Stn.mk a (gVar s1).1 (gVar (gVar s1).2).1, (gVar (gVar s1).2).2) = _
  rw [h2]
  show (Stn.mk a b (gVar s2).1, (gVar s2).2) = _
  rw [h3]
theorem stnStep_enc (s : Stn) (r : List UInt8) (hs : s.wf) : stnStep (some (encStn s ++ r)) = (s, some r) := by
  have e0 : encStn s ++ r = Lib.beBytes 8 s.ref ++ (Lib.uvarint (Lib.zigzag s.lo) ++ (Lib.uvarint (Lib.zigzag s.hi) ++ r)) := by simp only [encStn, List.append_assoc]
  rw [e0, stnStep_of (gBe64_be _ hs.1 _) (gVar_zz _ hs.2.1.1 hs.2.1.2 _) (gVar_zz _ hs.2.2.1 hs.2.2.2 _)]
def encFlat (l : List Stn) : List UInt8 := 3 :: l.flatMap encStn
def decStones (xs : List UInt8) : Option (List Stn) := decParts 3 stnStep xs
theorem decStones_enc (l : List Stn) (hl : ∀ s ∈ l, s.wf) : decStones (encFlat l) = some l := decParts_enc 3 stnStep encStn Stn.wf stnStep_enc encStn_pos l hl
theorem gUv_lt (st : St) : (gUv st).1 < 18446744073709551616 := by
  rcases st with _ | l
  · decide
  · unfold gUv
    simp only []
    split
    · exact Lib.uvarintDec_lt l
    · show 0 < 18446744073709551616
      omega
theorem gVar_bd (st : St) : -9223372036854775808 ≤ (gVar st).1 ∧ (gVar st).1 ≤ 9223372036854775807 := by
  have h := gUv_lt st
  have e : (gVar st).1 = Lib.unzigzag (gUv st).1 := rfl
  rw [e]
  generalize (gUv st).1 = n at h
  unfold Lib.unzigzag
  split <;> omega
theorem mk_stn {a : Nat} {b c : Int} (h1 : a < 18446744073709551616) (h2 : -9223372036854775808 ≤ b ∧ b ≤ 9223372036854775807) (h3 : -9223372036854775808 ≤ c ∧ c ≤ 9223372036854775807) : (Stn.mk a b c).wf := ⟨h1, h2, h3⟩
theorem stnStep_wf (st : St) : (stnStep st).1.wf := mk_stn (gBe64_lt _) (gVar_bd _) (gVar_bd _)
theorem decStones_wf (xs : List UInt8) (l : List Stn) (h : decStones xs = some l) : ∀ s ∈ l, s.wf := decParts_all 3 stnStep Stn.wf stnStep_wf xs l h

end Go.Proofs.YtbkookiigkckdaaGreatDoor

