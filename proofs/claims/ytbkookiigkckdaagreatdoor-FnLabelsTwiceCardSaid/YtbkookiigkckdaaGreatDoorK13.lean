/- Texts of this seat, merged: Lv. -/
import Derived.Test.YtbkookiigkckdaaGreatDoorK12
import Derived.Test.YtbkookiigkckdaaGreatDoorK10
import Derived.Laws.IdiomStrings
/- Decbuf.UvarintBytes; the ScratchBuilder: Reset, UnsafeAddBytes. -/
namespace Go.Proofs.YtbkookiigkckdaaGreatDoor
open Go.RowKit
set_option linter.unusedVariables false
set_option linter.unusedSimpArgs false

/-- 's[:k]': it begins where s begins. -/
theorem cutTo {t e : TypeId} {sz : Nat} (he : Tryz.prog.elem t = e) (ht : Tryz.prog.underlying t = some (.slice e)) (hs : ∀ W, (sizeOf e).run Tryz.prog W = .ok sz W) (A : Option Addr) (n c k : Nat) (kd : IntKind) (x : Int) (hx : x = k) (hk : k ≤ c) (W : World) :
    (Instr.slice t (.slice A n c) none (some (.int kd x)) none).run Tryz.prog W = .ok (.slice A k c) W := by
  subst hx
  subst he
  rw [run_slice_h (P := Tryz.prog) W t A n c ht kd k (by omega) (by omega), hs]
  have e0 : ∀ a : Addr, a.add 0 = a := fun a => by unfold Addr.add; split <;> simp_all
  cases A <;> simp [Result.andThen, sliced, e0]

/-- yoloString of bytes wherever they lie. -/
theorem yolo_at (g off c : Nat) (bs : List UInt8) (w : World) (h : ∀ j b, bs[j]? = some b → w.cell? ⟨g, off + j, none⟩ = some (.int .u8 b.toNat)) : Calls Tryz.prog 210 #[.slice (some ⟨g, off, none⟩) bs.length c] w fun r w' => r = .returned (.string ⟨bs.toArray⟩) ∧ w = w' := by
  have hc := run_convert_bytes_back (P := Tryz.prog) w 44 9 5 ⟨g, off, none⟩ c bs Tryz.underlying44 Tryz.underlying5 Tryz.underlying9 (fun j hj => by
    have e1 : (⟨g, off, none⟩ : Addr).add j = ⟨g, off + j, none⟩ := by unfold Addr.add; split <;> simp_all
    rw [e1, h j _ (List.getElem?_eq_getElem hj)])
  generalize bs.length = n at hc ⊢
  clear h
  go_enter Tryz.func210, Tryz.ntmps210
  go_wp2
  go_ret
  exact ⟨rfl, rfl⟩

/-- What UvarintBytes hands back: bytes that lie in the Decbuf's row, or none. -/
def BytesEnds (te : TypeId) (pe : Value) (w : World) (d g : Nat) (cur : Array Value) (s : ByteArray) (st : St) (r : Ending) (w' : World) : Prop :=
  ∃ g' off c : Nat, r = .returned (.slice (some ⟨g', off, none⟩) s.data.toList.length c) ∧ g' ≠ d ∧ (∀ j b, s.data.toList[j]? = some b → w'.cell? ⟨g', off + j, none⟩ = some (.int .u8 b.toNat)) ∧ Dec te pe w' d g cur st ∧ Fr (fun k => k = d) w w'

theorem gStr_none {st : St} (h : (gUv st).2 = none) : gStr st = (⟨#[]⟩, none) := by unfold gStr; rw [h]
theorem gStr_short {st : St} {r : List UInt8} (h : (gUv st).2 = some r) (hn : r.length < (gUv st).1) : gStr st = (⟨#[]⟩, none) := by unfold gStr; rw [h]; simp only []; rw [if_pos hn]
theorem gStr_long {st : St} {r : List UInt8} (h : (gUv st).2 = some r) (hn : ¬ r.length < (gUv st).1) : gStr st = (⟨(r.take (gUv st).1).toArray⟩, some (r.drop (gUv st).1)) := by unfold gStr; rw [h]; simp only []; rw [if_neg hn]

set_option maxRecDepth 100000 in
set_option maxHeartbeats 2000000 in
theorem decBytes (te : TypeId) (pe : Value) (d g : Nat) (cur : Array Value) (st : St) (w : World) (h : Dec te pe w d g cur st) (hn : (gUv st).1 < 9223372036854775808) :
    Calls Tryz.prog 203 #[.pointer (some ⟨d, 0, none⟩)] w (BytesEnds te pe w d g cur (gStr st).1 (gStr st).2) := by
  have hU := decUv te pe d g cur st w h
  clear h
  rcases hst : (gUv st).2 with _ | r
  · rw [gStr_none hst]
    rw [hst] at hU
    generalize (gUv st).1 = n at hn hU
    clear hst
    go_enter Tryz.func203, Tryz.ntmps203
    go_wp2_with (go_at_call 171; refine hU.mono ?_; rintro e w1 ⟨rfl, ⟨rest, HD⟩, hf⟩; have H := Lib.hid HD; obtain ⟨off, c, hb, hg, hl, hm, hr, hE⟩ := HD; have hc1 := hb.cell 1; simp at hc1; have HB := Lib.hid hb; have HF := Lib.hid hf; clear hb hg hr hf)
    go_ret
    refine ⟨w1.heap.size, 0, _, rfl, fun e => ?_, fun j b hj => by simp at hj, ⟨rest, ?_⟩, HF.out.alloc _⟩
    · have := HB.out.lt; omega
    · obtain ⟨off, c, hb, hg, hl, hm, hr, hE⟩ := H.out
      exact ⟨off, c, hb.alloc _, hg.alloc _, hl, hm, hr, by rw [((Fr.refl (fun _ => False) w1).alloc _).cell (p := ⟨2, 0, none⟩) (World.block_lt_of_cell? w1 _ hE) (fun e => e)]; exact hE⟩
  · by_cases hlt : r.length < (gUv st).1
    · rw [gStr_short hst hlt]
      rw [hst] at hU
      generalize (gUv st).1 = n at hn hlt hU
      clear hst
      obtain ⟨m, hm0⟩ : ∃ m, r.length = m := ⟨_, rfl⟩
      rw [hm0] at hlt
      have hlt' : (m : Int) < n := by omega
      have hwr : wrap64 (n : Int) = n := by unfold wrap64; omega
      go_enter Tryz.func203, Tryz.ntmps203
      go_wp2_with (go_at_call 171; refine hU.mono ?_; rintro e w1 ⟨rfl, HD, hf⟩; have HD : DecOk (.iface te pe) w1 d g cur r .nilIface := HD; have H := Lib.hid HD; obtain ⟨off, c, hb, hg, hl, hm, hr, hE⟩ := HD; rw [hm0] at hb hl hm; have hc0 := hb.cell 0; have hc1 := hb.cell 1; simp at hc0 hc1; have hz1 := hb.frozen 1; have HB := Lib.hid hb; have HF := Lib.hid hf; have HR := Lib.hid hr; clear hb hg hr hf)
      go_ret
      refine ⟨w1.heap.size, 0, 0, by simp [World.setCell], fun e => ?_, fun j b hj => by simp at hj, ⟨r, ?_⟩, (HF.out.setCell (p := ⟨d, 1, none⟩) (.inl rfl) _).alloc _⟩
      · have := HB.out.lt; omega
      · have hm2 := H.out.move (Fr.at_ w1 d 1 (.iface te pe)) (E' := .iface te pe) (rest' := r) (off' := off) (c' := c) (by rw [hm0]; simpa using HB.out.set_ 1 (Value.iface te pe)) (by rw [hm0]; exact hl) (by rw [hm0]; exact hm) HR.out
        obtain ⟨off, c, hb, hg, hl, hm, hr, hE⟩ := hm2
        exact ⟨off, c, hb.alloc _, hg.alloc _, hl, hm, hr, by rw [((Fr.refl (fun _ => False) _).alloc _).cell (p := ⟨2, 0, none⟩) (World.block_lt_of_cell? _ _ hE) (fun e => e)]; exact hE⟩
    · rw [gStr_long hst hlt]
      rw [hst] at hU
      generalize (gUv st).1 = n at hn hlt hU ⊢
      clear hst
      obtain ⟨m, hm0⟩ : ∃ m, r.length = m := ⟨_, rfl⟩
      rw [hm0] at hlt
      have hle : n ≤ m := Nat.le_of_not_lt hlt
      have hlt' : ¬ (m : Int) < n := by omega
      have hwr : wrap64 (n : Int) = n := by unfold wrap64; omega
      go_enter Tryz.func203, Tryz.ntmps203
      go_wp2_with (go_at_call 171; refine hU.mono ?_; rintro e w1 ⟨rfl, HD, hf⟩; have HD : DecOk (.iface te pe) w1 d g cur r .nilIface := HD; have H := Lib.hid HD; obtain ⟨off, c, hb, hg, hl, hm, hr, hE⟩ := HD; rw [hm0] at hb hl hm; have hc0 := hb.cell 0; have hc1 := hb.cell 1; simp at hc0 hc1; have hz0 := hb.frozen 0; have HB := Lib.hid hb; have HF := Lib.hid hf; have HR := Lib.hid hr; have hdg := Blk.ne_ hg hb (by decide); have HG := Lib.hid hg; obtain ⟨off', ho, hoff⟩ := cut44 g off m c n .u64 n rfl hle; have HO := Lib.hid ho; have hto := cutTo Tryz.elem44' Tryz.underlying44 Tryz.size5 (some ⟨g, off, none⟩) m c n .u64 n rfl (Nat.le_trans hle hl); clear hb hg hr hf ho)
      go_ret
      have hcut := DecOk.cut H.out (Fr.refl _ _) HB.out HR.out hm0 hl hm hle HO.out
      refine ⟨g, off, c, ?_, hdg, fun j b hj => ?_, hcut, HF.out.setCell (p := ⟨d, 0, none⟩) (.inl rfl) _⟩
      · have e1 : (⟨(r.take n).toArray⟩ : ByteArray).data.toList.length = n := by simp; omega
        rw [e1]; rfl
      · have e1 : (⟨(r.take n).toArray⟩ : ByteArray).data.toList = r.take n := by simp
        rw [e1, List.getElem?_take] at hj
        split at hj
        · have h2 := HR.out j (.int .u8 b.toNat) (by rw [bc_get, hj]; rfl)
          rw [((HG.out).far (p := ⟨d, 0, none⟩) hdg _).cell, h2]
        · cases hj

/-- A ScratchBuilder at the head of block d (a Decoder's): its labels in a row from b0 on, its output. -/
def Bld (w : World) (b0 d : Nat) (l : List Lab) (o : ByteArray) : Prop := ∃ v x, Blk w d 119 #[v, .string o, x] ∧ w.ownsRow b0 108 2 v l.length (l.flatMap labc)
theorem Bld.fr {w w' : World} {b0 d : Nat} {l : List Lab} {o : ByteArray} {S : Nat → Prop} (h : Bld w b0 d l o) (hf : Fr S w w') (hd : ¬ S d) (hs : ∀ g, w.heap[g]?.isSome → (∃ cs, Blk w g 108 cs) → ¬ S g) : Bld w' b0 d l o := by
  obtain ⟨v, x, hb, ho⟩ := h
  refine ⟨v, x, hb.fr hf hd, own_fr ho hf (fun g hg e => ?_)⟩
  rcases ho.2 with ⟨rfl, _⟩ | ⟨g', c, cur, rfl, _, hh, _⟩
  · simp [Value.ownBlock] at hg
  · obtain rfl : g' = g := by simpa [Value.ownBlock] using hg
    exact hs g' (by rw [hh]; rfl) ⟨cur, hh⟩ e

theorem own_none {w : World} {base : Nat} {e : TypeId} {size n c : Nat} {A : Option Addr} {xs : List Value} (h : w.ownsRow base e size (.slice A n c) n xs) : w.ownsRow base e size (.slice A 0 c) 0 [] := by
  rcases h.2 with ⟨hv, _⟩ | ⟨g, cap, cur, hv, hb, hh, hn, hm, hcs, ht⟩
  · injection hv with h1 h2 h3
    subst h1 h3
    exact World.ownsRow_nil _ _ _ _
  · injection hv with h1 h2 h3
    subst h1 h3
    exact ⟨by simp, .inr ⟨g, c, cur, rfl, hb, hh, Nat.zero_le _, hm, hcs, by simp⟩⟩

theorem Tryz.elem115' : Tryz.prog.elem 115 = 108 := by kernel_rfl
theorem Tryz.size108 (w : World) : (sizeOf 108).run Tryz.prog w = .ok 2 w := by kernel_rfl

theorem emptyLabels_any (w : World) : Calls Tryz.prog 134 #[] w fun r w' => r = .returned (.agg #[.string ⟨#[]⟩]) ∧ Fr (fun _ => False) w w' := by
  have hB := Blk.new w 99 #[.string ⟨#[]⟩]
  have c0 := hB.cell 0
  have f0 := hB.frozen 0
  have hb6 := hB
  go_enter Tryz.func134, Tryz.ntmps134
  go_wp2
  refine bodyPost_ret (results_cell_row (P := Tryz.prog) rfl _ _ w.heap.size 99 #[.string ⟨#[]⟩] (0, 0) _ rfl hb6 Tryz.underlying99 rfl (by kernel_rfl)) rfl ?_
  exact ⟨rfl, (Fr.refl _ w).alloc _⟩

set_option maxRecDepth 100000 in
set_option maxHeartbeats 1000000 in
theorem reset_any (b0 d : Nat) (l : List Lab) (o : ByteArray) (w : World) (h : Bld w b0 d l o) :
    Calls Tryz.prog 202 #[.pointer (some ⟨d, 0, none⟩)] w fun r w' => r = .returned (.tuple #[]) ∧ Bld w' b0 d [] ⟨#[]⟩ ∧ Fr (fun k => k = d) w w' := by
  obtain ⟨v, x, hb, ho⟩ := h
  obtain ⟨A, c, rfl⟩ := own_slice' ho
  have hto := fun n : Nat => cutTo Tryz.elem115' Tryz.underlying115 Tryz.size108 A l.length c 0 .i64 0 rfl (Nat.zero_le _)
  have hcut := own_none ho
  have c0 := hb.cell 0
  have f0 := hb.frozen 0
  simp at c0
  have hb1 : Blk (w.setCell ⟨d, 0, none⟩ (.slice A 0 c)) d 119 #[.slice A 0 c, .string o, x] := by simpa using hb.set_ 0 (.slice A 0 c)
  have ho1 : (w.setCell ⟨d, 0, none⟩ (.slice A 0 c)).ownsRow b0 108 2 (.slice A 0 c) 0 [] := own_fr (S := fun k => k = d) hcut (Fr.at_ w d 0 _) (fun g hg e => own_ne hcut hb (by decide) (by rw [hg]; exact congrArg some e))
  have hE := emptyLabels_any (w.setCell ⟨d, 0, none⟩ (.slice A 0 c))
  have HB := Lib.hid hb1
  have HO := Lib.hid ho1
  have hto0 := hto 0
  generalize l.length = n at c0 hto0
  clear hb ho hcut hb1 ho1 hto
  go_enter Tryz.func202, Tryz.ntmps202
  go_wp2_with (go_at_call 134; refine hE.mono ?_; rintro r w1 ⟨rfl, hf⟩; have hb2 := HB.out.fr hf (fun e => e); have f1 := hb2.frozen 1; have c1 := hb2.cell 1; simp at c1)
  go_end0
  refine ⟨rfl, ⟨_, _, by simpa using hb2.set_ 1 (.string ⟨#[]⟩), ?_⟩, ?_⟩
  · have ho2 := own_fr HO.out hf (fun _ _ e => e)
    exact own_fr (S := fun k => k = d) ho2 (Fr.at_ w1 d 1 _) (fun g hg e => own_ne ho2 hb2 (by decide) (by rw [hg]; exact congrArg some e))
  · exact ((Fr.at_ w d 0 _).trans hf (fun _ _ e => e.elim)).setCell (p := ⟨d, 1, none⟩) (.inl rfl) _

/-- The blocks that the builder may turn: its own, and those of its rows. -/
def BldS (w : World) (b0 d k : Nat) : Prop := k = d ∨ (b0 ≤ k ∧ ∃ cs, Blk w k 108 cs)

theorem bytes_same (s : ByteArray) : (⟨s.data.toList.toArray⟩ : ByteArray) = s := by cases s; simp

/-- The row, one label more. -/
theorem bld_push {w w1 w2 : World} {b0 d : Nat} {l : List Lab} {o : ByteArray} {v v' z : Value} {x : Lab} (hb : Blk w d 119 #[v, .string o, z]) (ho : w.ownsRow b0 108 2 v l.length (l.flatMap labc)) (hf : Fr (fun _ => False) w w1) (hb0 : b0 ≤ w.heap.size)
    (hown : w2.ownsRow b0 108 2 v' (l.length + 1) (l.flatMap labc ++ labc x)) (hgrow : w1.grownBy w2 v.ownBlock) :
    Blk w2 d 119 #[v, .string o, z] ∧ Bld (w2.setCell ⟨d, 0, none⟩ v') b0 d (l ++ [x]) o ∧ Fr (BldS w b0 d) w (w2.setCell ⟨d, 0, none⟩ v') := by
  have hne := own_ne ho hb (by decide)
  have hb2 : Blk w2 d 119 #[v, .string o, z] := (hb.fr hf (fun e => e)).grown hgrow (fun e => hne e.symm)
  have e1 : (l ++ [x]).length = l.length + 1 := by simp
  have e2 : (l ++ [x]).flatMap labc = l.flatMap labc ++ labc x := by simp
  refine ⟨hb2, ⟨v', z, by simpa using hb2.set_ 0 v', ?_⟩, ?_⟩
  · rw [e1, e2]
    exact own_fr (S := fun k => k = d) hown (Fr.at_ w2 d 0 _) (fun g hg e => own_ne hown hb2 (by decide) (by rw [hg]; exact congrArg some e))
  · refine ((hf.mono (S' := BldS w b0 d) (fun _ _ e => e.elim)).grown hgrow (fun k hk => .inl (.inr ?_))).setCell (p := ⟨d, 0, none⟩) (.inl (.inl rfl)) _
    rcases ho.2 with ⟨rfl, _⟩ | ⟨g', c, cur, rfl, hb', hh, _⟩
    · simp [Value.ownBlock] at hk
    · obtain rfl : g' = k := by simpa [Value.ownBlock] using hk
      exact ⟨hb', cur, hh⟩

set_option maxRecDepth 100000 in
set_option maxHeartbeats 2000000 in
theorem unsafeAdd_any (b0 d : Nat) (l : List Lab) (o : ByteArray) (x : Lab) (g1 o1 c1 g2 o2 c2 : Nat) (w : World) (h : Bld w b0 d l o) (hb0 : b0 ≤ w.heap.size) (hl : l.length ≤ 1099511627776)
    (h1 : ∀ j b, x.1.data.toList[j]? = some b → w.cell? ⟨g1, o1 + j, none⟩ = some (.int .u8 b.toNat)) (h2 : ∀ j b, x.2.data.toList[j]? = some b → w.cell? ⟨g2, o2 + j, none⟩ = some (.int .u8 b.toNat)) :
    Calls Tryz.prog 204 #[.pointer (some ⟨d, 0, none⟩), .slice (some ⟨g1, o1, none⟩) x.1.data.toList.length c1, .slice (some ⟨g2, o2, none⟩) x.2.data.toList.length c2] w fun r w' => r = .returned (.tuple #[]) ∧ Bld w' b0 d (l ++ [x]) o ∧ Fr (BldS w b0 d) w w' := by
  obtain ⟨v, z, hb, ho⟩ := h
  obtain ⟨A, c, rfl⟩ := own_slice' ho
  obtain ⟨i0, hi0, hz0, hz1, hz2⟩ := info_parts Tryz.info108
  have q1 := yolo_at g1 o1 c1 x.1.data.toList w.drew h1
  have q2 := yolo_at g2 o2 c2 x.2.data.toList w.drew h2
  rw [bytes_same] at q1 q2
  obtain ⟨a, b⟩ := x
  simp only [] at q1 q2
  have k0 : w.drew.cell? ⟨d, 0, none⟩ = some (.slice A l.length c) := by have := hb.drew.cell 0; simpa using this
  have HB := Lib.hid hb
  have HO := Lib.hid ho
  clear hb ho h1 h2
  generalize a.data.toList.length = n1 at q1 ⊢
  generalize b.data.toList.length = n2 at q2 ⊢
  go_enter Tryz.func204, Tryz.ntmps204
  go_wp2_with fail
  refine wp_region_but (fun w' => w'.cell? ⟨d, 0, none⟩ = some (.slice A l.length c)) 11 (by kernel_rfl) k0 ?_
  intro hS
  refine wpBut_take 0 (.pointer (some ⟨d, 0, none⟩)) rfl (by kernel_rfl) (by kernel_rfl) (by kernel_rfl) (by kernel_rfl) (fun _ _ _ h => h) (by rfl) (by intro w; go_simp) hS ?_
  try simp only [Act.put, List.setIfInBounds_toArray, List.set_cons_zero, List.set_cons_succ]
  refine wpBut_take 1 (.pointer (some ⟨d, 0, none⟩)) rfl (by kernel_rfl) (by kernel_rfl) (by kernel_rfl) (by kernel_rfl) (fun _ _ _ h => h) (by rfl) (by intro w; go_simp) hS ?_
  try simp only [Act.put, List.setIfInBounds_toArray, List.set_cons_zero, List.set_cons_succ]
  refine wpBut_take 2 (.pointer (some ⟨d, 0, none⟩)) rfl (by kernel_rfl) (by kernel_rfl) (by kernel_rfl) (by kernel_rfl) (fun _ _ _ h => h) (by rfl) (by intro w; go_simp) hS ?_
  try simp only [Act.put, List.setIfInBounds_toArray, List.set_cons_zero, List.set_cons_succ]
  refine wpBut_take 3 (.pointer (some ⟨d, 0, none⟩)) rfl (by kernel_rfl) (by kernel_rfl) (by kernel_rfl) (by kernel_rfl) (fun _ _ _ h => h) (by rfl) (by intro w; go_simp) hS ?_
  try simp only [Act.put, List.setIfInBounds_toArray, List.set_cons_zero, List.set_cons_succ]
  refine wpBut_load 4 [11, 14] (.slice A l.length c) rfl (by kernel_rfl) (by kernel_rfl) (by kernel_rfl) (by kernel_rfl) (by kernel_rfl) (by kernel_rfl) (by kernel_rfl) (fun _ _ _ h => h) (by rfl) (by rintro w h1; go_simp) hS ?_
  try simp only [Act.put, List.setIfInBounds_toArray, List.set_cons_zero, List.set_cons_succ]
  refine wpBut_take 5 (.slice (some ⟨g1, o1, none⟩) n1 c1) rfl (by kernel_rfl) (by kernel_rfl) (by kernel_rfl) (by kernel_rfl) (fun _ _ _ h => h) (by rfl) (by intro w; go_simp) hS ?_
  try simp only [Act.put, List.setIfInBounds_toArray, List.set_cons_zero, List.set_cons_succ]
  refine wpBut_take 7 (.slice (some ⟨g2, o2, none⟩) n2 c2) rfl (by kernel_rfl) (by kernel_rfl) (by kernel_rfl) (by kernel_rfl) (fun _ _ _ h => h) (by rfl) (by intro w; go_simp) hS ?_
  try simp only [Act.put, List.setIfInBounds_toArray, List.set_cons_zero, List.set_cons_succ]
  refine wpBut_one 6 (by kernel_rfl) rfl (by rfl) (fun K hK => ?_)
  go_simp
  go_at_call 210
  refine q1.mono ?_
  rintro r w' ⟨rfl, rfl⟩
  refine hK.out _ _ hS ?_
  clear hK K
  try simp only [Act.put, List.setIfInBounds_toArray, List.set_cons_zero, List.set_cons_succ]
  refine wpBut_one 8 (by kernel_rfl) rfl (by rfl) (fun K hK => ?_)
  go_simp
  go_at_call 210
  refine q2.mono ?_
  rintro r w' ⟨rfl, rfl⟩
  refine hK.out _ _ hS ?_
  clear hK K
  try simp only [Act.put, List.setIfInBounds_toArray, List.set_cons_zero, List.set_cons_succ]
  refine wpBut_take 9 (.agg #[.string a, .string b]) rfl (by kernel_rfl) (by kernel_rfl) (by kernel_rfl) (by kernel_rfl) (fun _ _ _ h => h) (by rfl) (by intro w; go_simp) hS ?_
  try simp only [Act.put, List.setIfInBounds_toArray, List.set_cons_zero, List.set_cons_succ]
  refine wpBut_one 10 (by kernel_rfl) rfl (by rfl) (fun K hK => ?_)
  go_simp
  refine hK.out _ _ ((HB.out.drew.alloc _).cell 0) ?_
  clear hK K
  try simp only [Act.put, List.setIfInBounds_toArray, List.set_cons_zero, List.set_cons_succ]
  refine wpBut_last 11 (by kernel_rfl) rfl (by kernel_rfl) (by rfl) (fun K hK => ?_)
  refine wp_append_src _ _ _ 115 115 (by rfl) b0 108 i0 _ 2 32 Tryz.underlying115 hi0 hz0 hz1 hz2 rfl (by decide) (.slice A l.length c) l.length (l.flatMap labc) (by rfl) (World.ownsRow.alloc (w := w.drew) HO.out (.cells (labc (a, b)).toArray 108)) _ 1 (labc (a, b)) (by rfl) (src_blk Tryz.underlying115 (Blk.new w.drew 108 (labc (a, b)).toArray) rfl (by simp [labc, Value.oneCell'])) (by unfold maxLen; omega) (by omega) (by simp; omega) ?_
  intro v' w2 hown' hgrow hat
  obtain ⟨KB, KD, KF⟩ := bld_push (x := (a, b)) HB.out HO.out ((Fr.refl (fun _ => False) w).drew.alloc (.cells (labc (a, b)).toArray 108)) hb0 hown' hgrow
  obtain ⟨a5, n5, k5, rfl⟩ := own_slice hown'
  have q0 := KB.cell 0
  simp at q0
  have z0 := KB.frozen 0
  have HD := Lib.hid (And.intro KD KF)
  clear KB KD KF hown' hgrow hat
  refine hK.out _ _ ?_
  clear hK K hS
  try simp only [Act.put, List.setIfInBounds_toArray, List.set_cons_zero, List.set_cons_succ]
  refine wpBut_last 12 (by kernel_rfl) rfl (by kernel_rfl) (by rfl) (fun K hK => ?_)
  go_simp
  refine hK.out _ _ ?_
  clear hK K
  refine wpBut_last 13 (by kernel_rfl) rfl (by kernel_rfl) (by rfl) (fun K hK => ?_)
  go_simp
  refine hK.out _ _ ?_
  clear hK K
  refine wpBut_last 14 (by kernel_rfl) rfl (by kernel_rfl) (by rfl) (fun K hK => ?_)
  go_simp
  refine hK.out _ _ ?_
  clear hK K
  refine wpBut_done (by kernel_rfl) ?_ _
  go_end0
  exact ⟨rfl, HD.out.1, HD.out.2⟩
end Go.Proofs.YtbkookiigkckdaaGreatDoor

