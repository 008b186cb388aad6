/- Texts of this seat, merged: Lv, Lo, Zf. -/
import Derived.Test.YtbkookiigkckdaaGreatDoorK08
import Derived.Test.YtbkookiigkckdaaGreatDoorK09
import Derived.Test.YtbkookiigkckdaaGreatDoorK06
import Derived.Test.YtbkookiigkckdaaGreatDoorK10
import Derived.Laws.IdiomStrings
/- Decbuf.UvarintBytes; the ScratchBuilder: Reset, UnsafeAddBytes. -/
namespace Go.Proofs.YtbkookiigkckdaaGreatDoor
open Go.RowKit
set_option linter.unusedVariables false
set_option linter.unusedSimpArgs false

/-- 's[:k]': it begins where s begins. -/
theorem cutTo {t e : TypeId} {sz : Nat} (he : Tryz.prog.elem t = e) (ht : Tryz.prog.underlying t = some (.slice e)) (hs : ∀ W, (sizeOf e).run Tryz.prog W = .ok sz W) (A : Option Addr) (n c k : Nat) (kd : IntKind) (x : Int) (hx : x = k) (hk : k ≤ c) (W : World) :
    (Instr.slice t (.slice A n c) none (some (.int kd x)) none).run Tryz.prog W = .ok (.slice A k c) W := by
  subst hx
  subst he
  rw [run_slice_h (P := Tryz.prog) W t A n c ht kd k (by omega) (by omega), hs]
  have e0 : ∀ a : Addr, a.add 0 = a := fun a => by unfold Addr.add; split <;> simp_all
  cases A <;> simp [Result.andThen, sliced, e0]

/-- yoloString of bytes wherever they lie. -/
theorem yolo_at (g off c : Nat) (bs : List UInt8) (w : World) (h : ∀ j b, bs[j]? = some b → w.cell? ⟨g, off + j, none⟩ = some (.int .u8 b.toNat)) : Calls Tryz.prog 210 #[.slice (some ⟨g, off, none⟩) bs.length c] w fun r w' => r = .returned (.string ⟨bs.toArray⟩) ∧ w = w' := by
  have hc := run_convert_bytes_back (P := Tryz.prog) w 44 9 5 ⟨g, off, none⟩ c bs Tryz.underlying44 Tryz.underlying5 Tryz.underlying9 (fun j hj => by
    have e1 : (⟨g, off, none⟩ : Addr).add j = ⟨g, off + j, none⟩ := by unfold Addr.add; split <;> simp_all
    rw [e1, h j _ (List.getElem?_eq_getElem hj)])
  generalize bs.length = n at hc ⊢
  clear h
  go_enter Tryz.func210, Tryz.ntmps210
  go_wp2
  go_ret
  exact ⟨rfl, rfl⟩

/-- What UvarintBytes hands back: bytes that lie in the Decbuf's row, or none. -/
def BytesEnds (te : TypeId) (pe : Value) (w : World) (d g : Nat) (cur : Array Value) (s : ByteArray) (st : St) (r : Ending) (w' : World) : Prop :=
  ∃ g' off c : Nat, r = .returned (.slice (some ⟨g', off, none⟩) s.data.toList.length c) ∧ g' ≠ d ∧ (∀ j b, s.data.toList[j]? = some b → w'.cell? ⟨g', off + j, none⟩ = some (.int .u8 b.toNat)) ∧ Dec te pe w' d g cur st ∧ Fr (fun k => k = d) w w'

theorem gStr_none {st : St} (h : (gUv st).2 = none) : gStr st = (⟨#[]⟩, none) := by unfold gStr; rw [h]
theorem gStr_short {st : St} {r : List UInt8} (h : (gUv st).2 = some r) (hn : r.length < (gUv st).1) : gStr st = (⟨#[]⟩, none) := by unfold gStr; rw [h]; simp only []; rw [if_pos hn]
theorem gStr_long {st : St} {r : List UInt8} (h : (gUv st).2 = some r) (hn : ¬ r.length < (gUv st).1) : gStr st = (⟨(r.take (gUv st).1).toArray⟩, some (r.drop (gUv st).1)) := by unfold gStr; rw [h]; simp only []; rw [if_neg hn]

set_option maxRecDepth 100000 in
set_option maxHeartbeats 2000000 in
theorem decBytes (te : TypeId) (pe : Value) (d g : Nat) (cur : Array Value) (st : St) (w : World) (h : Dec te pe w d g cur st) (hn : (gUv st).1 < 9223372036854775808) :
    Calls Tryz.prog 203 #[.pointer (some ⟨d, 0, none⟩)] w (BytesEnds te pe w d g cur (gStr st).1 (gStr st).2) := by
  have hU := decUv te pe d g cur st w h
  clear h
  rcases hst : (gUv st).2 with _ | r
  · rw [gStr_none hst]
    rw [hst] at hU
    generalize (gUv st).1 = n at hn hU
    clear hst
    go_enter Tryz.func203, Tryz.ntmps203
    go_wp2_with (go_at_call 171; refine hU.mono ?_; rintro e w1 ⟨rfl, ⟨rest, HD⟩, hf⟩; have H := Lib.hid HD; obtain ⟨off, c, hb, hg, hl, hm, hr, hE⟩ := HD; have hc1 := hb.cell 1; simp at hc1; have HB := Lib.hid hb; have HF := Lib.hid hf; clear hb hg hr hf)
    go_ret
    refine ⟨w1.heap.size, 0, _, rfl, fun e => ?_, fun j b hj => by simp at hj, ⟨rest, ?_⟩, HF.out.alloc _⟩
    · have := HB.out.lt; omega
    · obtain ⟨off, c, hb, hg, hl, hm, hr, hE⟩ := H.out
      exact ⟨off, c, hb.alloc _, hg.alloc _, hl, hm, hr, by rw [((Fr.refl (fun _ => False) w1).alloc _).cell (p := ⟨2, 0, none⟩) (World.block_lt_of_cell? w1 _ hE) (fun e => e)]; exact hE⟩
  · by_cases hlt : r.length < (gUv st).1
    · rw [gStr_short hst hlt]
      rw [hst] at hU
      generalize (gUv st).1 = n at hn hlt hU
      clear hst
      obtain ⟨m, hm0⟩ : ∃ m, r.length = m := ⟨_, rfl⟩
      rw [hm0] at hlt
      have hlt' : (m : Int) < n := by omega
      have hwr : wrap64 (n : Int) = n := by unfold wrap64; omega
      go_enter Tryz.func203, Tryz.ntmps203
      go_wp2_with (go_at_call 171; refine hU.mono ?_; rintro e w1 ⟨rfl, HD, hf⟩; have HD : DecOk (.iface te pe) w1 d g cur r .nilIface := HD; have H := Lib.hid HD; obtain ⟨off, c, hb, hg, hl, hm, hr, hE⟩ := HD; rw [hm0] at hb hl hm; have hc0 := hb.cell 0; have hc1 := hb.cell 1; simp at hc0 hc1; have hz1 := hb.frozen 1; have HB := Lib.hid hb; have HF := Lib.hid hf; have HR := Lib.hid hr; clear hb hg hr hf)
      go_ret
      refine ⟨w1.heap.size, 0, 0, by simp [World.setCell], fun e => ?_, fun j b hj => by simp at hj, ⟨r, ?_⟩, (HF.out.setCell (p := ⟨d, 1, none⟩) (.inl rfl) _).alloc _⟩
      · have := HB.out.lt; omega
      · have hm2 := H.out.move (Fr.at_ w1 d 1 (.iface te pe)) (E' := .iface te pe) (rest' := r) (off' := off) (c' := c) (by rw [hm0]; simpa using HB.out.set_ 1 (Value.iface te pe)) (by rw [hm0]; exact hl) (by rw [hm0]; exact hm) HR.out
        obtain ⟨off, c, hb, hg, hl, hm, hr, hE⟩ := hm2
        exact ⟨off, c, hb.alloc _, hg.alloc _, hl, hm, hr, by rw [((Fr.refl (fun _ => False) _).alloc _).cell (p := ⟨2, 0, none⟩) (World.block_lt_of_cell? _ _ hE) (fun e => e)]; exact hE⟩
    · rw [gStr_long hst hlt]
      rw [hst] at hU
      generalize (gUv st).1 = n at hn hlt hU ⊢
      clear hst
      obtain ⟨m, hm0⟩ : ∃ m, r.length = m := ⟨_, rfl⟩
      rw [hm0] at hlt
      have hle : n ≤ m := Nat.le_of_not_lt hlt
      have hlt' : ¬ (m : Int) < n := by omega
      have hwr : wrap64 (n : Int) = n := by unfold wrap64; omega
      go_enter Tryz.func203, Tryz.ntmps203
      go_wp2_with (go_at_call 171; refine hU.mono ?_; rintro e w1 ⟨rfl, HD, hf⟩; have HD : DecOk (.iface te pe) w1 d g cur r .nilIface := HD; have H := Lib.hid HD; obtain ⟨off, c, hb, hg, hl, hm, hr, hE⟩ := HD; rw [hm0] at hb hl hm; have hc0 := hb.cell 0; have hc1 := hb.cell 1; simp at hc0 hc1; have hz0 := hb.frozen 0; have HB := Lib.hid hb; have HF := Lib.hid hf; have HR := Lib.hid hr; have hdg := Blk.ne_ hg hb (by decide); have HG := Lib.hid hg; obtain ⟨off', ho, hoff⟩ := cut44 g off m c n .u64 n rfl hle; have HO := Lib.hid ho; have hto := cutTo Tryz.elem44' Tryz.underlying44 Tryz.size5 (some ⟨g, off, none⟩) m c n .u64 n rfl (Nat.le_trans hle hl); clear hb hg hr hf ho)
      go_ret
      have hcut := DecOk.cut H.out (Fr.refl _ _) HB.out HR.out hm0 hl hm hle HO.out
      refine ⟨g, off, c, ?_, hdg, fun j b hj => ?_, hcut, HF.out.setCell (p := ⟨d, 0, none⟩) (.inl rfl) _⟩
      · have e1 : (⟨(r.take n).toArray⟩ : ByteArray).data.toList.length = n := by simp; omega
        rw [e1]; rfl
      · have e1 : (⟨(r.take n).toArray⟩ : ByteArray).data.toList = r.take n := by simp
        rw [e1, List.getElem?_take] at hj
        split at hj
        · have h2 := HR.out j (.int .u8 b.toNat) (by rw [bc_get, hj]; rfl)
          rw [((HG.out).far (p := ⟨d, 0, none⟩) hdg _).cell, h2]
        · cases hj

/-- A ScratchBuilder at the head of block d (a Decoder's): its labels in a row from b0 on, its output. -/
def Bld (w : World) (b0 d : Nat) (l : List Lab) (o : ByteArray) : Prop := ∃ v x, Blk w d 119 #[v, .string o, x] ∧ w.ownsRow b0 108 2 v l.length (l.flatMap labc)
theorem Bld.fr {w w' : World} {b0 d : Nat} {l : List Lab} {o : ByteArray} {S : Nat → Prop} (h : Bld w b0 d l o) (hf : Fr S w w') (hd : ¬ S d) (hs : ∀ g, w.heap[g]?.isSome → (∃ cs, Blk w g 108 cs) → ¬ S g) : Bld w' b0 d l o := by
  obtain ⟨v, x, hb, ho⟩ := h
  refine ⟨v, x, hb.fr hf hd, own_fr ho hf (fun g hg e => ?_)⟩
  rcases ho.2 with ⟨rfl, _⟩ | ⟨g', c, cur, rfl, _, hh, _⟩
  · simp [Value.ownBlock] at hg
  · obtain rfl : g' = g := by simpa [Value.ownBlock] using hg
    exact hs g' (by rw [hh]; rfl) ⟨cur, hh⟩ e

theorem own_none {w : World} {base : Nat} {e : TypeId} {size n c : Nat} {A : Option Addr} {xs : List Value} (h : w.ownsRow base e size (.slice A n c) n xs) : w.ownsRow base e size (.slice A 0 c) 0 [] := by
  rcases h.2 with ⟨hv, _⟩ | ⟨g, cap, cur, hv, hb, hh, hn, hm, hcs, ht⟩
  · injection hv with h1 h2 h3
    subst h1 h3
    exact World.ownsRow_nil _ _ _ _
  · injection hv with h1 h2 h3
    subst h1 h3
    exact ⟨by simp, .inr ⟨g, c, cur, rfl, hb, hh, Nat.zero_le _, hm, hcs, by simp⟩⟩

theorem Tryz.elem115' : Tryz.prog.elem 115 = 108 := by kernel_rfl
theorem Tryz.size108 (w : World) : (sizeOf 108).run Tryz.prog w = .ok 2 w := by kernel_rfl

theorem emptyLabels_any (w : World) : Calls Tryz.prog 134 #[] w fun r w' => r = .returned (.agg #[.string ⟨#[]⟩]) ∧ Fr (fun _ => False) w w' := by
  have hB := Blk.new w 99 #[.string ⟨#[]⟩]
  have c0 := hB.cell 0
  have f0 := hB.frozen 0
  have hb6 := hB
  go_enter Tryz.func134, Tryz.ntmps134
  go_wp2
  refine bodyPost_ret (results_cell_row (P := Tryz.prog) rfl _ _ w.heap.size 99 #[.string ⟨#[]⟩] (0, 0) _ rfl hb6 Tryz.underlying99 rfl (by kernel_rfl)) rfl ?_
  exact ⟨rfl, (Fr.refl _ w).alloc _⟩

set_option maxRecDepth 100000 in
set_option maxHeartbeats 1000000 in
theorem reset_any (b0 d : Nat) (l : List Lab) (o : ByteArray) (w : World) (h : Bld w b0 d l o) :
    Calls Tryz.prog 202 #[.pointer (some ⟨d, 0, none⟩)] w fun r w' => r = .returned (.tuple #[]) ∧ Bld w' b0 d [] ⟨#[]⟩ ∧ Fr (fun k => k = d) w w' := by
  obtain ⟨v, x, hb, ho⟩ := h
  obtain ⟨A, c, rfl⟩ := own_slice' ho
  have hto := fun n : Nat => cutTo Tryz.elem115' Tryz.underlying115 Tryz.size108 A l.length c 0 .i64 0 rfl (Nat.zero_le _)
  have hcut := own_none ho
  have c0 := hb.cell 0
  have f0 := hb.frozen 0
  simp at c0
  have hb1 : Blk (w.setCell ⟨d, 0, none⟩ (.slice A 0 c)) d 119 #[.slice A 0 c, .string o, x] := by simpa using hb.set_ 0 (.slice A 0 c)
  have ho1 : (w.setCell ⟨d, 0, none⟩ (.slice A 0 c)).ownsRow b0 108 2 (.slice A 0 c) 0 [] := own_fr (S := fun k => k = d) hcut (Fr.at_ w d 0 _) (fun g hg e => own_ne hcut hb (by decide) (by rw [hg]; exact congrArg some e))
  have hE := emptyLabels_any (w.setCell ⟨d, 0, none⟩ (.slice A 0 c))
  have HB := Lib.hid hb1
  have HO := Lib.hid ho1
  have hto0 := hto 0
  generalize l.length = n at c0 hto0
  clear hb ho hcut hb1 ho1 hto
  go_enter Tryz.func202, Tryz.ntmps202
  go_wp2_with (go_at_call 134; refine hE.mono ?_; rintro r w1 ⟨rfl, hf⟩; have hb2 := HB.out.fr hf (fun e => e); have f1 := hb2.frozen 1; have c1 := hb2.cell 1; simp at c1)
  go_end0
  refine ⟨rfl, ⟨_, _, by simpa using hb2.set_ 1 (.string ⟨#[]⟩), ?_⟩, ?_⟩
  · have ho2 := own_fr HO.out hf (fun _ _ e => e)
    exact own_fr (S := fun k => k = d) ho2 (Fr.at_ w1 d 1 _) (fun g hg e => own_ne ho2 hb2 (by decide) (by rw [hg]; exact congrArg some e))
  · exact ((Fr.at_ w d 0 _).trans hf (fun _ _ e => e.elim)).setCell (p := ⟨d, 1, none⟩) (.inl rfl) _

/-- The blocks that the builder may turn: its own, and those of its rows. -/
def BldS (w : World) (b0 d k : Nat) : Prop := k = d ∨ (b0 ≤ k ∧ ∃ cs, Blk w k 108 cs)

theorem bytes_same (s : ByteArray) : (⟨s.data.toList.toArray⟩ : ByteArray) = s := by cases s; simp

/-- The row, one label more. -/
theorem bld_push {w w1 w2 : World} {b0 d : Nat} {l : List Lab} {o : ByteArray} {v v' z : Value} {x : Lab} (hb : Blk w d 119 #[v, .string o, z]) (ho : w.ownsRow b0 108 2 v l.length (l.flatMap labc)) (hf : Fr (fun _ => False) w w1) (hb0 : b0 ≤ w.heap.size)
    (hown : w2.ownsRow b0 108 2 v' (l.length + 1) (l.flatMap labc ++ labc x)) (hgrow : w1.grownBy w2 v.ownBlock) :
    Blk w2 d 119 #[v, .string o, z] ∧ Bld (w2.setCell ⟨d, 0, none⟩ v') b0 d (l ++ [x]) o ∧ Fr (BldS w b0 d) w (w2.setCell ⟨d, 0, none⟩ v') := by
  have hne := own_ne ho hb (by decide)
  have hb2 : Blk w2 d 119 #[v, .string o, z] := (hb.fr hf (fun e => e)).grown hgrow (fun e => hne e.symm)
  have e1 : (l ++ [x]).length = l.length + 1 := by simp
  have e2 : (l ++ [x]).flatMap labc = l.flatMap labc ++ labc x := by simp
  refine ⟨hb2, ⟨v', z, by simpa using hb2.set_ 0 v', ?_⟩, ?_⟩
  · rw [e1, e2]
    exact own_fr (S := fun k => k = d) hown (Fr.at_ w2 d 0 _) (fun g hg e => own_ne hown hb2 (by decide) (by rw [hg]; exact congrArg some e))
  · refine ((hf.mono (S' := BldS w b0 d) (fun _ _ e => e.elim)).grown hgrow (fun k hk => .inl (.inr ?_))).setCell (p := ⟨d, 0, none⟩) (.inl (.inl rfl)) _
    rcases ho.2 with ⟨rfl, _⟩ | ⟨g', c, cur, rfl, hb', hh, _⟩
    · simp [Value.ownBlock] at hk
    · obtain rfl : g' = k := by simpa [Value.ownBlock] using hk
      exact ⟨hb', cur, hh⟩

set_option maxRecDepth 100000 in
set_option maxHeartbeats 2000000 in
theorem unsafeAdd_any (b0 d : Nat) (l : List Lab) (o : ByteArray) (x : Lab) (g1 o1 c1 g2 o2 c2 : Nat) (w : World) (h : Bld w b0 d l o) (hb0 : b0 ≤ w.heap.size) (hl : l.length ≤ 1099511627776)
    (h1 : ∀ j b, x.1.data.toList[j]? = some b → w.cell? ⟨g1, o1 + j, none⟩ = some (.int .u8 b.toNat)) (h2 : ∀ j b, x.2.data.toList[j]? = some b → w.cell? ⟨g2, o2 + j, none⟩ = some (.int .u8 b.toNat)) :
    Calls Tryz.prog 204 #[.pointer (some ⟨d, 0, none⟩), .slice (some ⟨g1, o1, none⟩) x.1.data.toList.length c1, .slice (some ⟨g2, o2, none⟩) x.2.data.toList.length c2] w fun r w' => r = .returned (.tuple #[]) ∧ Bld w' b0 d (l ++ [x]) o ∧ Fr (BldS w b0 d) w w' := by
  obtain ⟨v, z, hb, ho⟩ := h
  obtain ⟨A, c, rfl⟩ := own_slice' ho
  obtain ⟨i0, hi0, hz0, hz1, hz2⟩ := info_parts Tryz.info108
  have q1 := yolo_at g1 o1 c1 x.1.data.toList w.drew h1
  have q2 := yolo_at g2 o2 c2 x.2.data.toList w.drew h2
  rw [bytes_same] at q1 q2
  obtain ⟨a, b⟩ := x
  simp only [] at q1 q2
  have k0 : w.drew.cell? ⟨d, 0, none⟩ = some (.slice A l.length c) := by have := hb.drew.cell 0; simpa using this
  have HB := Lib.hid hb
  have HO := Lib.hid ho
  clear hb ho h1 h2
  generalize a.data.toList.length = n1 at q1 ⊢
  generalize b.data.toList.length = n2 at q2 ⊢
  go_enter Tryz.func204, Tryz.ntmps204
  go_wp2_with fail
  refine wp_region_but (fun w' => w'.cell? ⟨d, 0, none⟩ = some (.slice A l.length c)) 11 (by kernel_rfl) k0 ?_
  intro hS
  refine wpBut_take 0 (.pointer (some ⟨d, 0, none⟩)) rfl (by kernel_rfl) (by kernel_rfl) (by kernel_rfl) (by kernel_rfl) (fun _ _ _ h => h) (by rfl) (by intro w; go_simp) hS ?_
  try simp only [Act.put, List.setIfInBounds_toArray, List.set_cons_zero, List.set_cons_succ]
  refine wpBut_take 1 (.pointer (some ⟨d, 0, none⟩)) rfl (by kernel_rfl) (by kernel_rfl) (by kernel_rfl) (by kernel_rfl) (fun _ _ _ h => h) (by rfl) (by intro w; go_simp) hS ?_
  try simp only [Act.put, List.setIfInBounds_toArray, List.set_cons_zero, List.set_cons_succ]
  refine wpBut_take 2 (.pointer (some ⟨d, 0, none⟩)) rfl (by kernel_rfl) (by kernel_rfl) (by kernel_rfl) (by kernel_rfl) (fun _ _ _ h => h) (by rfl) (by intro w; go_simp) hS ?_
  try simp only [Act.put, List.setIfInBounds_toArray, List.set_cons_zero, List.set_cons_succ]
  refine wpBut_take 3 (.pointer (some ⟨d, 0, none⟩)) rfl (by kernel_rfl) (by kernel_rfl) (by kernel_rfl) (by kernel_rfl) (fun _ _ _ h => h) (by rfl) (by intro w; go_simp) hS ?_
  try simp only [Act.put, List.setIfInBounds_toArray, List.set_cons_zero, List.set_cons_succ]
  refine wpBut_load 4 [11, 14] (.slice A l.length c) rfl (by kernel_rfl) (by kernel_rfl) (by kernel_rfl) (by kernel_rfl) (by kernel_rfl) (by kernel_rfl) (by kernel_rfl) (fun _ _ _ h => h) (by rfl) (by rintro w h1; go_simp) hS ?_
  try simp only [Act.put, List.setIfInBounds_toArray, List.set_cons_zero, List.set_cons_succ]
  refine wpBut_take 5 (.slice (some ⟨g1, o1, none⟩) n1 c1) rfl (by kernel_rfl) (by kernel_rfl) (by kernel_rfl) (by kernel_rfl) (fun _ _ _ h => h) (by rfl) (by intro w; go_simp) hS ?_
  try simp only [Act.put, List.setIfInBounds_toArray, List.set_cons_zero, List.set_cons_succ]
  refine wpBut_take 7 (.slice (some ⟨g2, o2, none⟩) n2 c2) rfl (by kernel_rfl) (by kernel_rfl) (by kernel_rfl) (by kernel_rfl) (fun _ _ _ h => h) (by rfl) (by intro w; go_simp) hS ?_
  try simp only [Act.put, List.setIfInBounds_toArray, List.set_cons_zero, List.set_cons_succ]
  refine wpBut_one 6 (by kernel_rfl) rfl (by rfl) (fun K hK => ?_)
  go_simp
  go_at_call 210
  refine q1.mono ?_
  rintro r w' ⟨rfl, rfl⟩
  refine hK.out _ _ hS ?_
  clear hK K
  try simp only [Act.put, List.setIfInBounds_toArray, List.set_cons_zero, List.set_cons_succ]
  refine wpBut_one 8 (by kernel_rfl) rfl (by rfl) (fun K hK => ?_)
  go_simp
  go_at_call 210
  refine q2.mono ?_
  rintro r w' ⟨rfl, rfl⟩
  refine hK.out _ _ hS ?_
  clear hK K
  try simp only [Act.put, List.setIfInBounds_toArray, List.set_cons_zero, List.set_cons_succ]
  refine wpBut_take 9 (.agg #[.string a, .string b]) rfl (by kernel_rfl) (by kernel_rfl) (by kernel_rfl) (by kernel_rfl) (fun _ _ _ h => h) (by rfl) (by intro w; go_simp) hS ?_
  try simp only [Act.put, List.setIfInBounds_toArray, List.set_cons_zero, List.set_cons_succ]
  refine wpBut_one 10 (by kernel_rfl) rfl (by rfl) (fun K hK => ?_)
  go_simp
  refine hK.out _ _ ((HB.out.drew.alloc _).cell 0) ?_
  clear hK K
  try simp only [Act.put, List.setIfInBounds_toArray, List.set_cons_zero, List.set_cons_succ]
  refine wpBut_last 11 (by kernel_rfl) rfl (by kernel_rfl) (by rfl) (fun K hK => ?_)
  refine wp_append_src _ _ _ 115 115 (by rfl) b0 108 i0 _ 2 32 Tryz.underlying115 hi0 hz0 hz1 hz2 rfl (by decide) (.slice A l.length c) l.length (l.flatMap labc) (by rfl) (World.ownsRow.alloc (w := w.drew) HO.out (.cells (labc (a, b)).toArray 108)) _ 1 (labc (a, b)) (by rfl) (src_blk Tryz.underlying115 (Blk.new w.drew 108 (labc (a, b)).toArray) rfl (by simp [labc, Value.oneCell'])) (by unfold maxLen; omega) (by omega) (by simp; omega) ?_
  intro v' w2 hown' hgrow hat
  obtain ⟨KB, KD, KF⟩ := bld_push (x := (a, b)) HB.out HO.out ((Fr.refl (fun _ => False) w).drew.alloc (.cells (labc (a, b)).toArray 108)) hb0 hown' hgrow
  obtain ⟨a5, n5, k5, rfl⟩ := own_slice hown'
  have q0 := KB.cell 0
  simp at q0
  have z0 := KB.frozen 0
  have HD := Lib.hid (And.intro KD KF)
  clear KB KD KF hown' hgrow hat
  refine hK.out _ _ ?_
  clear hK K hS
  try simp only [Act.put, List.setIfInBounds_toArray, List.set_cons_zero, List.set_cons_succ]
  refine wpBut_last 12 (by kernel_rfl) rfl (by kernel_rfl) (by rfl) (fun K hK => ?_)
  go_simp
  refine hK.out _ _ ?_
  clear hK K
  refine wpBut_last 13 (by kernel_rfl) rfl (by kernel_rfl) (by rfl) (fun K hK => ?_)
  go_simp
  refine hK.out _ _ ?_
  clear hK K
  refine wpBut_last 14 (by kernel_rfl) rfl (by kernel_rfl) (by rfl) (fun K hK => ?_)
  go_simp
  refine hK.out _ _ ?_
  clear hK K
  refine wpBut_done (by kernel_rfl) ?_ _
  go_end0
  exact ⟨rfl, HD.out.1, HD.out.2⟩
end Go.Proofs.YtbkookiigkckdaaGreatDoor

/- spec.Sorted. Printed by gen_lo.py. -/
namespace Go.Proofs.YtbkookiigkckdaaGreatDoor
open Go.RowKit
set_option linter.unusedVariables false
set_option linter.unusedSimpArgs false

/-- Either of two operations may come up, ahead of number c. -/
theorem wpBut_two {P : Program} {ops : Array Oper} {Q : Exit → Act → World → Prop} {md : Region.Mode} {S : World → Prop} {c : Nat} (i j : Nat) {fuel : Nat} {listed : Array Bool} {a : Act} {w : World} {oi oj : Oper}
    (hr : Region.ready md ops listed = [i, j]) (hoi : ops[i]? = some oi) (hoj : ops[j]? = some oj) (hwi : Region.wanted oi (yielded ops a.tmps) = true) (hwj : Region.wanted oj (yielded ops a.tmps) = true)
    (hi : ∀ K' : Act → World → Prop, Shut (∀ a w, S w → wpBut P md ops Q S c fuel (listed.setIfInBounds i true) a w → K' a w) → Oper.wp P oi a w K' Q)
    (hj : ∀ K' : Act → World → Prop, Shut (∀ a w, S w → wpBut P md ops Q S c fuel (listed.setIfInBounds j true) a w → K' a w) → Oper.wp P oj a w K' Q) : wpBut P md ops Q S c (fuel + 1) listed a w := by
  refine ⟨fun h0 => (by rw [hr] at h0; cases h0), fun k hk => ?_⟩
  rw [hr] at hk
  rcases List.mem_cons.mp hk with e | hk
  · subst e
    unfold wpOp
    simp only [hoi, hwi, if_true]
    exact .inl (hi _ (fun a w hS hW => ⟨fun _ => hS, hW⟩))
  · rw [List.mem_singleton] at hk
    subst hk
    unfold wpOp
    simp only [hoj, hwj, if_true]
    exact .inl (hj _ (fun a w hS hW => ⟨fun _ => hS, hW⟩))

theorem less_lt : ∀ x y : List UInt8, Op.bytesLess x y = decide (x < y)
  | x, [] => by cases x <;> simp [Op.bytesLess]
  | [], _ :: _ => by simp [Op.bytesLess]
  | a :: x, b :: y => by
    rw [Op.bytesLess, less_lt x y]
    simp only [List.cons_lt_cons_iff, Bool.decide_or, Bool.decide_and]
    congr 1
theorem less_ltL (x y : Lab) : Op.bytesLess x.1.toList y.1.toList = ltL x y := by
  rw [less_lt, Lib.toList_data, Lib.toList_data]; rfl
theorem labc_one (l : List Lab) : ∀ u ∈ l.flatMap labc, u.oneCell' = true := by
  intro u hu
  obtain ⟨x, _, hx⟩ := List.mem_flatMap.mp hu
  simp [labc] at hx
  rcases hx with rfl | rfl <;> rfl
theorem Tryz.elem31' : Tryz.prog.elem 31 = 40 := by kernel_rfl
theorem Tryz.size40 (w : World) : (sizeOf 40).run Tryz.prog w = .ok 2 w := by kernel_rfl

theorem labs_split (o : List Lab) (j : Nat) (hj : j ≤ o.length) : (o.flatMap labc).take (j * 2) = (o.take j).flatMap labc ∧ (o.flatMap labc).drop (j * 2) = (o.drop j).flatMap labc := by
  have e : o.flatMap labc = (o.take j).flatMap labc ++ (o.drop j).flatMap labc := by rw [← List.flatMap_append, List.take_append_drop]
  have h : ((o.take j).flatMap labc).length = j * 2 := by rw [flat2_len, List.length_take, Nat.min_eq_left hj]
  rw [e]
  exact ⟨List.take_left' h, List.drop_left' h⟩

/-- The head and the tail of a list of labels in memory, as they are appended. -/
theorem sl_take {P : Nat → Prop} {W : World} {A : Option Addr} {c : Nat} {o : List Lab} {k j : Nat} (h : Sl P W (.slice A k c) 2 k (o.flatMap labc)) (ho : o.length = k) (hj : j ≤ k) : Sl P W (.slice A j c) 2 j ((o.take j).flatMap labc) := by
  obtain ⟨A', c', e, hl, hc, hr⟩ := h
  injection e with e1 _ e3
  subst e1 e3
  refine ⟨A, c, rfl, by rw [flat2_len, List.length_take]; omega, by omega, fun h0 => ?_⟩
  obtain ⟨g, off, hA, hP, hcell⟩ := hr (by omega)
  refine ⟨g, off, hA, hP, fun i u hu => hcell i u ?_⟩
  rw [← (labs_split o j (by omega)).1, List.getElem?_take] at hu
  split at hu
  · exact hu
  · cases hu
theorem sl_drop {P : Nat → Prop} {W0 : World} {A : Option Addr} {c : Nat} {o : List Lab} {k j : Nat} (h : Sl P W0 (.slice A k c) 2 k (o.flatMap labc)) (ho : o.length = k) (hj : j ≤ k) :
    ∃ A', (∀ W, (Instr.slice 31 (.slice A k c) (some (.int .i64 j)) none none).run Tryz.prog W = .ok (.slice A' (k - j) (c - j)) W) ∧ ∀ W, Sl P W (.slice A k c) 2 k (o.flatMap labc) → Sl P W (.slice A' (k - j) (c - j)) 2 (k - j) ((o.drop j).flatMap labc) := by
  have hrun : ∀ W, (Instr.slice 31 (.slice A k c) (some (.int .i64 j)) none none).run Tryz.prog W = .ok (sliced A j k c 2) W := fun W => by
    have h := run_slice_l (P := Tryz.prog) W 31 A k c (by rw [Tryz.elem31']; exact Tryz.underlying31) .i64 j (by omega) (by omega)
    rw [Tryz.elem31', Tryz.size40] at h
    rw [h]
    simp [Result.andThen]
  refine ⟨if c = j then A else A.map (fun a : Addr => a.add (j * 2)), fun W => hrun W, fun W h2 => ?_⟩
  obtain ⟨A', c', e, hl, hc, hr⟩ := h2
  injection e with e1 _ e3
  subst e1 e3
  refine ⟨_, _, rfl, by rw [flat2_len, List.length_drop]; omega, by omega, fun h0 => ?_⟩
  obtain ⟨g, off, rfl, hP, hcell⟩ := hr (by omega)
  have hcj : ¬ c = j := by omega
  have e1 : (⟨g, off, none⟩ : Addr).add (j * 2) = ⟨g, off + j * 2, none⟩ := by unfold Addr.add; split <;> simp_all
  refine ⟨g, off + j * 2, by simp [hcj, e1], hP, fun i u hu => ?_⟩
  rw [← (labs_split o j (by omega)).2, List.getElem?_drop] at hu
  rw [Nat.add_assoc]
  exact hcell _ _ hu

theorem own_empty40 (W : World) (base : Nat) (h : base ≤ W.heap.size) : (W.alloc (.cells #[] 40)).ownsRow base 40 2 (.slice (some ⟨W.heap.size, 0, none⟩) 0 0) 0 [] :=
  World.ownsRow_made (base := base) (e := 40) (size := 2) W #[] 0 h (Nat.zero_le _) rfl

set_option maxRecDepth 100000 in
set_option maxHeartbeats 8000000 in
theorem sorted_any (P : Nat → Prop) (v : Value) (l : List Lab) (w : World) (h : Sl P w v 2 l.length (l.flatMap labc)) (hl : l.length ≤ 1099511627776) : Calls Tryz.prog 24 #[v] w (LabEnds 40 w (sortL l)) := by
  unfold LabEnds
  rw [lsort_length]
  obtain ⟨A, c, rfl, _, hc, hr⟩ := h
  obtain ⟨n, hn⟩ : ∃ n, l.length = n := ⟨_, rfl⟩
  rw [hn] at hr hc hl ⊢
  have HN := Lib.hid hn
  have HR := Lib.hid hr
  obtain ⟨i0, hi0, hz0, hz1, hz2⟩ := info_parts Tryz.info40
  clear hn hr
  go_enter Tryz.func24, Tryz.ntmps24
  go_wp2
  go_loopw [3, 4] (fun vo vi wr => ∃ k : Nat, k ≤ n ∧ vi = .int .i64 k ∧ Hid (wr.ownsRow w.heap.size 40 2 vo k ((sortL (l.take k)).flatMap labc)) ∧ Hid (Fr (fun _ => False) w wr)) (fun _ vi _ => n - (intOf vi).toNat)
  case atStart => exact ⟨0, Nat.zero_le _, rfl, Lib.hid (World.ownsRow_nil _ _ _ _), Lib.hid (Fr.refl _ _)⟩
  case round =>
    obtain ⟨k, hk, rfl, HO, HF⟩ := hrel
    by_cases hlt : k < n
    · obtain ⟨g, off, rfl, _, hcell⟩ := HR.out (by omega)
      obtain ⟨x, hx⟩ : ∃ x, l[k]? = some x := ⟨_, List.getElem?_eq_getElem (by rw [HN.out]; exact hlt)⟩
      have cx : ∀ W, Fr (fun _ => False) w W → W.cell? ⟨g, off + k * 2, none⟩ = some (.string x.1) ∧ W.cell? ⟨g, off + k * 2 + 1, none⟩ = some (.string x.2) := fun W hF => by
        have cc : ∀ j, j < 2 → ∀ u, (labc x)[j]? = some u → W.cell? ⟨g, off + (k * 2 + j), none⟩ = some u := fun j hj u hu => by
          have := hcell (k * 2 + j) u (by rw [flat2 labc (fun _ => rfl) l k x hx j hj]; exact hu)
          rw [hF.cell (p := ⟨g, off + (k * 2 + j), none⟩) (World.block_lt_of_cell? w _ this) (fun e => e)]
          exact this
        exact ⟨cc 0 (by omega) _ rfl, cc 1 (by omega) _ rfl⟩
      have hlen : (sortL (l.take k)).length = k := by rw [lsort_length, List.length_take]; have := HN.out; omega
      have hstep := lsort_snoc ltL l k x hx
      obtain ⟨o, ho⟩ : ∃ o, sortL (l.take k) = o := ⟨_, rfl⟩
      have hlen' : o.length = k := by rw [← ho]; exact hlen
      have hstep' : sortL (l.take (k + 1)) = lins ltL o x := by rw [← ho]; exact hstep
      rw [ho] at HO
      obtain ⟨A2, c2, rfl⟩ := own_slice' HO.out
      have HX := Lib.hid cx
      have HL := Lib.hid hlen'
      have HST := Lib.hid hstep'
      have HSO := Lib.hid (Sl.ofOwn HO.out)
      clear cx hlen hstep ho hx hcell hlen' hstep'
      go_wp2
      go_loopw [5] (fun vj w' => ∃ j : Nat, j ≤ k ∧ vj = .int .i64 j ∧ Hid (lpos ltL x o k = lpos ltL x o j) ∧ Hid (Fr (fun _ => False) wr w')) (fun vj _ => (intOf vj).toNat)
      case atStart => exact ⟨k, Nat.le_refl _, rfl, Lib.hid rfl, Lib.hid (Fr.refl _ _)⟩
      case round =>
        obtain ⟨j, hj, rfl, HJ, HF2⟩ := hrel
        have HFF : Hid (Fr (fun _ => False) w wr) := Lib.hid (HF.out.same HF2.out)
        rcases j with _ | j
        · have HP : Hid (lpos ltL x o o.length = 0) := Lib.hid (by rw [HL.out, HJ.out]; rfl)
          go_wp2
          go_region
          all_goals go_wp2
          have HSL : Hid (∀ W, Fr (fun _ => False) wr W → Sl (fun g => (Value.slice A2 k c2).ownBlock = some g) W (.slice A2 k c2) 2 k (o.flatMap labc)) := Lib.hid (fun W hW => (HSO.out.fr (HF2.out.same hW) (fun _ _ e => e)))
          have hjk : 0 ≤ k := by omega
          have hto := cutTo Tryz.elem31' Tryz.underlying31 Tryz.size40 A2 k c2 (0) .i64 ((0 : Nat) : Int) rfl (by have h := HSO.out; obtain ⟨_, _, e, _, h, _⟩ := h; injection e with e1 e2 e3; omega)
          have HSRC1 : Hid (∀ W, Fr (fun _ => False) wr W → Src Tryz.prog 2 31 (.slice A2 (0) c2) (0) ((o.take (0)).flatMap labc) W) := Lib.hid (fun W hW => src_sl Tryz.underlying31 (sl_take (HSL.out W hW) HL.out hjk) (labc_one _))
          have HSRC3 : Hid (∀ W, Fr (fun _ => False) wr W → Src Tryz.prog 2 31 (.slice A2 (k - (0)) (c2 - (0))) (k - (0)) ((o.drop (0)).flatMap labc) W) := Lib.hid (fun W hW => src_sl Tryz.underlying31 (by have h := HSL.out W hW; simpa using h) (labc_one _))
          have hlin : lins ltL o x = o.take (0) ++ x :: o.drop (0) := by unfold lins; rw [HP.out]
          have HLIN := Lib.hid hlin
          have hsz9 := HFF.out.size
          clear hlin HSL
          refine wp_region_but (fun w' => Fr (fun _ => False) wr w') 14 (by kernel_rfl) ((Fr.refl _ wr).drew.drew) ?_
          intro hS
          have F0 : Fr (fun _ => False) wr wr.drew.drew := (Fr.refl _ wr).drew.drew
          generalize wr.drew.drew = W0 at F0 hS ⊢
          refine wpBut_take 1 (.slice A2 k c2) rfl (by kernel_rfl) (by kernel_rfl) (by kernel_rfl) (by kernel_rfl) (fun _ _ _ h => h) (by rfl) (by intro w; go_simp) hS ?_
          try simp only [Act.put, List.setIfInBounds_toArray, List.set_cons_zero, List.set_cons_succ]
          refine wpBut_take 2 (.int .i64 ((0 : Nat) : Int)) rfl (by kernel_rfl) (by kernel_rfl) (by kernel_rfl) (by kernel_rfl) (fun _ _ _ h => h) (by rfl) (by intro w; go_simp) hS ?_
          try simp only [Act.put, List.setIfInBounds_toArray, List.set_cons_zero, List.set_cons_succ]
          refine wpBut_take 3 (.slice A2 (0) c2) rfl (by kernel_rfl) (by kernel_rfl) (by kernel_rfl) (by kernel_rfl) (fun _ _ _ h => h) (by rfl) (by intro w; go_simp) hS ?_
          try simp only [Act.put, List.setIfInBounds_toArray, List.set_cons_zero, List.set_cons_succ]
          refine wpBut_take 5 (.slice (some ⟨g, off, none⟩) n c) rfl (by kernel_rfl) (by kernel_rfl) (by kernel_rfl) (by kernel_rfl) (fun _ _ _ h => h) (by rfl) (by intro w; go_simp) hS ?_
          try simp only [Act.put, List.setIfInBounds_toArray, List.set_cons_zero, List.set_cons_succ]
          refine wpBut_take 6 (.int .i64 k) rfl (by kernel_rfl) (by kernel_rfl) (by kernel_rfl) (by kernel_rfl) (fun _ _ _ h => h) (by rfl) (by intro w; go_simp) hS ?_
          try simp only [Act.put, List.setIfInBounds_toArray, List.set_cons_zero, List.set_cons_succ]
          refine wpBut_take 7 (.pointer (some ⟨g, off + k * 2, none⟩)) rfl (by kernel_rfl) (by kernel_rfl) (by kernel_rfl) (by kernel_rfl) (fun _ _ _ h => h) (by rfl) (by intro w; go_simp) hS ?_
          try simp only [Act.put, List.setIfInBounds_toArray, List.set_cons_zero, List.set_cons_succ]
          refine wpBut_load 8 [9, 10, 14] (.agg #[.string x.1, .string x.2]) rfl (by kernel_rfl) (by kernel_rfl) (by kernel_rfl) (by kernel_rfl) (by kernel_rfl) (by kernel_rfl) (by kernel_rfl) (fun _ _ _ h => h) (by rfl) (by rintro w h1; obtain ⟨h2, h3⟩ := HX.out _ (HFF.out.same h1); go_simp) hS ?_
          try simp only [Act.put, List.setIfInBounds_toArray, List.set_cons_zero, List.set_cons_succ]
          refine wpBut_take 11 (.slice A2 k c2) rfl (by kernel_rfl) (by kernel_rfl) (by kernel_rfl) (by kernel_rfl) (fun _ _ _ h => h) (by rfl) (by intro w; go_simp) hS ?_
          try simp only [Act.put, List.setIfInBounds_toArray, List.set_cons_zero, List.set_cons_succ]
          refine wpBut_take 12 (.int .i64 ((0 : Nat) : Int)) rfl (by kernel_rfl) (by kernel_rfl) (by kernel_rfl) (by kernel_rfl) (fun _ _ _ h => h) (by rfl) (by intro w; go_simp) hS ?_
          try simp only [Act.put, List.setIfInBounds_toArray, List.set_cons_zero, List.set_cons_succ]
          refine wpBut_take 13 (.slice A2 (k - (0)) (c2 - (0))) rfl (by kernel_rfl) (by kernel_rfl) (by kernel_rfl) (by kernel_rfl) (fun _ _ _ h => h) (by rfl) (by intro w; go_simp) hS ?_
          try simp only [Act.put, List.setIfInBounds_toArray, List.set_cons_zero, List.set_cons_succ]
          refine wpBut_two 0 9 (by kernel_rfl) rfl rfl (by rfl) (by rfl) (fun K hK => ?_) (fun K hK => ?_)
          · go_simp
            have o0 := own_empty40 W0 wr.heap.size F0.size
            have F1 := F0.alloc (.cells #[] 40)
            have he0 := F0.size
            refine hK.out _ _ F1 ?_
            clear hK K hS
            try simp only [Act.put, List.setIfInBounds_toArray, List.set_cons_zero, List.set_cons_succ]
            generalize World.alloc W0 (Obj.cells #[] 40) = W1 at o0 F1 ⊢
            generalize W0.heap.size = e0 at o0 he0 ⊢
            have hS := F1
            refine wpBut_two 4 9 (by kernel_rfl) rfl rfl (by rfl) (by rfl) (fun K hK => ?_) (fun K hK => ?_)
            · refine wp_append_src W1 _ _ 31 31 (by rfl) wr.heap.size 40 i0 _ 2 32 Tryz.underlying31 hi0 hz0 hz1 hz2 rfl (by decide) (.slice (some ⟨e0, 0, none⟩) 0 0) 0 [] (by rfl) o0 (.slice A2 (0) c2) (0) ((o.take (0)).flatMap labc) (by rfl) (HSRC1.out _ F1) (by unfold maxLen; omega) (by omega) F1.size ?_
              intro v1 W2 hown1 hgrow1 hat1
              rw [Nat.zero_add, List.nil_append] at hown1
              have F2 := F1.grown hgrow1 (fun q hq => .inr (by have hq : e0 = q := Option.some.inj hq; omega))
              obtain ⟨a1, n1, k1, rfl⟩ := own_slice hown1
              refine hK.out _ _ F2 ?_
              clear hK K hS hgrow1 hat1
              try simp only [Act.put, List.setIfInBounds_toArray, List.set_cons_zero, List.set_cons_succ]
              have hS := F2
              refine wpBut_one 9 (by kernel_rfl) rfl (by rfl) (fun K hK => ?_)
              go_simp
              have B9 : Blk (W2.alloc (.cells #[.string x.1, .string x.2] 40)) W2.heap.size 40 #[.string x.1, .string x.2] := Blk.new W2 40 _
              have F3 := F2.alloc (.cells #[.string x.1, .string x.2] 40)
              have hown1b := World.ownsRow.alloc hown1 (.cells #[.string x.1, .string x.2] 40)
              refine hK.out _ _ F3 ?_
              clear hK K hS
              try simp only [Act.put, List.setIfInBounds_toArray, List.set_cons_zero, List.set_cons_succ]
              generalize World.alloc W2 (Obj.cells #[.string x.1, .string x.2] 40) = W3 at B9 F3 hown1b ⊢
              generalize W2.heap.size = g9 at B9 ⊢
              have hS := F3
              refine wpBut_one 10 (by kernel_rfl) rfl (by rfl) (fun K hK => ?_)
              refine wp_append_src W3 _ _ 31 31 (by rfl) wr.heap.size 40 i0 _ 2 32 Tryz.underlying31 hi0 hz0 hz1 hz2 rfl (by decide) (.slice a1 n1 k1) (0) ((o.take (0)).flatMap labc) (by rfl) hown1b _ 1 (labc x) (by rfl) (src_blk (cs := labc x) Tryz.underlying31 B9 rfl (by simp [labc, Value.oneCell'])) (by unfold maxLen; omega) (by omega) F3.size ?_
              intro v2 W4 hown2 hgrow2 hat2
              have F4 := F3.grown hgrow2 (fun q hq => .inr ((World.ownsRow.lt hown1b q hq).1))
              obtain ⟨a2, n2, k2, rfl⟩ := own_slice hown2
              refine hK.out _ _ F4 ?_
              clear hK K hS hgrow2 hat2
              try simp only [Act.put, List.setIfInBounds_toArray, List.set_cons_zero, List.set_cons_succ]
              have hS := F4
              refine wpBut_last 14 (by kernel_rfl) rfl (by kernel_rfl) (by rfl) (fun K hK => ?_)
              refine wp_append_src W4 _ _ 31 31 (by rfl) wr.heap.size 40 i0 _ 2 32 Tryz.underlying31 hi0 hz0 hz1 hz2 rfl (by decide) (.slice a2 n2 k2) (0 + 1) ((o.take (0)).flatMap labc ++ labc x) (by rfl) hown2 (.slice A2 (k - (0)) (c2 - (0))) (k - (0)) ((o.drop (0)).flatMap labc) (by rfl) (HSRC3.out _ F4) (by unfold maxLen; omega) (by omega) F4.size ?_
              intro v3 W5 hown3 hgrow3 hat3
              have F5 := F4.grown hgrow3 (fun q hq => .inr ((World.ownsRow.lt hown2 q hq).1))
              obtain ⟨a3, n3, k3, rfl⟩ := own_slice hown3
              have hown4 : W5.ownsRow w.heap.size 40 2 (.slice a3 n3 k3) (k + 1) ((sortL (l.take (k + 1))).flatMap labc) := by
                rw [HST.out, HLIN.out]
                have e1 : 0 + 1 + (k - (0)) = k + 1 := by omega
                rw [e1] at hown3
                have h := own_mono hown3 hsz9
                simpa [List.flatMap_append, List.flatMap_cons] using h
              have HO4 := Lib.hid hown4
              have HF4 := Lib.hid (HFF.out.same F5)
              refine hK.out _ _ ?_
              clear hK K hS hgrow3 hat3 hown3 hown4
              try simp only [Act.put, List.setIfInBounds_toArray, List.set_cons_zero, List.set_cons_succ]
              refine wpBut_last 15 (by kernel_rfl) rfl (by kernel_rfl) (by rfl) (fun K hK => ?_)
              go_simp
              refine hK.out _ _ ?_
              clear hK K
              refine wpBut_done (by kernel_rfl) ?_ _
              go_wp2
              go_roundw
              case rel => exact ⟨k + 1, by omega, by go_num, HO4, HF4⟩
              case measure => simp [intOf]; omega
            · go_simp
              have B9 : Blk (W1.alloc (.cells #[.string x.1, .string x.2] 40)) W1.heap.size 40 #[.string x.1, .string x.2] := Blk.new W1 40 _
              have F2 := F1.alloc (.cells #[.string x.1, .string x.2] 40)
              have o0b := World.ownsRow.alloc o0 (.cells #[.string x.1, .string x.2] 40)
              have hne9 : W1.heap.size ≠ e0 := fun e => by have h := own_lt o0 (k := e0) rfl; omega
              refine hK.out _ _ F2 ?_
              clear hK K hS
              try simp only [Act.put, List.setIfInBounds_toArray, List.set_cons_zero, List.set_cons_succ]
              generalize World.alloc W1 (Obj.cells #[.string x.1, .string x.2] 40) = W2 at B9 F2 o0b ⊢
              generalize W1.heap.size = g9 at B9 hne9 ⊢
              have hS := F2
              refine wpBut_one 4 (by kernel_rfl) rfl (by rfl) (fun K hK => ?_)
              refine wp_append_src W2 _ _ 31 31 (by rfl) wr.heap.size 40 i0 _ 2 32 Tryz.underlying31 hi0 hz0 hz1 hz2 rfl (by decide) (.slice (some ⟨e0, 0, none⟩) 0 0) 0 [] (by rfl) o0b (.slice A2 (0) c2) (0) ((o.take (0)).flatMap labc) (by rfl) (HSRC1.out _ F2) (by unfold maxLen; omega) (by omega) F2.size ?_
              intro v1 W3 hown1 hgrow1 hat1
              rw [Nat.zero_add, List.nil_append] at hown1
              have F3 := F2.grown hgrow1 (fun q hq => .inr (by have hq : e0 = q := Option.some.inj hq; omega))
              have B9b := B9.grown hgrow1 (fun e => hne9 (Option.some.inj e))
              obtain ⟨a1, n1, k1, rfl⟩ := own_slice hown1
              refine hK.out _ _ F3 ?_
              clear hK K hS hgrow1 hat1
              try simp only [Act.put, List.setIfInBounds_toArray, List.set_cons_zero, List.set_cons_succ]
              have hS := F3
              refine wpBut_one 10 (by kernel_rfl) rfl (by rfl) (fun K hK => ?_)
              refine wp_append_src W3 _ _ 31 31 (by rfl) wr.heap.size 40 i0 _ 2 32 Tryz.underlying31 hi0 hz0 hz1 hz2 rfl (by decide) (.slice a1 n1 k1) (0) ((o.take (0)).flatMap labc) (by rfl) hown1 _ 1 (labc x) (by rfl) (src_blk (cs := labc x) Tryz.underlying31 B9b rfl (by simp [labc, Value.oneCell'])) (by unfold maxLen; omega) (by omega) F3.size ?_
              intro v2 W4 hown2 hgrow2 hat2
              have F4 := F3.grown hgrow2 (fun q hq => .inr ((World.ownsRow.lt hown1 q hq).1))
              obtain ⟨a2, n2, k2, rfl⟩ := own_slice hown2
              refine hK.out _ _ F4 ?_
              clear hK K hS hgrow2 hat2
              try simp only [Act.put, List.setIfInBounds_toArray, List.set_cons_zero, List.set_cons_succ]
              have hS := F4
              refine wpBut_last 14 (by kernel_rfl) rfl (by kernel_rfl) (by rfl) (fun K hK => ?_)
              refine wp_append_src W4 _ _ 31 31 (by rfl) wr.heap.size 40 i0 _ 2 32 Tryz.underlying31 hi0 hz0 hz1 hz2 rfl (by decide) (.slice a2 n2 k2) (0 + 1) ((o.take (0)).flatMap labc ++ labc x) (by rfl) hown2 (.slice A2 (k - (0)) (c2 - (0))) (k - (0)) ((o.drop (0)).flatMap labc) (by rfl) (HSRC3.out _ F4) (by unfold maxLen; omega) (by omega) F4.size ?_
              intro v3 W5 hown3 hgrow3 hat3
              have F5 := F4.grown hgrow3 (fun q hq => .inr ((World.ownsRow.lt hown2 q hq).1))
              obtain ⟨a3, n3, k3, rfl⟩ := own_slice hown3
              have hown4 : W5.ownsRow w.heap.size 40 2 (.slice a3 n3 k3) (k + 1) ((sortL (l.take (k + 1))).flatMap labc) := by
                rw [HST.out, HLIN.out]
                have e1 : 0 + 1 + (k - (0)) = k + 1 := by omega
                rw [e1] at hown3
                have h := own_mono hown3 hsz9
                simpa [List.flatMap_append, List.flatMap_cons] using h
              have HO4 := Lib.hid hown4
              have HF4 := Lib.hid (HFF.out.same F5)
              refine hK.out _ _ ?_
              clear hK K hS hgrow3 hat3 hown3 hown4
              try simp only [Act.put, List.setIfInBounds_toArray, List.set_cons_zero, List.set_cons_succ]
              refine wpBut_last 15 (by kernel_rfl) rfl (by kernel_rfl) (by rfl) (fun K hK => ?_)
              go_simp
              refine hK.out _ _ ?_
              clear hK K
              refine wpBut_done (by kernel_rfl) ?_ _
              go_wp2
              go_roundw
              case rel => exact ⟨k + 1, by omega, by go_num, HO4, HF4⟩
              case measure => simp [intOf]; omega
          · go_simp
            have B9 : Blk (W0.alloc (.cells #[.string x.1, .string x.2] 40)) W0.heap.size 40 #[.string x.1, .string x.2] := Blk.new W0 40 _
            have F1 := F0.alloc (.cells #[.string x.1, .string x.2] 40)
            refine hK.out _ _ F1 ?_
            clear hK K hS
            try simp only [Act.put, List.setIfInBounds_toArray, List.set_cons_zero, List.set_cons_succ]
            generalize World.alloc W0 (Obj.cells #[.string x.1, .string x.2] 40) = W1 at B9 F1 ⊢
            generalize W0.heap.size = g9 at B9 ⊢
            have hS := F1
            refine wpBut_one 0 (by kernel_rfl) rfl (by rfl) (fun K hK => ?_)
            go_simp
            have o0 := own_empty40 W1 wr.heap.size F1.size
            have F2 := F1.alloc (.cells #[] 40)
            have he0 := F1.size
            have hne9 : g9 ≠ W1.heap.size := Nat.ne_of_lt B9.lt
            have B9b := B9.alloc (.cells #[] 40)
            refine hK.out _ _ F2 ?_
            clear hK K hS
            try simp only [Act.put, List.setIfInBounds_toArray, List.set_cons_zero, List.set_cons_succ]
            generalize World.alloc W1 (Obj.cells #[] 40) = W2 at o0 F2 B9b ⊢
            generalize W1.heap.size = e0 at o0 he0 hne9 ⊢
            have hS := F2
            refine wpBut_one 4 (by kernel_rfl) rfl (by rfl) (fun K hK => ?_)
            refine wp_append_src W2 _ _ 31 31 (by rfl) wr.heap.size 40 i0 _ 2 32 Tryz.underlying31 hi0 hz0 hz1 hz2 rfl (by decide) (.slice (some ⟨e0, 0, none⟩) 0 0) 0 [] (by rfl) o0 (.slice A2 (0) c2) (0) ((o.take (0)).flatMap labc) (by rfl) (HSRC1.out _ F2) (by unfold maxLen; omega) (by omega) F2.size ?_
            intro v1 W3 hown1 hgrow1 hat1
            rw [Nat.zero_add, List.nil_append] at hown1
            have F3 := F2.grown hgrow1 (fun q hq => .inr (by have hq : e0 = q := Option.some.inj hq; omega))
            have B9c := B9b.grown hgrow1 (fun e => hne9 (Option.some.inj e))
            obtain ⟨a1, n1, k1, rfl⟩ := own_slice hown1
            refine hK.out _ _ F3 ?_
            clear hK K hS hgrow1 hat1
            try simp only [Act.put, List.setIfInBounds_toArray, List.set_cons_zero, List.set_cons_succ]
            have hS := F3
            refine wpBut_one 10 (by kernel_rfl) rfl (by rfl) (fun K hK => ?_)
            refine wp_append_src W3 _ _ 31 31 (by rfl) wr.heap.size 40 i0 _ 2 32 Tryz.underlying31 hi0 hz0 hz1 hz2 rfl (by decide) (.slice a1 n1 k1) (0) ((o.take (0)).flatMap labc) (by rfl) hown1 _ 1 (labc x) (by rfl) (src_blk (cs := labc x) Tryz.underlying31 B9c rfl (by simp [labc, Value.oneCell'])) (by unfold maxLen; omega) (by omega) F3.size ?_
            intro v2 W4 hown2 hgrow2 hat2
            have F4 := F3.grown hgrow2 (fun q hq => .inr ((World.ownsRow.lt hown1 q hq).1))
            obtain ⟨a2, n2, k2, rfl⟩ := own_slice hown2
            refine hK.out _ _ F4 ?_
            clear hK K hS hgrow2 hat2
            try simp only [Act.put, List.setIfInBounds_toArray, List.set_cons_zero, List.set_cons_succ]
            have hS := F4
            refine wpBut_last 14 (by kernel_rfl) rfl (by kernel_rfl) (by rfl) (fun K hK => ?_)
            refine wp_append_src W4 _ _ 31 31 (by rfl) wr.heap.size 40 i0 _ 2 32 Tryz.underlying31 hi0 hz0 hz1 hz2 rfl (by decide) (.slice a2 n2 k2) (0 + 1) ((o.take (0)).flatMap labc ++ labc x) (by rfl) hown2 (.slice A2 (k - (0)) (c2 - (0))) (k - (0)) ((o.drop (0)).flatMap labc) (by rfl) (HSRC3.out _ F4) (by unfold maxLen; omega) (by omega) F4.size ?_
            intro v3 W5 hown3 hgrow3 hat3
            have F5 := F4.grown hgrow3 (fun q hq => .inr ((World.ownsRow.lt hown2 q hq).1))
            obtain ⟨a3, n3, k3, rfl⟩ := own_slice hown3
            have hown4 : W5.ownsRow w.heap.size 40 2 (.slice a3 n3 k3) (k + 1) ((sortL (l.take (k + 1))).flatMap labc) := by
              rw [HST.out, HLIN.out]
              have e1 : 0 + 1 + (k - (0)) = k + 1 := by omega
              rw [e1] at hown3
              have h := own_mono hown3 hsz9
              simpa [List.flatMap_append, List.flatMap_cons] using h
            have HO4 := Lib.hid hown4
            have HF4 := Lib.hid (HFF.out.same F5)
            refine hK.out _ _ ?_
            clear hK K hS hgrow3 hat3 hown3 hown4
            try simp only [Act.put, List.setIfInBounds_toArray, List.set_cons_zero, List.set_cons_succ]
            refine wpBut_last 15 (by kernel_rfl) rfl (by kernel_rfl) (by rfl) (fun K hK => ?_)
            go_simp
            refine hK.out _ _ ?_
            clear hK K
            refine wpBut_done (by kernel_rfl) ?_ _
            go_wp2
            go_roundw
            case rel => exact ⟨k + 1, by omega, by go_num, HO4, HF4⟩
            case measure => simp [intOf]; omega
        · obtain ⟨g2, off2, rfl, _, hcell2⟩ : ∃ g2 off2, A2 = some ⟨g2, off2, none⟩ ∧ True ∧ ∀ i u, (o.flatMap labc)[i]? = some u → (_ : World).cell? ⟨g2, off2 + i, none⟩ = some u := by
            obtain ⟨A3, c3, e3, _, _, h3⟩ := HSO.out
            injection e3 with e1 _ e2
            subst e1 e2
            obtain ⟨g2, off2, h4, _, h5⟩ := h3 (by omega)
            exact ⟨g2, off2, h4, trivial, h5⟩
          obtain ⟨y, hy⟩ : ∃ y, o[j]? = some y := ⟨_, List.getElem?_eq_getElem (by rw [HL.out]; omega)⟩
          have d0 : wr.drew.cell? ⟨g, off + k * 2, none⟩ = some (.string x.1) := (HX.out _ HFF.out.drew).1
          have d1 : wr.drew.cell? ⟨g2, off2 + j * 2, none⟩ = some (.string y.1) := by
            have := hcell2 (j * 2 + 0) (.string y.1) (by rw [flat2 labc (fun _ => rfl) o j y hy 0 (by omega)]; rfl)
            have h6 := HF2.out.drew.cell (p := ⟨g2, off2 + j * 2, none⟩) (World.block_lt_of_cell? _ _ this) (fun e => e)
            rw [h6]; exact this
          have HY := Lib.hid hy
          have HF3 := Lib.hid HF2.out.drew
          clear hcell2 hy
          by_cases hxy : ltL x y = true
          · have hless : Op.bytesLess x.1.toList y.1.toList = true := by rw [less_ltL, hxy]
            have HJ3 : Hid (lpos ltL x o k = lpos ltL x o j) := Lib.hid (by
              rw [HJ.out, lpos, HY.out]
              simp [hxy])
            clear hxy
            go_wp2
            go_region
            all_goals go_wp2
            exact ⟨⟨j, by omega, by first | rfl | go_num, HJ3, HF3⟩, by simp [intOf]; try omega⟩
          · have hxy0 : ltL x y = false := by simpa using hxy
            have hless : Op.bytesLess x.1.toList y.1.toList = false := by rw [less_ltL, hxy0]
            have HP : Hid (lpos ltL x o o.length = j + 1) := Lib.hid (by
              rw [HL.out, HJ.out, lpos, HY.out]
              simp [hxy0])
            clear hxy hxy0
            go_wp2
            go_region
            all_goals go_wp2
            clear d0 d1 hless
            generalize some (⟨g2, off2, none⟩ : Addr) = A2 at *
            have HSL : Hid (∀ W, Fr (fun _ => False) wr W → Sl (fun g => (Value.slice A2 k c2).ownBlock = some g) W (.slice A2 k c2) 2 k (o.flatMap labc)) := Lib.hid (fun W hW => (HSO.out.fr (HF2.out.same hW) (fun _ _ e => e)))
            have hjk : j + 1 ≤ k := by omega
            obtain ⟨A3, hrun3, hsl3⟩ := sl_drop HSO.out HL.out hjk
            have hto := cutTo Tryz.elem31' Tryz.underlying31 Tryz.size40 A2 k c2 (j + 1) .i64 ((j + 1 : Nat) : Int) rfl (by have h := HSO.out; obtain ⟨_, _, e, _, h, _⟩ := h; injection e with e1 e2 e3; omega)
            have HSRC1 : Hid (∀ W, Fr (fun _ => False) wr W → Src Tryz.prog 2 31 (.slice A2 (j + 1) c2) (j + 1) ((o.take (j + 1)).flatMap labc) W) := Lib.hid (fun W hW => src_sl Tryz.underlying31 (sl_take (HSL.out W hW) HL.out hjk) (labc_one _))
            have HSRC3 : Hid (∀ W, Fr (fun _ => False) wr W → Src Tryz.prog 2 31 (.slice A3 (k - (j + 1)) (c2 - (j + 1))) (k - (j + 1)) ((o.drop (j + 1)).flatMap labc) W) := Lib.hid (fun W hW => src_sl Tryz.underlying31 (hsl3 W (HSL.out W hW)) (labc_one _))
            have hlin : lins ltL o x = o.take (j + 1) ++ x :: o.drop (j + 1) := by unfold lins; rw [HP.out]
            have hrun3b : ∀ W, (Instr.slice 31 (.slice A2 k c2) (some (.int .i64 ((j : Int) + 1))) none none).run Tryz.prog W = .ok (.slice A3 (k - (j + 1)) (c2 - (j + 1))) W := hrun3
            have htob : ∀ W, (Instr.slice 31 (.slice A2 k c2) none (some (.int .i64 ((j : Int) + 1))) none).run Tryz.prog W = .ok (.slice A2 (j + 1) c2) W := hto
            clear hrun3 hto
            have HLIN := Lib.hid hlin
            have hsz9 := HFF.out.size
            clear hlin hsl3 HSL
            refine wp_region_but (fun w' => Fr (fun _ => False) wr w') 14 (by kernel_rfl) ((Fr.refl _ wr).drew.drew) ?_
            intro hS
            have F0 : Fr (fun _ => False) wr wr.drew.drew := (Fr.refl _ wr).drew.drew
            generalize wr.drew.drew = W0 at F0 hS ⊢
            refine wpBut_take 1 (.slice A2 k c2) rfl (by kernel_rfl) (by kernel_rfl) (by kernel_rfl) (by kernel_rfl) (fun _ _ _ h => h) (by rfl) (by intro w; go_simp) hS ?_
            try simp only [Act.put, List.setIfInBounds_toArray, List.set_cons_zero, List.set_cons_succ]
            refine wpBut_take 2 (.int .i64 ((j + 1 : Nat) : Int)) rfl (by kernel_rfl) (by kernel_rfl) (by kernel_rfl) (by kernel_rfl) (fun _ _ _ h => h) (by rfl) (by intro w; go_simp) hS ?_
            try simp only [Act.put, List.setIfInBounds_toArray, List.set_cons_zero, List.set_cons_succ]
            refine wpBut_take 3 (.slice A2 (j + 1) c2) rfl (by kernel_rfl) (by kernel_rfl) (by kernel_rfl) (by kernel_rfl) (fun _ _ _ h => h) (by rfl) (by intro w; go_simp) hS ?_
            try simp only [Act.put, List.setIfInBounds_toArray, List.set_cons_zero, List.set_cons_succ]
            refine wpBut_take 5 (.slice (some ⟨g, off, none⟩) n c) rfl (by kernel_rfl) (by kernel_rfl) (by kernel_rfl) (by kernel_rfl) (fun _ _ _ h => h) (by rfl) (by intro w; go_simp) hS ?_
            try simp only [Act.put, List.setIfInBounds_toArray, List.set_cons_zero, List.set_cons_succ]
            refine wpBut_take 6 (.int .i64 k) rfl (by kernel_rfl) (by kernel_rfl) (by kernel_rfl) (by kernel_rfl) (fun _ _ _ h => h) (by rfl) (by intro w; go_simp) hS ?_
            try simp only [Act.put, List.setIfInBounds_toArray, List.set_cons_zero, List.set_cons_succ]
            refine wpBut_take 7 (.pointer (some ⟨g, off + k * 2, none⟩)) rfl (by kernel_rfl) (by kernel_rfl) (by kernel_rfl) (by kernel_rfl) (fun _ _ _ h => h) (by rfl) (by intro w; go_simp) hS ?_
            try simp only [Act.put, List.setIfInBounds_toArray, List.set_cons_zero, List.set_cons_succ]
            refine wpBut_load 8 [9, 10, 14] (.agg #[.string x.1, .string x.2]) rfl (by kernel_rfl) (by kernel_rfl) (by kernel_rfl) (by kernel_rfl) (by kernel_rfl) (by kernel_rfl) (by kernel_rfl) (fun _ _ _ h => h) (by rfl) (by rintro w h1; obtain ⟨h2, h3⟩ := HX.out _ (HFF.out.same h1); go_simp) hS ?_
            try simp only [Act.put, List.setIfInBounds_toArray, List.set_cons_zero, List.set_cons_succ]
            refine wpBut_take 11 (.slice A2 k c2) rfl (by kernel_rfl) (by kernel_rfl) (by kernel_rfl) (by kernel_rfl) (fun _ _ _ h => h) (by rfl) (by intro w; go_simp) hS ?_
            try simp only [Act.put, List.setIfInBounds_toArray, List.set_cons_zero, List.set_cons_succ]
            refine wpBut_take 12 (.int .i64 ((j + 1 : Nat) : Int)) rfl (by kernel_rfl) (by kernel_rfl) (by kernel_rfl) (by kernel_rfl) (fun _ _ _ h => h) (by rfl) (by intro w; go_simp) hS ?_
            try simp only [Act.put, List.setIfInBounds_toArray, List.set_cons_zero, List.set_cons_succ]
            refine wpBut_take 13 (.slice A3 (k - (j + 1)) (c2 - (j + 1))) rfl (by kernel_rfl) (by kernel_rfl) (by kernel_rfl) (by kernel_rfl) (fun _ _ _ h => h) (by rfl) (by intro w; go_simp) hS ?_
            try simp only [Act.put, List.setIfInBounds_toArray, List.set_cons_zero, List.set_cons_succ]
            refine wpBut_two 0 9 (by kernel_rfl) rfl rfl (by rfl) (by rfl) (fun K hK => ?_) (fun K hK => ?_)
            · go_simp
              have o0 := own_empty40 W0 wr.heap.size F0.size
              have F1 := F0.alloc (.cells #[] 40)
              have he0 := F0.size
              refine hK.out _ _ F1 ?_
              clear hK K hS
              try simp only [Act.put, List.setIfInBounds_toArray, List.set_cons_zero, List.set_cons_succ]
              generalize World.alloc W0 (Obj.cells #[] 40) = W1 at o0 F1 ⊢
              generalize W0.heap.size = e0 at o0 he0 ⊢
              have hS := F1
              refine wpBut_two 4 9 (by kernel_rfl) rfl rfl (by rfl) (by rfl) (fun K hK => ?_) (fun K hK => ?_)
              · refine wp_append_src W1 _ _ 31 31 (by rfl) wr.heap.size 40 i0 _ 2 32 Tryz.underlying31 hi0 hz0 hz1 hz2 rfl (by decide) (.slice (some ⟨e0, 0, none⟩) 0 0) 0 [] (by rfl) o0 (.slice A2 (j + 1) c2) (j + 1) ((o.take (j + 1)).flatMap labc) (by rfl) (HSRC1.out _ F1) (by unfold maxLen; omega) (by omega) F1.size ?_
                intro v1 W2 hown1 hgrow1 hat1
                rw [Nat.zero_add, List.nil_append] at hown1
                have F2 := F1.grown hgrow1 (fun q hq => .inr (by have hq : e0 = q := Option.some.inj hq; omega))
                obtain ⟨a1, n1, k1, rfl⟩ := own_slice hown1
                refine hK.out _ _ F2 ?_
                clear hK K hS hgrow1 hat1
                try simp only [Act.put, List.setIfInBounds_toArray, List.set_cons_zero, List.set_cons_succ]
                have hS := F2
                refine wpBut_one 9 (by kernel_rfl) rfl (by rfl) (fun K hK => ?_)
                go_simp
                have B9 : Blk (W2.alloc (.cells #[.string x.1, .string x.2] 40)) W2.heap.size 40 #[.string x.1, .string x.2] := Blk.new W2 40 _
                have F3 := F2.alloc (.cells #[.string x.1, .string x.2] 40)
                have hown1b := World.ownsRow.alloc hown1 (.cells #[.string x.1, .string x.2] 40)
                refine hK.out _ _ F3 ?_
                clear hK K hS
                try simp only [Act.put, List.setIfInBounds_toArray, List.set_cons_zero, List.set_cons_succ]
                generalize World.alloc W2 (Obj.cells #[.string x.1, .string x.2] 40) = W3 at B9 F3 hown1b ⊢
                generalize W2.heap.size = g9 at B9 ⊢
                have hS := F3
                refine wpBut_one 10 (by kernel_rfl) rfl (by rfl) (fun K hK => ?_)
                refine wp_append_src W3 _ _ 31 31 (by rfl) wr.heap.size 40 i0 _ 2 32 Tryz.underlying31 hi0 hz0 hz1 hz2 rfl (by decide) (.slice a1 n1 k1) (j + 1) ((o.take (j + 1)).flatMap labc) (by rfl) hown1b _ 1 (labc x) (by rfl) (src_blk (cs := labc x) Tryz.underlying31 B9 rfl (by simp [labc, Value.oneCell'])) (by unfold maxLen; omega) (by omega) F3.size ?_
                intro v2 W4 hown2 hgrow2 hat2
                have F4 := F3.grown hgrow2 (fun q hq => .inr ((World.ownsRow.lt hown1b q hq).1))
                obtain ⟨a2, n2, k2, rfl⟩ := own_slice hown2
                refine hK.out _ _ F4 ?_
                clear hK K hS hgrow2 hat2
                try simp only [Act.put, List.setIfInBounds_toArray, List.set_cons_zero, List.set_cons_succ]
                have hS := F4
                refine wpBut_last 14 (by kernel_rfl) rfl (by kernel_rfl) (by rfl) (fun K hK => ?_)
                refine wp_append_src W4 _ _ 31 31 (by rfl) wr.heap.size 40 i0 _ 2 32 Tryz.underlying31 hi0 hz0 hz1 hz2 rfl (by decide) (.slice a2 n2 k2) (j + 1 + 1) ((o.take (j + 1)).flatMap labc ++ labc x) (by rfl) hown2 (.slice A3 (k - (j + 1)) (c2 - (j + 1))) (k - (j + 1)) ((o.drop (j + 1)).flatMap labc) (by rfl) (HSRC3.out _ F4) (by unfold maxLen; omega) (by omega) F4.size ?_
                intro v3 W5 hown3 hgrow3 hat3
                have F5 := F4.grown hgrow3 (fun q hq => .inr ((World.ownsRow.lt hown2 q hq).1))
                obtain ⟨a3, n3, k3, rfl⟩ := own_slice hown3
                have hown4 : W5.ownsRow w.heap.size 40 2 (.slice a3 n3 k3) (k + 1) ((sortL (l.take (k + 1))).flatMap labc) := by
                  rw [HST.out, HLIN.out]
                  have e1 : j + 1 + 1 + (k - (j + 1)) = k + 1 := by omega
                  rw [e1] at hown3
                  have h := own_mono hown3 hsz9
                  simpa [List.flatMap_append, List.flatMap_cons] using h
                have HO4 := Lib.hid hown4
                have HF4 := Lib.hid (HFF.out.same F5)
                refine hK.out _ _ ?_
                clear hK K hS hgrow3 hat3 hown3 hown4
                try simp only [Act.put, List.setIfInBounds_toArray, List.set_cons_zero, List.set_cons_succ]
                refine wpBut_last 15 (by kernel_rfl) rfl (by kernel_rfl) (by rfl) (fun K hK => ?_)
                go_simp
                refine hK.out _ _ ?_
                clear hK K
                refine wpBut_done (by kernel_rfl) ?_ _
                go_wp2
                go_roundw
                case rel => exact ⟨k + 1, by omega, by go_num, HO4, HF4⟩
                case measure => simp [intOf]; omega
              · go_simp
                have B9 : Blk (W1.alloc (.cells #[.string x.1, .string x.2] 40)) W1.heap.size 40 #[.string x.1, .string x.2] := Blk.new W1 40 _
                have F2 := F1.alloc (.cells #[.string x.1, .string x.2] 40)
                have o0b := World.ownsRow.alloc o0 (.cells #[.string x.1, .string x.2] 40)
                have hne9 : W1.heap.size ≠ e0 := fun e => by have h := own_lt o0 (k := e0) rfl; omega
                refine hK.out _ _ F2 ?_
                clear hK K hS
                try simp only [Act.put, List.setIfInBounds_toArray, List.set_cons_zero, List.set_cons_succ]
                generalize World.alloc W1 (Obj.cells #[.string x.1, .string x.2] 40) = W2 at B9 F2 o0b ⊢
                generalize W1.heap.size = g9 at B9 hne9 ⊢
                have hS := F2
                refine wpBut_one 4 (by kernel_rfl) rfl (by rfl) (fun K hK => ?_)
                refine wp_append_src W2 _ _ 31 31 (by rfl) wr.heap.size 40 i0 _ 2 32 Tryz.underlying31 hi0 hz0 hz1 hz2 rfl (by decide) (.slice (some ⟨e0, 0, none⟩) 0 0) 0 [] (by rfl) o0b (.slice A2 (j + 1) c2) (j + 1) ((o.take (j + 1)).flatMap labc) (by rfl) (HSRC1.out _ F2) (by unfold maxLen; omega) (by omega) F2.size ?_
                intro v1 W3 hown1 hgrow1 hat1
                rw [Nat.zero_add, List.nil_append] at hown1
                have F3 := F2.grown hgrow1 (fun q hq => .inr (by have hq : e0 = q := Option.some.inj hq; omega))
                have B9b := B9.grown hgrow1 (fun e => hne9 (Option.some.inj e))
                obtain ⟨a1, n1, k1, rfl⟩ := own_slice hown1
                refine hK.out _ _ F3 ?_
                clear hK K hS hgrow1 hat1
                try simp only [Act.put, List.setIfInBounds_toArray, List.set_cons_zero, List.set_cons_succ]
                have hS := F3
                refine wpBut_one 10 (by kernel_rfl) rfl (by rfl) (fun K hK => ?_)
                refine wp_append_src W3 _ _ 31 31 (by rfl) wr.heap.size 40 i0 _ 2 32 Tryz.underlying31 hi0 hz0 hz1 hz2 rfl (by decide) (.slice a1 n1 k1) (j + 1) ((o.take (j + 1)).flatMap labc) (by rfl) hown1 _ 1 (labc x) (by rfl) (src_blk (cs := labc x) Tryz.underlying31 B9b rfl (by simp [labc, Value.oneCell'])) (by unfold maxLen; omega) (by omega) F3.size ?_
                intro v2 W4 hown2 hgrow2 hat2
                have F4 := F3.grown hgrow2 (fun q hq => .inr ((World.ownsRow.lt hown1 q hq).1))
                obtain ⟨a2, n2, k2, rfl⟩ := own_slice hown2
                refine hK.out _ _ F4 ?_
                clear hK K hS hgrow2 hat2
                try simp only [Act.put, List.setIfInBounds_toArray, List.set_cons_zero, List.set_cons_succ]
                have hS := F4
                refine wpBut_last 14 (by kernel_rfl) rfl (by kernel_rfl) (by rfl) (fun K hK => ?_)
                refine wp_append_src W4 _ _ 31 31 (by rfl) wr.heap.size 40 i0 _ 2 32 Tryz.underlying31 hi0 hz0 hz1 hz2 rfl (by decide) (.slice a2 n2 k2) (j + 1 + 1) ((o.take (j + 1)).flatMap labc ++ labc x) (by rfl) hown2 (.slice A3 (k - (j + 1)) (c2 - (j + 1))) (k - (j + 1)) ((o.drop (j + 1)).flatMap labc) (by rfl) (HSRC3.out _ F4) (by unfold maxLen; omega) (by omega) F4.size ?_
                intro v3 W5 hown3 hgrow3 hat3
                have F5 := F4.grown hgrow3 (fun q hq => .inr ((World.ownsRow.lt hown2 q hq).1))
                obtain ⟨a3, n3, k3, rfl⟩ := own_slice hown3
                have hown4 : W5.ownsRow w.heap.size 40 2 (.slice a3 n3 k3) (k + 1) ((sortL (l.take (k + 1))).flatMap labc) := by
                  rw [HST.out, HLIN.out]
                  have e1 : j + 1 + 1 + (k - (j + 1)) = k + 1 := by omega
                  rw [e1] at hown3
                  have h := own_mono hown3 hsz9
                  simpa [List.flatMap_append, List.flatMap_cons] using h
                have HO4 := Lib.hid hown4
                have HF4 := Lib.hid (HFF.out.same F5)
                refine hK.out _ _ ?_
                clear hK K hS hgrow3 hat3 hown3 hown4
                try simp only [Act.put, List.setIfInBounds_toArray, List.set_cons_zero, List.set_cons_succ]
                refine wpBut_last 15 (by kernel_rfl) rfl (by kernel_rfl) (by rfl) (fun K hK => ?_)
                go_simp
                refine hK.out _ _ ?_
                clear hK K
                refine wpBut_done (by kernel_rfl) ?_ _
                go_wp2
                go_roundw
                case rel => exact ⟨k + 1, by omega, by go_num, HO4, HF4⟩
                case measure => simp [intOf]; omega
            · go_simp
              have B9 : Blk (W0.alloc (.cells #[.string x.1, .string x.2] 40)) W0.heap.size 40 #[.string x.1, .string x.2] := Blk.new W0 40 _
              have F1 := F0.alloc (.cells #[.string x.1, .string x.2] 40)
              refine hK.out _ _ F1 ?_
              clear hK K hS
              try simp only [Act.put, List.setIfInBounds_toArray, List.set_cons_zero, List.set_cons_succ]
              generalize World.alloc W0 (Obj.cells #[.string x.1, .string x.2] 40) = W1 at B9 F1 ⊢
              generalize W0.heap.size = g9 at B9 ⊢
              have hS := F1
              refine wpBut_one 0 (by kernel_rfl) rfl (by rfl) (fun K hK => ?_)
              go_simp
              have o0 := own_empty40 W1 wr.heap.size F1.size
              have F2 := F1.alloc (.cells #[] 40)
              have he0 := F1.size
              have hne9 : g9 ≠ W1.heap.size := Nat.ne_of_lt B9.lt
              have B9b := B9.alloc (.cells #[] 40)
              refine hK.out _ _ F2 ?_
              clear hK K hS
              try simp only [Act.put, List.setIfInBounds_toArray, List.set_cons_zero, List.set_cons_succ]
              generalize World.alloc W1 (Obj.cells #[] 40) = W2 at o0 F2 B9b ⊢
              generalize W1.heap.size = e0 at o0 he0 hne9 ⊢
              have hS := F2
              refine wpBut_one 4 (by kernel_rfl) rfl (by rfl) (fun K hK => ?_)
              refine wp_append_src W2 _ _ 31 31 (by rfl) wr.heap.size 40 i0 _ 2 32 Tryz.underlying31 hi0 hz0 hz1 hz2 rfl (by decide) (.slice (some ⟨e0, 0, none⟩) 0 0) 0 [] (by rfl) o0 (.slice A2 (j + 1) c2) (j + 1) ((o.take (j + 1)).flatMap labc) (by rfl) (HSRC1.out _ F2) (by unfold maxLen; omega) (by omega) F2.size ?_
              intro v1 W3 hown1 hgrow1 hat1
              rw [Nat.zero_add, List.nil_append] at hown1
              have F3 := F2.grown hgrow1 (fun q hq => .inr (by have hq : e0 = q := Option.some.inj hq; omega))
              have B9c := B9b.grown hgrow1 (fun e => hne9 (Option.some.inj e))
              obtain ⟨a1, n1, k1, rfl⟩ := own_slice hown1
              refine hK.out _ _ F3 ?_
              clear hK K hS hgrow1 hat1
              try simp only [Act.put, List.setIfInBounds_toArray, List.set_cons_zero, List.set_cons_succ]
              have hS := F3
              refine wpBut_one 10 (by kernel_rfl) rfl (by rfl) (fun K hK => ?_)
              refine wp_append_src W3 _ _ 31 31 (by rfl) wr.heap.size 40 i0 _ 2 32 Tryz.underlying31 hi0 hz0 hz1 hz2 rfl (by decide) (.slice a1 n1 k1) (j + 1) ((o.take (j + 1)).flatMap labc) (by rfl) hown1 _ 1 (labc x) (by rfl) (src_blk (cs := labc x) Tryz.underlying31 B9c rfl (by simp [labc, Value.oneCell'])) (by unfold maxLen; omega) (by omega) F3.size ?_
              intro v2 W4 hown2 hgrow2 hat2
              have F4 := F3.grown hgrow2 (fun q hq => .inr ((World.ownsRow.lt hown1 q hq).1))
              obtain ⟨a2, n2, k2, rfl⟩ := own_slice hown2
              refine hK.out _ _ F4 ?_
              clear hK K hS hgrow2 hat2
              try simp only [Act.put, List.setIfInBounds_toArray, List.set_cons_zero, List.set_cons_succ]
              have hS := F4
              refine wpBut_last 14 (by kernel_rfl) rfl (by kernel_rfl) (by rfl) (fun K hK => ?_)
              refine wp_append_src W4 _ _ 31 31 (by rfl) wr.heap.size 40 i0 _ 2 32 Tryz.underlying31 hi0 hz0 hz1 hz2 rfl (by decide) (.slice a2 n2 k2) (j + 1 + 1) ((o.take (j + 1)).flatMap labc ++ labc x) (by rfl) hown2 (.slice A3 (k - (j + 1)) (c2 - (j + 1))) (k - (j + 1)) ((o.drop (j + 1)).flatMap labc) (by rfl) (HSRC3.out _ F4) (by unfold maxLen; omega) (by omega) F4.size ?_
              intro v3 W5 hown3 hgrow3 hat3
              have F5 := F4.grown hgrow3 (fun q hq => .inr ((World.ownsRow.lt hown2 q hq).1))
              obtain ⟨a3, n3, k3, rfl⟩ := own_slice hown3
              have hown4 : W5.ownsRow w.heap.size 40 2 (.slice a3 n3 k3) (k + 1) ((sortL (l.take (k + 1))).flatMap labc) := by
                rw [HST.out, HLIN.out]
                have e1 : j + 1 + 1 + (k - (j + 1)) = k + 1 := by omega
                rw [e1] at hown3
                have h := own_mono hown3 hsz9
                simpa [List.flatMap_append, List.flatMap_cons] using h
              have HO4 := Lib.hid hown4
              have HF4 := Lib.hid (HFF.out.same F5)
              refine hK.out _ _ ?_
              clear hK K hS hgrow3 hat3 hown3 hown4
              try simp only [Act.put, List.setIfInBounds_toArray, List.set_cons_zero, List.set_cons_succ]
              refine wpBut_last 15 (by kernel_rfl) rfl (by kernel_rfl) (by rfl) (fun K hK => ?_)
              go_simp
              refine hK.out _ _ ?_
              clear hK K
              refine wpBut_done (by kernel_rfl) ?_ _
              go_wp2
              go_roundw
              case rel => exact ⟨k + 1, by omega, by go_num, HO4, HF4⟩
              case measure => simp [intOf]; omega
    · go_wp2
      go_ret
      obtain rfl : k = n := by omega
      have e : l.take k = l := List.take_of_length_le (by rw [HN.out]; exact Nat.le_refl _)
      have h := HO.out
      rw [e] at h
      exact ⟨_, rfl, h, HF.out⟩
end Go.Proofs.YtbkookiigkckdaaGreatDoor

/- zzFits11 52, zzFits10 21, labels 22 (as in Lz, without records). -/
namespace Go.Proofs.YtbkookiigkckdaaGreatDoor
open Go.RowKit
set_option linter.unusedVariables false
set_option linter.unusedSimpArgs false

def Fit (p : Lab) : Prop := p.1.size ≤ 2147483647 ∧ p.2.size ≤ 2147483647
def BoolEnds (p : Prop) (w : World) (r : Ending) (w' : World) : Prop := ∃ b : Bool, r = .returned (.bool b) ∧ (b = true ↔ p) ∧ Fr (fun _ => False) w w'
theorem bool_yes {p : Prop} (h : p) {w : World} {f : FuncId} {args : Array Value} (hc : Calls Tryz.prog f args w (BoolEnds p w)) : Calls Tryz.prog f args w fun r w' => r = .returned (.bool true) ∧ Fr (fun _ => False) w w' :=
  hc.mono fun r w' ⟨b, hr, hb, hf⟩ => ⟨by rw [hr, hb.2 h], hf⟩
theorem bool_no {p : Prop} (h : ¬ p) {w : World} {f : FuncId} {args : Array Value} (hc : Calls Tryz.prog f args w (BoolEnds p w)) : Calls Tryz.prog f args w fun r w' => r = .returned (.bool false) ∧ Fr (fun _ => False) w w' :=
  hc.mono fun r w' ⟨b, hr, hb, hf⟩ => ⟨by rw [hr, Bool.eq_false_iff.2 (fun e => h (hb.1 e))], hf⟩

set_option maxRecDepth 100000 in
theorem fits11_any (x : Lab) (h1 : x.1.size ≤ 9223372036854775807) (h2 : x.2.size ≤ 9223372036854775807) (w : World) : Calls Tryz.prog 52 #[.agg #[.string x.1, .string x.2]] w (BoolEnds (Fit x) w) := by
  obtain ⟨a, b⟩ := x
  dsimp only at h1 h2
  unfold Fit
  by_cases ha : 2147483647 < a.size
  · have ha' : (2147483647 : Int) < a.size := by omega
    go_enter Tryz.func52, Tryz.ntmps52
    go_wp2
    go_ret
    exact ⟨false, rfl, ⟨fun h => (by cases h), fun h => absurd h.1 (by show ¬ a.size ≤ _; omega)⟩, (Fr.refl _ w).alloc _⟩
  · have ha' : ¬ (2147483647 : Int) < a.size := by omega
    by_cases hb : 2147483647 < b.size
    · have hb' : (2147483647 : Int) < b.size := by omega
      go_enter Tryz.func52, Tryz.ntmps52
      go_wp2
      go_ret
      exact ⟨false, rfl, ⟨fun h => (by cases h), fun h => absurd h.2 (by show ¬ b.size ≤ _; omega)⟩, (Fr.refl _ w).alloc _⟩
    · have hb' : ¬ (2147483647 : Int) < b.size := by omega
      go_enter Tryz.func52, Tryz.ntmps52
      go_wp2
      go_ret
      exact ⟨true, rfl, ⟨fun _ => ⟨by show a.size ≤ _; omega, by show b.size ≤ _; omega⟩, fun _ => rfl⟩, (Fr.refl _ w).alloc _⟩

set_option maxRecDepth 100000 in
set_option maxHeartbeats 2000000 in
theorem fits10_any (P : Nat → Prop) (v : Value) (l : List Lab) (w : World) (h : Sl P w v 2 l.length (l.flatMap labc)) (hl : l.length ≤ 9223372036854775807) (hs : ∀ p ∈ l, p.1.size ≤ 9223372036854775807 ∧ p.2.size ≤ 9223372036854775807) :
    Calls Tryz.prog 21 #[v] w (BoolEnds (l.length ≤ 2147483647 ∧ ∀ p ∈ l, Fit p) w) := by
  obtain ⟨A, c, rfl, _, hc, hr⟩ := h
  obtain ⟨n, hn⟩ : ∃ n, l.length = n := ⟨_, rfl⟩
  rw [hn] at hr hc hl ⊢
  have HN := Lib.hid hn
  have HR := Lib.hid hr
  have HS := Lib.hid hs
  clear hn hr hs
  by_cases hbig : 2147483647 < n
  · have hbig' : (2147483647 : Int) < n := by omega
    go_enter Tryz.func21, Tryz.ntmps21
    go_wp2
    go_ret
    exact ⟨false, rfl, ⟨fun h => (by cases h), fun h => absurd h.1 (by omega)⟩, Fr.refl _ _⟩
  · have hbig' : ¬ (2147483647 : Int) < n := by omega
    go_enter Tryz.func21, Tryz.ntmps21
    go_wp2
    go_loopw [10] (fun vi wr => ∃ k : Nat, k ≤ n ∧ vi = .int .i64 k ∧ Hid (∀ p ∈ l.take k, Fit p) ∧ Hid (Fr (fun _ => False) w wr)) (fun vi _ => n - (intOf vi).toNat)
    case atStart => exact ⟨0, Nat.zero_le _, rfl, Lib.hid (fun p hp => by simp at hp), Lib.hid (Fr.refl _ _)⟩
    case round =>
      obtain ⟨k, hk, rfl, HP, HF⟩ := hrel
      by_cases hlt : k < n
      · obtain ⟨g, off, rfl, _, hcell⟩ := HR.out (by omega)
        obtain ⟨x, hx⟩ : ∃ x, l[k]? = some x := ⟨_, List.getElem?_eq_getElem (by rw [HN.out]; exact hlt)⟩
        have cc : ∀ j, j < 2 → ∀ u, (labc x)[j]? = some u → wr.cell? ⟨g, off + (k * 2 + j), none⟩ = some u := fun j hj u hu => by
          have := hcell (k * 2 + j) u (by rw [flat2 labc (fun _ => rfl) l k x hx j hj]; exact hu)
          rw [HF.out.cell (p := ⟨g, off + (k * 2 + j), none⟩) (World.block_lt_of_cell? w _ this) (fun e => e)]
          exact this
        have c0 : wr.cell? ⟨g, off + k * 2, none⟩ = some (.string x.1) := cc 0 (by omega) _ rfl
        have c1 : wr.cell? ⟨g, off + k * 2 + 1, none⟩ = some (.string x.2) := cc 1 (by omega) _ rfl
        have hxm := List.mem_of_getElem? hx
        have hq := fun W => fits11_any x (HS.out x hxm).1 (HS.out x hxm).2 W
        have HX := Lib.hid hx
        clear hcell cc hx
        by_cases hfit : Fit x
        · have HFT := Lib.hid hfit
          clear hfit
          go_wp2_with (go_at_call 52; refine (bool_yes HFT.out (hq _)).mono ?_; rintro r w1 ⟨rfl, hf1⟩)
          go_roundw
          case rel =>
            refine ⟨k + 1, by omega, by go_num, Lib.hid ?_, Lib.hid ((HF.out.alloc _).same hf1)⟩
            intro p hp
            rw [List.take_add_one, HX.out, List.mem_append] at hp
            rcases hp with hp | hp
            · exact HP.out p hp
            · simp at hp; rw [hp]; exact HFT.out
          case measure => simp [intOf]; omega
        · have HFT := Lib.hid hfit
          clear hfit
          go_wp2_with (go_at_call 52; refine (bool_no HFT.out (hq _)).mono ?_; rintro r w1 ⟨rfl, hf1⟩)
          go_ret
          exact ⟨false, rfl, ⟨fun h => (by cases h), fun h => absurd (h.2 x hxm) HFT.out⟩, (HF.out.alloc _).same hf1⟩
      · obtain rfl : k = n := by omega
        go_wp2
        go_ret
        have e : l.take k = l := List.take_of_length_le (by rw [HN.out]; exact Nat.le_refl _)
        have hp := HP.out
        rw [e] at hp
        exact ⟨true, rfl, ⟨fun _ => ⟨by omega, hp⟩, fun _ => rfl⟩, HF.out⟩

theorem labels_any (P : Nat → Prop) (v : Value) (l : List Lab) (w : World) (h : Sl P w v 2 l.length (l.flatMap labc)) (hl : l.length ≤ 1099511627776) : Calls Tryz.prog 22 #[v] w (BoolEnds (LabOk l 12 600) w) := by
  have hR := labelsRight_any P v l 12 600 w h hl (by omega) (by omega)
  obtain ⟨A, c, rfl, _⟩ := h
  go_enter Tryz.func22, Tryz.ntmps22
  go_wp2_with (go_at_call 53; refine hR.mono ?_; rintro r w1 ⟨b, rfl, hb, hf⟩)
  go_ret
  exact ⟨b, rfl, hb, hf⟩

end Go.Proofs.YtbkookiigkckdaaGreatDoor

