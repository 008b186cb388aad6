/- Texts of this seat, merged: Mp, Mm, Hd, Ba. -/
import Derived.Test.YtbkookiigkckdaaGreatDoorK11
import Derived.Test.YtbkookiigkckdaaGreatDoorK03
import Derived.Maps.Views
import Derived.Maps.Own
import Derived.Maps.OwnSet
import Derived.Maps.RangeWalk
import Derived.Maps.StringElems
import Derived.StringKeys
import Derived.Lib.AppendZeros
import Derived.Laws.CopyRow
import Derived.Lib.BufferWrite
import Derived.Lib.ByteType
import Derived.Lib.Walk
import Derived.Lib.Buffer
import Derived.Shelf.RegionOpenPlain
import Derived.RegionTactic
import Derived.Deep.RegionWith
import Derived.Deep.Draws
import Derived.BigCall
import Derived.BigGuard
import Derived.OwnWalk
import Derived.Defers
import Derived.Recover
/- The map of labels, and what a range over it yields, in plain Lean. -/
namespace Go.Proofs.YtbkookiigkckdaaGreatDoor
open Go
set_option linter.unusedVariables false

/-- A name, as a map's key reads. -/
def keyL (s : ByteArray) : Lit := .string s.data.toList
def putL (D : DataW Unit) (x : ByteArray × ByteArray) : DataW Unit := D.put (keyL x.1) (.lit (.string x.2.data.toList))
def mapL (l : List (ByteArray × ByteArray)) : DataW Unit := l.foldl putL (.map [])
theorem keyL_inj {a b : ByteArray} (h : keyL a = keyL b) : a = b := by
  unfold keyL at h
  injection h with h
  exact ByteArray.ext (Array.toList_inj.1 h)
theorem keyL_key (a : ByteArray) : WideAt.IsKeyLit (keyL a) := trivial
theorem mapL_snoc (l : List (ByteArray × ByteArray)) (x : ByteArray × ByteArray) : mapL (l ++ [x]) = putL (mapL l) x := by unfold mapL; rw [List.foldl_append]; rfl
theorem mapL_isMap_from : ∀ (l : List (ByteArray × ByteArray)) (D : DataW Unit), Maps.IsMap D → Maps.IsMap (l.foldl putL D)
  | [], _, h => h
  | x :: l, D, h => mapL_isMap_from l _ (h.put _ _)
theorem mapL_isMap (l : List (ByteArray × ByteArray)) : Maps.IsMap (mapL l) := mapL_isMap_from l _ Maps.isMap_empty
theorem has_putL (D : DataW Unit) (hD : Maps.IsMap D) (x : ByteArray × ByteArray) (n : ByteArray) : Maps.has (putL D x) (keyL n) = true ↔ (x.1 = n ∨ Maps.has D (keyL n) = true) := by
  by_cases h : x.1 = n
  · subst h
    unfold putL
    rw [Maps.has_put_same hD (keyL_key _)]
    simp
  · unfold putL
    rw [Maps.has_put_other (fun e => h (keyL_inj e).symm)]
    simp [h]
theorem has_fold : ∀ (l : List (ByteArray × ByteArray)) (D : DataW Unit), Maps.IsMap D → ∀ n, Maps.has (l.foldl putL D) (keyL n) = true ↔ ((∃ x ∈ l, x.1 = n) ∨ Maps.has D (keyL n) = true)
  | [], _, _, n => by simp
  | x :: l, D, h, n => by
    rw [List.foldl_cons, has_fold l (putL D x) (h.put _ _) n, has_putL D h x n]
    simp only [List.mem_cons]
    constructor
    · rintro (⟨y, hy, e⟩ | e | e)
      · exact .inl ⟨y, .inr hy, e⟩
      · exact .inl ⟨x, .inl rfl, e⟩
      · exact .inr e
    · rintro (⟨y, rfl | hy, e⟩ | e)
      · exact .inr (.inl e)
      · exact .inl ⟨y, hy, e⟩
      · exact .inr (.inr e)
theorem has_mapL (l : List (ByteArray × ByteArray)) (n : ByteArray) : Maps.has (mapL l) (keyL n) = true ↔ ∃ x ∈ l, x.1 = n := by
  unfold mapL
  rw [has_fold l _ Maps.isMap_empty n]
  have : Maps.has (.map [] : DataW Unit) (keyL n) = false := rfl
  simp [this]
theorem at_fold : ∀ (l : List (ByteArray × ByteArray)) (D : DataW Unit), Maps.IsMap D → ∀ n z, (∀ x ∈ l, x.1 ≠ n) → (l.foldl putL D).atKey (keyL n) z = D.atKey (keyL n) z
  | [], _, _, _, _, _ => rfl
  | x :: l, D, h, n, z, hn => by
    rw [List.foldl_cons, at_fold l (putL D x) (h.put _ _) n z (fun y hy => hn y (List.mem_cons_of_mem _ hy))]
    exact Maps.atKey_put_other (fun e => hn x (List.mem_cons_self ..) (keyL_inj e).symm) _ _
theorem at_mapL_from : ∀ (l : List (ByteArray × ByteArray)) (D : DataW Unit), Maps.IsMap D → l.Pairwise (fun a b => a.1 ≠ b.1) → ∀ x ∈ l, ∀ z, (l.foldl putL D).atKey (keyL x.1) z = .lit (.string x.2.data.toList)
  | [], _, _, _, x, hx, _ => by cases hx
  | y :: l, D, h, hu, x, hx, z => by
    obtain ⟨h1, h2⟩ := List.pairwise_cons.mp hu
    rw [List.foldl_cons]
    rcases List.mem_cons.mp hx with e | hx2
    · subst e
      rw [at_fold l (putL D x) (h.put _ _) x.1 z (fun w hw => (h1 w hw).symm)]
      exact Maps.atKey_put_same h (keyL_key _) _ _
    · exact at_mapL_from l _ (h.put _ _) h2 x hx2 z
theorem at_mapL (l : List (ByteArray × ByteArray)) (hu : l.Pairwise (fun a b => a.1 ≠ b.1)) (x : ByteArray × ByteArray) (hx : x ∈ l) (z : DataW Unit) : (mapL l).atKey (keyL x.1) z = .lit (.string x.2.data.toList) :=
  at_mapL_from l _ Maps.isMap_empty hu x hx z

/-- What a range over the map of l has yielded, while 'left' tells what is still to come. -/
structure Got (l : List (ByteArray × ByteArray)) (left : Lit → Bool) (out : List (ByteArray × ByteArray)) : Prop where
  one : out.Pairwise (fun a b => a.1 ≠ b.1)
  sub : ∀ x ∈ out, ∃ y ∈ l, y.1 = x.1
  left : ∀ n, left (keyL n) = true ↔ ((∃ y ∈ l, y.1 = n) ∧ ∀ x ∈ out, x.1 ≠ n)
  val : l.Pairwise (fun a b => a.1 ≠ b.1) → ∀ x ∈ out, x ∈ l

theorem Got.start (l : List (ByteArray × ByteArray)) : Got l (Maps.has (mapL l)) [] where
  one := List.Pairwise.nil
  sub x hx := by cases hx
  left n := by rw [has_mapL]; simp
  val _ x hx := by cases hx
theorem same_key {a b : ByteArray} : (keyL a).sameKey (keyL b) = true ↔ a = b := by
  constructor
  · intro h; exact keyL_inj (WideAt.sameKey_eq h)
  · rintro rfl; exact WideAt.sameKey_self (keyL_key _)

theorem Got.step {l : List (ByteArray × ByteArray)} {left : Lit → Bool} {out : List (ByteArray × ByteArray)} (h : Got l left out) {n v : ByteArray} (hl : left (keyL n) = true) (hat : ∀ z, (mapL l).atKey (keyL n) z = .lit (.string v.data.toList)) :
    Got l (fun z => left z && !z.sameKey (keyL n)) (out ++ [(n, v)]) where
  one := by
    rw [List.pairwise_append]
    refine ⟨h.one, List.pairwise_singleton .., fun a ha b hb => ?_⟩
    rw [List.mem_singleton] at hb
    subst hb
    exact ((h.left n).mp hl).2 a ha
  sub x hx := by
    rcases List.mem_append.mp hx with hx | hx
    · exact h.sub x hx
    · rw [List.mem_singleton] at hx
      subst hx
      exact ((h.left n).mp hl).1
  left m := by
    show (left (keyL m) && !(keyL m).sameKey (keyL n)) = true ↔ _
    rw [Bool.and_eq_true, h.left m, Bool.not_eq_true']
    have e : (keyL m).sameKey (keyL n) = false ↔ m ≠ n := by
      rw [← Bool.not_eq_true, same_key]
    rw [e]
    constructor
    · rintro ⟨⟨h1, h2⟩, h3⟩
      refine ⟨h1, fun x hx => ?_⟩
      rcases List.mem_append.mp hx with hx | hx
      · exact h2 x hx
      · rw [List.mem_singleton] at hx
        subst hx
        exact fun e => h3 e.symm
    · rintro ⟨h1, h2⟩
      exact ⟨⟨h1, fun x hx => h2 x (List.mem_append_left _ hx)⟩, fun e => h2 (n, v) (List.mem_append_right _ (List.mem_singleton.mpr rfl)) e.symm⟩
  val hu x hx := by
    rcases List.mem_append.mp hx with hx | hx
    · exact h.val hu x hx
    · rw [List.mem_singleton] at hx
      subst hx
      obtain ⟨y, hy, rfl⟩ := ((h.left n).mp hl).1
      have h1 := at_mapL l hu y hy .nil
      rw [hat] at h1
      injection h1 with h1
      injection h1 with h1
      have h2 : v = y.2 := ByteArray.ext (Array.toList_inj.1 h1)
      rw [h2]
      exact hy

theorem sub_len {α : Type} : ∀ (a b : List α), a.Nodup → a ⊆ b → a.length ≤ b.length
  | [], _, _, _ => Nat.zero_le _
  | x :: a, b, hn, hs => by
    obtain ⟨s, t, rfl⟩ := List.append_of_mem (hs (List.mem_cons_self ..))
    obtain ⟨n1, n2⟩ := List.nodup_cons.1 hn
    have h := sub_len a (s ++ t) n2 (fun y hy => by
      have h1 := hs (List.mem_cons_of_mem _ hy)
      rcases List.mem_append.mp h1 with h1 | h1
      · exact List.mem_append_left _ h1
      · rcases List.mem_cons.mp h1 with rfl | h1
        · exact absurd hy n1
        · exact List.mem_append_right _ h1)
    simp only [List.length_append, List.length_cons] at h ⊢
    omega
/-- Distinct names among those of l: no more than l has. -/
theorem Got.short {l : List (ByteArray × ByteArray)} {left : Lit → Bool} {out : List (ByteArray × ByteArray)} (h : Got l left out) : out.length ≤ l.length := by
  have h1 : (out.map (·.1)).Nodup := by
    have h := h.one
    unfold List.Nodup
    rw [List.pairwise_map]
    exact h
  have h2 : (out.map (·.1)) ⊆ (l.map (·.1)) := fun n hn => by
    obtain ⟨x, hx, rfl⟩ := List.mem_map.mp hn
    obtain ⟨y, hy, e⟩ := h.sub x hx
    exact List.mem_map.mpr ⟨y, hy, e⟩
  have h3 := sub_len _ _ h1 h2
  simpa using h3
/-- At the end, of unique names: just what the map was made of. -/
theorem Got.done {l : List (ByteArray × ByteArray)} {left : Lit → Bool} {out : List (ByteArray × ByteArray)} (h : Got l left out) (h0 : ∀ k, left k = false) (hu : l.Pairwise (fun a b => a.1 ≠ b.1)) : out.Perm l := by
  have nd : ∀ {m : List (ByteArray × ByteArray)}, m.Pairwise (fun a b => a.1 ≠ b.1) → m.Nodup := fun hm => hm.imp (fun hab e => hab (by rw [e]))
  rw [List.perm_ext_iff_of_nodup (nd h.one) (nd hu)]
  intro x
  refine ⟨fun hx => h.val hu x hx, fun hx => ?_⟩
  have h1 := h.left x.1
  rw [h0] at h1
  have h2 : ¬ ∀ y ∈ out, y.1 ≠ x.1 := fun hn => by
    have := h1.mpr ⟨⟨x, hx, rfl⟩, hn⟩
    cases this
  have h3 : ∃ y ∈ out, y.1 = x.1 := by
    refine Classical.byContradiction fun hc => h2 fun y hy e => hc ⟨y, hy, e⟩
  obtain ⟨y, hy, e⟩ := h3
  have hyl := h.val hu y hy
  have : y = x := by
    clear h1 h2
    have key : ∀ (l : List (ByteArray × ByteArray)), l.Pairwise (fun a b => a.1 ≠ b.1) → ∀ a ∈ l, ∀ b ∈ l, a.1 = b.1 → a = b := by
      intro l
      induction l with
      | nil => intro _ a ha; cases ha
      | cons c l ih =>
        intro hp a ha b hb e
        obtain ⟨p1, p2⟩ := List.pairwise_cons.mp hp
        rcases List.mem_cons.mp ha with ea | ha2
        · rcases List.mem_cons.mp hb with eb | hb2
          · rw [ea, eb]
          · exact absurd (ea ▸ e) (p1 b hb2)
        · rcases List.mem_cons.mp hb with eb | hb2
          · exact absurd (eb ▸ e).symm (p1 a ha2)
          · exact ih p2 a ha2 b hb2 e
    exact key l hu y hyl x hx e
  rw [← this]
  exact hy
end Go.Proofs.YtbkookiigkckdaaGreatDoor

/- Labels.Map 58: the map of labels. -/
namespace Go.Proofs.YtbkookiigkckdaaGreatDoor
open Go.RowKit
set_option linter.unusedVariables false
set_option linter.unusedSimpArgs false

noncomputable abbrev PE : Value → Option (DataW Unit × List MemPlace) := plainElem Tryz.prog 9
/-- The map behind k labels. -/
structure MJ (w0 : World) (mv mb : Nat) (l : List Lab) (k : Nat) (W : World) : Prop where
  fr : Fr (fun _ => False) w0 W
  bv : Blk W mv 102 #[.map (some mb)]
  nv : w0.heap.size ≤ mv
  nb : w0.heap.size ≤ mb
  own : W.ownsMap Tryz.prog 9 PE mb k (mapL (l.take k))
theorem own_keep {W W' : World} {k b n : Nat} {D : DataW Unit} {S : Nat → Prop} (h : W.ownsMap Tryz.prog k PE b n D) (hf : Fr S W W') (hn : ¬ S b) : W'.ownsMap Tryz.prog k PE b n D := by
  have hl := h.lt
  obtain ⟨es, clock, hb, h2⟩ := h
  exact ⟨es, clock, (hf.block b hl hn).trans hb, h2⟩
theorem MJ.still {w0 W W' : World} {mv mb k : Nat} {l : List Lab} (h : MJ w0 mv mb l k W) (hf : Fr (fun _ => False) W W') : MJ w0 mv mb l k W' :=
  ⟨h.fr.same hf, h.bv.fr hf (fun e => e), h.nv, h.nb, own_keep h.own hf (fun e => e)⟩
theorem blk_ne_map {W : World} {b n : Nat} {D : DataW Unit} {k c : Nat} {t : TypeId} {cs : Array Value} (h : W.ownsMap Tryz.prog k PE b n D) (hc : Blk W c t cs) : c ≠ b := by
  rintro rfl
  obtain ⟨es, clock, hb, _⟩ := h
  unfold Blk at hc
  rw [hb] at hc
  cases hc

set_option maxHeartbeats 4000000 in
set_option maxRecDepth 100000 in
theorem map1_any (w0 : World) (mv mb k : Nat) (l : List Lab) (x : Lab) (c : Nat) (s : Value) (hk : k ≤ 1099511627776) (hx : l[k]? = some x) (h1 : x.1.size ≤ 1048576) (h2 : x.2.size ≤ 1048576) (W : World) (h : MJ w0 mv mb l k W) (hc : Blk W c 99 #[s]) :
    Calls Tryz.prog 155 #[.agg #[.string x.1, .string x.2], .pointer (some ⟨mv, 0, none⟩)] W fun r w' => r = .returned (.tuple #[]) ∧ MJ w0 mv mb l (k + 1) w' ∧ Blk w' c 99 #[s] := by
  obtain ⟨hfr, hv, nv, nb, hown⟩ := h
  obtain ⟨W1, hW1⟩ : ∃ W1, W.alloc (.cells #[.string x.1, .string x.2] 108) = W1 := ⟨_, rfl⟩
  have hF1 : Fr (fun _ => False) W W1 := by rw [← hW1]; exact (Fr.refl _ W).alloc _
  have hbx : Blk W1 W.heap.size 108 #[.string x.1, .string x.2] := by rw [← hW1]; exact Blk.new W 108 _
  have hv1 := hv.fr hF1 (fun e => e)
  have hc1 := hc.fr hF1 (fun e => e)
  have ho1 := own_keep hown hF1 (fun e => e)
  have m0 := hv1.cell 0
  have m1 := hbx.cell 0
  have m2 := hbx.cell 1
  have ne1 := blk_ne_map ho1 hv1
  have ne2 := blk_ne_map ho1 hc1
  have hkey : keyOf Tryz.prog 9 (.string x.1) = some (keyL x.1) := WideMaps.keyOf_string_mk Tryz.underlying9 (by unfold maxLen; omega)
  have hval : PE (.string x.2) = some (.lit (.string x.2.data.toList), []) := plainElem_string Tryz.underlying9 (by unfold maxLen; omega)
  have H := Lib.hid (And.intro (hfr.same hF1) (And.intro hv1 (And.intro hc1 (And.intro ne1 (And.intro ne2 (And.intro nv nb))))))
  have HO := Lib.hid ho1
  have HX := Lib.hid hx
  have HK := Lib.hid (And.intro hkey hval)
  clear hfr hv nv nb hown hF1 hbx hv1 hc1 ho1 ne1 ne2 hc hx hkey hval
  go_enter Tryz.func155, Tryz.ntmps155
  go_wp2_with (at_mapUpdate; refine wpList_mapUpdate_own (H := Unit) _ rfl _ _ _ 102 rfl 9 9 (Maps.string_keyed Tryz.underlying9) Tryz.underlying102 PE mb k (mapL (l.take k)) rfl HO.out (by unfold maxLen; omega) _ _ (keyL x.1) rfl rfl HK.out.1 _ [] HK.out.2 ?_; intro w5 hown5 hgrow5)
  go_end0
  obtain ⟨hf, hv1, hc1, ne1, ne2, nv, nb⟩ := H.out
  refine ⟨rfl, ⟨hf.grown hgrow5 (fun q hq => by injection hq with hq; exact .inr (by omega)), hv1.grown hgrow5 (fun e => ne1 (Option.some.inj e)), nv, nb, ?_⟩, hc1.grown hgrow5 (fun e => ne2 (Option.some.inj e))⟩
  have e : l.take (k + 1) = l.take k ++ [x] := by rw [List.take_add_one, HX.out]; rfl
  rw [e, mapL_snoc]
  exact hown5

set_option maxHeartbeats 4000000 in
set_option maxRecDepth 100000 in
theorem map_any (l : List Lab) (w : World) (hl : l.length ≤ 4096) (hs : ∀ p ∈ l, p.1.size ≤ 1048576 ∧ p.2.size ≤ 1048576) (hsz : labsSize l ≤ 1099511627776) :
    Calls Tryz.prog 58 #[.agg #[.string (labStr l)]] w fun r w' => ∃ mb, r = .returned (.map (some mb)) ∧ w.heap.size ≤ mb ∧ w'.ownsMap Tryz.prog 9 PE mb l.length (mapL l) ∧ Fr (fun _ => False) w w' := by
  have hmf : ∀ (fn : Fn) (first cap : Array Value) (w : World), (Instr.makeFunc fn first cap).run Tryz.prog w = .ok (.func fn first cap) w := fun _ _ _ _ => rfl
  have eg : ∀ args w, (callFunc 155 args).run Tryz.prog w = .ok (.enter 155 args) w := enters_of Tryz.func155 (by kernel_rfl) rfl
  have hmm := @run_makeMap Tryz.prog
  obtain ⟨W1, hW1⟩ : ∃ W1, w.alloc (.cells #[.string (labStr l)] 99) = W1 := ⟨_, rfl⟩
  have hF1 : Fr (fun _ => False) w W1 := by rw [← hW1]; exact (Fr.refl _ w).alloc _
  have hb1 : Blk W1 w.heap.size 99 #[.string (labStr l)] := by rw [← hW1]; exact Blk.new w 99 _
  have hs1 : W1.heap.size = w.heap.size + 1 := by rw [← hW1]; simp
  obtain ⟨W3, hW3⟩ : ∃ W3, (W1.alloc (.map #[] 0)).alloc (.cells #[.map (some W1.heap.size)] 102) = W3 := ⟨_, rfl⟩
  have hF3 : Fr (fun _ => False) W1 W3 := by rw [← hW3]; exact ((Fr.refl _ W1).alloc _).alloc _
  have hJ0 : MJ w (W1.heap.size + 1) W1.heap.size l 0 W3 := by
    refine ⟨hF1.same hF3, ?_, by omega, by omega, ?_⟩
    · rw [← hW3]
      have h := Blk.new (W1.alloc (.map #[] 0)) 102 #[.map (some W1.heap.size)]
      rw [World.size_alloc] at h
      exact h
    · rw [← hW3]
      exact (World.ownsMap_made W1 Tryz.prog 9 PE).alloc _
  have hR := range_any l 155 #[.pointer (some ⟨W1.heap.size + 1, 0, none⟩)] eg (MJ w (W1.heap.size + 1) W1.heap.size l) W3 (fun p hp => by have := hs p hp; omega) hsz (fun _ _ _ h hf => h.still hf) hJ0
    (fun k x W hx hj hb => by
      have hk : k < l.length := (List.getElem?_eq_some_iff.mp hx).1
      exact map1_any w _ _ k l x _ _ (by omega) hx (hs x (List.mem_of_getElem? hx)).1 (hs x (List.mem_of_getElem? hx)).2 W hj hb)
  have c0 : W3.cell? ⟨w.heap.size, 0, none⟩ = some (.string (labStr l)) := (hb1.fr hF3 (fun e => e)).cell 0
  have HS1 := Lib.hid hs1
  clear eg hF1 hb1 hF3 hJ0 hs1
  generalize labStr l = s at *
  go_enter Tryz.func58, Tryz.ntmps58
  go_wp2_with (go_at_call 152; refine hR.mono ?_; rintro r w7 ⟨rfl, hJ⟩; have u0 := hJ.bv.cell 0)
  go_ret
  have := hJ.own
  rw [List.take_length] at this
  exact ⟨_, rfl, by have := HS1.out; omega, this, hJ.fr⟩
end Go.Proofs.YtbkookiigkckdaaGreatDoor

/- Labels.HasDuplicateLabelNames 61, Labels.Validate 62. -/
namespace Go.Proofs.YtbkookiigkckdaaGreatDoor
open Go.RowKit
set_option linter.unusedVariables false
set_option linter.unusedSimpArgs false

/-- The first name that stands twice in a row, if there is one. -/
def TwiceEnds (l : List Lab) (w : World) (r : Ending) (w' : World) : Prop :=
  Fr (fun _ => False) w w' ∧ ((r = .returned (.tuple #[.string ⟨#[]⟩, .bool false]) ∧ ∀ k x y, l[k]? = some x → l[k + 1]? = some y → x.1 ≠ y.1) ∨ (∃ k x y, l[k]? = some x ∧ l[k + 1]? = some y ∧ x.1 = y.1 ∧ r = .returned (.tuple #[.string x.1, .bool true])))

/-- What is known behind k labels: p is the name before. -/
def DupJ (l : List Lab) (k : Nat) (p : ByteArray) : Prop :=
  (k = 0 → p = ⟨#[]⟩) ∧ (∀ j, k = j + 1 → ∃ x, l[j]? = some x ∧ x.1 = p) ∧ ∀ j x y, j + 1 < k → l[j]? = some x → l[j + 1]? = some y → x.1 ≠ y.1
theorem dup_step {l : List Lab} {k : Nat} {p : ByteArray} {x : Lab} (h : DupJ l k p) (hx : l[k]? = some x) (hne : x.1 ≠ p) : DupJ l (k + 1) x.1 := by
  obtain ⟨h0, h1, h2⟩ := h
  refine ⟨fun e => by omega, fun j hj => ?_, fun j a b hj ha hb => ?_⟩
  · obtain rfl : j = k := by omega
    exact ⟨x, hx, rfl⟩
  · by_cases e : j + 1 = k
    · obtain ⟨c, hc, hcp⟩ := h1 j e.symm
      rw [e, hx] at hb
      rw [ha] at hc
      injection hb with hb
      injection hc with hc
      subst hb hc
      rw [hcp]
      exact fun e => hne e.symm
    · exact h2 j a b (by omega) ha hb
theorem bytes_beq {a b : ByteArray} (h : a ≠ b) : (a.toList == b.toList) = false := by
  rw [beq_eq_false_iff_ne]
  intro e
  rw [Lib.toList_data, Lib.toList_data] at e
  exact h (ByteArray.ext (Array.toList_inj.1 e))

set_option maxRecDepth 100000 in
set_option maxHeartbeats 4000000 in
theorem hasDup_any (l : List Lab) (w : World) (hs : ∀ p ∈ l, 1 ≤ p.1.size ∧ p.1.size < 16777216 ∧ p.2.size < 16777216) (hsz : labsSize l ≤ 1099511627776) :
    Calls Tryz.prog 61 #[.agg #[.string (labStr l)]] w (TwiceEnds l w) := by
  have hss : (labStr l).size ≤ 1099511627776 := by rw [labStr_size]; exact hsz
  have hd0 : (labStr l).data.toList.drop 0 = labsBytes (l.drop 0) := by simp [labStr]
  have F1 : Fr (fun _ => False) w (w.alloc (.cells #[.string (labStr l)] 99)) := (Fr.refl _ w).alloc _
  have B1 : Blk (w.alloc (.cells #[.string (labStr l)] 99)) w.heap.size 99 #[.string (labStr l)] := Blk.new w 99 _
  generalize hS : labStr l = s at *
  have HS := Lib.hid hs
  have HF1 := Lib.hid F1
  have HB1 := Lib.hid B1
  have HD0 := Lib.hid hd0
  clear hs F1 B1 hd0 hS
  go_enter Tryz.func61, Tryz.ntmps61
  go_wp2
  go_loopw [5, 6] (fun vp vi wr => ∃ (i k : Nat) (p : ByteArray), vp = .string p ∧ vi = .int .i64 i ∧ k ≤ l.length ∧ i ≤ s.size ∧ Hid (s.data.toList.drop i = labsBytes (l.drop k)) ∧ Hid (Fr (fun _ => False) w wr) ∧ Hid (Blk wr w.heap.size 99 #[.string s]) ∧ Hid (DupJ l k p)) (fun _ vi _ => s.size - (intOf vi).toNat)
  case atStart => exact ⟨0, 0, _, rfl, rfl, Nat.zero_le _, Nat.zero_le _, HD0, HF1, HB1, Lib.hid ⟨fun _ => rfl, fun j h => by omega, fun j _ _ h => by omega⟩⟩
  case round =>
    obtain ⟨i, k, p, rfl, rfl, hk, hi, HD, HF, HB, HJ⟩ := hrel
    have c0 : wr.cell? ⟨w.heap.size, 0, none⟩ = some (.string s) := HB.out.cell 0
    by_cases hlt : k < l.length
    · obtain ⟨x, hx⟩ : ∃ x, l[k]? = some x := ⟨_, List.getElem?_eq_getElem hlt⟩
      have hxs := HS.out x (List.mem_of_getElem? hx)
      have hD : s.data.toList.drop i = lenBytes x.1.size ++ (x.1.data.toList ++ (lenBytes x.2.size ++ (x.2.data.toList ++ labsBytes (l.drop (k + 1))))) := by
        rw [HD.out, labsBytes_drop l k x hx]
        simp [labBytes]
      have q1 := fun W => decodeString_any s x.1 i _ hxs.2.1 hi hss hD W
      have d1 := drop_le hD hi
      have h2 := drop_more hD
      have d2 := drop_le h2 d1
      have h3 := drop_more h2
      have e1 : x.1.data.toList.length = x.1.size := by rw [← Lib.size_eq]
      rw [lenBytes_len, e1] at h3 d2
      obtain ⟨i2, hi2⟩ : ∃ i2, i + lenSize x.1.size + x.1.size = i2 := ⟨_, rfl⟩
      rw [hi2] at h3 d2
      have q2 := fun W => decodeString_any s x.2 i2 _ hxs.2.2 d2 hss h3 W
      have d3 := drop_le h3 d2
      have h4 := drop_more h3
      have d4 := drop_le h4 d3
      have h5 := drop_more h4
      have e2 : x.2.data.toList.length = x.2.size := by rw [← Lib.size_eq]
      rw [lenBytes_len, e2] at h5 d4
      obtain ⟨i3, hi3⟩ : ∃ i3, i2 + lenSize x.2.size + x.2.size = i3 := ⟨_, rfl⟩
      rw [hi3] at h5 d4
      simp only [hi2] at q1
      simp only [hi3] at q2
      have hpos : 0 < lenSize x.1.size := by unfold lenSize; split <;> omega
      have hlt1 : i < s.size := by omega
      have hgo : i < i3 := by omega
      have H5 := Lib.hid h5
      have HX := Lib.hid hx
      have HXS := Lib.hid hxs
      clear hD d1 h2 h3 d2 d3 h4 h5 e1 e2 hx hi2 hi3 hxs hpos
      by_cases hne : x.1 = p
      · have HN := Lib.hid hne
        have htest : (x.1.toList == p.toList) = true := by rw [hne]; simp
        clear hne
        go_wp2_with (first
          | (go_at_call_of 158 (Value.int .i64 (i : Int)); refine (q1 _).mono ?_; rintro r w1 ⟨rfl, hf1⟩; have HB2 := Lib.hid (HB.out.fr hf1 (fun e => e)); have c1 := HB2.out.cell 0)
          | (go_at_call_of 158 (Value.int .i64 (i2 : Int)); refine (q2 _).mono ?_; rintro r w2 ⟨rfl, hf2⟩))
        go_ret2
        refine ⟨(HF.out.same hf1).same hf2, .inr ?_⟩
        cases k with
        | zero =>
          exfalso
          have h1 := HJ.out.1 rfl
          have h2 := HN.out
          rw [h1] at h2
          have h3 := HXS.out.1
          rw [h2] at h3
          exact absurd h3 (by decide)
        | succ j =>
          obtain ⟨y, hy, hyp⟩ := HJ.out.2.1 j rfl
          exact ⟨j, y, x, hy, HX.out, hyp.trans HN.out.symm, by rw [show y.1 = x.1 from hyp.trans HN.out.symm]; rfl⟩
      · have HN := Lib.hid (dup_step HJ.out HX.out hne)
        have htest : (x.1.toList == p.toList) = false := bytes_beq hne
        clear hne
        go_wp2_with (first
          | (go_at_call_of 158 (Value.int .i64 (i : Int)); refine (q1 _).mono ?_; rintro r w1 ⟨rfl, hf1⟩; have HB2 := Lib.hid (HB.out.fr hf1 (fun e => e)); have c1 := HB2.out.cell 0)
          | (go_at_call_of 158 (Value.int .i64 (i2 : Int)); refine (q2 _).mono ?_; rintro r w2 ⟨rfl, hf2⟩; have HB3 := Lib.hid (HB2.out.fr hf2 (fun e => e))))
        exact ⟨⟨i3, k + 1, _, rfl, rfl, hlt, d4, H5, Lib.hid ((HF.out.same hf1).same hf2), HB3, HN⟩, by show s.size - ((i3 : Int)).toNat < s.size - ((i : Int)).toNat; omega⟩
    · obtain rfl : k = l.length := by omega
      have hD := HD.out
      rw [List.drop_length] at hD
      have hi2 : i = s.size := by
        have h := congrArg List.length hD
        rw [List.length_drop, ← Lib.size_eq] at h
        simp [labsBytes] at h
        omega
      subst hi2
      have hlt1 : ¬ ((s.size : Int) < s.size) := by omega
      go_wp2
      go_ret2
      refine ⟨HF.out, .inl ⟨rfl, fun j x y hx hy => HJ.out.2.2 j x y (List.getElem?_eq_some_iff.mp hy).1 hx hy⟩⟩

/-- The error at the label m, if there is one. -/
def ValEnds (n m : Nat) (te : TypeId) (pe : Value) (J : Nat → World → Prop) (r : Ending) (w' : World) : Prop := r = .returned (if m < n then .iface te pe else .nilIface) ∧ J (min n (m + 1)) w'

set_option maxRecDepth 100000 in
set_option maxHeartbeats 4000000 in
/-- Validate: its function is called up to the label m, at which it hands back an error. -/
theorem validate_any (l : List Lab) (g : FuncId) (cb : Array Value) (eg : ∀ args w, (callFunc g args).run Tryz.prog w = .ok (.enter g args) w) (m : Nat) (te : TypeId) (pe : Value) (J : Nat → World → Prop) (w : World)
    (hs : ∀ p ∈ l, p.1.size < 16777216 ∧ p.2.size < 16777216) (hsz : labsSize l ≤ 1099511627776)
    (hJ : ∀ k W W', J k W → Fr (fun _ => False) W W' → J k W') (h0 : J 0 w)
    (step : ∀ k x W, l[k]? = some x → J k W → Blk W w.heap.size 99 #[.string (labStr l)] → Calls Tryz.prog g (#[.agg #[.string x.1, .string x.2]] ++ cb) W fun r w' => r = .returned (if k = m then .iface te pe else .nilIface) ∧ J (k + 1) w' ∧ Blk w' w.heap.size 99 #[.string (labStr l)]) :
    Calls Tryz.prog 62 #[.agg #[.string (labStr l)], .func (.func g) #[] cb] w (ValEnds l.length m te pe J) := by
  have hss : (labStr l).size ≤ 1099511627776 := by rw [labStr_size]; exact hsz
  have hd0 : (labStr l).data.toList.drop 0 = labsBytes (l.drop 0) := by simp [labStr]
  have J1 : J 0 (w.alloc (.cells #[.string (labStr l)] 99)) := hJ 0 w _ h0 ((Fr.refl _ w).alloc _)
  have B1 : Blk (w.alloc (.cells #[.string (labStr l)] 99)) w.heap.size 99 #[.string (labStr l)] := Blk.new w 99 _
  generalize hS : labStr l = s at *
  have STEP := Lib.hid step
  have HJ := Lib.hid hJ
  have HS := Lib.hid hs
  have HJ1 := Lib.hid J1
  have HB1 := Lib.hid B1
  have HD0 := Lib.hid hd0
  clear step hJ hs J1 B1 hd0 h0 hS
  go_enter Tryz.func62, Tryz.ntmps62
  go_wp2
  go_loopw [5] (fun vi wr => ∃ (i k : Nat), vi = .int .i64 i ∧ k ≤ l.length ∧ k ≤ m ∧ i ≤ s.size ∧ Hid (s.data.toList.drop i = labsBytes (l.drop k)) ∧ Hid (J k wr) ∧ Hid (Blk wr w.heap.size 99 #[.string s])) (fun vi _ => s.size - (intOf vi).toNat)
  case atStart => exact ⟨0, 0, rfl, Nat.zero_le _, Nat.zero_le _, Nat.zero_le _, HD0, HJ1, HB1⟩
  case round =>
    obtain ⟨i, k, rfl, hk, hkm, hi, HD, HJk, HB⟩ := hrel
    have c0 : wr.cell? ⟨w.heap.size, 0, none⟩ = some (.string s) := HB.out.cell 0
    by_cases hlt : k < l.length
    · obtain ⟨x, hx⟩ : ∃ x, l[k]? = some x := ⟨_, List.getElem?_eq_getElem hlt⟩
      have hxs := HS.out x (List.mem_of_getElem? hx)
      have hD : s.data.toList.drop i = lenBytes x.1.size ++ (x.1.data.toList ++ (lenBytes x.2.size ++ (x.2.data.toList ++ labsBytes (l.drop (k + 1))))) := by
        rw [HD.out, labsBytes_drop l k x hx]
        simp [labBytes]
      have q1 := fun W => decodeString_any s x.1 i _ hxs.1 hi hss hD W
      have d1 := drop_le hD hi
      have h2 := drop_more hD
      have d2 := drop_le h2 d1
      have h3 := drop_more h2
      have e1 : x.1.data.toList.length = x.1.size := by rw [← Lib.size_eq]
      rw [lenBytes_len, e1] at h3 d2
      obtain ⟨i2, hi2⟩ : ∃ i2, i + lenSize x.1.size + x.1.size = i2 := ⟨_, rfl⟩
      rw [hi2] at h3 d2
      have q2 := fun W => decodeString_any s x.2 i2 _ hxs.2 d2 hss h3 W
      have d3 := drop_le h3 d2
      have h4 := drop_more h3
      have d4 := drop_le h4 d3
      have h5 := drop_more h4
      have e2 : x.2.data.toList.length = x.2.size := by rw [← Lib.size_eq]
      rw [lenBytes_len, e2] at h5 d4
      obtain ⟨i3, hi3⟩ : ∃ i3, i2 + lenSize x.2.size + x.2.size = i3 := ⟨_, rfl⟩
      rw [hi3] at h5 d4
      simp only [hi2] at q1
      simp only [hi3] at q2
      have hpos : 0 < lenSize x.1.size := by unfold lenSize; split <;> omega
      have hlt1 : i < s.size := by omega
      have hgo : i < i3 := by omega
      have H5 := Lib.hid h5
      have HX := Lib.hid hx
      clear hD d1 h2 h3 d2 d3 h4 h5 e1 e2 hx hi2 hi3 hxs hpos
      by_cases hm : k = m
      · have HE : Hid (m < l.length ∧ min l.length (m + 1) = k + 1) := Lib.hid ⟨by omega, by omega⟩
        have STEPM := Lib.hid (fun W h1 h2 => by have h := STEP.out k x W HX.out h1 h2; rw [if_pos hm] at h; exact h)
        clear hm hkm
        go_wp2_with (first
          | (go_at_call_of 158 (Value.int .i64 (i : Int)); refine (q1 _).mono ?_; rintro r w1 ⟨rfl, hf1⟩; have HB2 := Lib.hid (HB.out.fr hf1 (fun e => e)); have HJ2 := Lib.hid (HJ.out _ _ _ HJk.out hf1); have c1 := HB2.out.cell 0)
          | (go_at_call_of 158 (Value.int .i64 (i2 : Int)); refine (q2 _).mono ?_; rintro r w2 ⟨rfl, hf2⟩; have HB3 := Lib.hid (HB2.out.fr hf2 (fun e => e)); have HJ3 := Lib.hid (HJ.out _ _ _ HJ2.out hf2))
          | (go_at_fn g; refine (STEPM.out _ HJ3.out HB3.out).mono ?_; rintro r w3 ⟨rfl, hj4, hb4⟩))
        go_ret
        unfold ValEnds
        rw [HE.out.2, if_pos HE.out.1]
        exact ⟨rfl, hj4⟩
      · have STEPM := Lib.hid (fun W h1 h2 => by have h := STEP.out k x W HX.out h1 h2; rw [if_neg hm] at h; exact h)
        have hkm2 : k + 1 ≤ m := by omega
        clear hm hkm
        go_wp2_with (first
          | (go_at_call_of 158 (Value.int .i64 (i : Int)); refine (q1 _).mono ?_; rintro r w1 ⟨rfl, hf1⟩; have HB2 := Lib.hid (HB.out.fr hf1 (fun e => e)); have HJ2 := Lib.hid (HJ.out _ _ _ HJk.out hf1); have c1 := HB2.out.cell 0)
          | (go_at_call_of 158 (Value.int .i64 (i2 : Int)); refine (q2 _).mono ?_; rintro r w2 ⟨rfl, hf2⟩; have HB3 := Lib.hid (HB2.out.fr hf2 (fun e => e)); have HJ3 := Lib.hid (HJ.out _ _ _ HJ2.out hf2))
          | (go_at_fn g; refine (STEPM.out _ HJ3.out HB3.out).mono ?_; rintro r w3 ⟨rfl, hj4, hb4⟩))
        exact ⟨⟨i3, k + 1, rfl, hlt, hkm2, d4, H5, Lib.hid hj4, Lib.hid hb4⟩, by show s.size - ((i3 : Int)).toNat < s.size - ((i : Int)).toNat; omega⟩
    · obtain rfl : k = l.length := by omega
      have hD := HD.out
      rw [List.drop_length] at hD
      have hi2 : i = s.size := by
        have h := congrArg List.length hD
        rw [List.length_drop, ← Lib.size_eq] at h
        simp [labsBytes] at h
        omega
      subst hi2
      have hlt1 : ¬ ((s.size : Int) < s.size) := by omega
      have HE : Hid (¬ m < l.length ∧ min l.length (m + 1) = l.length) := Lib.hid ⟨by omega, by omega⟩
      clear hkm
      go_wp2
      go_ret
      unfold ValEnds
      rw [HE.out.2, if_neg HE.out.1]
      exact ⟨rfl, HJk.out⟩
end Go.Proofs.YtbkookiigkckdaaGreatDoor

/- bytes.Buffer over a block of whatever type (an array's, say): tryGrowByReslice, Len, growSlice. -/
namespace Go.Proofs.YtbkookiigkckdaaGreatDoor
open Go.RowKit
set_option linter.unusedVariables false
set_option linter.unusedSimpArgs false

section
variable (b : Nat) (a : Option Addr) (l cap : Nat) (lr : Int) (w : World) (hb : Blk w b 340 #[.slice a l cap, .int .i64 0, .int .i8 lr]) (hlc : l ≤ cap) (hcm : cap ≤ maxLen)
include hb hlc hcm

set_option maxHeartbeats 2000000 in
set_option maxRecDepth 100000 in
/-- There is room for n more. -/
theorem tryGrow_room (n : Nat) (hn : n ≤ cap - l) : Calls Tryz.prog 216 #[.pointer (some ⟨b, 0, none⟩), .int .i64 n] w fun e w' => e = .returned (.tuple #[.int .i64 l, .bool true]) ∧ w' = w.setCell ⟨b, 0, none⟩ (.slice a (l + n) cap) := by
  have c0 : w.cell? ⟨b, 0, none⟩ = some (.slice a l cap) := hb.cell 0
  have f0 := hb.frozen 0
  clear hb
  unfold maxLen at hcm
  go_enter Tryz.func216, Tryz.ntmps216
  go_wp2
  go_ret2
  exact ⟨rfl, rfl⟩

set_option maxHeartbeats 2000000 in
set_option maxRecDepth 100000 in
theorem tryGrow_none (n : Nat) (hn : cap - l < n) : Calls Tryz.prog 216 #[.pointer (some ⟨b, 0, none⟩), .int .i64 n] w fun e w' => e = .returned (.tuple #[.int .i64 0, .bool false]) ∧ w' = w := by
  have c0 : w.cell? ⟨b, 0, none⟩ = some (.slice a l cap) := hb.cell 0
  have f0 := hb.frozen 0
  clear hb
  unfold maxLen at hcm
  go_enter Tryz.func216, Tryz.ntmps216
  go_wp2
  go_ret2
  exact ⟨rfl, rfl⟩

set_option maxHeartbeats 2000000 in
set_option maxRecDepth 100000 in
theorem bufLen_any : Calls Tryz.prog 252 #[.pointer (some ⟨b, 0, none⟩)] w fun e w' => e = .returned (.int .i64 l) ∧ ∃ q, w' = w.drewN q := by
  have c0 : w.cell? ⟨b, 0, none⟩ = some (.slice a l cap) := hb.cell 0
  have c1 : w.cell? ⟨b, 1, none⟩ = some (.int .i64 0) := hb.cell 1
  have f0 := hb.frozen 0
  have f1 := hb.frozen 1
  clear hb
  unfold maxLen at hcm
  have mixed : Tryz.prog.follows .mixedOrders = true := by kernel_rfl
  have hwl : IntKind.i64.wrap (l : Int) = l := by rw [IntKind.wrap_i64]; omega
  go_enter Tryz.func252, Tryz.ntmps252
  go_wp2
  go_region_o
  all_goals (go_wp2; go_ret; exact ⟨by simp [hwl], 1, rfl⟩)
end

set_option maxHeartbeats 2000000 in
set_option maxRecDepth 100000 in
/-- growSlice's deferred closure finds nothing to recover. -/
theorem catch_idle (w : World) : CallsD Tryz.prog 282 #[] .returning w fun e u' w' => e = .returned (.tuple #[]) ∧ u' = .returning ∧ w' = w := by
  have hnn : ∀ w, (binOp .neq 20 .nilIface .nilIface).run Tryz.prog w = .ok (.bool false) w := fun w => Lib.run_neq_nil_nil w Tryz.underlying20
  refine callsD_of_wpS Tryz.func282 rfl fun c₀ cs hu => ?_
  apply wpS_seq
  apply wpS_region
  simp [wpOpsS, go_sem, recoverD, hu, hnn, Tryz.ntmps282, Exit.thenS]
  refine wpS_cond (t := false) (by simp [Act.eval, Array.replicate]) ?_
  simp only [Bool.false_eq_true, if_false]
  refine wpS_of_wp (wp_skip ?_)
  cases c₀
  simp_all [bodyPostS, results, Tryz.results282]

set_option maxHeartbeats 6400000 in
set_option maxRecDepth 100000 in
/-- growSlice of a slice at the head of a block of whatever type: a new row of bytes, number 'w.heap.size', that begins with the slice's cells. -/
theorem growSlice_any (g l c n : Nat) (t : TypeId) (cur : Array Value) (w : World) (hg : Blk w g t cur) (hcs : cur.size = c) (hlc : l ≤ c) (hn : 1 ≤ n)
    (hlim : l + n ≤ 140737488355328) (hc2 : c ≤ 140737488355328) (h1 : ∀ v ∈ cur.toList.take l, v.oneCell' = true) :
    Calls Tryz.prog 254 #[.slice (some ⟨g, 0, none⟩) l c, .int .i64 n] w fun e w' => ∃ cap2 cells, e = .returned (.slice (some ⟨w.heap.size, 0, none⟩) l cap2) ∧ Blk w' w.heap.size 5 cells ∧
      cells.size = cap2 ∧ cells.toList.take l = cur.toList.take l ∧ l + n ≤ cap2 ∧ cap2 ≤ maxLen ∧ Below w.heap.size w w' := by
  obtain ⟨i0, hi, hz0, hz1, hz2⟩ := info_parts Tryz.info5
  have hsz1 : (Tryz.prog.info? 5).map (·.size) = some 1 := by rw [hi]; exact congrArg some hz1
  by_cases hC : l + n < 2 * c
  · have happ := Lib.run_append_nil_zeros (P := Tryz.prog) w 44 3 44 5 i0 (.int .u8 0) .i64 .i64 Tryz.underlying44 Tryz.underlying3 hi hz0 (2 * c) (by omega) (by omega) (by omega) (by rw [hz2]; omega)
    rw [show (((2 * c : Nat)) : Int) = 2 * (c : Int) by omega] at happ
    generalize hcap : grownCap w (2 * c) 0 5 = cap2 at happ
    have hcapge : 2 * c ≤ cap2 := by rw [← hcap]; exact grownCap_ge w _ 0 5
    have hcaple : cap2 ≤ maxLen := by rw [← hcap]; exact grownCap_le_maxLen w _ 0 5 (by unfold maxLen; omega)
    generalize hZ : (Builtin.zeroCells (Value.int .u8 0).cells (2 * c) ++ Builtin.zeroCells (Value.int .u8 0).cells (cap2 - (2 * c))) = Z at happ
    have hZs : Z.size = cap2 := by rw [← hZ]; simp [size_zeroCells, Value.cells]; omega
    clear hcap hZ
    have hg1 : (w.alloc (.cells Z 5)).drew.heap[g]? = some (.cells cur t (0, 0)) := (hg.alloc _).drew
    have hxl : (cur.toList.take l).length = l := by rw [List.length_take, Array.length_toList]; omega
    have hcopy := run_copy_row (P := Tryz.prog) (w.alloc (.cells Z 5)).drew 44 44 3 5 w.heap.size 0 (2 * c) cap2 ⟨g, 0, none⟩ l c Z 5 (cur.toList.take l) Tryz.underlying44 hsz1 (heap_alloc_new w _) (by rw [hxl]; exact (Nat.min_eq_left (by omega)).symm) (Lib.cells_of_row hg1 l) (by rw [hxl]; omega) h1
    rw [hxl] at hcopy
    generalize hY : (Z.toList.take 0 ++ cur.toList.take l ++ Z.toList.drop (0 + l)).toArray = Y at hcopy
    go_enter_defers Tryz.func254, Tryz.ntmps254
    go_wp2_with (at_builtin; refine Lib.wpList_append_run _ rfl _ _ _ _ rfl _ _ rfl rfl _ _ happ ?_)
    refine leaves_cons (f := 282) (args := #[]) (by simp) (enters_of Tryz.func282 (by kernel_rfl) rfl _ _) ?_
    refine (catch_idle _).mono ?_
    rintro e u' w'' ⟨rfl, rfl, rfl⟩
    refine ⟨_, results_tmp rfl _ _ _, ?_⟩
    have hYl : Y.toList = cur.toList.take l ++ Z.toList.drop l := by rw [← hY]; simp
    refine ⟨cap2, Y, rfl, setRow_heap _ _ Z Y 5 (0, 0) (heap_alloc_new w _), ?_, ?_, by omega, hcaple, ?_⟩
    · have : Y.toList.length = cap2 := by rw [hYl, List.length_append, hxl, List.length_drop, Array.length_toList, hZs]; omega
      simpa using this
    · rw [hYl, List.take_append_of_le_length (by rw [hxl]; exact Nat.le_refl _), List.take_of_length_le (by rw [hxl]; exact Nat.le_refl _)]
    · exact ⟨rfl, rfl, rfl, by simp, fun k hk => by rw [setRow_other _ _ _ _ (by omega)]; exact Below.heap_alloc w _ k hk⟩
  · have happ := Lib.run_append_nil_zeros (P := Tryz.prog) w 44 3 44 5 i0 (.int .u8 0) .i64 .i64 Tryz.underlying44 Tryz.underlying3 hi hz0 (l + n) (by omega) (by omega) (by omega) (by rw [hz2]; omega)
    rw [show (((l + n : Nat)) : Int) = (l : Int) + (n : Int) by omega] at happ
    generalize hcap : grownCap w (l + n) 0 5 = cap2 at happ
    have hcapge : l + n ≤ cap2 := by rw [← hcap]; exact grownCap_ge w _ 0 5
    have hcaple : cap2 ≤ maxLen := by rw [← hcap]; exact grownCap_le_maxLen w _ 0 5 (by unfold maxLen; omega)
    generalize hZ : (Builtin.zeroCells (Value.int .u8 0).cells (l + n) ++ Builtin.zeroCells (Value.int .u8 0).cells (cap2 - (l + n))) = Z at happ
    have hZs : Z.size = cap2 := by rw [← hZ]; simp [size_zeroCells, Value.cells]; omega
    clear hcap hZ
    have hg1 : (w.alloc (.cells Z 5)).drew.heap[g]? = some (.cells cur t (0, 0)) := (hg.alloc _).drew
    have hxl : (cur.toList.take l).length = l := by rw [List.length_take, Array.length_toList]; omega
    have hcopy := run_copy_row (P := Tryz.prog) (w.alloc (.cells Z 5)).drew 44 44 3 5 w.heap.size 0 (l + n) cap2 ⟨g, 0, none⟩ l c Z 5 (cur.toList.take l) Tryz.underlying44 hsz1 (heap_alloc_new w _) (by rw [hxl]; exact (Nat.min_eq_left (by omega)).symm) (Lib.cells_of_row hg1 l) (by rw [hxl]; omega) h1
    rw [hxl] at hcopy
    generalize hY : (Z.toList.take 0 ++ cur.toList.take l ++ Z.toList.drop (0 + l)).toArray = Y at hcopy
    go_enter_defers Tryz.func254, Tryz.ntmps254
    go_wp2_with (at_builtin; refine Lib.wpList_append_run _ rfl _ _ _ _ rfl _ _ rfl rfl _ _ happ ?_)
    refine leaves_cons (f := 282) (args := #[]) (by simp) (enters_of Tryz.func282 (by kernel_rfl) rfl _ _) ?_
    refine (catch_idle _).mono ?_
    rintro e u' w'' ⟨rfl, rfl, rfl⟩
    refine ⟨_, results_tmp rfl _ _ _, ?_⟩
    have hYl : Y.toList = cur.toList.take l ++ Z.toList.drop l := by rw [← hY]; simp
    refine ⟨cap2, Y, rfl, setRow_heap _ _ Z Y 5 (0, 0) (heap_alloc_new w _), ?_, ?_, by omega, hcaple, ?_⟩
    · have : Y.toList.length = cap2 := by rw [hYl, List.length_append, hxl, List.length_drop, Array.length_toList, hZs]; omega
      simpa using this
    · rw [hYl, List.take_append_of_le_length (by rw [hxl]; exact Nat.le_refl _), List.take_of_length_le (by rw [hxl]; exact Nat.le_refl _)]
    · exact ⟨rfl, rfl, rfl, by simp, fun k hk => by rw [setRow_other _ _ _ _ (by omega)]; exact Below.heap_alloc w _ k hk⟩
end Go.Proofs.YtbkookiigkckdaaGreatDoor

