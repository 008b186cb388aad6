/- append onto a row of the call's own, from whatever source (a slice, nil, a string), with the place of the new row; and copies. Nothing of the program. -/
import Derived.Test.YtbkookiigkckdaaGreatDoorBase
namespace Go.Proofs.YtbkookiigkckdaaGreatDoor
open Go.RowKit
set_option linter.unusedVariables false
set_option linter.unusedSimpArgs false

def setAll (cs : Array Value) : Nat → List Value → Array Value
  | _, [] => cs
  | o, v :: r => setAll (cs.setIfInBounds o v) (o + 1) r

theorem setCells_blk {t : TypeId} {g : Nat} : ∀ (vs : List Value) (o : Nat) (w : World) (cs : Array Value), Blk w g t cs → Blk (w.setCells g o vs) g t (setAll cs o vs)
  | [], _, _, _, h => h
  | v :: r, o, w, cs, h => setCells_blk r (o + 1) _ _ (h.set_ o v)

theorem setAll_toList : ∀ (vs : List Value) (o : Nat) (cs : Array Value), o + vs.length ≤ cs.size → (setAll cs o vs).toList = cs.toList.take o ++ vs ++ cs.toList.drop (o + vs.length)
  | [], o, cs, _ => by simp [setAll]
  | v :: r, o, cs, h => by
    rw [setAll, setAll_toList r (o + 1) _ (by simp at h ⊢; omega)]
    simp only [Array.toList_setIfInBounds, List.length_cons] at h ⊢
    have hl : cs.toList.length = cs.size := by simp
    generalize cs.toList = l at hl ⊢
    rw [← hl] at h
    clear hl
    apply List.ext_getElem?
    intro i
    simp only [List.append_assoc, List.getElem?_append, List.length_take, List.length_set, List.getElem?_take, List.getElem?_drop, List.getElem?_set, List.cons_append, List.getElem?_cons, List.length_cons]
    rw [show min (o + 1) l.length = o + 1 by omega, show min o l.length = o by omega]
    repeat' split
    all_goals first
      | rfl
      | (exfalso; omega)
      | (congr 1; omega)

theorem setAll_size : ∀ (vs : List Value) (o : Nat) (cs : Array Value), (setAll cs o vs).size = cs.size
  | [], _, _ => rfl
  | v :: r, o, cs => by rw [setAll, setAll_size r]; simp

theorem heap_size_setCells (b : Nat) : ∀ (vs : List Value) (o : Nat) (w : World), (w.setCells b o vs).heap.size = w.heap.size
  | [], _, _ => rfl
  | v :: r, o, w => by rw [World.setCells, heap_size_setCells b r]; simp [World.setCell]

theorem setCells_os (b : Nat) : ∀ (vs : List Value) (o : Nat) (w : World), (w.setCells b o vs).os = w.os ∧ (w.setCells b o vs).tape = w.tape ∧ (w.setCells b o vs).output = w.output
  | [], _, _ => ⟨rfl, rfl, rfl⟩
  | v :: r, o, w => by rw [World.setCells]; obtain ⟨h1, h2, h3⟩ := setCells_os b r (o + 1) (w.setCell ⟨b, o, none⟩ v); exact ⟨h1, h2, h3⟩

theorem Fr.setCells {S : Nat → Prop} {w w' : World} (h : Fr S w w') {b : Nat} (hp : S b ∨ w.heap.size ≤ b) (o : Nat) (vs : List Value) : Fr S w (w'.setCells b o vs) :=
  h.trans (S' := fun k => k = b) ⟨(setCells_os b vs o w').1, (setCells_os b vs o w').2.1, (setCells_os b vs o w').2.2, by rw [heap_size_setCells]; exact Nat.le_refl _, fun k _ hn => heap_setCells b vs o w' k hn⟩ (fun k hk s => by subst s; rcases hp with hp | hp; exact hp; omega)

theorem grownBy_setCells {w : World} (b : Nat) (o : Nat) (vs : List Value) : w.grownBy (w.setCells b o vs) (some b) :=
  ⟨(setCells_os b vs o w).1, (setCells_os b vs o w).2.1, (setCells_os b vs o w).2.2, by rw [heap_size_setCells]; exact Nat.le_refl _, fun k _ hn => heap_setCells b vs o w k (by simpa using hn)⟩

section
variable {P : Program} (w : World)

/-- append onto a row of the call's own, from whatever source: what comes of it, and where the new row lies. -/
theorem run_append_src (base : Nat) (t tx ty e : TypeId) (i : TypeInfo) (z : Value) (size bytes : Nat) (ht : P.underlying t = some (.slice e)) (hi : P.info? e = some i) (hz : i.zero = some z)
    (hsize : i.size = size) (hby : i.bytes = bytes) (hzs : z.cells.size = size) (hsz : 0 < size)
    (v : Value) (n : Nat) (xs : List Value) (hown : w.ownsRow base e size v n xs)
    (x : Value) (m : Nat) (news : List Value) (hs : Src P size tx x m news w)
    (h63 : n + m ≤ maxLen) (hbytes : (n + m) * bytes ≤ 140737488355328) (hbase : base ≤ w.heap.size) :
    ∃ v' w', (Builtin.append_ #[t, tx] ty #[v, x]).run P w = .ok v' w' ∧ w'.ownsRow base e size v' (n + m) (xs ++ news) ∧ w.grownBy w' v.ownBlock ∧
      (v'.ownBlock = v.ownBlock ∨ v'.ownBlock = some w.heap.size) := by
  subst hsize
  subst hby
  have hsmall : ((n + m : Nat) : Int) ≤ 9223372036854775807 := by simp only [maxLen] at h63; omega
  have hlen : (xs ++ news).length = (n + m) * i.size := by rw [List.length_append, hown.1, hs.newsLen, Nat.add_mul]
  have grow : ∀ (ao : Option Addr) (cap : Nat) (row : Option Nat), v = .slice ao n cap → cap < n + m → (Builtin.firstCells i.size n (.slice ao n cap)).run P w.drew = .ok xs.toArray w.drew →
      ∃ v' w', (Builtin.append_ #[t, tx] ty #[v, x]).run P w = .ok v' w' ∧ w'.ownsRow base e i.size v' (n + m) (xs ++ news) ∧ w.grownBy w' row ∧ v'.ownBlock = some w.heap.size := by
    intro ao cap row hv hcap hold
    subst hv
    have hr := run_append_grow_src w t tx ty e i z ht hi hz ao n cap xs hold x m news hs hcap hsmall (growslice_fits hcap hbytes)
    have hcm : grownCap w (n + m) cap e ≤ maxLen := grownCap_le_maxLen w (n + m) cap e h63
    have hge := grownCap_ge w (n + m) cap e
    have hzc : (Builtin.zeroCells z.cells (grownCap w (n + m) cap e - (n + m))).size = (grownCap w (n + m) cap e - (n + m)) * i.size := by rw [size_zeroCells, hzs]
    refine ⟨_, _, hr, ⟨hlen, .inr ⟨w.heap.size, _, _, rfl, hbase, heap_alloc_new w.drew _, hge, hcm, ?_, ?_⟩⟩, ?_, rfl⟩
    · rw [Array.size_append, hzc, List.size_toArray, hlen, ← Nat.add_mul]
      congr 1
      omega
    · rw [Array.toList_append, List.take_append_of_le_length (by simp [hlen])]
      rw [← hlen]
      exact List.take_length
    · exact ⟨rfl, rfl, rfl, by simp, fun k hk _ => Below.heap_alloc w.drew _ k hk⟩
  rcases hown.2 with ⟨rfl, rfl⟩ | ⟨g, cap, cur, rfl, hbg, hg, hncap, hcapm, hcs, htake⟩
  · have hxs : xs = [] := List.eq_nil_of_length_eq_zero (by simpa using hown.1)
    subst hxs
    rcases Nat.eq_zero_or_pos m with hm | hm
    · subst hm
      have hn : news = [] := List.eq_nil_of_length_eq_zero (by simpa using hs.newsLen)
      subst hn
      refine ⟨.slice none 0 0, w, ?_, by simpa using hown, World.grownBy.refl w _, .inl rfl⟩
      have hc := hs.cells
      rcases hs.kind with ⟨e', hk⟩ | hk <;> simp [Builtin.append_, run_underlying ht, run_underlying hk, sizeOf, typeInfo, hi, hs.len, hc, storeCells]
    · obtain ⟨v', w', h1, h2, h3, h4⟩ := grow none 0 none rfl (by omega) (by exact run_firstCells_none w.drew i.size 0 0 0)
      exact ⟨v', w', h1, h2, h3, .inr h4⟩
  · by_cases hroom : n + m ≤ cap
    · have hfit : n * i.size + news.length ≤ cur.size := by
        rw [hcs, hs.newsLen, ← Nat.add_mul]
        exact Nat.mul_le_mul_right _ hroom
      have hb : Blk w g e cur := hg
      have hr := run_append_room_src w t tx ty e i ht hi g 0 n cap x m news hs hroom
        (fun j hj => by rw [hb.cell, Array.getElem?_eq_getElem (by omega)]; rfl) (fun j _ => hb.frozen _)
      simp only [Nat.zero_add] at hr
      refine ⟨_, _, hr, ⟨hlen, .inr ⟨g, cap, setAll cur (n * i.size) news, rfl, hbg, setCells_blk news (n * i.size) w cur hb, hroom, hcapm, by rw [setAll_size, hcs], ?_⟩⟩, grownBy_setCells g _ _, .inl rfl⟩
      rw [setAll_toList _ _ _ hfit, htake, List.take_append_of_le_length (by rw [hlen]; exact Nat.le_refl _), ← hlen, List.take_length]
    · have hcells := hown.cells (g := g) rfl
      obtain ⟨v', w', h1, h2, h3, h4⟩ := grow (some ⟨g, 0, none⟩) cap (some g) rfl (by omega) (run_firstCells_some w.drew i.size n ⟨g, 0, none⟩ n cap xs hown.1 (by simpa using hcells))
      exact ⟨v', w', h1, h2, h3, .inr h4⟩

theorem wp_append_src {o : Oper} {a : Act} {K : Act → World → Prop} {Q : Exit → Act → World → Prop} (s x : Operand) (t tx : TypeId)
    (ho : o.op = .call { callee := .builtin .append, args := #[s, x], argTypes := #[t, tx] })
    (base : Nat) (e : TypeId) (i : TypeInfo) (z : Value) (size bytes : Nat) (ht : P.underlying t = some (.slice e)) (hi : P.info? e = some i) (hz : i.zero = some z)
    (hsize : i.size = size) (hby : i.bytes = bytes) (hzs : z.cells.size = size) (hsz : 0 < size)
    (v : Value) (n : Nat) (xs : List Value) (hs : a.eval s = v) (hown : w.ownsRow base e size v n xs)
    (y : Value) (m : Nat) (news : List Value) (hx : a.eval x = y) (hr : Src P size tx y m news w)
    (h63 : n + m ≤ maxLen) (hbytes : (n + m) * bytes ≤ 140737488355328) (hbase : base ≤ w.heap.size)
    (h : ∀ v' w', w'.ownsRow base e size v' (n + m) (xs ++ news) → w.grownBy w' v.ownBlock → (v'.ownBlock = v.ownBlock ∨ v'.ownBlock = some w.heap.size) → K (a.put o.dst v') w') : o.wp P a w K Q := by
  obtain ⟨v', w', hrun, h2, h3, h4⟩ := run_append_src (P := P) w base t tx o.type e i z size bytes ht hi hz hsize hby hzs hsz v n xs hown y m news hr h63 hbytes hbase
  unfold Oper.wp execOp
  simp only [ho, resolve, invoke, builtin, Sem.run_bind, Sem.run_pure, Result.andThen_ok, List.map_toArray, List.map_cons, List.map_nil, hs, hx, hrun]
  exact h v' w' h2 h3 h4

theorem wpList_append_src {ops : Array Oper} {rest : List Oper} {o : Oper} {a : Act} {Q : Exit → Act → World → Prop} (hgd : o.guard = none) (s x : Operand) (t tx : TypeId)
    (ho : o.op = .call { callee := .builtin .append, args := #[s, x], argTypes := #[t, tx] })
    (base : Nat) (e : TypeId) (i : TypeInfo) (z : Value) (size bytes : Nat) (ht : P.underlying t = some (.slice e)) (hi : P.info? e = some i) (hz : i.zero = some z)
    (hsize : i.size = size) (hby : i.bytes = bytes) (hzs : z.cells.size = size) (hsz : 0 < size)
    (v : Value) (n : Nat) (xs : List Value) (hs : a.eval s = v) (hown : w.ownsRow base e size v n xs)
    (y : Value) (m : Nat) (news : List Value) (hx : a.eval x = y) (hr : Src P size tx y m news w)
    (h63 : n + m ≤ maxLen) (hbytes : (n + m) * bytes ≤ 140737488355328) (hbase : base ≤ w.heap.size)
    (h : ∀ v' w', w'.ownsRow base e size v' (n + m) (xs ++ news) → w.grownBy w' v.ownBlock → (v'.ownBlock = v.ownBlock ∨ v'.ownBlock = some w.heap.size) → wpList P ops Q rest (a.put o.dst v') w') : wpList P ops Q (o :: rest) a w :=
  wpList_plain hgd fun _ hK => wp_append_src w s x t tx ho base e i z size bytes ht hi hz hsize hby hzs hsz v n xs hs hown y m news hx hr h63 hbytes hbase fun v' w' h2 h3 h4 => hK _ _ (h v' w' h2 h3 h4)

theorem step_append_src {ops : Array Oper} {o : Oper} {a : Act} {K : Act → World → Prop} {Q : Exit → Act → World → Prop} {E : Prop} (hgd : o.guard = none) (s x : Operand) (t tx : TypeId)
    (ho : o.op = .call { callee := .builtin .append, args := #[s, x], argTypes := #[t, tx] })
    (base : Nat) (e : TypeId) (i : TypeInfo) (z : Value) (size bytes : Nat) (ht : P.underlying t = some (.slice e)) (hi : P.info? e = some i) (hz : i.zero = some z)
    (hsize : i.size = size) (hby : i.bytes = bytes) (hzs : z.cells.size = size) (hsz : 0 < size)
    (v : Value) (n : Nat) (xs : List Value) (hs : a.eval s = v) (hown : w.ownsRow base e size v n xs)
    (y : Value) (m : Nat) (news : List Value) (hx : a.eval x = y) (hr : Src P size tx y m news w)
    (h63 : n + m ≤ maxLen) (hbytes : (n + m) * bytes ≤ 140737488355328) (hbase : base ≤ w.heap.size)
    (h : ∀ v' w', w'.ownsRow base e size v' (n + m) (xs ++ news) → w.grownBy w' v.ownBlock → (v'.ownBlock = v.ownBlock ∨ v'.ownBlock = some w.heap.size) → K (a.put o.dst v') w') :
    if Region.wanted o (yielded ops a.tmps) = true then Oper.wp P o a w K Q else E := by
  have hw : Region.wanted o (yielded ops a.tmps) = true := by simp [Region.wanted, hgd]
  rw [if_pos hw]
  exact wp_append_src w s x t tx ho base e i z size bytes ht hi hz hsize hby hzs hsz v n xs hs hown y m news hx hr h63 hbytes hbase h
end

theorem own_slice {w : World} {base : Nat} {e : TypeId} {size n : Nat} {v : Value} {xs : List Value} (h : w.ownsRow base e size v n xs) : ∃ a m c, v = .slice a m c := by
  rcases h.2 with ⟨rfl, _⟩ | ⟨g', cap, cur, rfl, _⟩
  · exact ⟨_, _, _, rfl⟩
  · exact ⟨_, _, _, rfl⟩

end Go.Proofs.YtbkookiigkckdaaGreatDoor
