/- Merged. -/
import Derived.Test.YtbkookiigkckdaaGreatDoorKD16
import Derived.Deep.DeepCutAuto
set_option linter.unusedVariables false
set_option linter.unusedSimpArgs false
set_option maxRecDepth 100000
set_option maxHeartbeats 8000000
namespace Go.Proofs.YtbkookiigkckdaaGreatDoor
open Go.RowKit Go.Proofs.Tryz
def gN {α : Type} (f : St -> α × St) : Nat -> St -> List α × St
 | 0, st => ([], st)
 | n + 1, st => ((f st).1 :: (gN f n (f st).2).1, (gN f n (f st).2).2)
def gSp (st : St) : (Int × Nat) × St := ((wrap32 (zaJ st).1, (gUv (zaJ st).2).1 % 4294967296), (gUv (zaJ st).2).2)
theorem zcL {α : Type} (f : St -> α × St) : ∀ (n : Nat) (st : St), (gN f n st).1.length = n
 | 0, st => rfl
 | n + 1, st => by simp [gN, zcL f n]
structure Rw where
 e : TypeId
 z : Nat
 v : Value
 n : Nat
 xs : List Value
def Rows (base : Nat) (W : World) : List Rw -> Prop
 | [] => True
 | x :: L => W.ownsRow base x.e x.z x.v x.n x.xs /\ (∀ y ∈ L, ∀ k, x.v.ownBlock = some k -> y.v.ownBlock ≠ some k) /\ Rows base W L
theorem Rows.fr {S : Nat -> Prop} {base : Nat} {W W' : World} (hf : Fr S W W') (hs : ∀ k, base <= k -> ¬ S k) : ∀ {L : List Rw}, Rows base W L -> Rows base W' L
 | [], _ => trivial
 | x :: L, ⟨h1, h2, h3⟩ => ⟨zai h1 hf (fun g hg => hs g (h1.lt g hg).1), h2, Rows.fr hf hs h3⟩
theorem Rows.lt {base : Nat} {W : World} : ∀ {L : List Rw}, Rows base W L -> ∀ y ∈ L, ∀ k, y.v.ownBlock = some k -> base <= k /\ k < W.heap.size
 | x :: L, ⟨h1, h2, h3⟩, y, hy, k, hk => by
   rcases zmV.1 hy with rfl | hy
   ·exact h1.lt k hk
   ·exact Rows.lt h3 y hy k hk
theorem own_set {W : World} {base e size n m c o : Nat} {xs : List Value} (h : W.ownsRow base e size (.slice (some ⟨m, 0, none⟩) n c) n xs) (u : Value) : (W.setCell ⟨m, o, none⟩ u).ownsRow base e size (.slice (some ⟨m, 0, none⟩) n c) n (xs.set o u) := by
 refine ⟨by rw [List.length_set]; exact h.1, ?_⟩; rcases h.2 with ⟨h0, _⟩ | ⟨g, aK, cur, h1, hb, hg, h2, h3, h4, h5⟩
 ·cases h0
 ·injection h1 with e1 e2 e3
  injection e1 with e1; injection e1 with e1; subst e1; subst e3; refine .inr ⟨m, c, cur.setIfInBounds o u, rfl, hb, ?_, h2, h3, by simpa using h4, ?_⟩
  ·exact Blk.set_ (w := W) (g := m) (t := e) (cs := cur) hg o u
  ·rw [Array.toList_setIfInBounds, List.take_set, h5]
theorem zcn {W : World} {base e size n m c o : Nat} {xs : List Value} {u : Value} (h : W.ownsRow base e size (.slice (some ⟨m, 0, none⟩) n c) n xs) (hx : xs[o]? = some u) : W.cell? ⟨m, o, none⟩ = some u := by
 rcases h.2 with ⟨h0, _⟩ | ⟨g, aK, cur, h1, hb, hg, h2, h3, h4, h5⟩
 ·cases h0
 ·injection h1 with e1 e2 e3
  injection e1 with e1; injection e1 with e1; subst e1; have hb2 : Blk W m e cur := hg; rw [hb2.cell]; rw [<- h5, List.getElem?_take] at hx; split at hx
  ·simpa using hx
  ·cases hx
theorem zcm {W : World} {base e size n m c : Nat} {xs : List Value} (h : W.ownsRow base e size (.slice (some ⟨m, 0, none⟩) n c) n xs) (o : Nat) : W.frozen? ⟨m, o, none⟩ = false := by
 rcases h.2 with ⟨h0, _⟩ | ⟨g, aK, cur, h1, hb, hg, h2, h3, h4, h5⟩
 ·cases h0
 ·injection h1 with e1 e2 e3
  injection e1 with e1; injection e1 with e1; subst e1; exact Blk.frozen (w := W) (t := e) (cs := cur) hg o
theorem ziK {W : World} {base e size n : Nat} {v : Value} {xs : List Value} (h : W.ownsRow base e size v n xs) (hn : 0 < n) : ∃ m c, v = .slice (some ⟨m, 0, none⟩) n c /\ base <= m /\ n <= c := by
 rcases h.2 with ⟨_, h0⟩ | ⟨g, aK, cur, h1, hb, hg, h2, h3, h4, h5⟩
 ·omega
 ·exact ⟨g, aK, h1, hb, h2⟩
def DH (te : TypeId) (pe : Value) (d g0 : Nat) (cur : Array Value) (g t : Nat) (w W : World) (st : St) (cs : Array Value) (L : List Rw) : Prop :=
 Dec te pe W d g0 cur st /\ Blk W g t cs /\ Rows w.heap.size W L /\ Fr (fun k => k = d ∨ k = g) w W /\ (2 < w.heap.size /\ g < w.heap.size /\ d < w.heap.size /\ g0 < w.heap.size /\ g ≠ d /\ g ≠ g0 /\ g ≠ 2)
section
variable {te : TypeId} {pe : Value} {d g0 g t : Nat} {cur : Array Value} {w W W' : World} {st st' : St} {cs : Array Value} {L : List Rw}
theorem DH.call (h : DH te pe d g0 cur g t w W st cs L) (hd : Dec te pe W' d g0 cur st') (hf : Fr (fun k => k = d) W W') : DH te pe d g0 cur g t w W' st' cs L := by
 obtain ⟨_, h2, h3, h4, h5⟩ := h; exact ⟨hd, h2.fr hf (by omega), h3.fr hf (fun k hk => by omega), h4.trans hf (fun k hk e => .inl e), h5⟩
theorem DH.fr0 (h : DH te pe d g0 cur g t w W st cs L) (hf : z_F W W') : DH te pe d g0 cur g t w W' st cs L := by
 obtain ⟨h1, h2, h3, h4, h5⟩ := h; exact ⟨h1.fr hf id id id, h2.fr hf id, h3.fr hf z_i, h4.trans hf (fun k hk e => e.elim), h5⟩
theorem DH.set (h : DH te pe d g0 cur g t w W st cs L) (i : Nat) (u : Value) : DH te pe d g0 cur g t w (W.setCell ⟨g, i, none⟩ u) st (cs.setIfInBounds i u) L := by
 obtain ⟨h1, h2, h3, h4, h5⟩ := h; have hf : Fr (fun k => k = g) W (W.setCell ⟨g, i, none⟩ u) := Fr.put_ W g i u; exact ⟨h1.fr hf (by omega) (by omega) (by omega), h2.set_ i u, h3.fr hf (fun k hk => by omega), h4.trans hf (fun k hk e => .inr e), h5⟩
theorem DH.put {e z m n c o : Nat} {xs : List Value} (h : DH te pe d g0 cur g t w W st cs (⟨e, z, .slice (some ⟨m, 0, none⟩) n c, n, xs⟩ :: L)) (u : Value) : DH te pe d g0 cur g t w (W.setCell ⟨m, o, none⟩ u) st cs (⟨e, z, .slice (some ⟨m, 0, none⟩) n c, n, xs.set o u⟩ :: L) := by
 obtain ⟨h1, h2, ⟨h3, h6, h7⟩, h4, h5⟩ := h; have hm := h3.lt m rfl; have hf : Fr (fun k => k = m) W (W.setCell ⟨m, o, none⟩ u) := Fr.put_ W m o u; have h8 : ∀ {L' : List Rw}, (∀ y ∈ L', y.v.ownBlock ≠ some m) -> Rows w.heap.size W L' -> Rows w.heap.size (W.setCell ⟨m, o, none⟩ u) L' := by
  intro L'; induction L' with
  | nil => intro _ _; trivial
  | cons x L' ih =>
    rintro hx ⟨a1, a2, a3⟩; exact ⟨zai a1 hf (fun k hk e => hx x (zna ..) (by rw [hk, e])), a2, ih (fun y hy => hx y (zng _ hy)) a3⟩
 exact ⟨h1.fr hf (by omega) (by omega) (by omega), h2.fr hf (by omega), ⟨own_set h3 u, h6, h8 (fun y hy => h6 y hy m rfl) h7⟩, h4.trans hf (fun k hk e => by omega), h5⟩
theorem DH.none_ (h : DH te pe d g0 cur g t w W st cs L) (e z : Nat) : DH te pe d g0 cur g t w W st cs (⟨e, z, .slice none 0 0, 0, []⟩ :: L) := by
 obtain ⟨h1, h2, h3, h4, h5⟩ := h; exact ⟨h1, h2, ⟨zmv _ _ _ _, (fun y hy k hk => by cases hk), h3⟩, h4, h5⟩
theorem DH.make {α : Type} {f : α -> List Value} {zr : α} {Z : Array Value} {e z n : Nat} (h : DH te pe d g0 cur g t w W st cs L) (hZ : Z.toList = (List.replicate n zr).flatMap f) (hl : Z.size = n * z) (hn : n <= maxLen) :
 DH te pe d g0 cur g t w (W.alloc (.cells Z e)) st cs (⟨e, z, .slice (some ⟨W.heap.size, 0, none⟩) n n, n, (List.replicate n zr).flatMap f⟩ :: L) := by
 have h0 := h.fr0 ((znl (fun _ => False) W).alloc (.cells Z e)); have hr : Rows w.heap.size W L := h.2.2.1; obtain ⟨h1, h2, h3, h4, h5⟩ := h0; have bD : w.heap.size <= W.heap.size := h.2.2.2.1.size; refine ⟨h1, h2, ⟨⟨?_, .inr ⟨W.heap.size, n, Z, rfl, bD, heap_alloc_new W _, zmt _, hn, hl, ?_⟩⟩, fun y hy k hk e => ?_, h3⟩, h4, h5⟩
 ·show ((List.replicate n zr).flatMap f).length = n * z
  rw [<- hZ, Array.length_toList, hl]
 ·show Z.toList.take (n * z) = (List.replicate n zr).flatMap f
  rw [hZ, zmq]; rw [<- hZ, Array.length_toList, hl]; exact zmt _
 ·have e1 : W.heap.size = k := by simpa [Value.ownBlock] using hk
  have := (hr.lt y hy k e).2; omega
end
theorem zc3 {α : Type} (f : α -> List Value) (zr : α) (zc : Array Value) (z : Nat) (hz : zc.toList = f zr) (hs : zc.size = z) (h0 : 0 < z) (hf : ∀ x, (f x).length = z) (n : Nat) : (madeCells zc (n * z)).toList = (List.replicate n zr).flatMap f := by
 have ai : ((List.replicate n zr).flatMap f).length = n * z := by
  rw [List.length_flatMap]; simp [hf]
 apply List.ext_getElem?; intro k; rcases zmK k (n * z) with hk | hk
 ·have hq : k / z < n := Nat.div_lt_of_lt_mul (by rw [Nat.mul_comm]; exact hk)
  have hr := Nat.mod_lt k h0; have e1 : k / z * z + k % z = k := by rw [Nat.mul_comm]; exact Nat.div_add_mod k z
  have h2 := zgE z f hf (List.replicate n zr) (k / z) zr (by simp [hq]) (k % z) hr; rw [e1] at h2; rw [h2, <- hz]; simp [madeCells, hk, hs, hr]
 ·rw [zmL (by simpa [madeCells] using hk), zmL (by rw [ai]; exact hk)]
theorem zfy {α : Type} (f : α -> List Value) (z : Nat) (hf : ∀ x, (f x).length = z) : ∀ l : List α, (l.flatMap f).length = l.length * z
 | [] => by simp
 | x :: l => by rw [zmw, zmi, hf, zfy f z hf l, zmz, Nat.succ_mul, Nat.add_comm]
theorem flat_set {α : Type} (f : α -> List Value) (z : Nat) (hf : ∀ x, (f x).length = z) (acc r : List α) (x y : α) (k j o : Nat) (hk : acc.length = k) (ho : o = k * z + j) (hj : j < z) (u : Value) (hy : f y = (f x).set j u) :
 ((acc ++ x :: r).flatMap f).set o u = (acc ++ y :: r).flatMap f := by
 have hl : (acc.flatMap f).length = k * z := by rw [zfy f z hf, hk]
 subst ho; rw [zmQ, zmQ, zmw, zmw, List.set_append_right _ _ (by rw [hl]; omega), hl, Nat.add_sub_cancel_left, List.set_append_left _ _ (by rw [hf]; exact hj), hy]
theorem zcT {α : Type} (f : α -> List Value) (z : Nat) (hf : ∀ x, (f x).length = z) (acc r : List α) (x : α) (k j o : Nat) (hk : acc.length = k) (ho : o = k * z + j) (hj : j < z) : ((acc ++ x :: r).flatMap f)[o]? = (f x)[j]? := by
 subst ho; exact zgE z f hf _ k x (by rw [<- hk]; simp) j hj
theorem rep_step {α : Type} (acc : List α) (zr : α) (n k : Nat) (h : k < n) : acc ++ List.replicate (n - k) zr = acc ++ zr :: List.replicate (n - (k + 1)) zr := by
 have : n - k = (n - (k + 1)) + 1 := by omega
 rw [this, List.replicate_succ]
section
variable {te : TypeId} {pe : Value} {d g0 g t e z n k m c o : Nat} {cur : Array Value} {w W W' : World} {st S : St} {cs : Array Value} {L : List Rw} {v u : Value} {α : Type} {f : α -> List Value} {zr x y : α} {acc rest r nm : List α}
theorem DH.row {xs : List Value} (h : DH te pe d g0 cur g t w W st cs (⟨e, z, v, n, xs⟩ :: L)) : W.ownsRow w.heap.size e z v n xs := h.2.2.1.1
theorem DH.rep (h : DH te pe d g0 cur g t w W st cs (⟨e, z, v, n, (acc ++ List.replicate (n - k) zr).flatMap f⟩ :: L)) (hlt : k < n) : DH te pe d g0 cur g t w W.drew st cs (⟨e, z, v, n, (acc ++ zr :: List.replicate (n - (k + 1)) zr).flatMap f⟩ :: L) := by
 rw [rep_step acc zr n k hlt] at h; exact h.fr0 (znl (fun _ => False) W).drew
theorem DH.pt (h : DH te pe d g0 cur g t w W st cs (⟨e, z, .slice (some ⟨m, 0, none⟩) n c, n, (acc ++ x :: r).flatMap f⟩ :: L)) (hW : W.setCell ⟨m, o, none⟩ u = W') (hf : ∀ x, (f x).length = z) (hk : acc.length = k) (j : Nat) (ho : o = k * z + j) (hj : j < z) (hy : f y = (f x).set j u) :
 DH te pe d g0 cur g t w W' st cs (⟨e, z, .slice (some ⟨m, 0, none⟩) n c, n, (acc ++ y :: r).flatMap f⟩ :: L) := by
 subst hW; have h2 := h.put (o := o) u
 rwa [flat_set f z hf acc r x y k j o hk ho hj u hy] at h2
theorem DH.fin {gf : St -> α × St} (h : DH te pe d g0 cur g t w W st cs (⟨e, z, v, n, (acc ++ List.replicate (n - k) zr).flatMap f⟩ :: L)) (ha : acc.length = k /\ gN gf (n - k) st = (rest, S) /\ acc ++ rest = nm) (ez : k = n) (hl : nm.length = n) :
 DH te pe d g0 cur g t w W S cs (⟨e, z, v, nm.length, nm.flatMap f⟩ :: L) := by
 obtain ⟨_, h2, h3⟩ := ha; subst ez; rw [Nat.sub_self] at h2 h; have e1 : st = S := zm7 Prod.snd h2; have e2 : ([] : List α) = rest := zm7 Prod.fst h2; rw [<- e2, zmD] at h3; subst e1 h3; rw [List.replicate_zero, zmD] at h; rw [hl]; exact h
end
abbrev DQ (te : TypeId) (pe : Value) (d g0 : Nat) (cur : Array Value) (f : FuncId) (S : St) (v : Value) (T : St) : Prop := ∀ W, Dec te pe W d g0 cur S -> Calls prog f #[.pointer (some ⟨d, 0, none⟩)] W (zb0 te pe W d g0 cur v T)
abbrev rwS (A : Option Addr) (n c : Nat) (l : List (Int × Nat)) : Rw := ⟨361, 2, .slice A n c, l.length, l.flatMap spc⟩
abbrev rwI (A : Option Addr) (n c : Nat) (l : List Int) : Rw := ⟨2, 1, .slice A n c, l.length, l.flatMap i1⟩
abbrev rwF (A : Option Addr) (n c : Nat) (l : List Nat) : Rw := ⟨135, 1, .slice A n c, l.length, l.flatMap f1⟩
abbrev cW (b : Nat) (x1 : Int) (x2 x3 x4 x5 : Nat) (v1 v2 v3 v4 v5 : Value) : Array Value := #[(.int .u8 (b : Int)), (.int .i32 (wrap32 x1)), (.float .f64 x2), (.int .u64 (x3 : Int)), (.int .u64 (x4 : Int)), (.float .f64 x5), v1, v2, v3, v4, v5]
abbrev cF (b : Nat) (x1 : Int) (x2 x3 x4 x5 : Nat) (v1 v2 v3 v4 v5 : Value) : Array Value := #[(.int .u8 (b : Int)), (.int .i32 (wrap32 x1)), (.float .f64 x2), (.float .f64 x3), (.float .f64 x4), (.float .f64 x5), v1, v2, v3, v4, v5]
theorem zed {n : Nat} (h : n <= 1000) : i64 n = (n : Int) := by unfold i64 wrap64; omega
theorem zdo : prog.underlying 286 = some (.slice 135) := by kernel_rfl
theorem zer : prog.underlying 285 = some (.slice 361) := by kernel_rfl
theorem zes : prog.underlying 189 = some (.slice 2) := by kernel_rfl
theorem zeE (P : Program) (t e : TypeId) (zc : Array Value) (z bytes : Nat) (i : TypeInfo) (zv : Value) (ht : P.underlying t = some (.slice e)) (hi : P.info? e = some i) (hz : i.zero = some zv) (hs : i.size = z) (hb : i.bytes = bytes) (hc : zv.cells = zc) (hb2 : bytes <= 64) (n : Nat) (hn : n <= 1000) :
 ∀ W : World, (Instr.makeSlice t (.int .i64 (n : Int)) (.int .i64 (n : Int))).run P W = .ok (.slice (some ⟨W.heap.size, 0, none⟩) n n) (W.alloc (.cells (madeCells zc (n * z)) e)) := fun W => by
 have bQ : bytes * n <= 64 * 1000 := Nat.mul_le_mul hb2 hn; have h8 : ((bytes * n : Nat) : Int) <= 64000 := by omega
 rw [Int.natCast_mul] at h8; have hr := run_make (P := P) W t e i zv ht hi hz .i64 .i64 n n (by omega) (by omega) (by rw [hb]; exact Int.le_trans h8 (by decide)) (by omega); simp only [Int.toNat_natCast] at hr; rw [hc, hs] at hr; exact hr
def HEndsW (te : TypeId) (pe : Value) (d g0 : Nat) (cur : Array Value) (g : Nat) (w : World) (b : Nat) (x1 : Int) (x2 x3 x4 x5 : Nat) (pos neg : List (Int × Nat)) (ups downs : List Int) (cus : List Nat) (gh : St) (r : Ending) (w' : World) : Prop :=
 r = .returned (.tuple #[]) /\ ∃ v1 v2 v3 v4 v5, DH te pe d g0 cur g 288 w w' gh (cW b x1 x2 x3 x4 x5 v1 v2 v3 v4 v5) [⟨135, 1, v5, cus.length, cus.flatMap f1⟩, ⟨2, 1, v4, downs.length, downs.flatMap i1⟩, ⟨2, 1, v3, ups.length, ups.flatMap i1⟩, ⟨361, 2, v2, neg.length, neg.flatMap spc⟩, ⟨361, 2, v1, pos.length, pos.flatMap spc⟩]
def HEndsF (te : TypeId) (pe : Value) (d g0 : Nat) (cur : Array Value) (g : Nat) (w : World) (b : Nat) (x1 : Int) (x2 x3 x4 x5 : Nat) (pos neg : List (Int × Nat)) (fups fdowns : List Nat) (cus : List Nat) (gh : St) (r : Ending) (w' : World) : Prop :=
 r = .returned (.tuple #[]) /\ ∃ v1 v2 v3 v4 v5, DH te pe d g0 cur g 296 w w' gh (cF b x1 x2 x3 x4 x5 v1 v2 v3 v4 v5) [⟨135, 1, v5, cus.length, cus.flatMap f1⟩, ⟨135, 1, v4, fdowns.length, fdowns.flatMap f1⟩, ⟨135, 1, v3, fups.length, fups.flatMap f1⟩, ⟨361, 2, v2, neg.length, neg.flatMap spc⟩, ⟨361, 2, v1, pos.length, pos.flatMap spc⟩]
theorem zcr : (∀ (_ : True) (te : TypeId) (pe : Value) (d g0 : Nat) (cur : Array Value) (g : Nat) (w : World) (b : Nat) (x1 : Int) (x2 x3 x4 x5 n1 n2 n3 n4 n5 : Nat) (pos neg : List (Int × Nat)) (ups downs : List Int) (cus : List Nat) (S0 S1 S2 S3 S4 S5 S6 T1 S7 T2 S8 T3 S9 T4 gw T5 gh : St)
 (hD : DH te pe d g0 cur g 288 w w S0 #[.int .u8 0, .int .i32 0, .float .f64 0, .int .u64 0, .int .u64 0, .float .f64 0, .slice none 0 0, .slice none 0 0, .slice none 0 0, .slice none 0 0, .slice none 0 0] [])
 (e0 : zaD S0 = (b, S1)) (e1 : zaJ S1 = (x1, S2)) (e2 : zac S2 = (x2, S3)) (e3 : gUv S3 = (x3, S4)) (e4 : gUv S4 = (x4, S5)) (e5 : zac S5 = (x5, S6))
 (k1 : gUv S6 = (n1, T1)) (m1 : n1 <= 1000) (r1 : gN gSp n1 T1 = (pos, S7)) (k2 : gUv S7 = (n2, T2)) (m2 : n2 <= 1000) (r2 : gN gSp n2 T2 = (neg, S8))
 (k3 : gUv S8 = (n3, T3)) (m3 : n3 <= 1000) (r3 : gN zaJ n3 T3 = (ups, S9)) (k4 : gUv S9 = (n4, T4)) (m4 : n4 <= 1000) (r4 : gN zaJ n4 T4 = (downs, gw))
 (k5 : wrap32 x1 = -53 -> gUv gw = (n5, T5) /\ n5 <= 1000 /\ gN zac n5 T5 = (cus, gh)) (k6 : ¬ wrap32 x1 = -53 -> cus = [] /\ gh = gw),
 Calls prog 174 #[.pointer (some ⟨d, 0, none⟩), .pointer (some ⟨g, 0, none⟩)] w (HEndsW te pe d g0 cur g w b x1 x2 x3 x4 x5 pos neg ups downs cus gh)) /\ (∀ (_ : True) (te : TypeId) (pe : Value) (d g0 : Nat) (cur : Array Value) (g : Nat) (w : World) (b : Nat) (x1 : Int) (x2 x3 x4 x5 n1 n2 n3 n4 n5 : Nat) (pos neg : List (Int × Nat)) (fups fdowns : List Nat) (cus : List Nat) (S0 S1 S2 S3 S4 S5 S6 T1 S7 T2 S8 T3 S9 T4 gw T5 gh : St)
 (hD : DH te pe d g0 cur g 296 w w S0 #[.int .u8 0, .int .i32 0, .float .f64 0, .float .f64 0, .float .f64 0, .float .f64 0, .slice none 0 0, .slice none 0 0, .slice none 0 0, .slice none 0 0, .slice none 0 0] [])
 (e0 : zaD S0 = (b, S1)) (e1 : zaJ S1 = (x1, S2)) (e2 : zac S2 = (x2, S3)) (e3 : zac S3 = (x3, S4)) (e4 : zac S4 = (x4, S5)) (e5 : zac S5 = (x5, S6))
 (k1 : gUv S6 = (n1, T1)) (m1 : n1 <= 1000) (r1 : gN gSp n1 T1 = (pos, S7)) (k2 : gUv S7 = (n2, T2)) (m2 : n2 <= 1000) (r2 : gN gSp n2 T2 = (neg, S8))
 (k3 : gUv S8 = (n3, T3)) (m3 : n3 <= 1000) (r3 : gN zac n3 T3 = (fups, S9)) (k4 : gUv S9 = (n4, T4)) (m4 : n4 <= 1000) (r4 : gN zac n4 T4 = (fdowns, gw))
 (k5 : wrap32 x1 = -53 -> gUv gw = (n5, T5) /\ n5 <= 1000 /\ gN zac n5 T5 = (cus, gh)) (k6 : ¬ wrap32 x1 = -53 -> cus = [] /\ gh = gw),
 Calls prog 177 #[.pointer (some ⟨d, 0, none⟩), .pointer (some ⟨g, 0, none⟩)] w (HEndsF te pe d g0 cur g w b x1 x2 x3 x4 x5 pos neg fups fdowns cus gh)) := by
 refine ⟨fun ag te pe d g0 cur g w b x1 x2 x3 x4 x5 n1 n2 n3 n4 n5 pos neg ups downs cus S0 S1 S2 S3 S4 S5 S6 T1 S7 T2 S8 T3 S9 T4 gw T5 gh hD e0 e1 e2 e3 e4 e5 k1 m1 r1 k2 m2 r2 k3 m3 r3 k4 m4 r4 k5 k6 => ?_, fun bU te pe d g0 cur g w b x1 x2 x3 x4 x5 n1 n2 n3 n4 n5 pos neg fups fdowns cus S0 S1 S2 S3 S4 S5 S6 T1 S7 T2 S8 T3 S9 T4 gw T5 gh hD e0 e1 e2 e3 e4 e5 k1 m1 r1 k2 m2 r2 k3 m3 r3 k4 m4 r4 k5 k6 => ?_⟩
 all_goals
  have mixed : prog.follows .mixedOrders = true := by kernel_rfl
  have hr6 := ziE; have hsf := zbU
  have jd := zmh hD; have hgw : g < w.heap.size := hD.2.2.2.2.2.1; have l1 : pos.length = n1 := by rw [<- zcL gSp n1 T1, r1]
  have l2 : neg.length = n2 := by rw [<- zcL gSp n2 T2, r2]
  first | (guard_hyp ag; have l3 : ups.length = n3 := by rw [<- zcL zaJ n3 T3, r3]) | (have l3 : fups.length = n3 := by rw [<- zcL zac n3 T3, r3])
  first | (guard_hyp ag; have l4 : downs.length = n4 := by rw [<- zcL zaJ n4 T4, r4]) | (have l4 : fdowns.length = n4 := by rw [<- zcL zac n4 T4, r4])
  have HQ0 : Hid (DQ te pe d g0 cur 160 S0 (.int .u8 (b : Int)) S1) := zmh (fun W hW => by have := zbC te pe _ _ _ _ _ hW; rw [e0] at this; exact this); have ie : Hid (DQ te pe d g0 cur 165 S1 (.int .i64 x1) S2) := zmh (fun W hW => by have := zdA te pe _ _ _ _ _ hW; rw [e1] at this; exact this)
  first | (guard_hyp ag; have eT : Hid (DQ te pe d g0 cur 162 S2 (.int .u64 (x2 : Int)) S3) := zmh (fun W hW => by have := zcA te pe _ _ _ _ _ hW; rw [e2] at this; exact this)) | (have eT : Hid (DQ te pe d g0 cur 234 S2 (.float .f64 x2) S3) := zmh (fun W hW => by have := zdQ te pe _ _ _ _ _ hW; rw [e2] at this; exact this))
  first | (guard_hyp ag; have c8 : Hid (DQ te pe d g0 cur 171 S3 (.int .u64 (x3 : Int)) S4) := zmh (fun W hW => by have := zlW te pe _ _ _ _ _ hW; rw [e3] at this; exact this)) | (have c8 : Hid (DQ te pe d g0 cur 234 S3 (.float .f64 x3) S4) := zmh (fun W hW => by have := zdQ te pe _ _ _ _ _ hW; rw [e3] at this; exact this))
  first | (guard_hyp ag; have rI : Hid (DQ te pe d g0 cur 171 S4 (.int .u64 (x4 : Int)) S5) := zmh (fun W hW => by have := zlW te pe _ _ _ _ _ hW; rw [e4] at this; exact this)) | (have rI : Hid (DQ te pe d g0 cur 234 S4 (.float .f64 x4) S5) := zmh (fun W hW => by have := zdQ te pe _ _ _ _ _ hW; rw [e4] at this; exact this))
  first | (guard_hyp ag; have HQ5 : Hid (DQ te pe d g0 cur 162 S5 (.int .u64 (x5 : Int)) S6) := zmh (fun W hW => by have := zcA te pe _ _ _ _ _ hW; rw [e5] at this; exact this)) | (have HQ5 : Hid (DQ te pe d g0 cur 234 S5 (.float .f64 x5) S6) := zmh (fun W hW => by have := zdQ te pe _ _ _ _ _ hW; rw [e5] at this; exact this))
  have HQ6 : Hid (DQ te pe d g0 cur 172 S6 (.int .i64 (n1 : Int)) T1) := zmh (fun W hW => by have := zcz te pe _ _ _ _ _ hW; rw [k1] at this; rw [show ((n1, T1) : Nat × St).1 = n1 from rfl, zed m1] at this; exact this)
  have HQ7 : Hid (DQ te pe d g0 cur 172 S7 (.int .i64 (n2 : Int)) T2) := zmh (fun W hW => by have := zcz te pe _ _ _ _ _ hW; rw [k2] at this; rw [show ((n2, T2) : Nat × St).1 = n2 from rfl, zed m2] at this; exact this)
  have oh : Hid (DQ te pe d g0 cur 172 S8 (.int .i64 (n3 : Int)) T3) := zmh (fun W hW => by have := zcz te pe _ _ _ _ _ hW; rw [k3] at this; rw [show ((n3, T3) : Nat × St).1 = n3 from rfl, zed m3] at this; exact this)
  have HQ9 : Hid (DQ te pe d g0 cur 172 S9 (.int .i64 (n4 : Int)) T4) := zmh (fun W hW => by have := zcz te pe _ _ _ _ _ hW; rw [k4] at this; rw [show ((n4, T4) : Nat × St).1 = n4 from rfl, zed m4] at this; exact this); have R1 := zmh r1; have R2 := zmh r2; have R3 := zmh r3; have R4 := zmh r4; have R5 := zmh k5; have R6 := zmh k6
  have LL := zmh (zm8 l1 (zm8 l2 (zm8 l3 l4))); clear hD e0 e1 e2 e3 e4 e5 k1 k2 k3 k4 k5 k6 r1 r2 r3 r4 l1 l2 l3 l4
  first | (guard_hyp ag; go_enter func174, ntmps174) | (go_enter func177, ntmps177)
  first
   | guard_hyp ag
     go_upto_if 46 with (first
      | (go_at_call 172; refine (HQ6.out _ (kf.out.set 5 (.float .f64 x5)).1).mono ?_; rintro r7 w7 ⟨rfl, hd, hf⟩
         have HD7 := zmh ((kf.out.set 5 (.float .f64 x5)).call hd hf)
         clear hd hf z5 q5 kf)
      | (go_at_call 162; refine (HQ5.out _ (dA.out.set 4 (.int .u64 (x4 : Int))).1).mono ?_; rintro r6 w6 ⟨rfl, hd, hf⟩
         have kf := zmh ((dA.out.set 4 (.int .u64 (x4 : Int))).call hd hf); have z5 : w6.cell? ⟨g, 5, none⟩ = some (.float .f64 0) := kf.out.2.1.cell 5; have q5 : w6.frozen? ⟨g, 5, none⟩ = false := kf.out.2.1.frozen 5
         clear hd hf z4 q4 dA)
      | (go_at_call 171; refine (rI.out _ (dm.out.set 3 (.int .u64 (x3 : Int))).1).mono ?_; rintro r5 w5 ⟨rfl, hd, hf⟩
         have dA := zmh ((dm.out.set 3 (.int .u64 (x3 : Int))).call hd hf); have z4 : w5.cell? ⟨g, 4, none⟩ = some (.int .u64 0) := dA.out.2.1.cell 4; have q4 : w5.frozen? ⟨g, 4, none⟩ = false := dA.out.2.1.frozen 4
         clear hd hf z3 q3 dm)
      | (go_at_call 171; refine (c8.out _ (eh.out.set 2 (.float .f64 x2)).1).mono ?_; rintro r4 w4 ⟨rfl, hd, hf⟩
         have dm := zmh ((eh.out.set 2 (.float .f64 x2)).call hd hf); have z3 : w4.cell? ⟨g, 3, none⟩ = some (.int .u64 0) := dm.out.2.1.cell 3; have q3 : w4.frozen? ⟨g, 3, none⟩ = false := dm.out.2.1.frozen 3
         clear hd hf z2 q2 eh)
      | (go_at_call 162; refine (eT.out _ (bC.out.set 1 (.int .i32 (wrap32 x1))).1).mono ?_; rintro r3 w3 ⟨rfl, hd, hf⟩
         have eh := zmh ((bC.out.set 1 (.int .i32 (wrap32 x1))).call hd hf); have z2 : w3.cell? ⟨g, 2, none⟩ = some (.float .f64 0) := eh.out.2.1.cell 2; have q2 : w3.frozen? ⟨g, 2, none⟩ = false := eh.out.2.1.frozen 2
         clear hd hf z1 q1 bC)
      | (go_at_call 165; refine (ie.out _ (aT.out.set 0 (.int .u8 (b : Int))).1).mono ?_; rintro r2 w2 ⟨rfl, hd, hf⟩
         have bC := zmh ((aT.out.set 0 (.int .u8 (b : Int))).call hd hf); have z1 : w2.cell? ⟨g, 1, none⟩ = some (.int .i32 0) := bC.out.2.1.cell 1; have q1 : w2.frozen? ⟨g, 1, none⟩ = false := bC.out.2.1.frozen 1
         clear hd hf z0 q0 aT)
      | (go_at_call 160; refine (HQ0.out _ jd.out.1).mono ?_; rintro r1 w1 ⟨rfl, hd, hf⟩
         have aT := zmh (jd.out.call hd hf); have z0 : w1.cell? ⟨g, 0, none⟩ = some (.int .u8 0) := aT.out.2.1.cell 0; have q0 : w1.frozen? ⟨g, 0, none⟩ = false := aT.out.2.1.frozen 0
         clear hd hf))
   | go_upto_if 44 with (first
      | (go_at_call 172; refine (HQ6.out _ (kf.out.set 5 (.float .f64 x5)).1).mono ?_; rintro r7 w7 ⟨rfl, hd, hf⟩
         have HD7 := zmh ((kf.out.set 5 (.float .f64 x5)).call hd hf)
         clear hd hf z5 q5 kf)
      | (go_at_call 234; refine (HQ5.out _ (dA.out.set 4 (.float .f64 x4)).1).mono ?_; rintro r6 w6 ⟨rfl, hd, hf⟩
         have kf := zmh ((dA.out.set 4 (.float .f64 x4)).call hd hf); have z5 : w6.cell? ⟨g, 5, none⟩ = some (.float .f64 0) := kf.out.2.1.cell 5; have q5 : w6.frozen? ⟨g, 5, none⟩ = false := kf.out.2.1.frozen 5
         clear hd hf z4 q4 dA)
      | (go_at_call 234; refine (rI.out _ (dm.out.set 3 (.float .f64 x3)).1).mono ?_; rintro r5 w5 ⟨rfl, hd, hf⟩
         have dA := zmh ((dm.out.set 3 (.float .f64 x3)).call hd hf); have z4 : w5.cell? ⟨g, 4, none⟩ = some (.float .f64 0) := dA.out.2.1.cell 4; have q4 : w5.frozen? ⟨g, 4, none⟩ = false := dA.out.2.1.frozen 4
         clear hd hf z3 q3 dm)
      | (go_at_call 234; refine (c8.out _ (eh.out.set 2 (.float .f64 x2)).1).mono ?_; rintro r4 w4 ⟨rfl, hd, hf⟩
         have dm := zmh ((eh.out.set 2 (.float .f64 x2)).call hd hf); have z3 : w4.cell? ⟨g, 3, none⟩ = some (.float .f64 0) := dm.out.2.1.cell 3; have q3 : w4.frozen? ⟨g, 3, none⟩ = false := dm.out.2.1.frozen 3
         clear hd hf z2 q2 eh)
      | (go_at_call 234; refine (eT.out _ (bC.out.set 1 (.int .i32 (wrap32 x1))).1).mono ?_; rintro r3 w3 ⟨rfl, hd, hf⟩
         have eh := zmh ((bC.out.set 1 (.int .i32 (wrap32 x1))).call hd hf); have z2 : w3.cell? ⟨g, 2, none⟩ = some (.float .f64 0) := eh.out.2.1.cell 2; have q2 : w3.frozen? ⟨g, 2, none⟩ = false := eh.out.2.1.frozen 2
         clear hd hf z1 q1 bC)
      | (go_at_call 165; refine (ie.out _ (aT.out.set 0 (.int .u8 (b : Int))).1).mono ?_; rintro r2 w2 ⟨rfl, hd, hf⟩
         have bC := zmh ((aT.out.set 0 (.int .u8 (b : Int))).call hd hf); have z1 : w2.cell? ⟨g, 1, none⟩ = some (.int .i32 0) := bC.out.2.1.cell 1; have q1 : w2.frozen? ⟨g, 1, none⟩ = false := bC.out.2.1.frozen 1
         clear hd hf z0 q0 aT)
      | (go_at_call 160; refine (HQ0.out _ jd.out.1).mono ?_; rintro r1 w1 ⟨rfl, hd, hf⟩
         have aT := zmh (jd.out.call hd hf); have z0 : w1.cell? ⟨g, 0, none⟩ = some (.int .u8 0) := aT.out.2.1.cell 0; have q0 : w1.frozen? ⟨g, 0, none⟩ = false := aT.out.2.1.frozen 0
         clear hd hf))
  first | (guard_hyp ag; go_cut [] (fun wx => ∃ v, Hid (DH te pe d g0 cur g 288 w wx T1 #[(.int .u8 (b : Int)), (.int .i32 (wrap32 x1)), (.float .f64 x2), (.int .u64 (x3 : Int)), (.int .u64 (x4 : Int)), (.float .f64 x5), v, .slice none 0 0, .slice none 0 0, .slice none 0 0, .slice none 0 0] [⟨361, 2, v, n1, (List.replicate n1 ((0, 0) : Int × Nat)).flatMap spc⟩]))) | (go_cut [] (fun wx => ∃ v, Hid (DH te pe d g0 cur g 296 w wx T1 (cF b x1 x2 x3 x4 x5 v (.slice none 0 0) (.slice none 0 0) (.slice none 0 0) (.slice none 0 0)) [⟨361, 2, v, n1, (List.replicate n1 ((0, 0) : Int × Nat)).flatMap spc⟩])))
  case first =>
   as_aux_lemma =>
    rcases zmE n1 with h0 | h0
    ·have h1 : ¬ (0 : Int) < (n1 : Int) := by omega
     have H0 := zmh h0; clear h0; go_wp2_with fail
     go_meet
     refine ⟨.slice none 0 0, zmh ?_⟩; have h := HD7.out.none_ 361 2; rw [H0.out]; exact h
    ·have h1 : (0 : Int) < (n1 : Int) := by omega
     obtain ⟨i0, aC, az, ay, aB⟩ := info_parts zj4; have gI := zeE prog 285 361 #[.int .i32 0, .int .u32 0] 2 8 i0 _ zer aC az ay aB rfl (by omega) n1 m1; obtain ⟨Z, hZ⟩ := exE (madeCells #[.int .i32 0, .int .u32 0] (n1 * 2))
     have HM := zmh (DH.make (f := spc) (zr := (0, 0)) (Z := Z) (e := 361) (z := 2) (n := n1) HD7.out (by rw [<- hZ]; exact zc3 spc (0, 0) #[.int .i32 0, .int .u32 0] 2 rfl rfl (by omega) (fun _ => rfl) n1) (by rw [<- hZ]; exact size_madeCells _ _) (by unfold maxLen; omega)); rw [hZ] at gI; have a0 : (w7.alloc (.cells Z 361)).cell? ⟨g, 6, none⟩ = some (.slice none 0 0) := HM.out.2.1.cell 6
     have a1 : (w7.alloc (.cells Z 361)).frozen? ⟨g, 6, none⟩ = false := HM.out.2.1.frozen 6; clear hZ; go_wp2_with fail
     go_meet
     exact ⟨_, zmh (HM.out.set 6 _)⟩
  case rest =>
   as_aux_lemma =>
    obtain ⟨v, HC⟩ := hcut; obtain ⟨A1, c1, rfl⟩ := zaa HC.out.row; have ir : Hid (n1 = n1) := zmh rfl; have z6 : wc.cell? ⟨g, 6, none⟩ = some (.slice A1 n1 c1) := HC.out.2.1.cell 6; clear HD7; go_wp2
    first | (guard_hyp ag; go_loopw [57] (fun i wr => ∃ (k : Nat) (acc rest : List (Int × Nat)) (ST : St), i = .int .i64 k /\ k <= n1 /\ Hid (acc.length = k /\ gN gSp (n1 - k) ST = (rest, S7) /\ acc ++ rest = pos) /\ Hid (DH te pe d g0 cur g 288 w wr ST #[(.int .u8 (b : Int)), (.int .i32 (wrap32 x1)), (.float .f64 x2), (.int .u64 (x3 : Int)), (.int .u64 (x4 : Int)), (.float .f64 x5), .slice A1 n1 c1, .slice none 0 0, .slice none 0 0, .slice none 0 0, .slice none 0 0] [⟨361, 2, .slice A1 n1 c1, n1, (acc ++ List.replicate (n1 - k) (0, 0)).flatMap spc⟩])) (fun i _ => n1 - (intOf i).toNat)) | (go_loopw [55] (fun i wr => ∃ (k : Nat) (acc rest : List (Int × Nat)) (ST : St), i = .int .i64 k /\ k <= n1 /\ Hid (acc.length = k /\ gN gSp (n1 - k) ST = (rest, S7) /\ acc ++ rest = pos) /\ Hid (DH te pe d g0 cur g 296 w wr ST (cF b x1 x2 x3 x4 x5 (.slice A1 n1 c1) (.slice none 0 0) (.slice none 0 0) (.slice none 0 0) (.slice none 0 0)) [⟨361, 2, .slice A1 n1 c1, n1, (acc ++ List.replicate (n1 - k) (0, 0)).flatMap spc⟩])) (fun i _ => n1 - (intOf i).toNat))
    case atStart => exact ⟨0, [], pos, T1, rfl, zms _, zmh ⟨rfl, R1.out, rfl⟩, HC⟩
    case round =>
     obtain ⟨k, acc, rest, ST, rfl, hk, HA, HD⟩ := hrel; by_cases hlt : k < n1
     ·clear HC z6
      obtain ⟨m, c, hv, hm0, hc⟩ := ziK HD.out.row (by omega); injection hv with cA bd eX; subst cA eX; have iI : g ≠ m := by omega
      obtain ⟨k', fD⟩ : ∃ k', n1 - k = k' + 1 := ⟨n1 - k - 1, by omega⟩; obtain ⟨eO, cy, gt⟩ := HA.out; rw [fD] at cy; obtain ⟨y0, U1, hy⟩ : ∃ a b, zaJ ST = (a, b) := ⟨_, _, rfl⟩; obtain ⟨y1, U2, hu⟩ : ∃ a b, gUv U1 = (a, b) := ⟨_, _, rfl⟩; have hs : gSp ST = ((wrap32 y0, y1 % 4294967296), U2) := by unfold gSp; rw [hy]; simp only []; rw [hu]
      obtain ⟨x, hx⟩ := exE (((wrap32 y0, y1 % 4294967296) : Int × Nat)); have V1 : Hid (DQ te pe d g0 cur 165 ST (.int .i64 y0) U1) := zmh (fun W hW => by have := zdA te pe _ _ _ _ _ hW; rw [hy] at this; exact this); have V2 : Hid (DQ te pe d g0 cur 232 U1 (.int .u32 (IntKind.u32.wrap y1)) U2) := zmh (fun W hW => by have := zfB te pe _ _ _ _ _ hW; rw [hu] at this; exact this)
      have aM : rest = (wrap32 y0, y1 % 4294967296) :: (gN gSp k' U2).1 /\ (gN gSp k' U2).2 = S7 := by
       rw [gN, hs] at cy; exact ⟨(zm7 Prod.fst cy).symm, zm7 Prod.snd cy⟩
      have HB : Hid ((acc ++ [(wrap32 y0, y1 % 4294967296)]).length = k + 1 /\ gN gSp (n1 - (k + 1)) U2 = ((gN gSp k' U2).1, S7) /\ (acc ++ [(wrap32 y0, y1 % 4294967296)]) ++ (gN gSp k' U2).1 = pos) := zmh ⟨by rw [zmi, eO]; rfl, by rw [show n1 - (k + 1) = k' by omega, <- aM.2], by rw [zmk, zmZ, <- aM.1]; exact gt⟩; have HK := zmh eO
      have aT := zmh (HD.out.rep hlt); have z6 : wr.drew.cell? ⟨g, 6, none⟩ = some (.slice (some ⟨m, 0, none⟩) n1 c1) := aT.out.2.1.cell 6; clear HA HD eO cy gt aM hy hu hx hs; go_wp2_with fail
      go_region_held3 (fun w' => w'.cell? ⟨g, 6, none⟩ = some (.slice (some ⟨m, 0, none⟩) n1 c1))
       ((first | exact (Blk.far bC.out.2.1 (p := ⟨m, k * 2, none⟩) iI _).cell 6 | exact bC.out.2.1.cell 6 | exact aT.out.2.1.cell 6 | go_keep))
       ((go_at_call 165; refine (V1.out _ aT.out.1).mono ?_; rintro r dH ⟨rfl, hd, hf⟩
         have bC := zmh (aT.out.call hd hf); have s0 : dH.cell? ⟨m, k * 2, none⟩ = some (.int .i32 0) := zcn bC.out.row (zcT spc 2 (fun _ => rfl) acc _ (0, 0) k 0 _ HK.out (by omega) (by omega)); have s1 : dH.frozen? ⟨m, k * 2, none⟩ = false := zcm bC.out.row _
         clear hd hf))
      obtain ⟨W9, hW9⟩ : ∃ W, dH.setCell ⟨m, k * 2, none⟩ (.int .i32 (IntKind.i32.wrap y0)) = W := ⟨_, rfl⟩; rw [hW9]; have eh := zmh ((bC.out.pt (y := (wrap32 y0, 0)) hW9 (fun _ => rfl) HK.out 0 (by omega) (by omega) (by simp [spc, IntKind.wrap_i32, wrap32])).fr0 (znl _ W9).drew); have z6' : W9.drew.cell? ⟨g, 6, none⟩ = some (.slice (some ⟨m, 0, none⟩) n1 c1) := eh.out.2.1.cell 6
      clear aT bC hW9 s0 s1 z6; go_wp2_with fail
      go_region_held3 (fun w' => w'.cell? ⟨g, 6, none⟩ = some (.slice (some ⟨m, 0, none⟩) n1 c1))
       ((first | exact (Blk.far dm.out.2.1 (p := ⟨m, k * 2 + 1, none⟩) iI _).cell 6 | exact dm.out.2.1.cell 6 | exact eh.out.2.1.cell 6 | go_keep))
       ((go_at_call 232; refine (V2.out _ eh.out.1).mono ?_; rintro r mU ⟨rfl, hd, hf⟩
         have dm := zmh (eh.out.call hd hf); have s0 : mU.cell? ⟨m, k * 2 + 1, none⟩ = some (.int .u32 0) := zcn dm.out.row (zcT spc 2 (fun _ => rfl) acc _ (wrap32 y0, 0) k 1 _ HK.out (by omega) (by omega)); have s1 : mU.frozen? ⟨m, k * 2 + 1, none⟩ = false := zcm dm.out.row _
         clear hd hf))
      obtain ⟨WA, eP⟩ : ∃ W, mU.setCell ⟨m, k * 2 + 1, none⟩ (.int .u32 (IntKind.u32.wrap y1)) = W := ⟨_, rfl⟩; rw [eP]; have dA := zmh (dm.out.pt (y := (wrap32 y0, y1 % 4294967296)) eP (fun _ => rfl) HK.out 1 (by omega) (by omega) (by simp [spc, IntKind.wrap_u32])); clear eh dm eP s0 s1; go_wp2; go_roundw
      case rel => exact ⟨k + 1, acc ++ [(wrap32 y0, y1 % 4294967296)], (gN gSp k' U2).1, U2, by go_num, by omega, HB, zmh (by have h := dA.out; rw [zni] at h; exact h)⟩
      case measure => simp [intOf]; omega
     ·have ez : k = n1 := by omega
      have HX := zmh (HD.out.fin HA.out ez LL.out.1); have hlt2 : ¬ (k : Int) < (n1 : Int) := by omega
      clear HA HD HC hlt ez z6
      first
       | guard_hyp ag
         go_upto_if 83 with (first
          | (go_at_call 172; refine (HQ7.out _ HX.out.1).mono ?_; rintro r8 w8 ⟨rfl, hd, hf⟩
             have HD8 := zmh (HX.out.call hd hf)
             clear hd hf HX))
       | go_upto_if 81 with (first
          | (go_at_call 172; refine (HQ7.out _ HX.out.1).mono ?_; rintro r8 w8 ⟨rfl, hd, hf⟩
             have HD8 := zmh (HX.out.call hd hf)
             clear hd hf HX))
      first | (guard_hyp ag; go_cut [] (fun wx => ∃ v, Hid (DH te pe d g0 cur g 288 w wx T2 #[(.int .u8 (b : Int)), (.int .i32 (wrap32 x1)), (.float .f64 x2), (.int .u64 (x3 : Int)), (.int .u64 (x4 : Int)), (.float .f64 x5), .slice A1 n1 c1, v, .slice none 0 0, .slice none 0 0, .slice none 0 0] [⟨361, 2, v, n2, (List.replicate n2 ((0, 0) : Int × Nat)).flatMap spc⟩, rwS A1 n1 c1 pos]))) | (go_cut [] (fun wx => ∃ v, Hid (DH te pe d g0 cur g 296 w wx T2 (cF b x1 x2 x3 x4 x5 (.slice A1 n1 c1) v (.slice none 0 0) (.slice none 0 0) (.slice none 0 0)) [⟨361, 2, v, n2, (List.replicate n2 ((0, 0) : Int × Nat)).flatMap spc⟩, rwS A1 n1 c1 pos])))
      case first =>
       as_aux_lemma =>
        rcases zmE n2 with h0 | h0
        ·have h1 : ¬ (0 : Int) < (n2 : Int) := by omega
         have H0 := zmh h0; clear h0; go_wp2_with fail
         go_meet
         refine ⟨.slice none 0 0, zmh ?_⟩; have h := HD8.out.none_ 361 2; rw [H0.out]; exact h
        ·have h1 : (0 : Int) < (n2 : Int) := by omega
         obtain ⟨i0, aC, az, ay, aB⟩ := info_parts zj4; have gI := zeE prog 285 361 #[.int .i32 0, .int .u32 0] 2 8 i0 _ zer aC az ay aB rfl (by omega) n2 m2; obtain ⟨Z, hZ⟩ := exE (madeCells #[.int .i32 0, .int .u32 0] (n2 * 2))
         have HM := zmh (DH.make (f := spc) (zr := (0, 0)) (Z := Z) (e := 361) (z := 2) (n := n2) HD8.out (by rw [<- hZ]; exact zc3 spc (0, 0) #[.int .i32 0, .int .u32 0] 2 rfl rfl (by omega) (fun _ => rfl) n2) (by rw [<- hZ]; exact size_madeCells _ _) (by unfold maxLen; omega)); rw [hZ] at gI; have a0 : (w8.alloc (.cells Z 361)).cell? ⟨g, 7, none⟩ = some (.slice none 0 0) := HM.out.2.1.cell 7
         have a1 : (w8.alloc (.cells Z 361)).frozen? ⟨g, 7, none⟩ = false := HM.out.2.1.frozen 7; clear hZ; go_wp2_with fail
         go_meet
         exact ⟨_, zmh (HM.out.set 7 _)⟩
      case rest =>
       as_aux_lemma =>
        obtain ⟨v, HC⟩ := hcut; obtain ⟨A2, c2, rfl⟩ := zaa HC.out.row; have HN2 : Hid (n2 = n2) := zmh rfl; have z7 : wc.cell? ⟨g, 7, none⟩ = some (.slice A2 n2 c2) := HC.out.2.1.cell 7; clear HD8; go_wp2
        first | (guard_hyp ag; go_loopw [94] (fun i wr => ∃ (k : Nat) (acc rest : List (Int × Nat)) (ST : St), i = .int .i64 k /\ k <= n2 /\ Hid (acc.length = k /\ gN gSp (n2 - k) ST = (rest, S8) /\ acc ++ rest = neg) /\ Hid (DH te pe d g0 cur g 288 w wr ST #[(.int .u8 (b : Int)), (.int .i32 (wrap32 x1)), (.float .f64 x2), (.int .u64 (x3 : Int)), (.int .u64 (x4 : Int)), (.float .f64 x5), .slice A1 n1 c1, .slice A2 n2 c2, .slice none 0 0, .slice none 0 0, .slice none 0 0] [⟨361, 2, .slice A2 n2 c2, n2, (acc ++ List.replicate (n2 - k) (0, 0)).flatMap spc⟩, rwS A1 n1 c1 pos])) (fun i _ => n2 - (intOf i).toNat)) | (go_loopw [92] (fun i wr => ∃ (k : Nat) (acc rest : List (Int × Nat)) (ST : St), i = .int .i64 k /\ k <= n2 /\ Hid (acc.length = k /\ gN gSp (n2 - k) ST = (rest, S8) /\ acc ++ rest = neg) /\ Hid (DH te pe d g0 cur g 296 w wr ST (cF b x1 x2 x3 x4 x5 (.slice A1 n1 c1) (.slice A2 n2 c2) (.slice none 0 0) (.slice none 0 0) (.slice none 0 0)) [⟨361, 2, .slice A2 n2 c2, n2, (acc ++ List.replicate (n2 - k) (0, 0)).flatMap spc⟩, rwS A1 n1 c1 pos])) (fun i _ => n2 - (intOf i).toNat))
        case atStart => exact ⟨0, [], neg, T2, rfl, zms _, zmh ⟨rfl, R2.out, rfl⟩, HC⟩
        case round =>
         obtain ⟨k, acc, rest, ST, rfl, hk, HA, HD⟩ := hrel; by_cases hlt : k < n2
         ·clear HC z7
          obtain ⟨m, c, hv, hm0, hc⟩ := ziK HD.out.row (by omega); injection hv with cA bd eX; subst cA eX; have iI : g ≠ m := by omega
          obtain ⟨k', fD⟩ : ∃ k', n2 - k = k' + 1 := ⟨n2 - k - 1, by omega⟩; obtain ⟨eO, cy, gt⟩ := HA.out; rw [fD] at cy; obtain ⟨y0, U1, hy⟩ : ∃ a b, zaJ ST = (a, b) := ⟨_, _, rfl⟩; obtain ⟨y1, U2, hu⟩ : ∃ a b, gUv U1 = (a, b) := ⟨_, _, rfl⟩; have hs : gSp ST = ((wrap32 y0, y1 % 4294967296), U2) := by unfold gSp; rw [hy]; simp only []; rw [hu]
          obtain ⟨x, hx⟩ := exE (((wrap32 y0, y1 % 4294967296) : Int × Nat)); have V1 : Hid (DQ te pe d g0 cur 165 ST (.int .i64 y0) U1) := zmh (fun W hW => by have := zdA te pe _ _ _ _ _ hW; rw [hy] at this; exact this); have V2 : Hid (DQ te pe d g0 cur 232 U1 (.int .u32 (IntKind.u32.wrap y1)) U2) := zmh (fun W hW => by have := zfB te pe _ _ _ _ _ hW; rw [hu] at this; exact this)
          have aM : rest = (wrap32 y0, y1 % 4294967296) :: (gN gSp k' U2).1 /\ (gN gSp k' U2).2 = S8 := by
           rw [gN, hs] at cy; exact ⟨(zm7 Prod.fst cy).symm, zm7 Prod.snd cy⟩
          have HB : Hid ((acc ++ [(wrap32 y0, y1 % 4294967296)]).length = k + 1 /\ gN gSp (n2 - (k + 1)) U2 = ((gN gSp k' U2).1, S8) /\ (acc ++ [(wrap32 y0, y1 % 4294967296)]) ++ (gN gSp k' U2).1 = neg) := zmh ⟨by rw [zmi, eO]; rfl, by rw [show n2 - (k + 1) = k' by omega, <- aM.2], by rw [zmk, zmZ, <- aM.1]; exact gt⟩; have HK := zmh eO
          have aT := zmh (HD.out.rep hlt); have z7 : wr.drew.cell? ⟨g, 7, none⟩ = some (.slice (some ⟨m, 0, none⟩) n2 c2) := aT.out.2.1.cell 7; clear HA HD eO cy gt aM hy hu hx hs; go_wp2_with fail
          go_region_held3 (fun w' => w'.cell? ⟨g, 7, none⟩ = some (.slice (some ⟨m, 0, none⟩) n2 c2))
           ((first | exact (Blk.far bC.out.2.1 (p := ⟨m, k * 2, none⟩) iI _).cell 7 | exact bC.out.2.1.cell 7 | exact aT.out.2.1.cell 7 | go_keep))
           ((go_at_call 165; refine (V1.out _ aT.out.1).mono ?_; rintro r dH ⟨rfl, hd, hf⟩
             have bC := zmh (aT.out.call hd hf); have s0 : dH.cell? ⟨m, k * 2, none⟩ = some (.int .i32 0) := zcn bC.out.row (zcT spc 2 (fun _ => rfl) acc _ (0, 0) k 0 _ HK.out (by omega) (by omega)); have s1 : dH.frozen? ⟨m, k * 2, none⟩ = false := zcm bC.out.row _
             clear hd hf))
          obtain ⟨W9, hW9⟩ : ∃ W, dH.setCell ⟨m, k * 2, none⟩ (.int .i32 (IntKind.i32.wrap y0)) = W := ⟨_, rfl⟩; rw [hW9]; have eh := zmh ((bC.out.pt (y := (wrap32 y0, 0)) hW9 (fun _ => rfl) HK.out 0 (by omega) (by omega) (by simp [spc, IntKind.wrap_i32, wrap32])).fr0 (znl _ W9).drew); have z7' : W9.drew.cell? ⟨g, 7, none⟩ = some (.slice (some ⟨m, 0, none⟩) n2 c2) := eh.out.2.1.cell 7
          clear aT bC hW9 s0 s1 z7; go_wp2_with fail
          go_region_held3 (fun w' => w'.cell? ⟨g, 7, none⟩ = some (.slice (some ⟨m, 0, none⟩) n2 c2))
           ((first | exact (Blk.far dm.out.2.1 (p := ⟨m, k * 2 + 1, none⟩) iI _).cell 7 | exact dm.out.2.1.cell 7 | exact eh.out.2.1.cell 7 | go_keep))
           ((go_at_call 232; refine (V2.out _ eh.out.1).mono ?_; rintro r mU ⟨rfl, hd, hf⟩
             have dm := zmh (eh.out.call hd hf); have s0 : mU.cell? ⟨m, k * 2 + 1, none⟩ = some (.int .u32 0) := zcn dm.out.row (zcT spc 2 (fun _ => rfl) acc _ (wrap32 y0, 0) k 1 _ HK.out (by omega) (by omega)); have s1 : mU.frozen? ⟨m, k * 2 + 1, none⟩ = false := zcm dm.out.row _
             clear hd hf))
          obtain ⟨WA, eP⟩ : ∃ W, mU.setCell ⟨m, k * 2 + 1, none⟩ (.int .u32 (IntKind.u32.wrap y1)) = W := ⟨_, rfl⟩; rw [eP]; have dA := zmh (dm.out.pt (y := (wrap32 y0, y1 % 4294967296)) eP (fun _ => rfl) HK.out 1 (by omega) (by omega) (by simp [spc, IntKind.wrap_u32])); clear eh dm eP s0 s1; go_wp2; go_roundw
          case rel => exact ⟨k + 1, acc ++ [(wrap32 y0, y1 % 4294967296)], (gN gSp k' U2).1, U2, by go_num, by omega, HB, zmh (by have h := dA.out; rw [zni] at h; exact h)⟩
          case measure => simp [intOf]; omega
         ·have ez : k = n2 := by omega
          have HX := zmh (HD.out.fin HA.out ez LL.out.2.1); have hlt2 : ¬ (k : Int) < (n2 : Int) := by omega
          clear HA HD HC hlt ez z7
          first
           | guard_hyp ag
             go_upto_if 120 with (first
              | (go_at_call 172; refine (oh.out _ HX.out.1).mono ?_; rintro r9 w9 ⟨rfl, hd, hf⟩
                 have pd := zmh (HX.out.call hd hf)
                 clear hd hf HX))
           | go_upto_if 118 with (first
              | (go_at_call 172; refine (oh.out _ HX.out.1).mono ?_; rintro r9 w9 ⟨rfl, hd, hf⟩
                 have pd := zmh (HX.out.call hd hf)
                 clear hd hf HX))
          first | (guard_hyp ag; go_cut [] (fun wx => ∃ v, Hid (DH te pe d g0 cur g 288 w wx T3 #[(.int .u8 (b : Int)), (.int .i32 (wrap32 x1)), (.float .f64 x2), (.int .u64 (x3 : Int)), (.int .u64 (x4 : Int)), (.float .f64 x5), .slice A1 n1 c1, .slice A2 n2 c2, v, .slice none 0 0, .slice none 0 0] [⟨2, 1, v, n3, (List.replicate n3 (0 : Int)).flatMap i1⟩, rwS A2 n2 c2 neg, rwS A1 n1 c1 pos]))) | (go_cut [] (fun wx => ∃ v, Hid (DH te pe d g0 cur g 296 w wx T3 (cF b x1 x2 x3 x4 x5 (.slice A1 n1 c1) (.slice A2 n2 c2) v (.slice none 0 0) (.slice none 0 0)) [⟨135, 1, v, n3, (List.replicate n3 (0 : Nat)).flatMap f1⟩, rwS A2 n2 c2 neg, rwS A1 n1 c1 pos])))
          case first =>
           as_aux_lemma =>
            rcases zmE n3 with h0 | h0
            ·have h1 : ¬ (0 : Int) < (n3 : Int) := by omega
             have H0 := zmh h0; clear h0; go_wp2_with fail
             go_meet
             refine ⟨.slice none 0 0, zmh ?_⟩
             first | (guard_hyp ag; have h := pd.out.none_ 2 1) | (have h := pd.out.none_ 135 1)
             rw [H0.out]; exact h
            ·have h1 : (0 : Int) < (n3 : Int) := by omega
             first | (guard_hyp ag; obtain ⟨i0, aC, az, ay, aB⟩ := info_parts info2) | (obtain ⟨i0, aC, az, ay, aB⟩ := info_parts zh6)
             first | (guard_hyp ag; have gI := zeE prog 189 2 #[.int .i64 0] 1 8 i0 _ zes aC az ay aB rfl (by omega) n3 m3) | (have gI := zeE prog 286 135 #[.float .f64 0] 1 8 i0 _ zdo aC az ay aB rfl (by omega) n3 m3)
             first | (guard_hyp ag; obtain ⟨Z, hZ⟩ := exE (madeCells #[.int .i64 0] (n3 * 1))) | (obtain ⟨Z, hZ⟩ := exE (madeCells #[.float .f64 0] (n3 * 1)))
             first | (guard_hyp ag; have HM := zmh (DH.make (f := i1) (zr := 0) (Z := Z) (e := 2) (z := 1) (n := n3) pd.out (by rw [<- hZ]; exact zc3 i1 0 #[.int .i64 0] 1 rfl rfl (by omega) (fun _ => rfl) n3) (by rw [<- hZ]; exact size_madeCells _ _) (by unfold maxLen; omega))) | (have HM := zmh (DH.make (f := f1) (zr := 0) (Z := Z) (e := 135) (z := 1) (n := n3) pd.out (by rw [<- hZ]; exact zc3 f1 0 #[.float .f64 0] 1 rfl rfl (by omega) (fun _ => rfl) n3) (by rw [<- hZ]; exact size_madeCells _ _) (by unfold maxLen; omega)))
             rw [hZ] at gI
             first | (guard_hyp ag; have a0 : (w9.alloc (.cells Z 2)).cell? ⟨g, 8, none⟩ = some (.slice none 0 0) := HM.out.2.1.cell 8) | (have a0 : (w9.alloc (.cells Z 135)).cell? ⟨g, 8, none⟩ = some (.slice none 0 0) := HM.out.2.1.cell 8)
             first | (guard_hyp ag; have a1 : (w9.alloc (.cells Z 2)).frozen? ⟨g, 8, none⟩ = false := HM.out.2.1.frozen 8) | (have a1 : (w9.alloc (.cells Z 135)).frozen? ⟨g, 8, none⟩ = false := HM.out.2.1.frozen 8)
             clear hZ; go_wp2_with fail
             go_meet
             exact ⟨_, zmh (HM.out.set 8 _)⟩
          case rest =>
           as_aux_lemma =>
            obtain ⟨v, HC⟩ := hcut; obtain ⟨A3, c3, rfl⟩ := zaa HC.out.row; have HN3 : Hid (n3 = n3) := zmh rfl; have z8 : wc.cell? ⟨g, 8, none⟩ = some (.slice A3 n3 c3) := HC.out.2.1.cell 8; clear pd; go_wp2
            first | (guard_hyp ag; go_loopw [131] (fun i wr => ∃ (k : Nat) (acc rest : List Int) (ST : St), i = .int .i64 k /\ k <= n3 /\ Hid (acc.length = k /\ gN zaJ (n3 - k) ST = (rest, S9) /\ acc ++ rest = ups) /\ Hid (DH te pe d g0 cur g 288 w wr ST #[(.int .u8 (b : Int)), (.int .i32 (wrap32 x1)), (.float .f64 x2), (.int .u64 (x3 : Int)), (.int .u64 (x4 : Int)), (.float .f64 x5), .slice A1 n1 c1, .slice A2 n2 c2, .slice A3 n3 c3, .slice none 0 0, .slice none 0 0] [⟨2, 1, .slice A3 n3 c3, n3, (acc ++ List.replicate (n3 - k) 0).flatMap i1⟩, rwS A2 n2 c2 neg, rwS A1 n1 c1 pos])) (fun i _ => n3 - (intOf i).toNat)) | (go_loopw [129] (fun i wr => ∃ (k : Nat) (acc rest : List Nat) (ST : St), i = .int .i64 k /\ k <= n3 /\ Hid (acc.length = k /\ gN zac (n3 - k) ST = (rest, S9) /\ acc ++ rest = fups) /\ Hid (DH te pe d g0 cur g 296 w wr ST (cF b x1 x2 x3 x4 x5 (.slice A1 n1 c1) (.slice A2 n2 c2) (.slice A3 n3 c3) (.slice none 0 0) (.slice none 0 0)) [⟨135, 1, .slice A3 n3 c3, n3, (acc ++ List.replicate (n3 - k) 0).flatMap f1⟩, rwS A2 n2 c2 neg, rwS A1 n1 c1 pos])) (fun i _ => n3 - (intOf i).toNat))
            case atStart => first | (guard_hyp ag; exact ⟨0, [], ups, T3, rfl, zms _, zmh ⟨rfl, R3.out, rfl⟩, HC⟩) | (exact ⟨0, [], fups, T3, rfl, zms _, zmh ⟨rfl, R3.out, rfl⟩, HC⟩)
            case round =>
             obtain ⟨k, acc, rest, ST, rfl, hk, HA, HD⟩ := hrel; by_cases hlt : k < n3
             ·clear HC z8
              obtain ⟨m, c, hv, hm0, hc⟩ := ziK HD.out.row (by omega); injection hv with cA bd eX; subst cA eX; have iI : g ≠ m := by omega
              obtain ⟨k', fD⟩ : ∃ k', n3 - k = k' + 1 := ⟨n3 - k - 1, by omega⟩; obtain ⟨eO, cy, gt⟩ := HA.out; rw [fD] at cy
              first | (guard_hyp ag; obtain ⟨x, U1, hs⟩ : ∃ a b, zaJ ST = (a, b) := ⟨_, _, rfl⟩) | (obtain ⟨x, U1, hs⟩ : ∃ a b, zac ST = (a, b) := ⟨_, _, rfl⟩)
              first | (guard_hyp ag; have V1 : Hid (DQ te pe d g0 cur 165 ST (.int .i64 x) U1) := zmh (fun W hW => by have := zdA te pe _ _ _ _ _ hW; rw [hs] at this; exact this)) | (have V1 : Hid (DQ te pe d g0 cur 234 ST (.float .f64 x) U1) := zmh (fun W hW => by have := zdQ te pe _ _ _ _ _ hW; rw [hs] at this; exact this))
              first
               | guard_hyp ag
                 have aM : rest = x :: (gN zaJ k' U1).1 /\ (gN zaJ k' U1).2 = S9 := by
                  rw [gN, hs] at cy; exact ⟨(zm7 Prod.fst cy).symm, zm7 Prod.snd cy⟩
               | have aM : rest = x :: (gN zac k' U1).1 /\ (gN zac k' U1).2 = S9 := by
                  rw [gN, hs] at cy; exact ⟨(zm7 Prod.fst cy).symm, zm7 Prod.snd cy⟩
              first | (guard_hyp ag; have HB : Hid ((acc ++ [x]).length = k + 1 /\ gN zaJ (n3 - (k + 1)) U1 = ((gN zaJ k' U1).1, S9) /\ (acc ++ [x]) ++ (gN zaJ k' U1).1 = ups) := zmh ⟨by rw [zmi, eO]; rfl, by rw [show n3 - (k + 1) = k' by omega, <- aM.2], by rw [zmk, zmZ, <- aM.1]; exact gt⟩) | (have HB : Hid ((acc ++ [x]).length = k + 1 /\ gN zac (n3 - (k + 1)) U1 = ((gN zac k' U1).1, S9) /\ (acc ++ [x]) ++ (gN zac k' U1).1 = fups) := zmh ⟨by rw [zmi, eO]; rfl, by rw [show n3 - (k + 1) = k' by omega, <- aM.2], by rw [zmk, zmZ, <- aM.1]; exact gt⟩)
              have HK := zmh eO; have aT := zmh (HD.out.rep hlt); have z8 : wr.drew.cell? ⟨g, 8, none⟩ = some (.slice (some ⟨m, 0, none⟩) n3 c3) := aT.out.2.1.cell 8; clear HA HD eO cy gt aM hs; go_wp2_with fail
              first
               | guard_hyp ag
                 go_region_held3 (fun w' => w'.cell? ⟨g, 8, none⟩ = some (.slice (some ⟨m, 0, none⟩) n3 c3))
                  ((first | exact (Blk.far bC.out.2.1 (p := ⟨m, k, none⟩) iI _).cell 8 | exact bC.out.2.1.cell 8 | exact aT.out.2.1.cell 8 | go_keep))
                  ((go_at_call 165; refine (V1.out _ aT.out.1).mono ?_; rintro r dH ⟨rfl, hd, hf⟩
                    have bC := zmh (aT.out.call hd hf); have s0 : dH.cell? ⟨m, k, none⟩ = some (.int .i64 0) := zcn bC.out.row (zcT i1 1 (fun _ => rfl) acc _ 0 k 0 _ HK.out (by omega) (by omega)); have s1 : dH.frozen? ⟨m, k, none⟩ = false := zcm bC.out.row _
                    clear hd hf))
               | go_region_held3 (fun w' => w'.cell? ⟨g, 8, none⟩ = some (.slice (some ⟨m, 0, none⟩) n3 c3))
                  ((first | exact (Blk.far bC.out.2.1 (p := ⟨m, k, none⟩) iI _).cell 8 | exact bC.out.2.1.cell 8 | exact aT.out.2.1.cell 8 | go_keep))
                  ((go_at_call 234; refine (V1.out _ aT.out.1).mono ?_; rintro r dH ⟨rfl, hd, hf⟩
                    have bC := zmh (aT.out.call hd hf); have s0 : dH.cell? ⟨m, k, none⟩ = some (.float .f64 0) := zcn bC.out.row (zcT f1 1 (fun _ => rfl) acc _ 0 k 0 _ HK.out (by omega) (by omega)); have s1 : dH.frozen? ⟨m, k, none⟩ = false := zcm bC.out.row _
                    clear hd hf))
              first | (guard_hyp ag; obtain ⟨WA, eP⟩ : ∃ W, dH.setCell ⟨m, k, none⟩ (.int .i64 x) = W := ⟨_, rfl⟩) | (obtain ⟨WA, eP⟩ : ∃ W, dH.setCell ⟨m, k, none⟩ (.float .f64 x) = W := ⟨_, rfl⟩)
              rw [eP]; have dA := zmh (bC.out.pt (y := x) eP (fun _ => rfl) HK.out 0 (by omega) (by omega) rfl); clear aT bC eP s0 s1 z8; go_wp2; go_roundw
              case rel => first | (guard_hyp ag; exact ⟨k + 1, acc ++ [x], (gN zaJ k' U1).1, U1, by go_num, by omega, HB, zmh (by have h := dA.out; rw [zni] at h; exact h)⟩) | (exact ⟨k + 1, acc ++ [x], (gN zac k' U1).1, U1, by go_num, by omega, HB, zmh (by have h := dA.out; rw [zni] at h; exact h)⟩)
              case measure => simp [intOf]; omega
             ·have ez : k = n3 := by omega
              have HX := zmh (HD.out.fin HA.out ez LL.out.2.2.1); have hlt2 : ¬ (k : Int) < (n3 : Int) := by omega
              clear HA HD HC hlt ez z8
              first
               | guard_hyp ag
                 go_upto_if 146 with (first
                  | (go_at_call 172; refine (HQ9.out _ HX.out.1).mono ?_; rintro r10 cU ⟨rfl, hd, hf⟩
                     have jc := zmh (HX.out.call hd hf)
                     clear hd hf HX))
               | go_upto_if 144 with (first
                  | (go_at_call 172; refine (HQ9.out _ HX.out.1).mono ?_; rintro r10 cU ⟨rfl, hd, hf⟩
                     have jc := zmh (HX.out.call hd hf)
                     clear hd hf HX))
              first | (guard_hyp ag; go_cut [] (fun wx => ∃ v, Hid (DH te pe d g0 cur g 288 w wx T4 #[(.int .u8 (b : Int)), (.int .i32 (wrap32 x1)), (.float .f64 x2), (.int .u64 (x3 : Int)), (.int .u64 (x4 : Int)), (.float .f64 x5), .slice A1 n1 c1, .slice A2 n2 c2, .slice A3 n3 c3, v, .slice none 0 0] [⟨2, 1, v, n4, (List.replicate n4 (0 : Int)).flatMap i1⟩, rwI A3 n3 c3 ups, rwS A2 n2 c2 neg, rwS A1 n1 c1 pos]))) | (go_cut [] (fun wx => ∃ v, Hid (DH te pe d g0 cur g 296 w wx T4 (cF b x1 x2 x3 x4 x5 (.slice A1 n1 c1) (.slice A2 n2 c2) (.slice A3 n3 c3) v (.slice none 0 0)) [⟨135, 1, v, n4, (List.replicate n4 (0 : Nat)).flatMap f1⟩, rwF A3 n3 c3 fups, rwS A2 n2 c2 neg, rwS A1 n1 c1 pos])))
              case first =>
               as_aux_lemma =>
                rcases zmE n4 with h0 | h0
                ·have h1 : ¬ (0 : Int) < (n4 : Int) := by omega
                 have H0 := zmh h0; clear h0; go_wp2_with fail
                 go_meet
                 refine ⟨.slice none 0 0, zmh ?_⟩
                 first | (guard_hyp ag; have h := jc.out.none_ 2 1) | (have h := jc.out.none_ 135 1)
                 rw [H0.out]; exact h
                ·have h1 : (0 : Int) < (n4 : Int) := by omega
                 first | (guard_hyp ag; obtain ⟨i0, aC, az, ay, aB⟩ := info_parts info2) | (obtain ⟨i0, aC, az, ay, aB⟩ := info_parts zh6)
                 first | (guard_hyp ag; have gI := zeE prog 189 2 #[.int .i64 0] 1 8 i0 _ zes aC az ay aB rfl (by omega) n4 m4) | (have gI := zeE prog 286 135 #[.float .f64 0] 1 8 i0 _ zdo aC az ay aB rfl (by omega) n4 m4)
                 first | (guard_hyp ag; obtain ⟨Z, hZ⟩ := exE (madeCells #[.int .i64 0] (n4 * 1))) | (obtain ⟨Z, hZ⟩ := exE (madeCells #[.float .f64 0] (n4 * 1)))
                 first | (guard_hyp ag; have HM := zmh (DH.make (f := i1) (zr := 0) (Z := Z) (e := 2) (z := 1) (n := n4) jc.out (by rw [<- hZ]; exact zc3 i1 0 #[.int .i64 0] 1 rfl rfl (by omega) (fun _ => rfl) n4) (by rw [<- hZ]; exact size_madeCells _ _) (by unfold maxLen; omega))) | (have HM := zmh (DH.make (f := f1) (zr := 0) (Z := Z) (e := 135) (z := 1) (n := n4) jc.out (by rw [<- hZ]; exact zc3 f1 0 #[.float .f64 0] 1 rfl rfl (by omega) (fun _ => rfl) n4) (by rw [<- hZ]; exact size_madeCells _ _) (by unfold maxLen; omega)))
                 rw [hZ] at gI
                 first | (guard_hyp ag; have a0 : (cU.alloc (.cells Z 2)).cell? ⟨g, 9, none⟩ = some (.slice none 0 0) := HM.out.2.1.cell 9) | (have a0 : (cU.alloc (.cells Z 135)).cell? ⟨g, 9, none⟩ = some (.slice none 0 0) := HM.out.2.1.cell 9)
                 first | (guard_hyp ag; have a1 : (cU.alloc (.cells Z 2)).frozen? ⟨g, 9, none⟩ = false := HM.out.2.1.frozen 9) | (have a1 : (cU.alloc (.cells Z 135)).frozen? ⟨g, 9, none⟩ = false := HM.out.2.1.frozen 9)
                 clear hZ; go_wp2_with fail
                 go_meet
                 exact ⟨_, zmh (HM.out.set 9 _)⟩
              case rest =>
               as_aux_lemma =>
                obtain ⟨v, HC⟩ := hcut; obtain ⟨A4, c4, rfl⟩ := zaa HC.out.row; have HN4 : Hid (n4 = n4) := zmh rfl; have z9 : wc.cell? ⟨g, 9, none⟩ = some (.slice A4 n4 c4) := HC.out.2.1.cell 9; clear jc; go_wp2
                first | (guard_hyp ag; go_loopw [157] (fun i wr => ∃ (k : Nat) (acc rest : List Int) (ST : St), i = .int .i64 k /\ k <= n4 /\ Hid (acc.length = k /\ gN zaJ (n4 - k) ST = (rest, gw) /\ acc ++ rest = downs) /\ Hid (DH te pe d g0 cur g 288 w wr ST #[(.int .u8 (b : Int)), (.int .i32 (wrap32 x1)), (.float .f64 x2), (.int .u64 (x3 : Int)), (.int .u64 (x4 : Int)), (.float .f64 x5), .slice A1 n1 c1, .slice A2 n2 c2, .slice A3 n3 c3, .slice A4 n4 c4, .slice none 0 0] [⟨2, 1, .slice A4 n4 c4, n4, (acc ++ List.replicate (n4 - k) 0).flatMap i1⟩, rwI A3 n3 c3 ups, rwS A2 n2 c2 neg, rwS A1 n1 c1 pos])) (fun i _ => n4 - (intOf i).toNat)) | (go_loopw [155] (fun i wr => ∃ (k : Nat) (acc rest : List Nat) (ST : St), i = .int .i64 k /\ k <= n4 /\ Hid (acc.length = k /\ gN zac (n4 - k) ST = (rest, gw) /\ acc ++ rest = fdowns) /\ Hid (DH te pe d g0 cur g 296 w wr ST (cF b x1 x2 x3 x4 x5 (.slice A1 n1 c1) (.slice A2 n2 c2) (.slice A3 n3 c3) (.slice A4 n4 c4) (.slice none 0 0)) [⟨135, 1, .slice A4 n4 c4, n4, (acc ++ List.replicate (n4 - k) 0).flatMap f1⟩, rwF A3 n3 c3 fups, rwS A2 n2 c2 neg, rwS A1 n1 c1 pos])) (fun i _ => n4 - (intOf i).toNat))
                case atStart => first | (guard_hyp ag; exact ⟨0, [], downs, T4, rfl, zms _, zmh ⟨rfl, R4.out, rfl⟩, HC⟩) | (exact ⟨0, [], fdowns, T4, rfl, zms _, zmh ⟨rfl, R4.out, rfl⟩, HC⟩)
                case round =>
                 obtain ⟨k, acc, rest, ST, rfl, hk, HA, HD⟩ := hrel; by_cases hlt : k < n4
                 ·clear HC z9
                  obtain ⟨m, c, hv, hm0, hc⟩ := ziK HD.out.row (by omega); injection hv with cA bd eX; subst cA eX; have iI : g ≠ m := by omega
                  obtain ⟨k', fD⟩ : ∃ k', n4 - k = k' + 1 := ⟨n4 - k - 1, by omega⟩; obtain ⟨eO, cy, gt⟩ := HA.out; rw [fD] at cy
                  first | (guard_hyp ag; obtain ⟨x, U1, hs⟩ : ∃ a b, zaJ ST = (a, b) := ⟨_, _, rfl⟩) | (obtain ⟨x, U1, hs⟩ : ∃ a b, zac ST = (a, b) := ⟨_, _, rfl⟩)
                  first | (guard_hyp ag; have V1 : Hid (DQ te pe d g0 cur 165 ST (.int .i64 x) U1) := zmh (fun W hW => by have := zdA te pe _ _ _ _ _ hW; rw [hs] at this; exact this)) | (have V1 : Hid (DQ te pe d g0 cur 234 ST (.float .f64 x) U1) := zmh (fun W hW => by have := zdQ te pe _ _ _ _ _ hW; rw [hs] at this; exact this))
                  first
                   | guard_hyp ag
                     have aM : rest = x :: (gN zaJ k' U1).1 /\ (gN zaJ k' U1).2 = gw := by
                      rw [gN, hs] at cy; exact ⟨(zm7 Prod.fst cy).symm, zm7 Prod.snd cy⟩
                   | have aM : rest = x :: (gN zac k' U1).1 /\ (gN zac k' U1).2 = gw := by
                      rw [gN, hs] at cy; exact ⟨(zm7 Prod.fst cy).symm, zm7 Prod.snd cy⟩
                  first | (guard_hyp ag; have HB : Hid ((acc ++ [x]).length = k + 1 /\ gN zaJ (n4 - (k + 1)) U1 = ((gN zaJ k' U1).1, gw) /\ (acc ++ [x]) ++ (gN zaJ k' U1).1 = downs) := zmh ⟨by rw [zmi, eO]; rfl, by rw [show n4 - (k + 1) = k' by omega, <- aM.2], by rw [zmk, zmZ, <- aM.1]; exact gt⟩) | (have HB : Hid ((acc ++ [x]).length = k + 1 /\ gN zac (n4 - (k + 1)) U1 = ((gN zac k' U1).1, gw) /\ (acc ++ [x]) ++ (gN zac k' U1).1 = fdowns) := zmh ⟨by rw [zmi, eO]; rfl, by rw [show n4 - (k + 1) = k' by omega, <- aM.2], by rw [zmk, zmZ, <- aM.1]; exact gt⟩)
                  have HK := zmh eO; have aT := zmh (HD.out.rep hlt); have z9 : wr.drew.cell? ⟨g, 9, none⟩ = some (.slice (some ⟨m, 0, none⟩) n4 c4) := aT.out.2.1.cell 9; clear HA HD eO cy gt aM hs; go_wp2_with fail
                  first
                   | guard_hyp ag
                     go_region_held3 (fun w' => w'.cell? ⟨g, 9, none⟩ = some (.slice (some ⟨m, 0, none⟩) n4 c4))
                      ((first | exact (Blk.far bC.out.2.1 (p := ⟨m, k, none⟩) iI _).cell 9 | exact bC.out.2.1.cell 9 | exact aT.out.2.1.cell 9 | go_keep))
                      ((go_at_call 165; refine (V1.out _ aT.out.1).mono ?_; rintro r dH ⟨rfl, hd, hf⟩
                        have bC := zmh (aT.out.call hd hf); have s0 : dH.cell? ⟨m, k, none⟩ = some (.int .i64 0) := zcn bC.out.row (zcT i1 1 (fun _ => rfl) acc _ 0 k 0 _ HK.out (by omega) (by omega)); have s1 : dH.frozen? ⟨m, k, none⟩ = false := zcm bC.out.row _
                        clear hd hf))
                   | go_region_held3 (fun w' => w'.cell? ⟨g, 9, none⟩ = some (.slice (some ⟨m, 0, none⟩) n4 c4))
                      ((first | exact (Blk.far bC.out.2.1 (p := ⟨m, k, none⟩) iI _).cell 9 | exact bC.out.2.1.cell 9 | exact aT.out.2.1.cell 9 | go_keep))
                      ((go_at_call 234; refine (V1.out _ aT.out.1).mono ?_; rintro r dH ⟨rfl, hd, hf⟩
                        have bC := zmh (aT.out.call hd hf); have s0 : dH.cell? ⟨m, k, none⟩ = some (.float .f64 0) := zcn bC.out.row (zcT f1 1 (fun _ => rfl) acc _ 0 k 0 _ HK.out (by omega) (by omega)); have s1 : dH.frozen? ⟨m, k, none⟩ = false := zcm bC.out.row _
                        clear hd hf))
                  first | (guard_hyp ag; obtain ⟨WA, eP⟩ : ∃ W, dH.setCell ⟨m, k, none⟩ (.int .i64 x) = W := ⟨_, rfl⟩) | (obtain ⟨WA, eP⟩ : ∃ W, dH.setCell ⟨m, k, none⟩ (.float .f64 x) = W := ⟨_, rfl⟩)
                  rw [eP]; have dA := zmh (bC.out.pt (y := x) eP (fun _ => rfl) HK.out 0 (by omega) (by omega) rfl); clear aT bC eP s0 s1 z9; go_wp2; go_roundw
                  case rel => first | (guard_hyp ag; exact ⟨k + 1, acc ++ [x], (gN zaJ k' U1).1, U1, by go_num, by omega, HB, zmh (by have h := dA.out; rw [zni] at h; exact h)⟩) | (exact ⟨k + 1, acc ++ [x], (gN zac k' U1).1, U1, by go_num, by omega, HB, zmh (by have h := dA.out; rw [zni] at h; exact h)⟩)
                  case measure => simp [intOf]; omega
                 ·have ez : k = n4 := by omega
                  have HX := zmh (HD.out.fin HA.out ez LL.out.2.2.2); have hlt2 : ¬ (k : Int) < (n4 : Int) := by omega
                  clear HA HD HC hlt ez z9; obtain ⟨cb, lm⟩ := exE ((wrap32 x1 == -53)); have HQC : Hid (∀ W, Calls prog 233 #[.int .i32 (wrap32 x1)] W fun r w' => r = .returned (.bool cb) /\ W = w') := zmh (fun W => by rw [<- lm]; exact zch _ _); have y1c : wr.cell? ⟨g, 1, none⟩ = some (.int .i32 (wrap32 x1)) := HX.out.2.1.cell 1; rcases cb with _ | _
                  ·obtain ⟨rfl, rfl⟩ := R6.out (by simpa using lm)
                   clear lm; go_wp2_with (go_at_call 233; refine (HQC.out _).mono ?_; rintro r50 w50 ⟨rfl, rfl⟩)
                   go_end0; exact ⟨rfl, _, _, _, _, _, HX.out.none_ 135 1⟩
                  ·obtain ⟨hk5, m5, hr5⟩ := R5.out (by simpa using lm)
                   have pZ : cus.length = n5 := by rw [<- zcL zac n5 T5, hr5]
                   have HQA : Hid (DQ te pe d g0 cur 172 gw (.int .i64 (n5 : Int)) T5) := zmh (fun W hW => by have := zcz te pe _ _ _ _ _ hW; rw [hk5] at this; rw [show ((n5, T5) : Nat × St).1 = n5 from rfl, zed m5] at this; exact this); have ky := zmh hr5; have HL5 := zmh pZ; clear hk5 hr5 pZ lm
                   first
                    | guard_hyp ag
                      go_upto_if 177 with (first
                       | (go_at_call 172; refine (HQA.out _ HX.out.1).mono ?_; rintro r11 je ⟨rfl, hd, hf⟩
                          have lT := zmh (HX.out.call hd hf)
                          clear hd hf HX)
                       | (go_at_call 233; refine (HQC.out _).mono ?_; rintro r50 w50 ⟨rfl, rfl⟩))
                    | go_upto_if 175 with (first
                       | (go_at_call 172; refine (HQA.out _ HX.out.1).mono ?_; rintro r11 je ⟨rfl, hd, hf⟩
                          have lT := zmh (HX.out.call hd hf)
                          clear hd hf HX)
                       | (go_at_call 233; refine (HQC.out _).mono ?_; rintro r50 w50 ⟨rfl, rfl⟩))
                   first | (guard_hyp ag; go_cut [] (fun wx => ∃ v, Hid (DH te pe d g0 cur g 288 w wx T5 #[(.int .u8 (b : Int)), (.int .i32 (wrap32 x1)), (.float .f64 x2), (.int .u64 (x3 : Int)), (.int .u64 (x4 : Int)), (.float .f64 x5), .slice A1 n1 c1, .slice A2 n2 c2, .slice A3 n3 c3, .slice A4 n4 c4, v] [⟨135, 1, v, n5, (List.replicate n5 (0 : Nat)).flatMap f1⟩, rwI A4 n4 c4 downs, rwI A3 n3 c3 ups, rwS A2 n2 c2 neg, rwS A1 n1 c1 pos]))) | (go_cut [] (fun wx => ∃ v, Hid (DH te pe d g0 cur g 296 w wx T5 (cF b x1 x2 x3 x4 x5 (.slice A1 n1 c1) (.slice A2 n2 c2) (.slice A3 n3 c3) (.slice A4 n4 c4) v) [⟨135, 1, v, n5, (List.replicate n5 (0 : Nat)).flatMap f1⟩, rwF A4 n4 c4 fdowns, rwF A3 n3 c3 fups, rwS A2 n2 c2 neg, rwS A1 n1 c1 pos])))
                   case first =>
                    as_aux_lemma =>
                     rcases zmE n5 with h0 | h0
                     ·have h1 : ¬ (0 : Int) < (n5 : Int) := by omega
                      have H0 := zmh h0; clear h0; go_wp2_with fail
                      go_meet
                      refine ⟨.slice none 0 0, zmh ?_⟩; have h := lT.out.none_ 135 1; rw [H0.out]; exact h
                     ·have h1 : (0 : Int) < (n5 : Int) := by omega
                      obtain ⟨i0, aC, az, ay, aB⟩ := info_parts zh6; have gI := zeE prog 286 135 #[.float .f64 0] 1 8 i0 _ zdo aC az ay aB rfl (by omega) n5 m5; obtain ⟨Z, hZ⟩ := exE (madeCells #[.float .f64 0] (n5 * 1))
                      have HM := zmh (DH.make (f := f1) (zr := 0) (Z := Z) (e := 135) (z := 1) (n := n5) lT.out (by rw [<- hZ]; exact zc3 f1 0 #[.float .f64 0] 1 rfl rfl (by omega) (fun _ => rfl) n5) (by rw [<- hZ]; exact size_madeCells _ _) (by unfold maxLen; omega)); rw [hZ] at gI; have a0 : (je.alloc (.cells Z 135)).cell? ⟨g, 10, none⟩ = some (.slice none 0 0) := HM.out.2.1.cell 10
                      have a1 : (je.alloc (.cells Z 135)).frozen? ⟨g, 10, none⟩ = false := HM.out.2.1.frozen 10; clear hZ; go_wp2_with fail
                      go_meet
                      exact ⟨_, zmh (HM.out.set 10 _)⟩
                   case rest =>
                    as_aux_lemma =>
                     obtain ⟨v, HC⟩ := hcut; obtain ⟨A5, c5, rfl⟩ := zaa HC.out.row; have j3 : Hid (n5 = n5) := zmh rfl; have z10 : wc.cell? ⟨g, 10, none⟩ = some (.slice A5 n5 c5) := HC.out.2.1.cell 10; clear lT; go_wp2
                     first | (guard_hyp ag; go_loopw [188] (fun i wr => ∃ (k : Nat) (acc rest : List Nat) (ST : St), i = .int .i64 k /\ k <= n5 /\ Hid (acc.length = k /\ gN zac (n5 - k) ST = (rest, gh) /\ acc ++ rest = cus) /\ Hid (DH te pe d g0 cur g 288 w wr ST #[(.int .u8 (b : Int)), (.int .i32 (wrap32 x1)), (.float .f64 x2), (.int .u64 (x3 : Int)), (.int .u64 (x4 : Int)), (.float .f64 x5), .slice A1 n1 c1, .slice A2 n2 c2, .slice A3 n3 c3, .slice A4 n4 c4, .slice A5 n5 c5] [⟨135, 1, .slice A5 n5 c5, n5, (acc ++ List.replicate (n5 - k) 0).flatMap f1⟩, rwI A4 n4 c4 downs, rwI A3 n3 c3 ups, rwS A2 n2 c2 neg, rwS A1 n1 c1 pos])) (fun i _ => n5 - (intOf i).toNat)) | (go_loopw [186] (fun i wr => ∃ (k : Nat) (acc rest : List Nat) (ST : St), i = .int .i64 k /\ k <= n5 /\ Hid (acc.length = k /\ gN zac (n5 - k) ST = (rest, gh) /\ acc ++ rest = cus) /\ Hid (DH te pe d g0 cur g 296 w wr ST (cF b x1 x2 x3 x4 x5 (.slice A1 n1 c1) (.slice A2 n2 c2) (.slice A3 n3 c3) (.slice A4 n4 c4) (.slice A5 n5 c5)) [⟨135, 1, .slice A5 n5 c5, n5, (acc ++ List.replicate (n5 - k) 0).flatMap f1⟩, rwF A4 n4 c4 fdowns, rwF A3 n3 c3 fups, rwS A2 n2 c2 neg, rwS A1 n1 c1 pos])) (fun i _ => n5 - (intOf i).toNat))
                     case atStart => exact ⟨0, [], cus, T5, rfl, zms _, zmh ⟨rfl, ky.out, rfl⟩, HC⟩
                     case round =>
                      obtain ⟨k, acc, rest, ST, rfl, hk, HA, HD⟩ := hrel; by_cases hlt : k < n5
                      ·clear HC z10
                       obtain ⟨m, c, hv, hm0, hc⟩ := ziK HD.out.row (by omega); injection hv with cA bd eX; subst cA eX; have iI : g ≠ m := by omega
                       obtain ⟨k', fD⟩ : ∃ k', n5 - k = k' + 1 := ⟨n5 - k - 1, by omega⟩; obtain ⟨eO, cy, gt⟩ := HA.out; rw [fD] at cy; obtain ⟨x, U1, hs⟩ : ∃ a b, zac ST = (a, b) := ⟨_, _, rfl⟩; have V1 : Hid (DQ te pe d g0 cur 234 ST (.float .f64 x) U1) := zmh (fun W hW => by have := zdQ te pe _ _ _ _ _ hW; rw [hs] at this; exact this)
                       have aM : rest = x :: (gN zac k' U1).1 /\ (gN zac k' U1).2 = gh := by
                        rw [gN, hs] at cy; exact ⟨(zm7 Prod.fst cy).symm, zm7 Prod.snd cy⟩
                       have HB : Hid ((acc ++ [x]).length = k + 1 /\ gN zac (n5 - (k + 1)) U1 = ((gN zac k' U1).1, gh) /\ (acc ++ [x]) ++ (gN zac k' U1).1 = cus) := zmh ⟨by rw [zmi, eO]; rfl, by rw [show n5 - (k + 1) = k' by omega, <- aM.2], by rw [zmk, zmZ, <- aM.1]; exact gt⟩; have HK := zmh eO; have aT := zmh (HD.out.rep hlt)
                       have z10 : wr.drew.cell? ⟨g, 10, none⟩ = some (.slice (some ⟨m, 0, none⟩) n5 c5) := aT.out.2.1.cell 10; clear HA HD eO cy gt aM hs; go_wp2_with fail
                       go_region_held3 (fun w' => w'.cell? ⟨g, 10, none⟩ = some (.slice (some ⟨m, 0, none⟩) n5 c5))
                        ((first | exact (Blk.far bC.out.2.1 (p := ⟨m, k, none⟩) iI _).cell 10 | exact bC.out.2.1.cell 10 | exact aT.out.2.1.cell 10 | go_keep))
                        ((go_at_call 234; refine (V1.out _ aT.out.1).mono ?_; rintro r dH ⟨rfl, hd, hf⟩
                          have bC := zmh (aT.out.call hd hf); have s0 : dH.cell? ⟨m, k, none⟩ = some (.float .f64 0) := zcn bC.out.row (zcT f1 1 (fun _ => rfl) acc _ 0 k 0 _ HK.out (by omega) (by omega)); have s1 : dH.frozen? ⟨m, k, none⟩ = false := zcm bC.out.row _
                          clear hd hf))
                       obtain ⟨WA, eP⟩ : ∃ W, dH.setCell ⟨m, k, none⟩ (.float .f64 x) = W := ⟨_, rfl⟩; rw [eP]; have dA := zmh (bC.out.pt (y := x) eP (fun _ => rfl) HK.out 0 (by omega) (by omega) rfl); clear aT bC eP s0 s1 z10; go_wp2; go_roundw
                       case rel => exact ⟨k + 1, acc ++ [x], (gN zac k' U1).1, U1, by go_num, by omega, HB, zmh (by have h := dA.out; rw [zni] at h; exact h)⟩
                       case measure => simp [intOf]; omega
                      ·have ez : k = n5 := by omega
                       have HX := zmh (HD.out.fin HA.out ez HL5.out); have hlt2 : ¬ (k : Int) < (n5 : Int) := by omega
                       clear HA HD HC hlt ez z10; go_wp2; go_end0; exact ⟨rfl, _, _, _, _, _, HX.out⟩
theorem zjh : type_of% (zcr.1 trivial) := zcr.1 trivial
theorem zjj : type_of% (zcr.2 trivial) := zcr.2 trivial
end Go.Proofs.YtbkookiigkckdaaGreatDoor
