/- Texts of this seat, merged and shortened: H2, H3, Lp, Lf, Nd. -/
import Derived.Test.YtbkookiigkckdaaGreatDoorK04
set_option linter.unusedVariables false
set_option linter.unusedSimpArgs false
set_option maxRecDepth 100000
set_option maxHeartbeats 8000000
namespace Go.Proofs.YtbkookiigkckdaaGreatDoor
open Go.RowKit
structure Hst where
 hint : UInt8
 schema : Int
 thr : Nat
 sum : Nat
 zc : Nat
 cnt : Nat
 pos : List (Int × Nat)
 neg : List (Int × Nat)
 ups : List Int
 downs : List Int
 fups : List Nat
 fdowns : List Nat
 cus : List Nat
structure Hsl where
 p : Value
 n : Value
 u : Value
 d : Value
 fu : Value
 fd : Value
 c : Value
structure Hs5 where
 p : Value
 n : Value
 u : Value
 d : Value
 c : Value
def Hst.few (h : Hst) (m : Nat) : Prop := h.pos.length ≤ m ∧ h.neg.length ≤ m ∧ h.ups.length ≤ m ∧ h.downs.length ≤ m ∧ h.fups.length ≤ m ∧ h.fdowns.length ≤ m ∧ h.cus.length ≤ m
def hic (h : Hst) (s : Hsl) : List Value := [.int .u8 h.hint.toNat, .int .i32 h.schema, .int .u64 h.thr, .int .u64 h.sum, .int .u64 h.zc, .int .u64 h.cnt, s.p, s.n, s.u, s.d, s.fu, s.fd, s.c]
def SlHs (P : Nat → Prop) (w : World) (h : Hst) (s : Hsl) : Prop :=
 Sl P w s.p 2 h.pos.length (h.pos.flatMap spc) ∧ Sl P w s.n 2 h.neg.length (h.neg.flatMap spc) ∧ Sl P w s.u 1 h.ups.length (h.ups.flatMap i1) ∧ Sl P w s.d 1 h.downs.length (h.downs.flatMap i1) ∧
 Sl P w s.fu 1 h.fups.length (h.fups.flatMap u1) ∧ Sl P w s.fd 1 h.fdowns.length (h.fdowns.flatMap u1) ∧ Sl P w s.c 1 h.cus.length (h.cus.flatMap u1)
theorem SlHs.fr {P S : Nat → Prop} {w w' : World} {h : Hst} {s : Hsl} (k : SlHs P w h s) (hf : Fr S w w') (hs : ∀ g, P g → ¬ S g) : SlHs P w' h s :=
 let ⟨a, b, c, d, e, f, g⟩ := k
 ⟨a.fr hf hs, b.fr hf hs, c.fr hf hs, d.fr hf hs, e.fr hf hs, f.fr hf hs, g.fr hf hs⟩
theorem Sl.shape {P : Nat → Prop} {w : World} {v : Value} {size n : Nat} {xs : List Value} (h : Sl P w v size n xs) : ∃ A c, v = .slice A n c := let ⟨A, c, e, _⟩ := h; ⟨A, c, e⟩
theorem zgN (l : List Int) : ∀ u ∈ l.flatMap i1, u.oneCell' = true := by
 intro u hu; obtain ⟨x, _, hx⟩ := List.mem_flatMap.1 hu; simp [i1] at hx; subst hx; rfl
theorem zig {α : Type} (m : Nat) (f : α → List Value) (h3 : ∀ x, (f x).length = m) : ∀ (l : List α) (k : Nat) (x : α), l[k]? = some x → ∀ j, j < m → (l.flatMap f)[k * m + j]? = (f x)[j]?
 | [], k, x, h, j, hj => by simp at h
 | y :: l, 0, x, h, j, hj => by
   simp at h; subst h; rw [zlm, zlT (by rw [h3]; omega)]; simp
 | y :: l, k + 1, x, h, j, hj => by
   have e : (k + 1) * m + j - m = k * m + j := by rw [Nat.succ_mul]; omega
   rw [zlm, zlU (by rw [h3, Nat.succ_mul]; omega), h3, e]; exact zig m f h3 l k x (by simpa using h) j hj
theorem Fr.nilgrown {S : Nat → Prop} {w w' w'' : World} (h : Fr S w w') (hg : w'.grownBy w'' (Value.slice none 0 0).ownBlock) : Fr S w w'' := h.grown hg (fun k hk => by cases hk)
theorem zb7 {w : World} {g t : Nat} {a0 a1 a2 a3 a4 a5 a6 a7 a8 a9 a10 a11 a12 : Value} (h : Blk w g t #[a0, a1, a2, a3, a4, a5, a6, a7, a8, a9, a10, a11, a12]) :
 w.cell? ⟨g, 0, none⟩ = some a0 ∧ w.cell? ⟨g, 1, none⟩ = some a1 ∧ w.cell? ⟨g, 2, none⟩ = some a2 ∧ w.cell? ⟨g, 3, none⟩ = some a3 ∧ w.cell? ⟨g, 4, none⟩ = some a4 ∧ w.cell? ⟨g, 5, none⟩ = some a5 ∧ w.cell? ⟨g, 6, none⟩ = some a6 ∧
 w.cell? ⟨g, 7, none⟩ = some a7 ∧ w.cell? ⟨g, 8, none⟩ = some a8 ∧ w.cell? ⟨g, 9, none⟩ = some a9 ∧ w.cell? ⟨g, 10, none⟩ = some a10 ∧ w.cell? ⟨g, 11, none⟩ = some a11 ∧ w.cell? ⟨g, 12, none⟩ = some a12 :=
 ⟨h.cell 0, h.cell 1, h.cell 2, h.cell 3, h.cell 4, h.cell 5, h.cell 6, h.cell 7, h.cell 8, h.cell 9, h.cell 10, h.cell 11, h.cell 12⟩
def hcW (h : Hst) (s : Hs5) : List Value := [.int .u8 h.hint.toNat, .int .i32 h.schema, .float .f64 h.thr, .int .u64 h.zc, .int .u64 h.cnt, .float .f64 h.sum, s.p, s.n, s.u, s.d, s.c]
def OwnW (base : Nat) (w : World) (h : Hst) (v : Value) : Prop :=
 ∃ g s, v = .pointer (some ⟨g, 0, none⟩) ∧ base ≤ g ∧ Blk w g 288 (hcW h s).toArray ∧ w.ownsRow base 361 2 s.p h.pos.length (h.pos.flatMap spc) ∧ w.ownsRow base 361 2 s.n h.neg.length (h.neg.flatMap spc) ∧
  w.ownsRow base 2 1 s.u h.ups.length (h.ups.flatMap i1) ∧ w.ownsRow base 2 1 s.d h.downs.length (h.downs.flatMap i1) ∧ w.ownsRow base 135 1 s.c h.cus.length (h.cus.flatMap f1)
def RdW (P : Nat → Prop) (w : World) (h : Hst) (v : Value) : Prop :=
 ∃ g s, v = .pointer (some ⟨g, 0, none⟩) ∧ P g ∧ Blk w g 288 (hcW h s).toArray ∧ Sl P w s.p 2 h.pos.length (h.pos.flatMap spc) ∧ Sl P w s.n 2 h.neg.length (h.neg.flatMap spc) ∧
  Sl P w s.u 1 h.ups.length (h.ups.flatMap i1) ∧ Sl P w s.d 1 h.downs.length (h.downs.flatMap i1) ∧ Sl P w s.c 1 h.cus.length (h.cus.flatMap f1)
theorem OwnW.fr {S : Nat → Prop} {base : Nat} {w w' : World} {h : Hst} {v : Value} (k : OwnW base w h v) (hf : Fr S w w') (hs : ∀ k, base ≤ k → k < w.heap.size → ¬ S k) : OwnW base w' h v := by
 obtain ⟨g, s, hv, hg, hb, a1, a2, a3, a4, a5⟩ := k; have go : ∀ {e : TypeId} {z n : Nat} {u : Value} {xs : List Value}, w.ownsRow base e z u n xs → w'.ownsRow base e z u n xs := fun o => zah o hf (fun g hg => hs g (o.lt g hg).1 (zav o hg)); exact ⟨g, s, hv, hg, hb.fr hf (hs g hg hb.lt), go a1, go a2, go a3, go a4, go a5⟩
theorem OwnW.mono {base base' : Nat} {w : World} {h : Hst} {v : Value} (k : OwnW base w h v) (hb : base' ≤ base) : OwnW base' w h v := by
 obtain ⟨g, s, hv, hg, hb2, a1, a2, a3, a4, a5⟩ := k; exact ⟨g, s, hv, zlQ hb hg, hb2, zai a1 hb, zai a2 hb, zai a3 hb, zai a4 hb, zai a5 hb⟩
theorem OwnW.grown {base base' te z n : Nat} {w w' : World} {h : Hst} {v r : Value} {xs : List Value} (k : OwnW base w h v) (ho : w.ownsRow base' te z r n xs) (hg : w.grownBy w' r.ownBlock) (h1 : te ≠ 288) (h2 : 361 ≠ te) (h3 : 2 ≠ te) (h4 : 135 ≠ te) : OwnW base w' h v := by
 obtain ⟨g, s, hv, hgb, hb, a1, a2, a3, a4, a5⟩ := k; have hf : Fr (fun k => some k = r.ownBlock) w w' := (zlW (fun k => some k = r.ownBlock) w).grown hg (fun k hk => .inl hk.symm); have go : ∀ {e : TypeId} {z n : Nat} {u : Value} {xs : List Value}, e ≠ te → w.ownsRow base e z u n xs → w'.ownsRow base e z u n xs := fun he o => zah o hf (fun g hg e => zbU o ho he g hg e.symm)
 exact ⟨g, s, hv, hgb, hb.fr hf (fun e => zak ho hb h1 e.symm), go h2 a1, go h2 a2, go h3 a3, go h3 a4, go h4 a5⟩
theorem OwnW.rd {base : Nat} {w : World} {h : Hst} {v : Value} (k : OwnW base w h v) : RdW (fun g => base ≤ g ∧ g < w.heap.size) w h v := by
 obtain ⟨g, s, hv, hg, hb, a1, a2, a3, a4, a5⟩ := k; have go : ∀ {e : TypeId} {z n : Nat} {u : Value} {xs : List Value}, w.ownsRow base e z u n xs → Sl (fun g => base ≤ g ∧ g < w.heap.size) w u z n xs := fun o => (Sl.ofOwn o).mono (fun g hg => ⟨(o.lt g hg).1, zav o hg⟩); exact ⟨g, s, hv, ⟨hg, hb.lt⟩, hb, go a1, go a2, go a3, go a4, go a5⟩
theorem RdW.fr {P S : Nat → Prop} {w w' : World} {h : Hst} {v : Value} (k : RdW P w h v) (hf : Fr S w w') (hs : ∀ g, P g → ¬ S g) : RdW P w' h v := by
 obtain ⟨g, s, hv, hg, hb, a1, a2, a3, a4, a5⟩ := k; exact ⟨g, s, hv, hg, hb.fr hf (hs g hg), a1.fr hf hs, a2.fr hf hs, a3.fr hf hs, a4.fr hf hs, a5.fr hf hs⟩
theorem RdW.mono {P Q : Nat → Prop} {w : World} {h : Hst} {v : Value} (k : RdW P w h v) (hs : ∀ g, P g → Q g) : RdW Q w h v := by
 obtain ⟨g, s, hv, hg, hb, a1, a2, a3, a4, a5⟩ := k; exact ⟨g, s, hv, hs g hg, hb, a1.mono hs, a2.mono hs, a3.mono hs, a4.mono hs, a5.mono hs⟩
def MadeW (w : World) (h : Hst) (r : Ending) (w' : World) : Prop := ∃ v, r = .returned v ∧ OwnW w.heap.size w' h v ∧ Fr (fun _ => False) w w'
def hcF (h : Hst) (s : Hs5) : List Value := [.int .u8 h.hint.toNat, .int .i32 h.schema, .float .f64 h.thr, .float .f64 h.zc, .float .f64 h.cnt, .float .f64 h.sum, s.p, s.n, s.u, s.d, s.c]
def OwnF (base : Nat) (w : World) (h : Hst) (v : Value) : Prop :=
 ∃ g s, v = .pointer (some ⟨g, 0, none⟩) ∧ base ≤ g ∧ Blk w g 296 (hcF h s).toArray ∧ w.ownsRow base 361 2 s.p h.pos.length (h.pos.flatMap spc) ∧ w.ownsRow base 361 2 s.n h.neg.length (h.neg.flatMap spc) ∧
  w.ownsRow base 135 1 s.u h.fups.length (h.fups.flatMap f1) ∧ w.ownsRow base 135 1 s.d h.fdowns.length (h.fdowns.flatMap f1) ∧ w.ownsRow base 135 1 s.c h.cus.length (h.cus.flatMap f1)
def RdF (P : Nat → Prop) (w : World) (h : Hst) (v : Value) : Prop :=
 ∃ g s, v = .pointer (some ⟨g, 0, none⟩) ∧ P g ∧ Blk w g 296 (hcF h s).toArray ∧ Sl P w s.p 2 h.pos.length (h.pos.flatMap spc) ∧ Sl P w s.n 2 h.neg.length (h.neg.flatMap spc) ∧
  Sl P w s.u 1 h.fups.length (h.fups.flatMap f1) ∧ Sl P w s.d 1 h.fdowns.length (h.fdowns.flatMap f1) ∧ Sl P w s.c 1 h.cus.length (h.cus.flatMap f1)
theorem OwnF.fr {S : Nat → Prop} {base : Nat} {w w' : World} {h : Hst} {v : Value} (k : OwnF base w h v) (hf : Fr S w w') (hs : ∀ k, base ≤ k → k < w.heap.size → ¬ S k) : OwnF base w' h v := by
 obtain ⟨g, s, hv, hg, hb, a1, a2, a3, a4, a5⟩ := k; have go : ∀ {e : TypeId} {z n : Nat} {u : Value} {xs : List Value}, w.ownsRow base e z u n xs → w'.ownsRow base e z u n xs := fun o => zah o hf (fun g hg => hs g (o.lt g hg).1 (zav o hg)); exact ⟨g, s, hv, hg, hb.fr hf (hs g hg hb.lt), go a1, go a2, go a3, go a4, go a5⟩
theorem OwnF.mono {base base' : Nat} {w : World} {h : Hst} {v : Value} (k : OwnF base w h v) (hb : base' ≤ base) : OwnF base' w h v := by
 obtain ⟨g, s, hv, hg, hb2, a1, a2, a3, a4, a5⟩ := k; exact ⟨g, s, hv, zlQ hb hg, hb2, zai a1 hb, zai a2 hb, zai a3 hb, zai a4 hb, zai a5 hb⟩
theorem OwnF.grown {base base' te z n : Nat} {w w' : World} {h : Hst} {v r : Value} {xs : List Value} (k : OwnF base w h v) (ho : w.ownsRow base' te z r n xs) (hg : w.grownBy w' r.ownBlock) (h1 : te ≠ 296) (h2 : 361 ≠ te) (h3 : 135 ≠ te) (h4 : 135 ≠ te) : OwnF base w' h v := by
 obtain ⟨g, s, hv, hgb, hb, a1, a2, a3, a4, a5⟩ := k; have hf : Fr (fun k => some k = r.ownBlock) w w' := (zlW (fun k => some k = r.ownBlock) w).grown hg (fun k hk => .inl hk.symm); have go : ∀ {e : TypeId} {z n : Nat} {u : Value} {xs : List Value}, e ≠ te → w.ownsRow base e z u n xs → w'.ownsRow base e z u n xs := fun he o => zah o hf (fun g hg e => zbU o ho he g hg e.symm)
 exact ⟨g, s, hv, hgb, hb.fr hf (fun e => zak ho hb h1 e.symm), go h2 a1, go h2 a2, go h3 a3, go h3 a4, go h4 a5⟩
theorem OwnF.rd {base : Nat} {w : World} {h : Hst} {v : Value} (k : OwnF base w h v) : RdF (fun g => base ≤ g ∧ g < w.heap.size) w h v := by
 obtain ⟨g, s, hv, hg, hb, a1, a2, a3, a4, a5⟩ := k; have go : ∀ {e : TypeId} {z n : Nat} {u : Value} {xs : List Value}, w.ownsRow base e z u n xs → Sl (fun g => base ≤ g ∧ g < w.heap.size) w u z n xs := fun o => (Sl.ofOwn o).mono (fun g hg => ⟨(o.lt g hg).1, zav o hg⟩); exact ⟨g, s, hv, ⟨hg, hb.lt⟩, hb, go a1, go a2, go a3, go a4, go a5⟩
theorem RdF.fr {P S : Nat → Prop} {w w' : World} {h : Hst} {v : Value} (k : RdF P w h v) (hf : Fr S w w') (hs : ∀ g, P g → ¬ S g) : RdF P w' h v := by
 obtain ⟨g, s, hv, hg, hb, a1, a2, a3, a4, a5⟩ := k; exact ⟨g, s, hv, hg, hb.fr hf (hs g hg), a1.fr hf hs, a2.fr hf hs, a3.fr hf hs, a4.fr hf hs, a5.fr hf hs⟩
theorem RdF.mono {P Q : Nat → Prop} {w : World} {h : Hst} {v : Value} (k : RdF P w h v) (hs : ∀ g, P g → Q g) : RdF Q w h v := by
 obtain ⟨g, s, hv, hg, hb, a1, a2, a3, a4, a5⟩ := k; exact ⟨g, s, hv, hs g hg, hb, a1.mono hs, a2.mono hs, a3.mono hs, a4.mono hs, a5.mono hs⟩
def MadeF (w : World) (h : Hst) (r : Ending) (w' : World) : Prop := ∃ v, r = .returned v ∧ OwnF w.heap.size w' h v ∧ Fr (fun _ => False) w w'
theorem whole_any (P : Nat → Prop) (h : Hst) (s : Hsl) (w : World) (hs : SlHs P w h s) (hl : h.few 1099511627776) :
 Calls Tryz.prog 175 #[.agg (hic h s).toArray] w (MadeW w h) := by
 have mixed : Tryz.prog.follows .mixedOrders = true := by kernel_rfl
 obtain ⟨hp, hn, hu, hd, hfu, hfd, hc⟩ := hs; obtain ⟨l1, l2, l3, l4, l5, l6, l7⟩ := hl; obtain ⟨hint, schema, thr, sum, zc, cnt, pos, neg, ups, downs, fups, fdowns, cus⟩ := h; obtain ⟨sp, sn, su, sd, sfu, sfd, sc⟩ := s; simp only [] at hp hn hu hd hfu hfd hc l1 l2 l3 l4 l5 l6 l7; obtain ⟨A1, c1, rfl⟩ := hp.shape; obtain ⟨A2, c2, rfl⟩ := hn.shape; obtain ⟨A3, c3, rfl⟩ := hu.shape
 obtain ⟨A4, c4, rfl⟩ := hd.shape; obtain ⟨A5, c5, rfl⟩ := hfu.shape; obtain ⟨A6, c6, rfl⟩ := hfd.shape; obtain ⟨A7, c7, rfl⟩ := hc.shape; obtain ⟨n1, e1⟩ : ∃ n, pos.length = n := ⟨_, rfl⟩; obtain ⟨n2, e2⟩ : ∃ n, neg.length = n := ⟨_, rfl⟩; obtain ⟨n3, e3⟩ : ∃ n, ups.length = n := ⟨_, rfl⟩; obtain ⟨n4, e4⟩ : ∃ n, downs.length = n := ⟨_, rfl⟩; obtain ⟨n5, e5⟩ : ∃ n, fups.length = n := ⟨_, rfl⟩
 obtain ⟨n6, e6⟩ : ∃ n, fdowns.length = n := ⟨_, rfl⟩; obtain ⟨n7, e7⟩ : ∃ n, cus.length = n := ⟨_, rfl⟩; have HS := zk7 (fun (W : World) (hW : Fr (fun _ => False) w W) => zeF P _ pos W (hp.fr hW (fun _ _ e => e)) l1); have HT := zk7 (fun (W : World) (hW : Fr (fun _ => False) w W) => zeF P _ neg W (hn.fr hW (fun _ _ e => e)) l2)
 have HX := zk7 (fun (W : World) (hW : Fr (fun _ => False) w W) => zcX P _ fups W (hfu.fr hW (fun _ _ e => e)) l5); have HY := zk7 (fun (W : World) (hW : Fr (fun _ => False) w W) => zcX P _ fdowns W (hfd.fr hW (fun _ _ e => e)) l6); have HZ := zk7 (fun (W : World) (hW : Fr (fun _ => False) w W) => zcX P _ cus W (hc.fr hW (fun _ _ e => e)) l7)
 have HU := zk7 (fun (W : World) (hW : Fr (fun _ => False) w W) => zc8 Tryz.underlying189 (hu.fr hW (fun _ _ e => e)) (zgN _)); have HD := zk7 (fun (W : World) (hW : Fr (fun _ => False) w W) => zc8 Tryz.underlying189 (hd.fr hW (fun _ _ e => e)) (zgN _)); obtain ⟨i2, hi2, hy0, hy1, hy2⟩ := info_parts Tryz.info2; simp only [hic]; rw [e1] at HS l1 ⊢; rw [e2] at HT l2 ⊢
 rw [e3] at HU l3 ⊢; rw [e4] at HD l4 ⊢; rw [e5] at HX l5 ⊢; rw [e6] at HY l6 ⊢; rw [e7] at HZ l7 ⊢; have HE := zk7 (And.intro e1 (And.intro e2 (And.intro e3 (And.intro e4 (And.intro e5 (And.intro e6 e7)))))); clear hp hn hu hd hfu hfd hc e1 e2 e3 e4 e5 e6 e7; go_enter Tryz.func175, Tryz.ntmps175; go_wp2_with fail
 have K0 := zk7 (Blk.new w 192 #[.int .u8 hint.toNat, .int .i32 schema, .int .u64 thr, .int .u64 sum, .int .u64 zc, .int .u64 cnt, .slice A1 n1 c1, .slice A2 n2 c2, .slice A3 n3 c3, .slice A4 n4 c4, .slice A5 n5 c5, .slice A6 n6 c6, .slice A7 n7 c7])
 have F0 := zk7 ((zlW (fun _ => False) w).alloc (.cells #[.int .u8 hint.toNat, .int .i32 schema, .int .u64 thr, .int .u64 sum, .int .u64 zc, .int .u64 cnt, .slice A1 n1 c1, .slice A2 n2 c2, .slice A3 n3 c3, .slice A4 n4 c4, .slice A5 n5 c5, .slice A6 n6 c6, .slice A7 n7 c7] 192)).drew; obtain ⟨s0, s1, s2, s3, s4, s5, s6, s7, s8, s9, s10, s11, s12⟩ := zb7 K0.out.drew
 go_region_held3 (fun w' => w'.cell? ⟨w.heap.size, 0, none⟩ = some (.int .u8 hint.toNat) ∧ w'.cell? ⟨w.heap.size, 1, none⟩ = some (.int .i32 schema) ∧ w'.cell? ⟨w.heap.size, 2, none⟩ = some (.int .u64 thr) ∧ w'.cell? ⟨w.heap.size, 3, none⟩ = some (.int .u64 sum) ∧ w'.cell? ⟨w.heap.size, 4, none⟩ = some (.int .u64 zc) ∧ w'.cell? ⟨w.heap.size, 5, none⟩ = some (.int .u64 cnt) ∧ w'.cell? ⟨w.heap.size, 6, none⟩ = some (.slice A1 n1 c1) ∧ w'.cell? ⟨w.heap.size, 7, none⟩ = some (.slice A2 n2 c2) ∧ w'.cell? ⟨w.heap.size, 8, none⟩ = some (.slice A3 n3 c3) ∧ w'.cell? ⟨w.heap.size, 9, none⟩ = some (.slice A4 n4 c4) ∧ w'.cell? ⟨w.heap.size, 10, none⟩ = some (.slice A5 n5 c5) ∧ w'.cell? ⟨w.heap.size, 11, none⟩ = some (.slice A6 n6 c6) ∧ w'.cell? ⟨w.heap.size, 12, none⟩ = some (.slice A7 n7 c7))
  ((first | exact zb7 (K5.out.alloc _) | exact zb7 K5.out | exact zb7 K4.out | exact zb7 K3.out | exact zb7 K2.out | exact zb7 K1.out | exact zb7 K0.out.drew | go_keep))
  ((first
    | (go_at_call 167; refine (zec _ _).mono ?_; rintro r w' ⟨rfl, rfl⟩)
    | (go_at_call 235; refine (HT.out w1 F1.out).mono ?_; rintro r2 w2 ⟨v2, rfl, hown2, hf2⟩; obtain ⟨B2, d2, rfl⟩ := zaa hown2; have F2 := zk7 (F1.out.same hf2); have K2 := zk7 (K1.out.fr hf2 (fun e => e)); have P2 := zk7 (zai hown2 F1.out.size); have G2 := zk7 hf2)
    | (go_at_call 235; refine (HS.out _ F0.out).mono ?_; rintro r1 w1 ⟨v1, rfl, hown1, hf1⟩; obtain ⟨B1, d1, rfl⟩ := zaa hown1; have F1 := zk7 (F0.out.same hf1); have K1 := zk7 (K0.out.drew.fr hf1 (fun e => e)); have P1 := zk7 (zai hown1 F0.out.size))
    | (refine zat _ (by rfl) _ _ 189 189 (by rfl) w.heap.size 2 i2 _ 1 8 Tryz.underlying189 hi2 hy0 hy1 hy2 rfl (by decide) (.slice none 0 0) 0 [] (by rfl) (zll _ _ _ _) _ n4 (downs.flatMap i1) (by rfl) (HD.out w3 F3.out) (by unfold maxLen; omega) (by omega) F3.out.size ?_; intro v4 w4 hown4 hg4 hat4; rw [zlC, zlJ] at hown4; obtain ⟨B4, d4, rfl⟩ := zaa hown4; have G4 := zk7 ((zlW (fun _ => False) w3).nilgrown hg4); have F4 := zk7 (F3.out.nilgrown hg4); have K4 := zk7 (K3.out.fr G4.out (fun e => e)); have P4 := zk7 hown4)
    | (refine zat _ (by rfl) _ _ 189 189 (by rfl) w.heap.size 2 i2 _ 1 8 Tryz.underlying189 hi2 hy0 hy1 hy2 rfl (by decide) (.slice none 0 0) 0 [] (by rfl) (zll _ _ _ _) _ n3 (ups.flatMap i1) (by rfl) (HU.out w2 F2.out) (by unfold maxLen; omega) (by omega) F2.out.size ?_; intro v3 w3 hown3 hg3 hat3; rw [zlC, zlJ] at hown3; obtain ⟨B3, d3, rfl⟩ := zaa hown3; have G3 := zk7 ((zlW (fun _ => False) w2).nilgrown hg3); have F3 := zk7 (F2.out.nilgrown hg3); have K3 := zk7 (K2.out.fr G3.out (fun e => e)); have P3 := zk7 hown3)
    | (go_at_call 236; refine (HZ.out w4 F4.out).mono ?_; rintro r5 w5 ⟨v5, rfl, hown5, hf5⟩; obtain ⟨B5, d5, rfl⟩ := zaa hown5; have F5 := zk7 (F4.out.same hf5); have K5 := zk7 (K4.out.fr hf5 (fun e => e)); have P5 := zk7 (zai hown5 F4.out.size); have G5 := zk7 hf5)))
 obtain ⟨rfl, rfl, rfl, rfl, rfl, rfl, rfl⟩ := HE.out
 have fin : ∀ (W : World), Fr (fun _ => False) w5 W → W.ownsRow w.heap.size 361 2 (.slice B1 pos.length d1) pos.length (pos.flatMap spc) ∧ W.ownsRow w.heap.size 361 2 (.slice B2 neg.length d2) neg.length (neg.flatMap spc) ∧ W.ownsRow w.heap.size 2 1 (.slice B3 ups.length d3) ups.length (ups.flatMap i1) ∧ W.ownsRow w.heap.size 2 1 (.slice B4 downs.length d4) downs.length (downs.flatMap i1) ∧ W.ownsRow w.heap.size 135 1 (.slice B5 cus.length d5) cus.length (cus.flatMap f1) := fun W hW => ⟨zah P1.out ((((G2.out.same G3.out).same G4.out).same G5.out).same hW) (fun _ _ e => e), zah P2.out (((G3.out.same G4.out).same G5.out).same hW) (fun _ _ e => e), zah P3.out ((G4.out.same G5.out).same hW) (fun _ _ e => e), zah P4.out (G5.out.same hW) (fun _ _ e => e), zah P5.out hW (fun _ _ e => e)⟩
 clear s0 s1 s2 s3 s4 s5 s6 s7 s8 s9 s10 s11 s12; have FIN := zk7 fin
 clear fin
 go_wp2; go_ret; have hA := (zlW (fun _ => False) w5).alloc (.cells #[.int .u8 hint.toNat, .int .i32 schema, .float .f64 thr, .int .u64 zc, .int .u64 cnt, .float .f64 sum, .slice B1 pos.length d1, .slice B2 neg.length d2, .slice B3 ups.length d3, .slice B4 downs.length d4, .slice B5 cus.length d5] 288); obtain ⟨q1, q2, q3, q4, q5⟩ := FIN.out _ hA
 exact ⟨_, rfl, ⟨w5.heap.size, ⟨.slice B1 pos.length d1, .slice B2 neg.length d2, .slice B3 ups.length d3, .slice B4 downs.length d4, .slice B5 cus.length d5⟩, rfl, F5.out.size, Blk.new w5 288 _, q1, q2, q3, q4, q5⟩, F5.out.alloc _⟩
theorem zk2 (P : Nat → Prop) (h : Hst) (s : Hsl) (w : World) (hs : SlHs P w h s) (hl : h.few 1099511627776) :
 Calls Tryz.prog 178 #[.agg (hic h s).toArray] w (MadeF w h) := by
 have mixed : Tryz.prog.follows .mixedOrders = true := by kernel_rfl
 obtain ⟨hp, hn, hu, hd, hfu, hfd, hc⟩ := hs; obtain ⟨l1, l2, l3, l4, l5, l6, l7⟩ := hl; obtain ⟨hint, schema, thr, sum, zc, cnt, pos, neg, ups, downs, fups, fdowns, cus⟩ := h; obtain ⟨sp, sn, su, sd, sfu, sfd, sc⟩ := s; simp only [] at hp hn hu hd hfu hfd hc l1 l2 l3 l4 l5 l6 l7; obtain ⟨A1, c1, rfl⟩ := hp.shape; obtain ⟨A2, c2, rfl⟩ := hn.shape; obtain ⟨A3, c3, rfl⟩ := hu.shape
 obtain ⟨A4, c4, rfl⟩ := hd.shape; obtain ⟨A5, c5, rfl⟩ := hfu.shape; obtain ⟨A6, c6, rfl⟩ := hfd.shape; obtain ⟨A7, c7, rfl⟩ := hc.shape; obtain ⟨n1, e1⟩ : ∃ n, pos.length = n := ⟨_, rfl⟩; obtain ⟨n2, e2⟩ : ∃ n, neg.length = n := ⟨_, rfl⟩; obtain ⟨n3, e3⟩ : ∃ n, ups.length = n := ⟨_, rfl⟩; obtain ⟨n4, e4⟩ : ∃ n, downs.length = n := ⟨_, rfl⟩; obtain ⟨n5, e5⟩ : ∃ n, fups.length = n := ⟨_, rfl⟩
 obtain ⟨n6, e6⟩ : ∃ n, fdowns.length = n := ⟨_, rfl⟩; obtain ⟨n7, e7⟩ : ∃ n, cus.length = n := ⟨_, rfl⟩; have HS := zk7 (fun (W : World) (hW : Fr (fun _ => False) w W) => zeF P _ pos W (hp.fr hW (fun _ _ e => e)) l1); have HT := zk7 (fun (W : World) (hW : Fr (fun _ => False) w W) => zeF P _ neg W (hn.fr hW (fun _ _ e => e)) l2)
 have HX := zk7 (fun (W : World) (hW : Fr (fun _ => False) w W) => zcX P _ fups W (hfu.fr hW (fun _ _ e => e)) l5); have HY := zk7 (fun (W : World) (hW : Fr (fun _ => False) w W) => zcX P _ fdowns W (hfd.fr hW (fun _ _ e => e)) l6); have HZ := zk7 (fun (W : World) (hW : Fr (fun _ => False) w W) => zcX P _ cus W (hc.fr hW (fun _ _ e => e)) l7)
 have HU := zk7 (fun (W : World) (hW : Fr (fun _ => False) w W) => zc8 Tryz.underlying189 (hu.fr hW (fun _ _ e => e)) (zgN _)); have HD := zk7 (fun (W : World) (hW : Fr (fun _ => False) w W) => zc8 Tryz.underlying189 (hd.fr hW (fun _ _ e => e)) (zgN _)); obtain ⟨i2, hi2, hy0, hy1, hy2⟩ := info_parts Tryz.info2; simp only [hic]; rw [e1] at HS l1 ⊢; rw [e2] at HT l2 ⊢
 rw [e3] at HU l3 ⊢; rw [e4] at HD l4 ⊢; rw [e5] at HX l5 ⊢; rw [e6] at HY l6 ⊢; rw [e7] at HZ l7 ⊢; have HE := zk7 (And.intro e1 (And.intro e2 (And.intro e3 (And.intro e4 (And.intro e5 (And.intro e6 e7)))))); clear hp hn hu hd hfu hfd hc e1 e2 e3 e4 e5 e6 e7; go_enter Tryz.func178, Tryz.ntmps178; go_wp2_with fail
 have K0 := zk7 (Blk.new w 192 #[.int .u8 hint.toNat, .int .i32 schema, .int .u64 thr, .int .u64 sum, .int .u64 zc, .int .u64 cnt, .slice A1 n1 c1, .slice A2 n2 c2, .slice A3 n3 c3, .slice A4 n4 c4, .slice A5 n5 c5, .slice A6 n6 c6, .slice A7 n7 c7])
 have F0 := zk7 ((zlW (fun _ => False) w).alloc (.cells #[.int .u8 hint.toNat, .int .i32 schema, .int .u64 thr, .int .u64 sum, .int .u64 zc, .int .u64 cnt, .slice A1 n1 c1, .slice A2 n2 c2, .slice A3 n3 c3, .slice A4 n4 c4, .slice A5 n5 c5, .slice A6 n6 c6, .slice A7 n7 c7] 192)).drew; obtain ⟨s0, s1, s2, s3, s4, s5, s6, s7, s8, s9, s10, s11, s12⟩ := zb7 K0.out.drew
 go_region_held3 (fun w' => w'.cell? ⟨w.heap.size, 0, none⟩ = some (.int .u8 hint.toNat) ∧ w'.cell? ⟨w.heap.size, 1, none⟩ = some (.int .i32 schema) ∧ w'.cell? ⟨w.heap.size, 2, none⟩ = some (.int .u64 thr) ∧ w'.cell? ⟨w.heap.size, 3, none⟩ = some (.int .u64 sum) ∧ w'.cell? ⟨w.heap.size, 4, none⟩ = some (.int .u64 zc) ∧ w'.cell? ⟨w.heap.size, 5, none⟩ = some (.int .u64 cnt) ∧ w'.cell? ⟨w.heap.size, 6, none⟩ = some (.slice A1 n1 c1) ∧ w'.cell? ⟨w.heap.size, 7, none⟩ = some (.slice A2 n2 c2) ∧ w'.cell? ⟨w.heap.size, 8, none⟩ = some (.slice A3 n3 c3) ∧ w'.cell? ⟨w.heap.size, 9, none⟩ = some (.slice A4 n4 c4) ∧ w'.cell? ⟨w.heap.size, 10, none⟩ = some (.slice A5 n5 c5) ∧ w'.cell? ⟨w.heap.size, 11, none⟩ = some (.slice A6 n6 c6) ∧ w'.cell? ⟨w.heap.size, 12, none⟩ = some (.slice A7 n7 c7))
  ((first | exact zb7 (K5.out.alloc _) | exact zb7 K5.out | exact zb7 K4.out | exact zb7 K3.out | exact zb7 K2.out | exact zb7 K1.out | exact zb7 K0.out.drew | go_keep))
  ((first
    | (go_at_call 167; refine (zec _ _).mono ?_; rintro r w' ⟨rfl, rfl⟩)
    | (go_at_call 235; refine (HT.out w1 F1.out).mono ?_; rintro r2 w2 ⟨v2, rfl, hown2, hf2⟩; obtain ⟨B2, d2, rfl⟩ := zaa hown2; have F2 := zk7 (F1.out.same hf2); have K2 := zk7 (K1.out.fr hf2 (fun e => e)); have P2 := zk7 (zai hown2 F1.out.size); have G2 := zk7 hf2)
    | (go_at_call 235; refine (HS.out _ F0.out).mono ?_; rintro r1 w1 ⟨v1, rfl, hown1, hf1⟩; obtain ⟨B1, d1, rfl⟩ := zaa hown1; have F1 := zk7 (F0.out.same hf1); have K1 := zk7 (K0.out.drew.fr hf1 (fun e => e)); have P1 := zk7 (zai hown1 F0.out.size))
    | (go_at_call 236; refine (HZ.out w4 F4.out).mono ?_; rintro r5 w5 ⟨v5, rfl, hown5, hf5⟩; obtain ⟨B5, d5, rfl⟩ := zaa hown5; have F5 := zk7 (F4.out.same hf5); have K5 := zk7 (K4.out.fr hf5 (fun e => e)); have P5 := zk7 (zai hown5 F4.out.size); have G5 := zk7 hf5)
    | (go_at_call 236; refine (HY.out w3 F3.out).mono ?_; rintro r4 w4 ⟨v4, rfl, hown4, hf4⟩; obtain ⟨B4, d4, rfl⟩ := zaa hown4; have F4 := zk7 (F3.out.same hf4); have K4 := zk7 (K3.out.fr hf4 (fun e => e)); have P4 := zk7 (zai hown4 F3.out.size); have G4 := zk7 hf4)
    | (go_at_call 236; refine (HX.out w2 F2.out).mono ?_; rintro r3 w3 ⟨v3, rfl, hown3, hf3⟩; obtain ⟨B3, d3, rfl⟩ := zaa hown3; have F3 := zk7 (F2.out.same hf3); have K3 := zk7 (K2.out.fr hf3 (fun e => e)); have P3 := zk7 (zai hown3 F2.out.size); have G3 := zk7 hf3)))
 obtain ⟨rfl, rfl, rfl, rfl, rfl, rfl, rfl⟩ := HE.out
 have fin : ∀ (W : World), Fr (fun _ => False) w5 W → W.ownsRow w.heap.size 361 2 (.slice B1 pos.length d1) pos.length (pos.flatMap spc) ∧ W.ownsRow w.heap.size 361 2 (.slice B2 neg.length d2) neg.length (neg.flatMap spc) ∧ W.ownsRow w.heap.size 135 1 (.slice B3 fups.length d3) fups.length (fups.flatMap f1) ∧ W.ownsRow w.heap.size 135 1 (.slice B4 fdowns.length d4) fdowns.length (fdowns.flatMap f1) ∧ W.ownsRow w.heap.size 135 1 (.slice B5 cus.length d5) cus.length (cus.flatMap f1) := fun W hW => ⟨zah P1.out ((((G2.out.same G3.out).same G4.out).same G5.out).same hW) (fun _ _ e => e), zah P2.out (((G3.out.same G4.out).same G5.out).same hW) (fun _ _ e => e), zah P3.out ((G4.out.same G5.out).same hW) (fun _ _ e => e), zah P4.out (G5.out.same hW) (fun _ _ e => e), zah P5.out hW (fun _ _ e => e)⟩
 clear s0 s1 s2 s3 s4 s5 s6 s7 s8 s9 s10 s11 s12; have FIN := zk7 fin
 clear fin
 go_wp2; go_ret; have hA := (zlW (fun _ => False) w5).alloc (.cells #[.int .u8 hint.toNat, .int .i32 schema, .float .f64 thr, .float .f64 zc, .float .f64 cnt, .float .f64 sum, .slice B1 pos.length d1, .slice B2 neg.length d2, .slice B3 fups.length d3, .slice B4 fdowns.length d4, .slice B5 cus.length d5] 296); obtain ⟨q1, q2, q3, q4, q5⟩ := FIN.out _ hA
 exact ⟨_, rfl, ⟨w5.heap.size, ⟨.slice B1 pos.length d1, .slice B2 neg.length d2, .slice B3 fups.length d3, .slice B4 fdowns.length d4, .slice B5 cus.length d5⟩, rfl, F5.out.size, Blk.new w5 296 _, q1, q2, q3, q4, q5⟩, F5.out.alloc _⟩
structure Rhs where
 ref : Nat
 t : Int
 h : Hst
def hsc (p : Rhs × Hsl) : List Value := .int .u64 p.1.ref :: .int .i64 p.1.t :: hic p.1.h p.2
def rhc (p : Rhs × Value) : List Value := [.int .u64 p.1.ref, .int .i64 p.1.t, p.2]
def SlH (P : Nat → Prop) (w : World) (v : Value) (lv : List (Rhs × Hsl)) : Prop :=
 Sl P w v 15 lv.length (lv.flatMap hsc) ∧ ∀ p ∈ lv, SlHs P w p.1.h p.2
theorem SlH.fr {P S : Nat → Prop} {w w' : World} {v : Value} {lv : List (Rhs × Hsl)} (h : SlH P w v lv) (hf : Fr S w w') (hs : ∀ g, P g → ¬ S g) : SlH P w' v lv :=
 ⟨h.1.fr hf hs, fun p hp => (h.2 p hp).fr hf hs⟩
theorem zb8 {w : World} {g t : Nat} {a0 a1 a2 a3 a4 a5 a6 a7 a8 a9 a10 : Value} (h : Blk w g t #[a0, a1, a2, a3, a4, a5, a6, a7, a8, a9, a10]) :
 w.cell? ⟨g, 0, none⟩ = some a0 ∧ w.cell? ⟨g, 1, none⟩ = some a1 ∧ w.cell? ⟨g, 2, none⟩ = some a2 ∧ w.cell? ⟨g, 3, none⟩ = some a3 ∧ w.cell? ⟨g, 4, none⟩ = some a4 ∧ w.cell? ⟨g, 5, none⟩ = some a5 ∧ w.cell? ⟨g, 6, none⟩ = some a6 ∧
 w.cell? ⟨g, 7, none⟩ = some a7 ∧ w.cell? ⟨g, 8, none⟩ = some a8 ∧ w.cell? ⟨g, 9, none⟩ = some a9 ∧ w.cell? ⟨g, 10, none⟩ = some a10 :=
 ⟨h.cell 0, h.cell 1, h.cell 2, h.cell 3, h.cell 4, h.cell 5, h.cell 6, h.cell 7, h.cell 8, h.cell 9, h.cell 10⟩
theorem zgi {w : World} {g t : Nat} {r0 r1 a0 a1 a2 a3 a4 a5 a6 a7 a8 a9 a10 a11 a12 : Value} (h : Blk w g t #[r0, r1, a0, a1, a2, a3, a4, a5, a6, a7, a8, a9, a10, a11, a12]) :
 w.cell? ⟨g, 0, none⟩ = some r0 ∧ w.cell? ⟨g, 1, none⟩ = some r1 ∧ w.cell? ⟨g, 2, none⟩ = some a0 ∧ w.cell? ⟨g, 3, none⟩ = some a1 ∧ w.cell? ⟨g, 4, none⟩ = some a2 ∧ w.cell? ⟨g, 5, none⟩ = some a3 ∧ w.cell? ⟨g, 6, none⟩ = some a4 ∧ w.cell? ⟨g, 7, none⟩ = some a5 ∧ w.cell? ⟨g, 8, none⟩ = some a6 ∧
 w.cell? ⟨g, 9, none⟩ = some a7 ∧ w.cell? ⟨g, 10, none⟩ = some a8 ∧ w.cell? ⟨g, 11, none⟩ = some a9 ∧ w.cell? ⟨g, 12, none⟩ = some a10 ∧ w.cell? ⟨g, 13, none⟩ = some a11 ∧ w.cell? ⟨g, 14, none⟩ = some a12 :=
 ⟨h.cell 0, h.cell 1, h.cell 2, h.cell 3, h.cell 4, h.cell 5, h.cell 6, h.cell 7, h.cell 8, h.cell 9, h.cell 10, h.cell 11, h.cell 12, h.cell 13, h.cell 14⟩
theorem Tryz.info290 : (Tryz.prog.info? 290).map (fun i => (i.zero, i.size, i.bytes)) = some (some (.agg #[.int .u64 0, .int .i64 0, .pointer none]), 3, 24) := by kernel_rfl
def OwnHW (base : Nat) (w : World) (v : Value) (lo : List (Rhs × Value)) : Prop :=
 w.ownsRow base 290 3 v lo.length (lo.flatMap rhc) ∧ ∀ p ∈ lo, OwnW base w p.1.h p.2
theorem OwnHW.nil (base : Nat) (w : World) : OwnHW base w (.slice none 0 0) [] := ⟨zll _ _ _ _, fun p hp => by cases hp⟩
theorem OwnHW.fr {S : Nat → Prop} {base : Nat} {w w' : World} {v : Value} {lo : List (Rhs × Value)} (h : OwnHW base w v lo) (hf : Fr S w w') (hs : ∀ k, base ≤ k → k < w.heap.size → ¬ S k) : OwnHW base w' v lo :=
 ⟨zah h.1 hf (fun g hg => hs g (h.1.lt g hg).1 (zav h.1 hg)), fun p hp => (h.2 p hp).fr hf hs⟩
theorem OwnHW.push {base : Nat} {w w2 : World} {v v' : Value} {lo : List (Rhs × Value)} {p : Rhs × Value} (h : OwnHW base w v lo) (hp : OwnW base w p.1.h p.2) (hg : w.grownBy w2 v.ownBlock)
 (ho : w2.ownsRow base 290 3 v' (lo.length + 1) (lo.flatMap rhc ++ rhc p)) : OwnHW base w2 v' (lo ++ [p]) := by
 refine ⟨by simpa using ho, fun q hq => ?_⟩; rcases zlN.1 hq with hq | hq
 ·exact (h.2 q hq).grown h.1 hg (by decide) (by decide) (by decide) (by decide)
 ·rw [zlO] at hq
  subst hq; exact hp.grown h.1 hg (by decide) (by decide) (by decide) (by decide)
def RdHW (P : Nat → Prop) (w : World) (v : Value) (lo : List (Rhs × Value)) : Prop :=
 Sl P w v 3 lo.length (lo.flatMap rhc) ∧ ∀ p ∈ lo, RdW P w p.1.h p.2
theorem OwnHW.rd {base : Nat} {w : World} {v : Value} {lo : List (Rhs × Value)} (h : OwnHW base w v lo) : RdHW (fun g => base ≤ g ∧ g < w.heap.size) w v lo :=
 ⟨(Sl.ofOwn h.1).mono (fun g hg => ⟨(h.1.lt g hg).1, zav h.1 hg⟩), fun p hp => (h.2 p hp).rd⟩
def RefHWEnds (w : World) (l : List Rhs) (r : Ending) (w' : World) : Prop :=
 ∃ v lo, r = .returned v ∧ lo.map Prod.fst = l ∧ OwnHW w.heap.size w' v lo ∧ Fr (fun _ => False) w w'
theorem Tryz.info298 : (Tryz.prog.info? 298).map (fun i => (i.zero, i.size, i.bytes)) = some (some (.agg #[.int .u64 0, .int .i64 0, .pointer none]), 3, 24) := by kernel_rfl
def OwnHF (base : Nat) (w : World) (v : Value) (lo : List (Rhs × Value)) : Prop :=
 w.ownsRow base 298 3 v lo.length (lo.flatMap rhc) ∧ ∀ p ∈ lo, OwnF base w p.1.h p.2
theorem OwnHF.nil (base : Nat) (w : World) : OwnHF base w (.slice none 0 0) [] := ⟨zll _ _ _ _, fun p hp => by cases hp⟩
theorem OwnHF.fr {S : Nat → Prop} {base : Nat} {w w' : World} {v : Value} {lo : List (Rhs × Value)} (h : OwnHF base w v lo) (hf : Fr S w w') (hs : ∀ k, base ≤ k → k < w.heap.size → ¬ S k) : OwnHF base w' v lo :=
 ⟨zah h.1 hf (fun g hg => hs g (h.1.lt g hg).1 (zav h.1 hg)), fun p hp => (h.2 p hp).fr hf hs⟩
theorem OwnHF.push {base : Nat} {w w2 : World} {v v' : Value} {lo : List (Rhs × Value)} {p : Rhs × Value} (h : OwnHF base w v lo) (hp : OwnF base w p.1.h p.2) (hg : w.grownBy w2 v.ownBlock)
 (ho : w2.ownsRow base 298 3 v' (lo.length + 1) (lo.flatMap rhc ++ rhc p)) : OwnHF base w2 v' (lo ++ [p]) := by
 refine ⟨by simpa using ho, fun q hq => ?_⟩; rcases zlN.1 hq with hq | hq
 ·exact (h.2 q hq).grown h.1 hg (by decide) (by decide) (by decide) (by decide)
 ·rw [zlO] at hq
  subst hq; exact hp.grown h.1 hg (by decide) (by decide) (by decide) (by decide)
def RdHF (P : Nat → Prop) (w : World) (v : Value) (lo : List (Rhs × Value)) : Prop :=
 Sl P w v 3 lo.length (lo.flatMap rhc) ∧ ∀ p ∈ lo, RdF P w p.1.h p.2
theorem OwnHF.rd {base : Nat} {w : World} {v : Value} {lo : List (Rhs × Value)} (h : OwnHF base w v lo) : RdHF (fun g => base ≤ g ∧ g < w.heap.size) w v lo :=
 ⟨(Sl.ofOwn h.1).mono (fun g hg => ⟨(h.1.lt g hg).1, zav h.1 hg⟩), fun p hp => (h.2 p hp).rd⟩
def RefHFEnds (w : World) (l : List Rhs) (r : Ending) (w' : World) : Prop :=
 ∃ v lo, r = .returned v ∧ lo.map Prod.fst = l ∧ OwnHF w.heap.size w' v lo ∧ Fr (fun _ => False) w w'
theorem zbq : (∀ (_ : True) (P : Nat → Prop) (v : Value) (lv : List (Rhs × Hsl)) (w : World) (h : SlH P w v lv) (hl : lv.length ≤ 1099511627776) (hil : ∀ p ∈ lv, p.1.h.few 1099511627776),
 Calls Tryz.prog 84 #[v] w (RefHWEnds w (lv.map Prod.fst))) ∧ (∀ (_ : True) (P : Nat → Prop) (v : Value) (lv : List (Rhs × Hsl)) (w : World) (h : SlH P w v lv) (hl : lv.length ≤ 1099511627776) (hil : ∀ p ∈ lv, p.1.h.few 1099511627776),
 Calls Tryz.prog 87 #[v] w (RefHFEnds w (lv.map Prod.fst))) := by
 refine ⟨fun isW P v lv w h hl hil => ?_, fun _ P v lv w h hl hil => ?_⟩; all_goals
  have mixed : Tryz.prog.follows .mixedOrders = true := by kernel_rfl
  obtain ⟨⟨A, c, rfl, hlen, hnc, hr⟩, hin⟩ := h; obtain ⟨n, hn⟩ : ∃ n, lv.length = n := ⟨_, rfl⟩; rw [hn] at hr hnc hl ⊢; have HN := zk7 hn; have HR := zk7 hr; have HI := zk7 hin
  have HIL := zk7 hil
  first | (guard_hyp isW; obtain ⟨i0, hi0, hz0, hz1, hz2⟩ := info_parts Tryz.info290) | (obtain ⟨i0, hi0, hz0, hz1, hz2⟩ := info_parts Tryz.info298)
  clear hn hr hlen hin hil
  first | (guard_hyp isW; go_enter Tryz.func84, Tryz.ntmps84) | (go_enter Tryz.func87, Tryz.ntmps87)
  go_wp2
  first | (guard_hyp isW; go_loopw [2, 7] (fun v i wr => ∃ (k : Nat) (lo : List (Rhs × Value)), k ≤ n ∧ i = .int .i64 k ∧ Hid (lo.map Prod.fst = (lv.take k).map Prod.fst) ∧ Hid (lo.length = k) ∧ Hid (OwnHW w.heap.size wr v lo) ∧ Hid (Fr (fun _ => False) w wr)) (fun _ i _ => n - (intOf i).toNat)) | (go_loopw [2, 7] (fun v i wr => ∃ (k : Nat) (lo : List (Rhs × Value)), k ≤ n ∧ i = .int .i64 k ∧ Hid (lo.map Prod.fst = (lv.take k).map Prod.fst) ∧ Hid (lo.length = k) ∧ Hid (OwnHF w.heap.size wr v lo) ∧ Hid (Fr (fun _ => False) w wr)) (fun _ i _ => n - (intOf i).toNat))
  case atStart => first | (guard_hyp isW; exact ⟨0, [], zli _, rfl, zk7 rfl, zk7 rfl, zk7 (OwnHW.nil _ _), zk7 (zlW _ _)⟩) | (exact ⟨0, [], zli _, rfl, zk7 rfl, zk7 rfl, zk7 (OwnHF.nil _ _), zk7 (zlW _ _)⟩)
  case round =>
   obtain ⟨k, lo, hk, rfl, HM, HLO, HO, HF⟩ := hrel; by_cases hlt : k < n
   ·obtain ⟨g, off, rfl, _, hcell⟩ := HR.out (by omega)
    obtain ⟨x, hx⟩ : ∃ x, lv[k]? = some x := ⟨_, zk9 (by rw [HN.out]; exact hlt)⟩; have cc : ∀ j, j < 15 → ∀ u, (hsc x)[j]? = some u → wr.cell? ⟨g, off + (k * 15 + j), none⟩ = some u := fun j hj u hu => by
     have := hcell (k * 15 + j) u (by rw [zig 15 hsc (fun _ => rfl) lv k x hx j hj]; exact hu); rw [HF.out.cell (p := ⟨g, off + (k * 15 + j), none⟩) (zle w _ this) (fun e => e)]; exact this
    have c00 : wr.cell? ⟨g, off + k * 15, none⟩ = some (.int .u64 x.1.ref) := cc 0 (by omega) _ rfl; have c10 : wr.cell? ⟨g, off + k * 15 + 1, none⟩ = some (.int .i64 x.1.t) := cc 1 (by omega) _ rfl; have c20 : wr.cell? ⟨g, off + k * 15 + 2, none⟩ = some (.int .u8 x.1.h.hint.toNat) := cc 2 (by omega) _ rfl
    have c30 : wr.cell? ⟨g, off + k * 15 + 3, none⟩ = some (.int .i32 x.1.h.schema) := cc 3 (by omega) _ rfl; have c40 : wr.cell? ⟨g, off + k * 15 + 4, none⟩ = some (.int .u64 x.1.h.thr) := cc 4 (by omega) _ rfl; have c50 : wr.cell? ⟨g, off + k * 15 + 5, none⟩ = some (.int .u64 x.1.h.sum) := cc 5 (by omega) _ rfl
    have c60 : wr.cell? ⟨g, off + k * 15 + 6, none⟩ = some (.int .u64 x.1.h.zc) := cc 6 (by omega) _ rfl; have c70 : wr.cell? ⟨g, off + k * 15 + 7, none⟩ = some (.int .u64 x.1.h.cnt) := cc 7 (by omega) _ rfl; have c80 : wr.cell? ⟨g, off + k * 15 + 8, none⟩ = some x.2.p := cc 8 (by omega) _ rfl; have c90 : wr.cell? ⟨g, off + k * 15 + 9, none⟩ = some x.2.n := cc 9 (by omega) _ rfl
    have c100 : wr.cell? ⟨g, off + k * 15 + 10, none⟩ = some x.2.u := cc 10 (by omega) _ rfl; have c110 : wr.cell? ⟨g, off + k * 15 + 11, none⟩ = some x.2.d := cc 11 (by omega) _ rfl; have c120 : wr.cell? ⟨g, off + k * 15 + 12, none⟩ = some x.2.fu := cc 12 (by omega) _ rfl; have c130 : wr.cell? ⟨g, off + k * 15 + 13, none⟩ = some x.2.fd := cc 13 (by omega) _ rfl
    have c140 : wr.cell? ⟨g, off + k * 15 + 14, none⟩ = some x.2.c := cc 14 (by omega) _ rfl; have hxm := zlf hx; have hiv := HI.out x hxm; have hivl := HIL.out x hxm; obtain ⟨⟨ref, t, ⟨hint, schema, thr, sum, zc, cnt, pos, neg, ups, downs, fups, fdowns, cus⟩⟩, ⟨sp, sn, su, sd, sfu, sfd, sc⟩⟩ := x
    simp only [] at c00 c10 c20 c30 c40 c50 c60 c70 c80 c90 c100 c110 c120 c130 c140 hiv hivl; have hiv2 := hiv; obtain ⟨z1, z2, z3, z4, z5, z6, z7⟩ := hiv2; simp only [] at z1 z2 z3 z4 z5 z6 z7; obtain ⟨A1, c1, rfl⟩ := z1.shape; obtain ⟨A2, c2, rfl⟩ := z2.shape; obtain ⟨A3, c3, rfl⟩ := z3.shape; obtain ⟨A4, c4, rfl⟩ := z4.shape; obtain ⟨A5, c5, rfl⟩ := z5.shape; obtain ⟨A6, c6, rfl⟩ := z6.shape
    obtain ⟨A7, c7, rfl⟩ := z7.shape; clear z1 z2 z3 z4 z5 z6 z7; have hsz := HF.out.size
    first | (guard_hyp isW; have hC := fun W (hW : Fr (fun _ => False) w W) => whole_any P ⟨hint, schema, thr, sum, zc, cnt, pos, neg, ups, downs, fups, fdowns, cus⟩ _ W (hiv.fr hW (fun _ _ e => e)) hivl) | (have hC := fun W (hW : Fr (fun _ => False) w W) => zk2 P ⟨hint, schema, thr, sum, zc, cnt, pos, neg, ups, downs, fups, fdowns, cus⟩ _ W (hiv.fr hW (fun _ _ e => e)) hivl)
    simp only [hic] at hC; obtain ⟨n1, e1⟩ : ∃ n, pos.length = n := ⟨_, rfl⟩; obtain ⟨n2, e2⟩ : ∃ n, neg.length = n := ⟨_, rfl⟩; obtain ⟨n3, e3⟩ : ∃ n, ups.length = n := ⟨_, rfl⟩; obtain ⟨n4, e4⟩ : ∃ n, downs.length = n := ⟨_, rfl⟩; obtain ⟨n5, e5⟩ : ∃ n, fups.length = n := ⟨_, rfl⟩; obtain ⟨n6, e6⟩ : ∃ n, fdowns.length = n := ⟨_, rfl⟩; obtain ⟨n7, e7⟩ : ∃ n, cus.length = n := ⟨_, rfl⟩
    obtain ⟨hh, ehh⟩ : ∃ hh : Hst, hh = ⟨hint, schema, thr, sum, zc, cnt, pos, neg, ups, downs, fups, fdowns, cus⟩ := ⟨_, rfl⟩; rw [← ehh] at hC; rw [e1] at hC c80; rw [e2] at hC c90; rw [e3] at hC c100; rw [e4] at hC c110; rw [e5] at hC c120; rw [e6] at hC c130; rw [e7] at hC c140; have HX := zk7 hx; have HEH := zk7 ehh; have HC := zk7 hC
    have HEE := zk7 (And.intro e1 (And.intro e2 (And.intro e3 (And.intro e4 (And.intro e5 (And.intro e6 e7)))))); obtain ⟨a', n', k', rfl⟩ := zae HO.out.1; clear hcell cc hx hxm hC ehh e1 e2 e3 e4 e5 e6 e7 hiv hivl; go_wp2_with fail
    have HB8 := zk7 (Blk.new wr 194 #[.int .u64 ref, .int .i64 t, .int .u8 hint.toNat, .int .i32 schema, .int .u64 thr, .int .u64 sum, .int .u64 zc, .int .u64 cnt, .slice A1 n1 c1, .slice A2 n2 c2, .slice A3 n3 c3, .slice A4 n4 c4, .slice A5 n5 c5, .slice A6 n6 c6, .slice A7 n7 c7])
    have F8 := zk7 ((HF.out.alloc (.cells #[.int .u64 ref, .int .i64 t, .int .u8 hint.toNat, .int .i32 schema, .int .u64 thr, .int .u64 sum, .int .u64 zc, .int .u64 cnt, .slice A1 n1 c1, .slice A2 n2 c2, .slice A3 n3 c3, .slice A4 n4 c4, .slice A5 n5 c5, .slice A6 n6 c6, .slice A7 n7 c7] 194)).drew); have HLO2 := HLO.out; have hloz : lo.length ≤ 1099511627776 := by omega
    obtain ⟨s0, s1, s2, s3, s4, s5, s6, s7, s8, s9, s10, s11, s12, s13, s14⟩ := zgi HB8.out.drew
    go_region_held3 (fun w' => w'.cell? ⟨wr.heap.size, 0, none⟩ = some (.int .u64 ref) ∧ w'.cell? ⟨wr.heap.size, 1, none⟩ = some (.int .i64 t) ∧ w'.cell? ⟨wr.heap.size, 2, none⟩ = some (.int .u8 hint.toNat) ∧ w'.cell? ⟨wr.heap.size, 3, none⟩ = some (.int .i32 schema) ∧ w'.cell? ⟨wr.heap.size, 4, none⟩ = some (.int .u64 thr) ∧ w'.cell? ⟨wr.heap.size, 5, none⟩ = some (.int .u64 sum) ∧ w'.cell? ⟨wr.heap.size, 6, none⟩ = some (.int .u64 zc) ∧ w'.cell? ⟨wr.heap.size, 7, none⟩ = some (.int .u64 cnt) ∧ w'.cell? ⟨wr.heap.size, 8, none⟩ = some (.slice A1 n1 c1) ∧ w'.cell? ⟨wr.heap.size, 9, none⟩ = some (.slice A2 n2 c2) ∧ w'.cell? ⟨wr.heap.size, 10, none⟩ = some (.slice A3 n3 c3) ∧ w'.cell? ⟨wr.heap.size, 11, none⟩ = some (.slice A4 n4 c4) ∧ w'.cell? ⟨wr.heap.size, 12, none⟩ = some (.slice A5 n5 c5) ∧ w'.cell? ⟨wr.heap.size, 13, none⟩ = some (.slice A6 n6 c6) ∧ w'.cell? ⟨wr.heap.size, 14, none⟩ = some (.slice A7 n7 c7))
     ((first | exact zgi KX9.out | exact zgi (KX5.out.alloc _) | exact zgi KX5.out | exact zgi HB8.out.drew | go_keep))
     ((first
       | (go_at_call 175; refine (HC.out _ F8.out).mono ?_; rintro r5 w5 ⟨v5, rfl, own5, hf5⟩; have HP5 := own5; obtain ⟨g5, q5, rfl, _⟩ := HP5; have KX5 := zk7 (HB8.out.drew.fr hf5 (fun e => e)); have F5 := zk7 (F8.out.same hf5); have G5 := zk7 ((((zlW (fun _ => False) wr).alloc (.cells #[.int .u64 ref, .int .i64 t, .int .u8 hint.toNat, .int .i32 schema, .int .u64 thr, .int .u64 sum, .int .u64 zc, .int .u64 cnt, .slice A1 n1 c1, .slice A2 n2 c2, .slice A3 n3 c3, .slice A4 n4 c4, .slice A5 n5 c5, .slice A6 n6 c6, .slice A7 n7 c7] 194)).drew).same hf5); have O5 := zk7 (HO.out.fr G5.out (fun _ _ _ e => e)); have HN5 := zk7 (own5.mono F8.out.size); have hz5 := F5.out.size)
       | (go_at_call 178; refine (HC.out _ F8.out).mono ?_; rintro r5 w5 ⟨v5, rfl, own5, hf5⟩; have HP5 := own5; obtain ⟨g5, q5, rfl, _⟩ := HP5; have KX5 := zk7 (HB8.out.drew.fr hf5 (fun e => e)); have F5 := zk7 (F8.out.same hf5); have G5 := zk7 ((((zlW (fun _ => False) wr).alloc (.cells #[.int .u64 ref, .int .i64 t, .int .u8 hint.toNat, .int .i32 schema, .int .u64 thr, .int .u64 sum, .int .u64 zc, .int .u64 cnt, .slice A1 n1 c1, .slice A2 n2 c2, .slice A3 n3 c3, .slice A4 n4 c4, .slice A5 n5 c5, .slice A6 n6 c6, .slice A7 n7 c7] 194)).drew).same hf5); have O5 := zk7 (HO.out.fr G5.out (fun _ _ _ e => e)); have HN5 := zk7 (own5.mono F8.out.size); have hz5 := F5.out.size)
       | (refine zat _ (by rfl) _ _ 177 177 (by rfl) w.heap.size 290 i0 _ 3 24 Tryz.underlying177 hi0 hz0 hz1 hz2 rfl (by decide) (.slice a' n' k') lo.length (lo.flatMap rhc) (by rfl) (O5.out.1.alloc _) _ 1 [.int .u64 ref, .int .i64 t, .pointer (some ⟨g5, 0, none⟩)] (by rfl) (zaF Tryz.underlying177 (Blk.new w5 290 #[.int .u64 ref, .int .i64 t, .pointer (some ⟨g5, 0, none⟩)]) rfl (by simp [Value.oneCell'])) (by unfold maxLen; omega) (by omega) (by simp; omega) ?_; intro v' w2 hown' hgrow hat; have KX9 := zk7 ((KX5.out.alloc (.cells #[.int .u64 ref, .int .i64 t, .pointer (some ⟨g5, 0, none⟩)] 290)).grown hgrow (fun e => zlR _ (zav HO.out.1 e.symm))))
       | (refine zat _ (by rfl) _ _ 182 182 (by rfl) w.heap.size 298 i0 _ 3 24 Tryz.underlying182 hi0 hz0 hz1 hz2 rfl (by decide) (.slice a' n' k') lo.length (lo.flatMap rhc) (by rfl) (O5.out.1.alloc _) _ 1 [.int .u64 ref, .int .i64 t, .pointer (some ⟨g5, 0, none⟩)] (by rfl) (zaF Tryz.underlying182 (Blk.new w5 298 #[.int .u64 ref, .int .i64 t, .pointer (some ⟨g5, 0, none⟩)]) rfl (by simp [Value.oneCell'])) (by unfold maxLen; omega) (by omega) (by simp; omega) ?_; intro v' w2 hown' hgrow hat; have KX9 := zk7 ((KX5.out.alloc (.cells #[.int .u64 ref, .int .i64 t, .pointer (some ⟨g5, 0, none⟩)] 298)).grown hgrow (fun e => zlR _ (zav HO.out.1 e.symm))))))
    first
     | guard_hyp isW
       have newO : OwnHW w.heap.size w2 v' (lo ++ [(⟨ref, t, hh⟩, .pointer (some ⟨g5, 0, none⟩))]) :=
        OwnHW.push (p := (⟨ref, t, hh⟩, .pointer (some ⟨g5, 0, none⟩))) (O5.out.fr ((zlW (fun _ => False) w5).alloc (.cells #[.int .u64 ref, .int .i64 t, .pointer (some ⟨g5, 0, none⟩)] 290)) (fun _ _ _ e => e)) (HN5.out.fr ((zlW (fun _ => False) w5).alloc (.cells #[.int .u64 ref, .int .i64 t, .pointer (some ⟨g5, 0, none⟩)] 290)) (fun _ _ _ e => e)) hgrow hown'
     | have newO : OwnHF w.heap.size w2 v' (lo ++ [(⟨ref, t, hh⟩, .pointer (some ⟨g5, 0, none⟩))]) :=
        OwnHF.push (p := (⟨ref, t, hh⟩, .pointer (some ⟨g5, 0, none⟩))) (O5.out.fr ((zlW (fun _ => False) w5).alloc (.cells #[.int .u64 ref, .int .i64 t, .pointer (some ⟨g5, 0, none⟩)] 298)) (fun _ _ _ e => e)) (HN5.out.fr ((zlW (fun _ => False) w5).alloc (.cells #[.int .u64 ref, .int .i64 t, .pointer (some ⟨g5, 0, none⟩)] 298)) (fun _ _ _ e => e)) hgrow hown'
    have newF : Fr (fun _ => False) w w2 := (F5.out.alloc _).grown hgrow (fun g hg => .inr ((HO.out.1.lt g hg).1)); have newM : (lo ++ [((⟨ref, t, hh⟩ : Rhs), Value.pointer (some ⟨g5, 0, none⟩))]).map Prod.fst = (lv.take (k + 1)).map Prod.fst := by
     rw [zlI, HX.out, zlx, zlx, HM.out, HEH.out]; rfl
    have newN : (lo ++ [((⟨ref, t, hh⟩ : Rhs), Value.pointer (some ⟨g5, 0, none⟩))]).length = k + 1 := by rw [zk8, HLO.out]; rfl
    have NO := zk7 newO; have NF := zk7 newF; have NM := zk7 newM; have NN := zk7 newN; clear newO newF newM newN hown' hgrow hat c00 c10 c20 c30 c40 c50 c60 c70 c80 c90 c100 c110 c120 c130 c140 s0 s1 s2 s3 s4 s5 s6 s7 s8 s9 s10 s11 s12 s13 s14 hf5 KX9 O5 HN5 own5 HC; go_wp2; go_roundw
    case rel => exact ⟨k + 1, _, by omega, by go_num, NM, NN, NO, NF⟩
    case measure => simp [intOf]; omega
   ·go_wp2
    go_ret; obtain rfl : k = n := by omega
    refine ⟨_, lo, rfl, ?_, HO.out, HF.out⟩; rw [HM.out, ← HN.out, zly]
theorem zcx : type_of% (zbq.1 trivial) := zbq.1 trivial
theorem zdE : type_of% (zbq.2 trivial) := zbq.2 trivial
abbrev Lab := ByteArray × ByteArray
def zbv (p : Lab) : List Value := [.string p.1, .string p.2]
theorem Tryz.info40 : (Tryz.prog.info? 40).map (fun i => (i.zero, i.size, i.bytes)) = some (some (.agg #[.string ⟨#[]⟩, .string ⟨#[]⟩]), 2, 32) := by kernel_rfl
def LabEnds (t : TypeId) (w : World) (l : List Lab) (r : Ending) (w' : World) : Prop :=
 ∃ v, r = .returned v ∧ w'.ownsRow w.heap.size t 2 v l.length (l.flatMap zbv) ∧ Fr (fun _ => False) w w'
theorem pairs_any (P : Nat → Prop) (v : Value) (l : List Lab) (w : World) (h : Sl P w v 2 l.length (l.flatMap zbv)) (hl : l.length ≤ 1099511627776) :
 Calls Tryz.prog 149 #[v] w (LabEnds 108 w l) := by
 obtain ⟨A, c, rfl, hlen, hnc, hr⟩ := h; obtain ⟨n, hn⟩ : ∃ n, l.length = n := ⟨_, rfl⟩; rw [hn] at hr hnc hl ⊢; have HN := zk7 hn; have HR := zk7 hr; obtain ⟨i0, hi0, hz0, hz1, hz2⟩ := info_parts Tryz.info108; clear hn hr hlen; go_enter Tryz.func149, Tryz.ntmps149; go_wp2
 go_loopw [3, 8] (fun v i wr => ∃ k : Nat, k ≤ n ∧ i = .int .i64 k ∧ wr.ownsRow w.heap.size 108 2 v k ((l.take k).flatMap zbv) ∧ Fr (fun _ => False) w wr) (fun _ i _ => n - (intOf i).toNat)
 case atStart => exact ⟨0, zli _, rfl, zll _ _ _ _, zlW _ _⟩
 case round =>
  obtain ⟨k, hk, rfl, hown, hf⟩ := hrel; by_cases hlt : k < n
  ·obtain ⟨g, off, rfl, _, hcell⟩ := HR.out (by omega)
   obtain ⟨x, hx⟩ : ∃ x, l[k]? = some x := ⟨_, zk9 (by rw [HN.out]; exact hlt)⟩; have cc : ∀ j, j < 2 → ∀ u, (zbv x)[j]? = some u → wr.cell? ⟨g, off + (k * 2 + j), none⟩ = some u := fun j hj u hu => by
    have := hcell (k * 2 + j) u (by rw [zci zbv (fun _ => rfl) l k x hx j hj]; exact hu); rw [hf.cell (p := ⟨g, off + (k * 2 + j), none⟩) (zle w _ this) (fun e => e)]; exact this
   have c0 : wr.cell? ⟨g, off + k * 2, none⟩ = some (.string x.1) := cc 0 (by omega) _ rfl; have c1 : wr.cell? ⟨g, off + k * 2 + 1, none⟩ = some (.string x.2) := cc 1 (by omega) _ rfl; have HC := zk7 hcell; have HO := zk7 hown; have HX := zk7 hx; obtain ⟨a', n', k', rfl⟩ := zae hown; clear hcell cc hown hx; go_wp2_with (at_builtin; refine Hid.out ?_)
   refine zk7 ?_; refine zad _ rfl _ _ 115 115 rfl w.heap.size 108 i0 _ 2 32 Tryz.underlying115 hi0 hz0 hz1 hz2 rfl (by decide) _ k ((l.take k).flatMap zbv) rfl ((HO.out.alloc _).alloc _) _ 1 (zbv x) rfl (zaF Tryz.underlying115 (za6 wr _ 108 (zbv x).toArray) rfl (by simp [zbv, Value.oneCell'])) (by unfold maxLen; omega) (by omega) (by have := hf.size; simp; omega) ?_
   intro v' w2 hown' hgrow hat
   have hown2 : w2.ownsRow w.heap.size 108 2 v' (k + 1) ((l.take (k + 1)).flatMap zbv) := by rw [zao zbv l k x HX.out]; exact hown'
   have hf2 : Fr (fun _ => False) w w2 := ((hf.alloc _).alloc _).grown hgrow (fun g hg => .inr (((HO.out.lt g hg)).1)); have HO2 := zk7 hown2; have HF2 := zk7 hf2; clear hown' hgrow hown2 hf2 hf c0 c1 hat
   go_wp2; go_roundw
   case rel => exact ⟨k + 1, by omega, by go_num, HO2.out, HF2.out⟩
   case measure => simp [intOf]; omega
  ·go_wp2
   go_ret; obtain rfl : k = n := by omega
   refine ⟨_, rfl, ?_, hf⟩; rw [← HN.out] at hown ⊢; rw [zly] at hown; exact hown
def zaz (n : Nat) : Nat := if n < 255 then 1 else 4
def za2 (p : Lab) : Nat := (p.1.size + zaz p.1.size) + (p.2.size + zaz p.2.size)
def zaA (l : List Lab) : Nat := (l.map za2).sum
theorem ze9 (n : Nat) (hn : n ≤ 16777216) (w : World) : Calls Tryz.prog 271 #[.int .u64 n] w fun r w' => r = .returned (.int .i64 (zaz n)) ∧ w = w' := by
 by_cases h : n < 255
 ·have e : zaz n = 1 := if_pos h
  have h1 : (n : Int) < 255 := by omega
  rw [e]; go_enter Tryz.func271, Tryz.ntmps271; go_wp2; go_ret; exact ⟨rfl, rfl⟩
 ·have e : zaz n = 4 := if_neg h
  have h1 : ¬ (n : Int) < 255 := by omega
  have h2 : (n : Int) ≤ 16777216 := by omega
  rw [e]; go_enter Tryz.func271, Tryz.ntmps271; go_wp2; go_ret; exact ⟨rfl, rfl⟩
theorem zhp (g off : Nat) (p : Lab) (h1 : p.1.size ≤ 1048576) (h2 : p.2.size ≤ 1048576) (w : World) (c0 : w.cell? ⟨g, off, none⟩ = some (.string p.1)) (c1 : w.cell? ⟨g, off + 1, none⟩ = some (.string p.2)) :
 Calls Tryz.prog 248 #[.pointer (some ⟨g, off, none⟩)] w fun r w' => r = .returned (.int .i64 (za2 p)) ∧ w = w' := by
 have e1 : za2 p = (p.1.size + zaz p.1.size) + (p.2.size + zaz p.2.size) := rfl; have hs1 : zaz p.1.size ≤ 4 := by unfold zaz; split <;> omega
 have hs2 : zaz p.2.size ≤ 4 := by unfold zaz; split <;> omega
 have q1 := ze9 p.1.size (by omega) w; have q2 := ze9 p.2.size (by omega) w; generalize za2 p = s at e1 ⊢; obtain ⟨a, b⟩ := p; simp only [] at c0 c1 h1 h2 hs1 hs2 q1 q2 e1; generalize zaz a.size = x at hs1 q1 e1; generalize zaz b.size = y at hs2 q2 e1; have hs : (s : Int) = (a.size : Int) + x + ((b.size : Int) + y) := by omega
 clear e1; go_enter Tryz.func248, Tryz.ntmps248; go_wp2_with (go_at_call 271; first | (refine q1.mono ?_; rintro r w1 ⟨rfl, rfl⟩) | (refine q2.mono ?_; rintro r w1 ⟨rfl, rfl⟩))
 go_ret; exact ⟨by rw [hs]; rfl, rfl⟩
theorem zeZ (p : Lab) (h1 : p.1.size ≤ 1048576) (h2 : p.2.size ≤ 1048576) : za2 p ≤ 2097160 := by
 have hs1 : zaz p.1.size ≤ 4 := by unfold zaz; split <;> omega
 have hs2 : zaz p.2.size ≤ 4 := by unfold zaz; split <;> omega
 unfold za2; omega
theorem zhm (l : List Lab) (k : Nat) (x : Lab) (h : l[k]? = some x) : zaA (l.take (k + 1)) = zaA (l.take k) + za2 x := by
 unfold zaA; rw [zlI, h]; simp
theorem zdF : ∀ (l : List Lab), (∀ p ∈ l, p.1.size ≤ 1048576 ∧ p.2.size ≤ 1048576) → zaA l ≤ l.length * 2097160
 | [], _ => by simp [zaA]
 | p :: l, h => by
   have h1 := zdF l (fun q hq => h q (by simp [hq])); have h2 := zeZ p (h p (by simp)).1 (h p (by simp)).2; have e : zaA (p :: l) = za2 p + zaA l := rfl; rw [e, zlp, Nat.add_mul]; omega
theorem sum_small (s k : Nat) (h : s ≤ k * 2097160) (hk : k ≤ 4096) : s ≤ 8589967360 := by omega
theorem zeq (P : Nat → Prop) (v : Value) (l : List Lab) (w : World) (h : Sl P w v 2 l.length (l.flatMap zbv)) (hl : l.length ≤ 4096) (hs : ∀ p ∈ l, p.1.size ≤ 1048576 ∧ p.2.size ≤ 1048576) :
 Calls Tryz.prog 208 #[v] w fun r w' => r = .returned (.int .i64 (zaA l)) ∧ Fr (fun _ => False) w w' := by
 obtain ⟨A, c, rfl, hlen, hnc, hr⟩ := h; obtain ⟨n, hn⟩ : ∃ n, l.length = n := ⟨_, rfl⟩; rw [hn] at hr hnc hl ⊢; have HN := zk7 hn; have HR := zk7 hr; have HS := zk7 hs; clear hn hr hlen hs; go_enter Tryz.func208, Tryz.ntmps208; go_wp2
 go_loopw [2, 7] (fun v i wr => ∃ k s : Nat, k ≤ n ∧ i = .int .i64 k ∧ v = .int .i64 s ∧ Hid (zaA (l.take k) = s) ∧ s ≤ k * 2097160 ∧ Hid (Fr (fun _ => False) w wr)) (fun _ i _ => n - (intOf i).toNat)
 case atStart => exact ⟨0, 0, zli _, rfl, rfl, zk7 rfl, zli _, zk7 (zlW _ _)⟩
 case round =>
  obtain ⟨k, s, hk, rfl, rfl, HM, hsb, HF⟩ := hrel; by_cases hlt : k < n
  ·obtain ⟨g, off, rfl, _, hcell⟩ := HR.out (by omega)
   obtain ⟨x, hx⟩ : ∃ x, l[k]? = some x := ⟨_, zk9 (by rw [HN.out]; exact hlt)⟩; have cc : ∀ j, j < 2 → ∀ u, (zbv x)[j]? = some u → wr.cell? ⟨g, off + (k * 2 + j), none⟩ = some u := fun j hj u hu => by
    have := hcell (k * 2 + j) u (by rw [zci zbv (fun _ => rfl) l k x hx j hj]; exact hu); rw [HF.out.cell (p := ⟨g, off + (k * 2 + j), none⟩) (zle w _ this) (fun e => e)]; exact this
   have c0 : wr.cell? ⟨g, off + k * 2, none⟩ = some (.string x.1) := cc 0 (by omega) _ rfl; have c1 : wr.cell? ⟨g, off + k * 2 + 1, none⟩ = some (.string x.2) := cc 1 (by omega) _ rfl; have hxs := HS.out x (zlf hx); have hle := zeZ x hxs.1 hxs.2; have hB := Blk.new wr 108 #[.string x.1, .string x.2]
   have hC := zhp wr.heap.size 0 x hxs.1 hxs.2 (wr.alloc (.cells #[.string x.1, .string x.2] 108)) (hB.cell 0) (hB.cell 1); have HT := zk7 (zhm l k x hx); have hs2 : s + 2097160 ≤ (k + 1) * 2097160 := by rw [Nat.add_mul]; omega
   have hk4 : s ≤ 8589967360 := sum_small s k hsb (by omega); generalize za2 x = z at hle hC HT; clear cc hx hB hxs hcell; go_wp2_with (go_at_call 248; refine hC.mono ?_; rintro r w1 ⟨rfl, rfl⟩)
   go_roundw
   case rel => exact ⟨k + 1, s + z, by omega, by go_num, by first | rfl | go_num | (congr 1; omega), zk7 (by rw [HT.out, HM.out]), by omega, zk7 (HF.out.alloc _)⟩
   case measure => simp [intOf]; omega
  ·go_wp2
   go_ret; obtain rfl : k = n := by omega
   refine ⟨?_, HF.out⟩; have e1 : l.take k = l := zlg (by rw [HN.out]; exact zlj _); have h := HM.out; rw [e1] at h; rw [h]; rfl
def zaI (s : ByteArray) : List UInt8 := Lib.uvarint s.size ++ s.data.toList
def zbI (p : Lab) : List UInt8 := zaI p.1 ++ zaI p.2
def zbe (l : List Lab) : List UInt8 := Lib.uvarint l.length ++ l.flatMap zbI
def zch (st : St) : ByteArray × St := match (gUv st).2 with
 | none => (⟨#[]⟩, none)
 | some r => if r.length < (gUv st).1 then (⟨#[]⟩, none) else (⟨(r.take (gUv st).1).toArray⟩, some (r.drop (gUv st).1))
theorem zdI (s : ByteArray) (r : List UInt8) (h : s.size < 18446744073709551616) : zch (some (zaI s ++ r)) = (s, some r) := by
 have e : s.data.toList.length = s.size := by rw [← Lib.size_eq]
 have e2 : some (zaI s ++ r) = some (Lib.uvarint s.size ++ (s.data.toList ++ r)) := by rw [zaI, zla]
 unfold zch; rw [e2, zer _ h]; simp only []; rw [if_neg (by rw [zk8]; omega), List.take_left' e, List.drop_left' e]
theorem zic (l : List UInt8) (s : ByteArray) (st : St) (h : zch (some l) = (s, st)) : s.size ≤ l.length ∧ ∀ r, st = some r → r.length ≤ l.length := by
 unfold zch at h; have hle : ∀ r, (gUv (some l)).2 = some r → r.length ≤ l.length := fun r hr => by
  unfold gUv at hr; simp only [] at hr; split at hr
  ·injection hr with hr
   rw [← hr, List.length_drop]; omega
  ·cases hr
 split at h
 ·injection h with h1 h2
  subst h1 h2; exact ⟨zli _, fun r hr => by cases hr⟩
 ·rename_i r hr
  have := hle r hr; split at h
  ·injection h with h1 h2
   subst h1 h2; exact ⟨zli _, fun r hr => by cases hr⟩
  ·injection h with h1 h2
   subst h1 h2; refine ⟨?_, fun r' hr' => ?_⟩
   ·show (r.take _).toArray.size ≤ _
    simp; omega
   ·injection hr' with hr'
    rw [← hr', List.length_drop]; omega
def gLab (st : St) : Lab × St := (((zch st).1, (zch (zch st).2).1), (zch (zch st).2).2)
theorem gLab_enc (p : Lab) (r : List UInt8) (h1 : p.1.size < 18446744073709551616) (h2 : p.2.size < 18446744073709551616) : gLab (some (zbI p ++ r)) = (p, some r) := by
 unfold gLab zbI; rw [zla, zdI _ _ h1]; simp only []; rw [zdI _ _ h2]
def za9 (st : St) : Nat → List Lab × St
 | 0 => ([], st)
 | k + 1 => ((za9 st k).1 ++ [(gLab (za9 st k).2).1], (gLab (za9 st k).2).2)
theorem zf0 (l : List Lab) (r : List UInt8) (hs : ∀ p ∈ l, p.1.size < 18446744073709551616 ∧ p.2.size < 18446744073709551616) :
 ∀ k, k ≤ l.length → za9 (some (l.flatMap zbI ++ r)) k = (l.take k, some ((l.drop k).flatMap zbI ++ r))
 | 0, _ => by simp [za9]
 | k + 1, hk => by
   have ih := zf0 l r hs k (by omega); have hx : l[k]? = some l[k] := zk9 (by omega); have hm := hs _ (zlf hx); rw [za9, ih]; simp only []; rw [List.drop_eq_getElem_cons (by omega : k < l.length), zlm, zla, gLab_enc _ _ hm.1 hm.2]; simp only []; rw [List.take_succ_eq_append_getElem (by omega)]
structure Mta where
 ref : Nat
 ty : UInt8
 unit : ByteArray
 help : ByteArray
def Mta.wf (s : Mta) : Prop := s.ref < 18446744073709551616 ∧ s.unit.size ≤ 4096 ∧ s.help.size ≤ 4096
def Mta.c (s : Mta) : List Value := [.int .u64 s.ref, .int .u8 s.ty.toNat, .string s.unit, .string s.help]
theorem Tryz.info174 : (Tryz.prog.info? 174).map (fun i => (i.zero, i.size, i.bytes)) = some (some (.agg #[.int .u64 0, .int .u8 0, .string ⟨#[]⟩, .string ⟨#[]⟩]), 4, 48) := by kernel_rfl
theorem zd1 {α : Type} (f : α → List Value) (h3 : ∀ x, (f x).length = 4) : ∀ (l : List α) (k : Nat) (x : α), l[k]? = some x → ∀ j, j < 4 → (l.flatMap f)[k * 4 + j]? = (f x)[j]?
 | [], k, x, h, j, hj => by simp at h
 | y :: l, 0, x, h, j, hj => by
   simp at h; subst h; rw [zlm, zlT (by rw [h3]; omega)]; simp
 | y :: l, k + 1, x, h, j, hj => by
   rw [zlm, zlU (by rw [h3]; omega), h3, show (k + 1) * 4 + j - 4 = k * 4 + j by omega]; exact zd1 f h3 l k x (by simpa using h) j hj
def zgk (w : World) (l : List Mta) (r : Ending) (w' : World) : Prop :=
 ∃ v, r = .returned v ∧ w'.ownsRow w.heap.size 174 4 v l.length (l.flatMap Mta.c) ∧ Fr (fun _ => False) w w'
theorem zd4 (P : Nat → Prop) (v : Value) (l : List Mta) (w : World) (h : Sl P w v 4 l.length (l.flatMap Mta.c)) (hl : l.length ≤ 1099511627776) :
 Calls Tryz.prog 82 #[v] w (zgk w l) := by
 obtain ⟨A, c, rfl, hlen, hnc, hr⟩ := h; obtain ⟨n, hn⟩ : ∃ n, l.length = n := ⟨_, rfl⟩; rw [hn] at hr hnc hl ⊢; have HN := zk7 hn; have HR := zk7 hr; obtain ⟨i0, hi0, hz0, hz1, hz2⟩ := info_parts Tryz.info174; clear hn hr hlen; go_enter Tryz.func82, Tryz.ntmps82; go_wp2
 go_loopw [2, 7] (fun v i wr => ∃ k : Nat, k ≤ n ∧ i = .int .i64 k ∧ wr.ownsRow w.heap.size 174 4 v k ((l.take k).flatMap Mta.c) ∧ Fr (fun _ => False) w wr) (fun _ i _ => n - (intOf i).toNat)
 case atStart => exact ⟨0, zli _, rfl, zll _ _ _ _, zlW _ _⟩
 case round =>
  obtain ⟨k, hk, rfl, hown, hf⟩ := hrel; by_cases hlt : k < n
  ·obtain ⟨g, off, rfl, _, hcell⟩ := HR.out (by omega)
   obtain ⟨x, hx⟩ : ∃ x, l[k]? = some x := ⟨_, zk9 (by rw [HN.out]; exact hlt)⟩; have cc : ∀ j, j < 4 → ∀ u, (Mta.c x)[j]? = some u → wr.cell? ⟨g, off + (k * 4 + j), none⟩ = some u := fun j hj u hu => by
    have := hcell (k * 4 + j) u (by rw [zd1 Mta.c (fun _ => rfl) l k x hx j hj]; exact hu); rw [hf.cell (p := ⟨g, off + (k * 4 + j), none⟩) (zle w _ this) (fun e => e)]; exact this
   have c0 : wr.cell? ⟨g, off + k * 4, none⟩ = some (.int .u64 x.ref) := cc 0 (by omega) _ rfl; have c1 : wr.cell? ⟨g, off + k * 4 + 1, none⟩ = some (.int .u8 x.ty.toNat) := cc 1 (by omega) _ rfl; have c2 : wr.cell? ⟨g, off + k * 4 + 2, none⟩ = some (.string x.unit) := cc 2 (by omega) _ rfl; have c3 : wr.cell? ⟨g, off + k * 4 + 3, none⟩ = some (.string x.help) := cc 3 (by omega) _ rfl
   have HC := zk7 hcell; have HO := zk7 hown; have HX := zk7 hx; obtain ⟨a', n', k', rfl⟩ := zae hown; clear hcell cc hown hx; go_wp2_with (at_builtin; refine Hid.out ?_)
   refine zk7 ?_
   refine zad _ rfl _ _ 169 169 rfl w.heap.size 174 i0 _ 4 48 Tryz.underlying169 hi0 hz0 hz1 hz2 rfl (by decide) _ k ((l.take k).flatMap Mta.c) rfl ((HO.out.alloc _).alloc _) _ 1 (Mta.c x) rfl (zaF Tryz.underlying169 (za6 wr _ 174 (Mta.c x).toArray) rfl (by simp [Mta.c, Value.oneCell'])) (by unfold maxLen; omega) (by omega) (by first | omega | (simp; omega) | (have := hf.size; simp; omega)) ?_
   intro v' w2 hown' hgrow hat
   have hown2 : w2.ownsRow w.heap.size 174 4 v' (k + 1) ((l.take (k + 1)).flatMap Mta.c) := by rw [zao Mta.c l k x HX.out]; exact hown'
   have hf2 : Fr (fun _ => False) w w2 := ((hf.alloc _).alloc _).grown hgrow (fun g hg => .inr (((HO.out.lt g hg)).1)); have HO2 := zk7 hown2; have HF2 := zk7 hf2; clear hown' hgrow hown2 hf2 hf c0 c1 c2 c3 hat
   go_wp2; go_roundw
   case rel => exact ⟨k + 1, by omega, by go_num, HO2.out, HF2.out⟩
   case measure => simp [intOf]; omega
  ·go_wp2
   go_ret; obtain rfl : k = n := by omega
   refine ⟨_, rfl, ?_, hf⟩; rw [← HN.out] at hown ⊢; rw [zly] at hown; exact hown
theorem zby {α : Type} (f : α → List UInt8) (m : Nat) : ∀ l : List α, (∀ x ∈ l, (f x).length ≤ m) → (l.flatMap f).length ≤ l.length * m
 | [], _ => by simp
 | x :: l, hf => by
   have h1 := zby f m l (fun y hy => hf y (List.mem_cons_of_mem _ hy)); have h2 := hf x (List.mem_cons_self ..); rw [zlm, zk8, zlp, Nat.add_mul]; omega
def zb3 (s : Mta) : List UInt8 := Lib.uvarint s.ref ++ (s.ty :: (Lib.uvarint 2 ++ (zaI ⟨#[85, 78, 73, 84]⟩ ++ (zaI s.unit ++ (zaI ⟨#[72, 69, 76, 80]⟩ ++ zaI s.help)))))
def zb2 (l : List Mta) : List UInt8 := 6 :: l.flatMap zb3
theorem zcy (s : ByteArray) (h : s.size < 18446744073709551616) : (zaI s).length ≤ 10 + s.size := by
 have := zln h; rw [zaI, zk8, ← Lib.size_eq]; omega
theorem zg3 (s : Mta) (h : s.wf) : (zb3 s).length ≤ 8300 := by
 obtain ⟨h0, h1, h2⟩ := h; have a0 := zln h0; have a1 := zln (x := 2) (by omega); have a2 := zcy ⟨#[85, 78, 73, 84]⟩ (by decide); have a3 := zcy s.unit (by omega); have a4 := zcy ⟨#[72, 69, 76, 80]⟩ (by decide); have a5 := zcy s.help (by omega); have e1 : (⟨#[85, 78, 73, 84]⟩ : ByteArray).size = 4 := rfl
 have e2 : (⟨#[72, 69, 76, 80]⟩ : ByteArray).size = 4 := rfl; simp only [zb3, zk8, zlp]; omega
theorem zio (ep : Value) (sv : Value) (P : Nat → Prop) (v : Value) (xs : List UInt8) (l : List Mta) (w : World) (h : Sl P w sv 4 l.length (l.flatMap Mta.c)) (hown : w.ownsRow 0 5 1 v xs.length (bc xs)) (hl : xs.length ≤ 1073741824)
 (hsl : l.length ≤ 1048576) (hwf : ∀ s ∈ l, s.wf) (hP : ∀ g, P g → g < w.heap.size ∧ some g ≠ v.ownBlock) :
 Calls Tryz.prog 96 #[ep, sv, v] w (zbN w v.ownBlock (xs ++ zb2 l)) := by
 obtain ⟨A, c, rfl, hlen, hnc, hr⟩ := h; obtain ⟨a', n', k', rfl⟩ := zae hown; obtain ⟨n, hn⟩ : ∃ n, l.length = n := ⟨_, rfl⟩; rw [hn] at hnc hr hsl ⊢; have hE := Enc.made (z := .int .u8 0) hown _ rfl; have hQ := zcn w.heap.size _ xs 6 _ hE (by omega); have e2 : ((6 : UInt8).toNat : Int) = 6 := rfl; rw [e2] at hQ; have HN := zk7 hn; have HR := zk7 hr; have HP := zk7 hP
 have HE := zk7 hE; clear hE hr e2 hn hlen hP; go_enter Tryz.func96, Tryz.ntmps96; go_wp2_with (go_at_call 180; refine hQ.mono ?_; rintro r1 w1 ⟨rfl, R⟩; refine Hid.out ?_)
 have HR1 := zk7 R; clear R hQ; refine zk7 ?_; go_wp2_with fail
 have hFW : Fr (fun k => some k = (Value.slice a' n' k').ownBlock) w (w.alloc (.cells #[.slice a' n' k', .int .u8 0, .int .u8 0, .int .u8 0, .int .u8 0, .int .u8 0, .int .u8 0, .int .u8 0, .int .u8 0, .int .u8 0, .int .u8 0] 224)) := (zlW _ w).alloc _; generalize hWB : w.alloc _ = WB at HE HR1 hFW; have hB : w.heap.size < WB.heap.size := by rw [← hWB]; simp
 clear hWB; have HFW := zk7 hFW; clear hFW; go_loopw [15] (fun i wr => ∃ k : Nat, k ≤ n ∧ i = .int .i64 k ∧ Put WB w.heap.size (Value.slice a' n' k').ownBlock xs ([6] ++ (l.take k).flatMap zb3) wr) (fun i _ => n - (intOf i).toNat)
 case atStart => exact ⟨0, zli _, rfl, by simpa using HR1.out⟩
 case round =>
  obtain ⟨k, hk, rfl, R⟩ := hrel; by_cases hlt : k < n
  ·obtain ⟨g, off, rfl, hPg, hcell⟩ := HR.out (by omega)
   have hg := HP.out g hPg; obtain ⟨x, hx⟩ : ∃ x, l[k]? = some x := ⟨_, zk9 (by rw [HN.out]; exact hlt)⟩; have hwx := hwf x (zlf hx); have hFk : Fr (fun k => some k = (Value.slice a' n' k').ownBlock) w wr := HFW.out.trans R.fr (fun k hk e => by
    rcases e with e | e
    ·omega
    ·exact e)
   have cc : ∀ j, j < 4 → ∀ u, (Mta.c x)[j]? = some u → wr.cell? ⟨g, off + (k * 4 + j), none⟩ = some u := fun j hj u hu => by
    have := hcell (k * 4 + j) u (by rw [zd1 Mta.c (fun _ => rfl) l k x hx j hj]; exact hu); rw [hFk.cell (p := ⟨g, off + (k * 4 + j), none⟩) hg.1 hg.2]; exact this
   have d0 : wr.cell? ⟨g, off + k * 4, none⟩ = some (.int .u64 x.ref) := cc 0 (by omega) _ rfl; have d1 : wr.cell? ⟨g, off + k * 4 + 1, none⟩ = some (.int .u8 x.ty.toNat) := cc 1 (by omega) _ rfl; have d2 : wr.cell? ⟨g, off + k * 4 + 2, none⟩ = some (.string x.unit) := cc 2 (by omega) _ rfl; have d3 : wr.cell? ⟨g, off + k * 4 + 3, none⟩ = some (.string x.help) := cc 3 (by omega) _ rfl
   have hyl : ([(6 : UInt8)] ++ (l.take k).flatMap zb3).length ≤ 1 + k * 8300 := by
    have h1 := zby zb3 8300 (l.take k) (fun s hs => zg3 s (hwf s (List.mem_of_mem_take hs))); have h2 : (l.take k).length ≤ k := List.length_take_le _ _; have h3 : (l.take k).length * 8300 ≤ k * 8300 := zlk _ h2; rw [zk8, zlo]; omega
   have hk9 : k * 8300 ≤ 1048576 * 8300 := zlk _ (by omega); obtain ⟨h0, h1, h2⟩ := hwx; have u0 := zln h0; have u1 := zln (x := 2) (by omega); have u2 := zcy ⟨#[85, 78, 73, 84]⟩ (by decide); have u3 := zcy x.unit (by omega); have u4 := zcy ⟨#[72, 69, 76, 80]⟩ (by decide)
   have z1 : (⟨#[85, 78, 73, 84]⟩ : ByteArray).size = 4 := rfl; have z2 : (⟨#[72, 69, 76, 80]⟩ : ByteArray).size = 4 := rfl; obtain ⟨Y, hY⟩ : ∃ Y, [(6 : UInt8)] ++ (l.take k).flatMap zb3 = Y := ⟨_, rfl⟩; rw [hY] at hyl; rw [hY] at R; have HY := zk7 hY; have HX := zk7 hx; have hBx := Blk.new wr 174 #[.int .u64 x.ref, .int .u8 x.ty.toNat, .string x.unit, .string x.help]
   have RA := R.alloc (.cells #[.int .u64 x.ref, .int .u8 x.ty.toNat, .string x.unit, .string x.help] 174); have HBX := zk7 hBx; have HRA := zk7 RA; have hyl2 : Y.length ≤ 8703182849 := by omega
   have HU := zk7 (And.intro u0 (And.intro u1 (And.intro u2 (And.intro u3 (And.intro u4 (And.intro z1 z2)))))); have HW := zk7 (And.intro h0 (And.intro h1 h2)); clear hx hFk cc hBx hcell hY R RA hyl hk9 h0 h1 h2 u0 u1 u2 u3 u4 z1 z2 hwf; go_wp2_with (first
    | (go_at_call 185; refine (zag HRA.out (f := 185) (args := #[.pointer (some ⟨w.heap.size, 0, none⟩), .int .u64 x.ref]) (zs := Lib.uvarint x.ref) (fun o2 he => zcH _ o2 _ _ HW.out.1 _ he (by rw [zk8]; omega))).mono ?_; rintro rA wA ⟨rfl, R1, K1⟩
       have hB1 := K1.out _ _ _ (by decide) (by decide) HBX.out; have p1 := hB1.cell 1; have HB1 := zk7 hB1; have HR2 := zk7 R1; have hv2 : (Y ++ Lib.uvarint x.ref).length ≤ 8703182859 := by have := HU.out.1; rw [zk8]; omega
       clear R1 K1 hB1)
    | (go_at_call 180; refine (zag HR2.out (f := 180) (args := #[.pointer (some ⟨w.heap.size, 0, none⟩), .int .u8 x.ty.toNat]) (zs := [x.ty]) (fun o2 he => zcn _ o2 _ _ _ he (by rw [zk8]; omega))).mono ?_; rintro rB wB ⟨rfl, R1, K1⟩
       have hB1 := K1.out _ _ _ (by decide) (by decide) HB1.out; have HB2 := zk7 hB1; have HR3 := zk7 R1; have hv3 : (Y ++ Lib.uvarint x.ref ++ [x.ty]).length ≤ 8703182860 := by rw [zk8]; simp only [zlo]; omega
       clear R1 K1 hB1 HB1 HR2)
    | (go_at_call 186; refine (zag HR3.out (f := 186) (args := #[.pointer (some ⟨w.heap.size, 0, none⟩), .int .i64 2]) (zs := Lib.uvarint 2) (fun o2 he => za8 _ o2 _ 2 (by omega) _ he (by rw [zk8]; omega))).mono ?_; rintro rC wC ⟨rfl, R1, K1⟩
       have hB1 := K1.out _ _ _ (by decide) (by decide) HB2.out; have HB3 := zk7 hB1; have HR4 := zk7 R1; have hv4 : (Y ++ Lib.uvarint x.ref ++ [x.ty] ++ Lib.uvarint 2).length ≤ 8703182870 := by have := HU.out.2.1; rw [zk8]; omega
       clear R1 K1 hB1 HB2 HR3)
    | (go_at_call 187; refine (zag HR4.out (f := 187) (args := #[.pointer (some ⟨w.heap.size, 0, none⟩), .string ⟨#[85, 78, 73, 84]⟩]) (zs := zaI ⟨#[85, 78, 73, 84]⟩) (fun o2 he => zb0 _ o2 _ _ _ he (by rw [zk8]; omega) (by have := HU.out.2.2.2.2.2.1; omega))).mono ?_; rintro rD wD ⟨rfl, R1, K1⟩
       have hB1 := K1.out _ _ _ (by decide) (by decide) HB3.out; have p2 := hB1.cell 2; have HB4 := zk7 hB1; have HR5 := zk7 R1; have hv5 : (Y ++ Lib.uvarint x.ref ++ [x.ty] ++ Lib.uvarint 2 ++ zaI ⟨#[85, 78, 73, 84]⟩).length ≤ 8703182884 := by have := HU.out.2.2.1; have := HU.out.2.2.2.2.2.1; rw [zk8]; omega
       clear R1 K1 hB1 HB3 HR4)
    | (go_at_call 187; refine (zag HR5.out (f := 187) (args := #[.pointer (some ⟨w.heap.size, 0, none⟩), .string x.unit]) (zs := zaI x.unit) (fun o2 he => zb0 _ o2 _ _ _ he (by rw [zk8]; omega) (by have := HW.out.2.1; omega))).mono ?_; rintro rE wE ⟨rfl, R1, K1⟩
       have hB1 := K1.out _ _ _ (by decide) (by decide) HB4.out; have HB5 := zk7 hB1; have HR6 := zk7 R1; have hv6 : (Y ++ Lib.uvarint x.ref ++ [x.ty] ++ Lib.uvarint 2 ++ zaI ⟨#[85, 78, 73, 84]⟩ ++ zaI x.unit).length ≤ 8703186990 := by have := HU.out.2.2.2.1; have := HW.out.2.1; rw [zk8]; omega
       clear R1 K1 hB1 HB4 HR5)
    | (go_at_call 187; refine (zag HR6.out (f := 187) (args := #[.pointer (some ⟨w.heap.size, 0, none⟩), .string ⟨#[72, 69, 76, 80]⟩]) (zs := zaI ⟨#[72, 69, 76, 80]⟩) (fun o2 he => zb0 _ o2 _ _ _ he (by rw [zk8]; omega) (by have := HU.out.2.2.2.2.2.2; omega))).mono ?_; rintro rF wF ⟨rfl, R1, K1⟩
       have hB1 := K1.out _ _ _ (by decide) (by decide) HB5.out; have p3 := hB1.cell 3; have HR7 := zk7 R1; have hv7 : (Y ++ Lib.uvarint x.ref ++ [x.ty] ++ Lib.uvarint 2 ++ zaI ⟨#[85, 78, 73, 84]⟩ ++ zaI x.unit ++ zaI ⟨#[72, 69, 76, 80]⟩).length ≤ 8703187004 := by have := HU.out.2.2.2.2.1; have := HU.out.2.2.2.2.2.2; rw [zk8]; omega
       clear R1 K1 hB1 HB5 HR6)
    | (go_at_call 187; refine (zag HR7.out (f := 187) (args := #[.pointer (some ⟨w.heap.size, 0, none⟩), .string x.help]) (zs := zaI x.help) (fun o2 he => zb0 _ o2 _ _ _ he (by rw [zk8]; omega) (by have := HW.out.2.2; omega))).mono ?_; rintro rG wG ⟨rfl, R1, K1⟩
       have HR8 := zk7 R1; clear R1 K1 HR7))
   have RE : Put WB w.heap.size (Value.slice a' n' k').ownBlock xs ([6] ++ (l.take (k + 1)).flatMap zb3) wG := by
    rw [zan zb3 l k x HX.out, ← zla, HY.out]; simpa [zb3, zla] using HR8.out
   have HRE := zk7 RE; clear RE HR8; go_wp2; go_roundw
   case rel => exact ⟨k + 1, by omega, by go_num, HRE.out⟩
   case measure => simp [intOf]; omega
  ·obtain rfl : k = n := by omega
   obtain ⟨oZ, hEZ, hfZ, hoZ⟩ := R; have hG := zdY _ _ _ _ hEZ; have HEZ := zk7 hEZ; have HZ := zk7 hfZ; clear hEZ hfZ; go_wp2_with (go_at_call 116; refine hG.mono ?_; rintro rr w2 ⟨v2, rfl, rfl, hown2, hv2⟩)
   go_ret; refine ⟨v2, rfl, ?_, HFW.out.trans HZ.out (fun k hk e => ?_), ?_⟩
   ·have e1 : l.take k = l := zlg (by rw [HN.out]; exact zlj _)
    rw [e1] at hown2; simpa [zb2] using hown2
   ·rcases e with e | e
    ·omega
    ·exact e
   ·rw [hv2]
    rcases hoZ with h | ⟨k2, h, hk2⟩
    ·exact .inl h
    ·exact .inr ⟨k2, h, by omega⟩
end Go.Proofs.YtbkookiigkckdaaGreatDoor
