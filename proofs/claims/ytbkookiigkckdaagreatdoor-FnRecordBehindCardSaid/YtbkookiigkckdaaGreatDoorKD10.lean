/- Merged. -/
import Derived.Test.YtbkookiigkckdaaGreatDoorKD07
set_option linter.unusedVariables false
set_option linter.unusedSimpArgs false
set_option maxRecDepth 100000
set_option maxHeartbeats 8000000
namespace Go.Proofs.YtbkookiigkckdaaGreatDoor
open Go.RowKit Go.Proofs.Tryz
structure Hst where
 hint : UInt8
 schema : Int
 thr : Nat
 sum : Nat
 zc : Nat
 cnt : Nat
 pos : List (Int × Nat)
 neg : List (Int × Nat)
 ups : List Int
 downs : List Int
 fups : List Nat
 fdowns : List Nat
 cus : List Nat
structure Hsl where
 p : Value
 n : Value
 u : Value
 d : Value
 fu : Value
 fd : Value
 c : Value
structure Hs5 where
 p : Value
 n : Value
 u : Value
 d : Value
 c : Value
def Hst.few (h : Hst) (m : Nat) : Prop := h.pos.length <= m /\ h.neg.length <= m /\ h.ups.length <= m /\ h.downs.length <= m /\ h.fups.length <= m /\ h.fdowns.length <= m /\ h.cus.length <= m
def hic (h : Hst) (s : Hsl) : List Value := [.int .u8 h.hint.toNat, .int .i32 h.schema, .int .u64 h.thr, .int .u64 h.sum, .int .u64 h.zc, .int .u64 h.cnt, s.p, s.n, s.u, s.d, s.fu, s.fd, s.c]
def SlHs (P : Nat -> Prop) (w : World) (h : Hst) (s : Hsl) : Prop :=
 Sl P w s.p 2 h.pos.length (h.pos.flatMap spc) /\ Sl P w s.n 2 h.neg.length (h.neg.flatMap spc) /\ Sl P w s.u 1 h.ups.length (h.ups.flatMap i1) /\ Sl P w s.d 1 h.downs.length (h.downs.flatMap i1) /\
 Sl P w s.fu 1 h.fups.length (h.fups.flatMap u1) /\ Sl P w s.fd 1 h.fdowns.length (h.fdowns.flatMap u1) /\ Sl P w s.c 1 h.cus.length (h.cus.flatMap u1)
theorem SlHs.fr {P S : Nat -> Prop} {w w' : World} {h : Hst} {s : Hsl} (k : SlHs P w h s) (hf : Fr S w w') (hs : ∀ g, P g -> ¬ S g) : SlHs P w' h s :=
 let ⟨a, b, c, d, e, f, g⟩ := k
 ⟨a.fr hf hs, b.fr hf hs, c.fr hf hs, d.fr hf hs, e.fr hf hs, f.fr hf hs, g.fr hf hs⟩
theorem Sl.shape {P : Nat -> Prop} {w : World} {v : Value} {size n : Nat} {xs : List Value} (h : Sl P w v size n xs) : ∃ A c, v = .slice A n c := let ⟨A, c, e, _⟩ := h; ⟨A, c, e⟩
theorem zkW (l : List Int) : ∀ u ∈ l.flatMap i1, u.oneCell' = true := by
 intro u hu; obtain ⟨x, _, hx⟩ := List.mem_flatMap.1 hu; simp [i1] at hx; subst hx; rfl
theorem zgE {α : Type} (m : Nat) (f : α -> List Value) (h3 : ∀ x, (f x).length = m) : ∀ (l : List α) (k : Nat) (x : α), l[k]? = some x -> ∀ j, j < m -> (l.flatMap f)[k * m + j]? = (f x)[j]?
 | [], k, x, h, j, hj => by simp at h
 | y :: l, 0, x, h, j, hj => by
   simp at h; subst h; rw [zmw, zm4 (by rw [h3]; omega)]; simp
 | y :: l, k + 1, x, h, j, hj => by
   have e : (k + 1) * m + j - m = k * m + j := by rw [Nat.succ_mul]; omega
   rw [zmw, zm5 (by rw [h3, Nat.succ_mul]; omega), h3, e]; exact zgE m f h3 l k x (by simpa using h) j hj
theorem Fr.nilgrown {S : Nat -> Prop} {w w' w'' : World} (h : Fr S w w') (hg : w'.grownBy w'' (Value.slice none 0 0).ownBlock) : Fr S w w'' := h.grown hg (fun k hk => by cases hk)
theorem zek {w : World} {g t : Nat} {a0 a1 a2 a3 a4 a5 a6 a7 a8 a9 a10 a11 a12 : Value} (h : Blk w g t #[a0, a1, a2, a3, a4, a5, a6, a7, a8, a9, a10, a11, a12]) :
 w.cell? ⟨g, 0, none⟩ = some a0 /\ w.cell? ⟨g, 1, none⟩ = some a1 /\ w.cell? ⟨g, 2, none⟩ = some a2 /\ w.cell? ⟨g, 3, none⟩ = some a3 /\ w.cell? ⟨g, 4, none⟩ = some a4 /\ w.cell? ⟨g, 5, none⟩ = some a5 /\ w.cell? ⟨g, 6, none⟩ = some a6 /\
 w.cell? ⟨g, 7, none⟩ = some a7 /\ w.cell? ⟨g, 8, none⟩ = some a8 /\ w.cell? ⟨g, 9, none⟩ = some a9 /\ w.cell? ⟨g, 10, none⟩ = some a10 /\ w.cell? ⟨g, 11, none⟩ = some a11 /\ w.cell? ⟨g, 12, none⟩ = some a12 :=
 ⟨h.cell 0, h.cell 1, h.cell 2, h.cell 3, h.cell 4, h.cell 5, h.cell 6, h.cell 7, h.cell 8, h.cell 9, h.cell 10, h.cell 11, h.cell 12⟩
def hcW (h : Hst) (s : Hs5) : List Value := [.int .u8 h.hint.toNat, .int .i32 h.schema, .float .f64 h.thr, .int .u64 h.zc, .int .u64 h.cnt, .float .f64 h.sum, s.p, s.n, s.u, s.d, s.c]
def OwnW (base : Nat) (w : World) (h : Hst) (v : Value) : Prop :=
 ∃ g s, v = .pointer (some ⟨g, 0, none⟩) /\ base <= g /\ Blk w g 288 (hcW h s).toArray /\ w.ownsRow base 361 2 s.p h.pos.length (h.pos.flatMap spc) /\ w.ownsRow base 361 2 s.n h.neg.length (h.neg.flatMap spc) /\
  w.ownsRow base 2 1 s.u h.ups.length (h.ups.flatMap i1) /\ w.ownsRow base 2 1 s.d h.downs.length (h.downs.flatMap i1) /\ w.ownsRow base 135 1 s.c h.cus.length (h.cus.flatMap f1)
def RdW (P : Nat -> Prop) (w : World) (h : Hst) (v : Value) : Prop :=
 ∃ g s, v = .pointer (some ⟨g, 0, none⟩) /\ P g /\ Blk w g 288 (hcW h s).toArray /\ Sl P w s.p 2 h.pos.length (h.pos.flatMap spc) /\ Sl P w s.n 2 h.neg.length (h.neg.flatMap spc) /\
  Sl P w s.u 1 h.ups.length (h.ups.flatMap i1) /\ Sl P w s.d 1 h.downs.length (h.downs.flatMap i1) /\ Sl P w s.c 1 h.cus.length (h.cus.flatMap f1)
theorem OwnW.fr {S : Nat -> Prop} {base : Nat} {w w' : World} {h : Hst} {v : Value} (k : OwnW base w h v) (hf : Fr S w w') (hs : ∀ k, base <= k -> k < w.heap.size -> ¬ S k) : OwnW base w' h v := by
 obtain ⟨g, s, hv, hg, hb, a1, a2, a3, a4, a5⟩ := k; have go : ∀ {e : TypeId} {z n : Nat} {u : Value} {xs : List Value}, w.ownsRow base e z u n xs -> w'.ownsRow base e z u n xs := fun o => zai o hf (fun g hg => hs g (o.lt g hg).1 (zaq o hg)); exact ⟨g, s, hv, hg, hb.fr hf (hs g hg hb.lt), go a1, go a2, go a3, go a4, go a5⟩
theorem OwnW.mono {base base' : Nat} {w : World} {h : Hst} {v : Value} (k : OwnW base w h v) (hb : base' <= base) : OwnW base' w h v := by
 obtain ⟨g, s, hv, hg, hb2, a1, a2, a3, a4, a5⟩ := k; exact ⟨g, s, hv, zm0 hb hg, hb2, zah a1 hb, zah a2 hb, zah a3 hb, zah a4 hb, zah a5 hb⟩
theorem OwnW.grown {base base' te z n : Nat} {w w' : World} {h : Hst} {v r : Value} {xs : List Value} (k : OwnW base w h v) (ho : w.ownsRow base' te z r n xs) (hg : w.grownBy w' r.ownBlock) (h1 : te ≠ 288) (h2 : 361 ≠ te) (h3 : 2 ≠ te) (h4 : 135 ≠ te) : OwnW base w' h v := by
 obtain ⟨g, s, hv, km, hb, a1, a2, a3, a4, a5⟩ := k; have hf : Fr (fun k => some k = r.ownBlock) w w' := (znl (fun k => some k = r.ownBlock) w).grown hg (fun k hk => .inl hk.symm); have go : ∀ {e : TypeId} {z n : Nat} {u : Value} {xs : List Value}, e ≠ te -> w.ownsRow base e z u n xs -> w'.ownsRow base e z u n xs := fun he o => zai o hf (fun g hg e => zb4 o ho he g hg e.symm)
 exact ⟨g, s, hv, km, hb.fr hf (fun e => zak ho hb h1 e.symm), go h2 a1, go h2 a2, go h3 a3, go h3 a4, go h4 a5⟩
theorem OwnW.rd {base : Nat} {w : World} {h : Hst} {v : Value} (k : OwnW base w h v) : RdW (fun g => base <= g /\ g < w.heap.size) w h v := by
 obtain ⟨g, s, hv, hg, hb, a1, a2, a3, a4, a5⟩ := k; have go : ∀ {e : TypeId} {z n : Nat} {u : Value} {xs : List Value}, w.ownsRow base e z u n xs -> Sl (fun g => base <= g /\ g < w.heap.size) w u z n xs := fun o => (zno o).mono (fun g hg => ⟨(o.lt g hg).1, zaq o hg⟩); exact ⟨g, s, hv, ⟨hg, hb.lt⟩, hb, go a1, go a2, go a3, go a4, go a5⟩
theorem RdW.fr {P S : Nat -> Prop} {w w' : World} {h : Hst} {v : Value} (k : RdW P w h v) (hf : Fr S w w') (hs : ∀ g, P g -> ¬ S g) : RdW P w' h v := by
 obtain ⟨g, s, hv, hg, hb, a1, a2, a3, a4, a5⟩ := k; exact ⟨g, s, hv, hg, hb.fr hf (hs g hg), a1.fr hf hs, a2.fr hf hs, a3.fr hf hs, a4.fr hf hs, a5.fr hf hs⟩
theorem RdW.mono {P Q : Nat -> Prop} {w : World} {h : Hst} {v : Value} (k : RdW P w h v) (hs : ∀ g, P g -> Q g) : RdW Q w h v := by
 obtain ⟨g, s, hv, hg, hb, a1, a2, a3, a4, a5⟩ := k; exact ⟨g, s, hv, hs g hg, hb, a1.mono hs, a2.mono hs, a3.mono hs, a4.mono hs, a5.mono hs⟩
def MadeW (w : World) (h : Hst) (r : Ending) (w' : World) : Prop := ∃ v, r = .returned v /\ OwnW w.heap.size w' h v /\ z_F w w'
def hcF (h : Hst) (s : Hs5) : List Value := [.int .u8 h.hint.toNat, .int .i32 h.schema, .float .f64 h.thr, .float .f64 h.zc, .float .f64 h.cnt, .float .f64 h.sum, s.p, s.n, s.u, s.d, s.c]
def OwnF (base : Nat) (w : World) (h : Hst) (v : Value) : Prop :=
 ∃ g s, v = .pointer (some ⟨g, 0, none⟩) /\ base <= g /\ Blk w g 296 (hcF h s).toArray /\ w.ownsRow base 361 2 s.p h.pos.length (h.pos.flatMap spc) /\ w.ownsRow base 361 2 s.n h.neg.length (h.neg.flatMap spc) /\
  w.ownsRow base 135 1 s.u h.fups.length (h.fups.flatMap f1) /\ w.ownsRow base 135 1 s.d h.fdowns.length (h.fdowns.flatMap f1) /\ w.ownsRow base 135 1 s.c h.cus.length (h.cus.flatMap f1)
def RdF (P : Nat -> Prop) (w : World) (h : Hst) (v : Value) : Prop :=
 ∃ g s, v = .pointer (some ⟨g, 0, none⟩) /\ P g /\ Blk w g 296 (hcF h s).toArray /\ Sl P w s.p 2 h.pos.length (h.pos.flatMap spc) /\ Sl P w s.n 2 h.neg.length (h.neg.flatMap spc) /\
  Sl P w s.u 1 h.fups.length (h.fups.flatMap f1) /\ Sl P w s.d 1 h.fdowns.length (h.fdowns.flatMap f1) /\ Sl P w s.c 1 h.cus.length (h.cus.flatMap f1)
theorem OwnF.fr {S : Nat -> Prop} {base : Nat} {w w' : World} {h : Hst} {v : Value} (k : OwnF base w h v) (hf : Fr S w w') (hs : ∀ k, base <= k -> k < w.heap.size -> ¬ S k) : OwnF base w' h v := by
 obtain ⟨g, s, hv, hg, hb, a1, a2, a3, a4, a5⟩ := k; have go : ∀ {e : TypeId} {z n : Nat} {u : Value} {xs : List Value}, w.ownsRow base e z u n xs -> w'.ownsRow base e z u n xs := fun o => zai o hf (fun g hg => hs g (o.lt g hg).1 (zaq o hg)); exact ⟨g, s, hv, hg, hb.fr hf (hs g hg hb.lt), go a1, go a2, go a3, go a4, go a5⟩
theorem OwnF.mono {base base' : Nat} {w : World} {h : Hst} {v : Value} (k : OwnF base w h v) (hb : base' <= base) : OwnF base' w h v := by
 obtain ⟨g, s, hv, hg, hb2, a1, a2, a3, a4, a5⟩ := k; exact ⟨g, s, hv, zm0 hb hg, hb2, zah a1 hb, zah a2 hb, zah a3 hb, zah a4 hb, zah a5 hb⟩
theorem OwnF.grown {base base' te z n : Nat} {w w' : World} {h : Hst} {v r : Value} {xs : List Value} (k : OwnF base w h v) (ho : w.ownsRow base' te z r n xs) (hg : w.grownBy w' r.ownBlock) (h1 : te ≠ 296) (h2 : 361 ≠ te) (h3 : 135 ≠ te) (h4 : 135 ≠ te) : OwnF base w' h v := by
 obtain ⟨g, s, hv, km, hb, a1, a2, a3, a4, a5⟩ := k; have hf : Fr (fun k => some k = r.ownBlock) w w' := (znl (fun k => some k = r.ownBlock) w).grown hg (fun k hk => .inl hk.symm); have go : ∀ {e : TypeId} {z n : Nat} {u : Value} {xs : List Value}, e ≠ te -> w.ownsRow base e z u n xs -> w'.ownsRow base e z u n xs := fun he o => zai o hf (fun g hg e => zb4 o ho he g hg e.symm)
 exact ⟨g, s, hv, km, hb.fr hf (fun e => zak ho hb h1 e.symm), go h2 a1, go h2 a2, go h3 a3, go h3 a4, go h4 a5⟩
theorem OwnF.rd {base : Nat} {w : World} {h : Hst} {v : Value} (k : OwnF base w h v) : RdF (fun g => base <= g /\ g < w.heap.size) w h v := by
 obtain ⟨g, s, hv, hg, hb, a1, a2, a3, a4, a5⟩ := k; have go : ∀ {e : TypeId} {z n : Nat} {u : Value} {xs : List Value}, w.ownsRow base e z u n xs -> Sl (fun g => base <= g /\ g < w.heap.size) w u z n xs := fun o => (zno o).mono (fun g hg => ⟨(o.lt g hg).1, zaq o hg⟩); exact ⟨g, s, hv, ⟨hg, hb.lt⟩, hb, go a1, go a2, go a3, go a4, go a5⟩
theorem RdF.fr {P S : Nat -> Prop} {w w' : World} {h : Hst} {v : Value} (k : RdF P w h v) (hf : Fr S w w') (hs : ∀ g, P g -> ¬ S g) : RdF P w' h v := by
 obtain ⟨g, s, hv, hg, hb, a1, a2, a3, a4, a5⟩ := k; exact ⟨g, s, hv, hg, hb.fr hf (hs g hg), a1.fr hf hs, a2.fr hf hs, a3.fr hf hs, a4.fr hf hs, a5.fr hf hs⟩
theorem RdF.mono {P Q : Nat -> Prop} {w : World} {h : Hst} {v : Value} (k : RdF P w h v) (hs : ∀ g, P g -> Q g) : RdF Q w h v := by
 obtain ⟨g, s, hv, hg, hb, a1, a2, a3, a4, a5⟩ := k; exact ⟨g, s, hv, hs g hg, hb, a1.mono hs, a2.mono hs, a3.mono hs, a4.mono hs, a5.mono hs⟩
def MadeF (w : World) (h : Hst) (r : Ending) (w' : World) : Prop := ∃ v, r = .returned v /\ OwnF w.heap.size w' h v /\ z_F w w'
theorem zde : (∀ (_ : True) (P : Nat -> Prop) (h : Hst) (s : Hsl) (w : World) (hs : SlHs P w h s) (hl : h.few 1099511627776),
 Calls prog 175 #[.agg (hic h s).toArray] w (MadeW w h)) /\ (∀ (_ : True) (P : Nat -> Prop) (h : Hst) (s : Hsl) (w : World) (hs : SlHs P w h s) (hl : h.few 1099511627776),
 Calls prog 178 #[.agg (hic h s).toArray] w (MadeF w h)) := by
 refine ⟨fun ag P h s w hs hl => ?_, fun bU P h s w hs hl => ?_⟩; all_goals
  have mixed : prog.follows .mixedOrders = true := by kernel_rfl
  obtain ⟨hp, hn, hu, hd, hfu, hfd, hc⟩ := hs; obtain ⟨l1, l2, l3, l4, l5, l6, l7⟩ := hl; obtain ⟨hint, schema, thr, sum, zc, cnt, pos, neg, ups, downs, fups, fdowns, cus⟩ := h; obtain ⟨sp, sn, su, sd, lX, lY, sc⟩ := s; simp only [] at hp hn hu hd hfu hfd hc l1 l2 l3 l4 l5 l6 l7; obtain ⟨A1, c1, rfl⟩ := hp.shape; obtain ⟨A2, c2, rfl⟩ := hn.shape; obtain ⟨A3, c3, rfl⟩ := hu.shape
  obtain ⟨A4, c4, rfl⟩ := hd.shape; obtain ⟨A5, c5, rfl⟩ := hfu.shape; obtain ⟨A6, c6, rfl⟩ := hfd.shape; obtain ⟨A7, c7, rfl⟩ := hc.shape; obtain ⟨n1, e1⟩ := exE pos.length; obtain ⟨n2, e2⟩ := exE neg.length; obtain ⟨n3, e3⟩ := exE ups.length; obtain ⟨n4, e4⟩ := exE downs.length; obtain ⟨n5, e5⟩ := exE fups.length; obtain ⟨n6, e6⟩ := exE fdowns.length; obtain ⟨n7, e7⟩ := exE cus.length
  have HS := zmh (fun (W : World) (hW : z_F w W) => ziy P _ pos W (hp.fr hW z_i) l1); have HT := zmh (fun (W : World) (hW : z_F w W) => ziy P _ neg W (hn.fr hW z_i) l2); have HX := zmh (fun (W : World) (hW : z_F w W) => zfi P _ fups W (hfu.fr hW z_i) l5)
  have HY := zmh (fun (W : World) (hW : z_F w W) => zfi P _ fdowns W (hfd.fr hW z_i) l6); have HZ := zmh (fun (W : World) (hW : z_F w W) => zfi P _ cus W (hc.fr hW z_i) l7); have HU := zmh (fun (W : World) (hW : z_F w W) => zbp underlying189 (hu.fr hW z_i) (zkW _))
  have HD := zmh (fun (W : World) (hW : z_F w W) => zbp underlying189 (hd.fr hW z_i) (zkW _)); obtain ⟨i2, iH, ei, dC, fi⟩ := info_parts info2; simp only [hic]; rw [e1] at HS l1 ⊢; rw [e2] at HT l2 ⊢; rw [e3] at HU l3 ⊢; rw [e4] at HD l4 ⊢; rw [e5] at HX l5 ⊢; rw [e6] at HY l6 ⊢; rw [e7] at HZ l7 ⊢
  have HE := zmh (zm8 e1 (zm8 e2 (zm8 e3 (zm8 e4 (zm8 e5 (zm8 e6 e7)))))); clear hp hn hu hd hfu hfd hc e1 e2 e3 e4 e5 e6 e7
  first | (guard_hyp ag; go_enter func175, ntmps175) | (go_enter func178, ntmps178)
  go_wp2_with fail
  have K0 := zmh (znm w 192 #[.int .u8 hint.toNat, .int .i32 schema, .int .u64 thr, .int .u64 sum, .int .u64 zc, .int .u64 cnt, .slice A1 n1 c1, .slice A2 n2 c2, .slice A3 n3 c3, .slice A4 n4 c4, .slice A5 n5 c5, .slice A6 n6 c6, .slice A7 n7 c7])
  have F0 := zmh ((znl (fun _ => False) w).alloc (.cells #[.int .u8 hint.toNat, .int .i32 schema, .int .u64 thr, .int .u64 sum, .int .u64 zc, .int .u64 cnt, .slice A1 n1 c1, .slice A2 n2 c2, .slice A3 n3 c3, .slice A4 n4 c4, .slice A5 n5 c5, .slice A6 n6 c6, .slice A7 n7 c7] 192)).drew; obtain ⟨s0, s1, s2, s3, s4, s5, s6, s7, s8, s9, iz, pm, pl⟩ := zek K0.out.drew
  go_region_held3 (fun w' => w'.cell? ⟨w.heap.size, 0, none⟩ = some (.int .u8 hint.toNat) /\ w'.cell? ⟨w.heap.size, 1, none⟩ = some (.int .i32 schema) /\ w'.cell? ⟨w.heap.size, 2, none⟩ = some (.int .u64 thr) /\ w'.cell? ⟨w.heap.size, 3, none⟩ = some (.int .u64 sum) /\ w'.cell? ⟨w.heap.size, 4, none⟩ = some (.int .u64 zc) /\ w'.cell? ⟨w.heap.size, 5, none⟩ = some (.int .u64 cnt) /\ w'.cell? ⟨w.heap.size, 6, none⟩ = some (.slice A1 n1 c1) /\ w'.cell? ⟨w.heap.size, 7, none⟩ = some (.slice A2 n2 c2) /\ w'.cell? ⟨w.heap.size, 8, none⟩ = some (.slice A3 n3 c3) /\ w'.cell? ⟨w.heap.size, 9, none⟩ = some (.slice A4 n4 c4) /\ w'.cell? ⟨w.heap.size, 10, none⟩ = some (.slice A5 n5 c5) /\ w'.cell? ⟨w.heap.size, 11, none⟩ = some (.slice A6 n6 c6) /\ w'.cell? ⟨w.heap.size, 12, none⟩ = some (.slice A7 n7 c7))
   ((first | exact zek (K5.out.alloc _) | exact zek K5.out | exact zek K4.out | exact zek K3.out | exact zek K2.out | exact zek K1.out | exact zek K0.out.drew | go_keep))
   ((first
     | (go_at_call 167; refine (ze1 _ _).mono ?_; rintro r w' ⟨rfl, rfl⟩)
     | (go_at_call 235; refine (HT.out w1 F1.out).mono ?_; rintro r2 w2 ⟨v2, rfl, af, aq⟩; obtain ⟨B2, d2, rfl⟩ := zaa af; have F2 := zmh (F1.out.same aq); have K2 := zmh (K1.out.fr aq id); have P2 := zmh (zah af F1.out.size); have G2 := zmh aq)
     | (go_at_call 235; refine (HS.out _ F0.out).mono ?_; rintro r1 w1 ⟨v1, rfl, am, ah⟩; obtain ⟨B1, d1, rfl⟩ := zaa am; have F1 := zmh (F0.out.same ah); have K1 := zmh (K0.out.drew.fr ah id); have P1 := zmh (zah am F0.out.size))
     | (refine zat _ (by rfl) _ _ 189 189 (by rfl) w.heap.size 2 i2 _ 1 8 underlying189 iH ei dC fi rfl (by decide) (.slice none 0 0) 0 [] (by rfl) (zmv _ _ _ _) _ n4 (downs.flatMap i1) (by rfl) (HD.out w3 F3.out) (by unfold maxLen; omega) (by omega) F3.out.size ?_; intro v4 w4 aV oO qx; rw [zmM, zmT] at aV; obtain ⟨B4, d4, rfl⟩ := zaa aV; have G4 := zmh ((znl (fun _ => False) w3).nilgrown oO); have F4 := zmh (F3.out.nilgrown oO); have K4 := zmh (K3.out.fr G4.out id); have P4 := zmh aV)
     | (go_at_call 236; refine (HZ.out w4 F4.out).mono ?_; rintro r5 w5 ⟨v5, rfl, al, ap⟩; obtain ⟨B5, d5, rfl⟩ := zaa al; have F5 := zmh (F4.out.same ap); have K5 := zmh (K4.out.fr ap id); have P5 := zmh (zah al F4.out.size); have G5 := zmh ap)
     | (refine zat _ (by rfl) _ _ 189 189 (by rfl) w.heap.size 2 i2 _ 1 8 underlying189 iH ei dC fi rfl (by decide) (.slice none 0 0) 0 [] (by rfl) (zmv _ _ _ _) _ n3 (ups.flatMap i1) (by rfl) (HU.out w2 F2.out) (by unfold maxLen; omega) (by omega) F2.out.size ?_; intro v3 w3 aE gq iP; rw [zmM, zmT] at aE; obtain ⟨B3, d3, rfl⟩ := zaa aE; have G3 := zmh ((znl (fun _ => False) w2).nilgrown gq); have F3 := zmh (F2.out.nilgrown gq); have K3 := zmh (K2.out.fr G3.out id); have P3 := zmh aE)
     | (go_at_call 236; refine (HY.out w3 F3.out).mono ?_; rintro r4 w4 ⟨v4, rfl, aV, du⟩; obtain ⟨B4, d4, rfl⟩ := zaa aV; have F4 := zmh (F3.out.same du); have K4 := zmh (K3.out.fr du id); have P4 := zmh (zah aV F3.out.size); have G4 := zmh du)
     | (go_at_call 236; refine (HZ.out w4 F4.out).mono ?_; rintro r5 w5 ⟨v5, rfl, al, ap⟩; obtain ⟨B5, d5, rfl⟩ := zaa al; have F5 := zmh (F4.out.same ap); have K5 := zmh (K4.out.fr ap id); have P5 := zmh (zah al F4.out.size); have G5 := zmh ap)
     | (go_at_call 236; refine (HX.out w2 F2.out).mono ?_; rintro r3 w3 ⟨v3, rfl, aE, bL⟩; obtain ⟨B3, d3, rfl⟩ := zaa aE; have F3 := zmh (F2.out.same bL); have K3 := zmh (K2.out.fr bL id); have P3 := zmh (zah aE F2.out.size); have G3 := zmh bL)))
  obtain ⟨rfl, rfl, rfl, rfl, rfl, rfl, rfl⟩ := HE.out
  first | (guard_hyp ag; have fin : ∀ (W : World), z_F w5 W -> W.ownsRow w.heap.size 361 2 (.slice B1 pos.length d1) pos.length (pos.flatMap spc) /\ W.ownsRow w.heap.size 361 2 (.slice B2 neg.length d2) neg.length (neg.flatMap spc) /\ W.ownsRow w.heap.size 2 1 (.slice B3 ups.length d3) ups.length (ups.flatMap i1) /\ W.ownsRow w.heap.size 2 1 (.slice B4 downs.length d4) downs.length (downs.flatMap i1) /\ W.ownsRow w.heap.size 135 1 (.slice B5 cus.length d5) cus.length (cus.flatMap f1) := fun W hW => ⟨zai P1.out ((((G2.out.same G3.out).same G4.out).same G5.out).same hW) z_i, zai P2.out (((G3.out.same G4.out).same G5.out).same hW) z_i, zai P3.out ((G4.out.same G5.out).same hW) z_i, zai P4.out (G5.out.same hW) z_i, zai P5.out hW z_i⟩) | (have fin : ∀ (W : World), z_F w5 W -> W.ownsRow w.heap.size 361 2 (.slice B1 pos.length d1) pos.length (pos.flatMap spc) /\ W.ownsRow w.heap.size 361 2 (.slice B2 neg.length d2) neg.length (neg.flatMap spc) /\ W.ownsRow w.heap.size 135 1 (.slice B3 fups.length d3) fups.length (fups.flatMap f1) /\ W.ownsRow w.heap.size 135 1 (.slice B4 fdowns.length d4) fdowns.length (fdowns.flatMap f1) /\ W.ownsRow w.heap.size 135 1 (.slice B5 cus.length d5) cus.length (cus.flatMap f1) := fun W hW => ⟨zai P1.out ((((G2.out.same G3.out).same G4.out).same G5.out).same hW) z_i, zai P2.out (((G3.out.same G4.out).same G5.out).same hW) z_i, zai P3.out ((G4.out.same G5.out).same hW) z_i, zai P4.out (G5.out.same hW) z_i, zai P5.out hW z_i⟩)
  clear s0 s1 s2 s3 s4 s5 s6 s7 s8 s9 iz pm pl; have FIN := zmh fin
  clear fin
  go_wp2; go_ret
  first | (guard_hyp ag; have hA := (znl (fun _ => False) w5).alloc (.cells #[.int .u8 hint.toNat, .int .i32 schema, .float .f64 thr, .int .u64 zc, .int .u64 cnt, .float .f64 sum, .slice B1 pos.length d1, .slice B2 neg.length d2, .slice B3 ups.length d3, .slice B4 downs.length d4, .slice B5 cus.length d5] 288)) | (have hA := (znl (fun _ => False) w5).alloc (.cells #[.int .u8 hint.toNat, .int .i32 schema, .float .f64 thr, .float .f64 zc, .float .f64 cnt, .float .f64 sum, .slice B1 pos.length d1, .slice B2 neg.length d2, .slice B3 fups.length d3, .slice B4 fdowns.length d4, .slice B5 cus.length d5] 296))
  obtain ⟨q1, q2, q3, q4, q5⟩ := FIN.out _ hA
  first | (guard_hyp ag; exact ⟨_, rfl, ⟨w5.heap.size, ⟨.slice B1 pos.length d1, .slice B2 neg.length d2, .slice B3 ups.length d3, .slice B4 downs.length d4, .slice B5 cus.length d5⟩, rfl, F5.out.size, znm w5 288 _, q1, q2, q3, q4, q5⟩, F5.out.alloc _⟩) | (exact ⟨_, rfl, ⟨w5.heap.size, ⟨.slice B1 pos.length d1, .slice B2 neg.length d2, .slice B3 fups.length d3, .slice B4 fdowns.length d4, .slice B5 cus.length d5⟩, rfl, F5.out.size, znm w5 296 _, q1, q2, q3, q4, q5⟩, F5.out.alloc _⟩)
theorem whole_any : type_of% (zde.1 trivial) := zde.1 trivial
theorem zl5 : type_of% (zde.2 trivial) := zde.2 trivial
def cntF : List Bool -> Nat
 | [] => 0
 | b :: l => (if b then 0 else 1) + cntF l
theorem zk0 : ∀ (l : List Bool) (i : Nat), l[i]? = some false -> cntF (l.set i true) + 1 = cntF l
 | [], i, h => by simp at h
 | b :: l, 0, h => by
   simp at h; subst h; simp [cntF]; omega
 | b :: l, i + 1, h => by
   have := zk0 l i (by simpa using h); simp only [zmn, cntF]; omega
theorem zk1 : ∀ (l : List Bool) (i : Nat), l[i]? = some false -> 0 < cntF l
 | [], i, h => by simp at h
 | b :: l, 0, h => by simp at h; subst h; simp [cntF]; omega
 | b :: l, i + 1, h => by have := zk1 l i (by simpa using h); simp only [cntF]; omega
theorem unlisted {l : Array Bool} {i : Nat} (h : l.getD i true = false) : l.toList[i]? = some false := by
 rcases zmK i l.size with h' | h'
 ·simp [h'] at h ⊢; exact h
 ·simp [h'] at h
def Closed (md : Region.Mode) (ops : Array Oper) (l : Array Bool) : Prop := ∀ (i : Nat) (o : Oper), ops[i]? = some o -> l.getD i false = true -> ∀ e ∈ o.after, Region.binds md e = true -> l.getD e.on false = true
theorem zfg {l : Array Bool} {i : Nat} (h : l.getD i true = false) : l.getD i false = false := by
 rcases zmK i l.size with h' | h'
 ·simp [h'] at h ⊢; exact h
 ·simp [h']
theorem Closed.set {md : Region.Mode} {ops : Array Oper} {l : Array Bool} (h : Closed md ops l) {i : Nat} {o : Oper} (ho : ops[i]? = some o) (ha : ∀ e ∈ o.after, Region.binds md e = true -> l.getD e.on false = true) : Closed md ops (l.setIfInBounds i true) := by
 intro k o2 dJ hl e he hb; by_cases hk : i = k
 ·subst hk
  obtain rfl : o = o2 := zm6 (ho.symm.trans dJ); exact getD_set_true (ha e he hb)
 ·rw [getD_set_ne false hk] at hl
  exact getD_set_true (h k o2 dJ hl e he hb)
theorem wpAny_inv {P : Program} {md : Region.Mode} {ops : Array Oper} {Q : Exit -> Act -> World -> Prop} (n : Nat) (hn : ops.size = n + 1) (jL : ∀ (i : Nat) (o : Oper), ops[i]? = some o -> ∀ e ∈ o.after, e.on < i) (J : Array Bool -> Act -> World -> Prop)
 (nc : ∀ i, i < n -> ∃ (k : Nat) (o : Oper), i < k /\ ops[k]? = some o /\ ∃ e ∈ o.after, e.on = i /\ Region.binds md e = true)
 (cf : ∀ l a w, J l a w -> l.size = n + 1)
 (ij : ∀ (l : Array Bool) (a : Act) (w : World) (i : Nat) (o : Oper), J l a w -> i < n -> l.getD i true = false -> ops[i]? = some o -> (∀ e ∈ o.after, Region.binds md e = true -> l.getD e.on false = true) ->
   Region.wanted o (yielded ops a.tmps) = true /\ o.wp P a w (fun a' w' => J (l.setIfInBounds i true) a' w') Q)
 (pY : ∀ (l : Array Bool) (a : Act) (w : World) (o : Oper), J l a w -> (∀ i, i < n -> l.getD i false = true) -> ops[n]? = some o -> Region.wanted o (yielded ops a.tmps) = true /\ o.wp P a w (fun a' w' => Q .normal a' w') Q) :
 ∀ (fuel : Nat) (l : Array Bool) (a : Act) (w : World), cntF l.toList <= fuel -> Closed md ops l -> l.getD n false = false -> J l a w -> wpAny P md ops Q fuel l a w := by
 have hlt : ∀ {i : Nat} {o : Oper}, ops[i]? = some o -> i < n + 1 := fun {i o} ho => by
  rcases zmK i ops.size with h | h
  ·omega
  ·rw [Array.getElem?_eq_none h] at ho; cases ho
 intro fuel; induction fuel with
 | zero =>
   intro l a w hc _ hu h; have := zk1 l.toList n (by have hs := cf l a w h; simp [hs] at hu ⊢; exact hu); omega
 | succ fuel ih =>
   intro l a w hc hcl hu h; have hs := cf l a w h; have aS : Region.ready md ops l = [] -> False := fun hr => by
    -- the smallest that is not listed may come up
    have aw : ∀ i, i < n + 1 -> l.getD i true = true := fun i => by
     induction i using Nat.strongRecOn with
     | ind i ih2 =>
       intro hi; rcases hl : l.getD i true with _ | _
       ·exfalso
        obtain ⟨o, ho⟩ : ∃ o, ops[i]? = some o := ⟨_, Array.getElem?_eq_getElem (by omega)⟩; by_cases hm : ∀ e ∈ o.after, Region.binds md e = true -> l.getD e.on false = true
        ·have hm : i ∈ Region.ready md ops l := mem_ready.2 ⟨hl, o, ho, hm⟩
         rw [hr] at hm; cases hm
        ·exact absurd hm (by
          intro hm2; exact hm fun e he hb => by
           have hd : e.on < i := jL i o ho e he; have h2 := ih2 e.on hd (by omega); simp [show e.on < l.size by omega] at h2 ⊢
           exact h2)
       ·rfl
    have := aw n (by omega); simp [hs] at this hu; rw [this] at hu; cases hu
   refine ⟨fun hr => (aS hr).elim, fun i hi => ?_⟩; obtain ⟨h1, o, ho, h2⟩ := mem_ready.1 hi; have gp := hlt ho; have im := zk0 l.toList i (unlisted h1); by_cases hin : i = n
   ·subst hin
    have mB : ∀ m k, k + m = i -> k < i -> l.getD k false = true := by
     intro m; induction m using Nat.strongRecOn with
     | ind m ihm =>
       intro k hk qa; obtain ⟨k2, o2, hkk, dJ, e, he, heon, hb⟩ := nc k qa; have cI := hlt dJ; have iF : ops[k2]? = some o2 -> (k2 = i ∨ l.getD k2 false = true) := fun _ => by
        by_cases hki2 : k2 = i
        ·exact .inl hki2
        ·exact .inr (ihm (i - k2) (by omega) k2 (by omega) (by omega))
       rw [<- heon]; rcases iF dJ with hq | hq
       ·subst hq
        obtain rfl : o2 = o := zm6 (dJ.symm.trans ho); exact h2 e he hb
       ·exact hcl k2 o2 dJ hq e he hb
    obtain ⟨hw, ek⟩ := pY l a w o h (fun k hk => mB (i - k) k (by omega) hk) ho; unfold wpOp; simp only [ho, hw, if_true]; refine .inl (Oper.wp_mono (fun a' w' h' => ?_) ek); have hr : Region.ready md ops (l.setIfInBounds i true) = [] := by
     rcases hr : Region.ready md ops (l.setIfInBounds i true) with _ | ⟨x, r⟩
     ·rfl
     ·have hm : x ∈ Region.ready md ops (l.setIfInBounds i true) := by rw [hr]; exact zna ..
      obtain ⟨q1, ox, hox, _⟩ := mem_ready.1 hm; have hx := hlt hox; have q2 := zfg q1; by_cases hxi : i = x
      ·subst hxi
       simp [hs] at q2
      ·rw [getD_set_ne false hxi, mB (i - x) x (by omega) (by omega)] at q2
       cases q2
    rcases fuel with _ | fuel
    ·exact ⟨hr, h'⟩
    ·exact ⟨fun _ => h', by rw [hr]; simp⟩
   ·obtain ⟨hw, ek⟩ := ij l a w i o h (by omega) h1 ho h2
    unfold wpOp; simp only [ho, hw, if_true]; refine .inl (Oper.wp_mono (fun a' w' h' => ih _ a' w' ?_ (hcl.set ho h2) (by rw [getD_set_ne false hin]; exact hu) h') ek); rw [Array.toList_setIfInBounds]; omega
structure Cm where
 ty : Nat
 e : Nat
 z : Nat
 b8 : Nat
 u : Value
 n : Nat
 xs : List Value
 t : Value
 m : Nat
 ys : List Value
def Cm.Ok (c : Cm) (V : World) : Prop :=
 prog.underlying c.ty = some (.slice c.e) /\ (∃ i zv, prog.info? c.e = some i /\ i.zero = some zv /\ i.size = c.z /\ i.bytes = c.b8 /\ zv.cells.size = c.z) /\ 0 < c.z /\ c.b8 <= 1000 /\ c.n + c.m <= 1048576 /\
 ∀ W, z_F V W -> Src prog c.z c.ty c.u c.n c.xs W /\ Src prog c.z c.ty c.t c.m c.ys W
def Tm (a : Act) (k : Nat) : Value := a.tmps.getD k undef
def zc8 (c : Cm) (l : Array Bool) (a : Act) (j : Nat) : Option (Value × Nat × List Value) :=
 if l.getD (7 * j + 6) false = true then some (Tm a (7 * j + 11), c.n + c.m, c.xs ++ c.ys)
 else if l.getD (7 * j + 3) false = true then some (Tm a (7 * j + 8), c.n, c.xs)
 else if l.getD (7 * j) false = true then some (Tm a (7 * j + 5), 0, []) else none
def zjX (C : Nat -> Cm) (ba bb j r : Nat) : Value := if r = 1 then .pointer (some ⟨ba, j, none⟩) else if r = 2 then (C j).u else if r = 4 then .pointer (some ⟨bb, j, none⟩) else (C j).t
structure BJ (C : Nat -> Cm) (ba bb b4 : Nat) (V : World) (l : Array Bool) (a : Act) (w : World) : Prop where
 fr : z_F V w
 tmp : Tm a 2 = .pointer (some ⟨ba, 0, none⟩) /\ Tm a 3 = .pointer (some ⟨bb, 0, none⟩) /\ Tm a 4 = .pointer (some ⟨b4, 0, none⟩)
 pure : ∀ j r, j < 7 -> (r = 1 ∨ r = 2 ∨ r = 4 ∨ r = 5) -> l.getD (7 * j + r) false = true -> Tm a (7 * j + r + 5) = zjX C ba bb j r
 own : ∀ j v n xs, j < 7 -> zc8 (C j) l a j = some (v, n, xs) -> w.ownsRow V.heap.size (C j).e (C j).z v n xs
 far : ∀ j k v n xs v' n' xs' g, j < 7 -> k < 7 -> j ≠ k -> zc8 (C j) l a j = some (v, n, xs) -> zc8 (C k) l a k = some (v', n', xs') -> v.ownBlock = some g -> v'.ownBlock ≠ some g
 ord : ∀ j, j < 7 -> (l.getD (7 * j + 6) false = true -> l.getD (7 * j + 3) false = true) /\ (l.getD (7 * j + 3) false = true -> l.getD (7 * j) false = true)
theorem zeX {a : Act} {d : Nat} {v : Value} (h : d < a.tmps.size) : Tm (a.put (some d) v) d = v := by
 simp [Tm, Act.put, h]
theorem zax {a : Act} {d k : Nat} {v : Value} (h : d ≠ k) : Tm (a.put (some d) v) k = Tm a k := by
 simp [Tm, Act.put, Array.getElem?_setIfInBounds_ne h]
theorem zcG {c : Cm} {l : Array Bool} {a : Act} {i k : Nat} {v : Value} (h : i ≠ 7 * k /\ i ≠ 7 * k + 3 /\ i ≠ 7 * k + 6) : zc8 c (l.setIfInBounds i true) (a.put (some (i + 5)) v) k = zc8 c l a k := by
 unfold zc8; rw [getD_set_ne false h.2.2, getD_set_ne false h.2.1, getD_set_ne false h.1, zax (show i + 5 ≠ 7 * k + 11 by omega), zax (show i + 5 ≠ 7 * k + 8 by omega), zax (show i + 5 ≠ 7 * k + 5 by omega)]
section
variable {C : Nat -> Cm} {ba bb b4 : Nat} {V : World} {l : Array Bool} {a : Act} {w : World}
theorem BJ.stepP (h : BJ C ba bb b4 V l a w) {j r : Nat} (hj : j < 7) (hr : r = 1 ∨ r = 2 ∨ r = 4 ∨ r = 5) (hs : 7 * j + r + 5 < a.tmps.size) : BJ C ba bb b4 V (l.setIfInBounds (7 * j + r) true) (a.put (some (7 * j + r + 5)) (zjX C ba bb j r)) w := by
 have hc : ∀ k, 7 * j + r ≠ 7 * k /\ 7 * j + r ≠ 7 * k + 3 /\ 7 * j + r ≠ 7 * k + 6 := fun k => by omega
 refine ⟨h.fr, ⟨by rw [zax (by omega)]; exact h.tmp.1, by rw [zax (by omega)]; exact h.tmp.2.1, by rw [zax (by omega)]; exact h.tmp.2.2⟩, fun k q hk hq hl => ?_, fun k v n xs hk hv => h.own k v n xs hk (by rwa [zcG (hc k)] at hv), fun k k' v n xs v' n' xs' g hk fD aN hv hv' => h.far k k' v n xs v' n' xs' g hk fD aN (by rwa [zcG (hc k)] at hv) (by rwa [zcG (hc k')] at hv'), fun k hk => ?_⟩
 ·by_cases e : 7 * j + r = 7 * k + q
  ·obtain rfl : j = k := by omega
   obtain rfl : r = q := by omega
   exact zeX hs
  ·rw [zax (by omega)]
   exact h.pure k q hk hq (by rwa [getD_set_ne false e] at hl)
 ·rw [getD_set_ne false (hc k).2.2, getD_set_ne false (hc k).2.1, getD_set_ne false (hc k).1]
  exact h.ord k hk
theorem BJ.stepR (h : BJ C ba bb b4 V l a w) {j r : Nat} (hj : j < 7) (hr : r = 0 ∨ r = 3 ∨ r = 6) (bD : 7 * j + r < l.size) {w' : World} {v' : Value} {n' : Nat} {xs' : List Value} {row : Option Nat}
 (iL : zc8 (C j) (l.setIfInBounds (7 * j + r) true) (a.put (some (7 * j + r + 5)) v') j = some (v', n', xs')) (ho : w'.ownsRow V.heap.size (C j).e (C j).z v' n' xs') (hg : w.grownBy w' row)
 (aO : row = none ∨ ∃ v n xs, zc8 (C j) l a j = some (v, n, xs) /\ row = v.ownBlock) (av : v'.ownBlock = row ∨ v'.ownBlock = some w.heap.size)
 (jB : (r = 3 -> l.getD (7 * j) false = true) /\ (r = 6 -> l.getD (7 * j + 3) false = true)) :
 BJ C ba bb b4 V (l.setIfInBounds (7 * j + r) true) (a.put (some (7 * j + r + 5)) v') w' := by
 have hc : ∀ k, k ≠ j -> 7 * j + r ≠ 7 * k /\ 7 * j + r ≠ 7 * k + 3 /\ 7 * j + r ≠ 7 * k + 6 := fun k hk => by omega
 have jz : ∀ g, row = some g -> V.heap.size <= g /\ g < w.heap.size /\ ∀ k v n xs, k < 7 -> k ≠ j -> zc8 (C k) l a k = some (v, n, xs) -> v.ownBlock ≠ some g := fun g oM => by
  rcases aO with pI | ⟨v, n, xs, hv, pI⟩
  ·rw [pI] at oM; cases oM
  ·rw [pI] at oM
   have o := h.own j v n xs hj hv; exact ⟨(o.lt g oM).1, zaq o oM, fun k v2 n2 xs2 hk aN bd => h.far j k v n xs v2 n2 xs2 g hj hk (Ne.symm aN) hv bd oM⟩
 have qh : ∀ k v n xs g, k < 7 -> k ≠ j -> zc8 (C k) l a k = some (v, n, xs) -> v.ownBlock = some g -> v'.ownBlock ≠ some g := fun k v n xs g hk aN hv oE e => by
  rcases av with av | av
  ·exact (jz g (av ▸ e)).2.2 k v n xs hk aN hv oE
  ·rw [av] at e
   injection e with e; have := zaq (h.own k v n xs hk hv) oE; omega
 have hfr : Fr (fun k => some k = row) w w' := ⟨hg.os, hg.tape, hg.output, hg.size, fun k hk hn => hg.block k hk hn⟩
 refine ⟨h.fr.grown hg (fun k hk => .inr (jz k hk).1), ⟨by rw [zax (by omega)]; exact h.tmp.1, by rw [zax (by omega)]; exact h.tmp.2.1, by rw [zax (by omega)]; exact h.tmp.2.2⟩, fun k q hk hq hl => ?_, fun k v n xs hk hv => ?_, fun k k' v n xs v2 n2 xs2 g hk fD aN hv bd oE => ?_, fun k hk => ?_⟩
 ·have e : 7 * j + r ≠ 7 * k + q := by omega
  rw [zax (by omega)]; exact h.pure k q hk hq (by rwa [getD_set_ne false e] at hl)
 ·by_cases e : k = j
  ·subst e
   rw [iL] at hv; simp only [Option.some.injEq, Prod.mk.injEq] at hv; obtain ⟨rfl, rfl, rfl⟩ := hv; exact ho
  ·rw [zcG (hc k e)] at hv
   have o := h.own k v n xs hk hv; exact zai o hfr (fun g dU e2 => (jz g e2.symm).2.2 k v n xs hk e hv dU)
 ·by_cases e : k = j
  ·subst e
   rw [iL] at hv; simp only [Option.some.injEq, Prod.mk.injEq] at hv; obtain ⟨rfl, rfl, rfl⟩ := hv; rw [zcG (hc k' (Ne.symm aN))] at bd; exact fun e2 => qh k' v2 n2 xs2 g fD (Ne.symm aN) bd e2 oE
  ·rw [zcG (hc k e)] at hv
   by_cases e' : k' = j
   ·subst e'
    rw [iL] at bd; simp only [Option.some.injEq, Prod.mk.injEq] at bd; obtain ⟨rfl, rfl, rfl⟩ := bd; exact qh k v n xs g hk e hv oE
   ·rw [zcG (hc k' e')] at bd
    exact h.far k k' v n xs v2 n2 xs2 g hk fD aN hv bd oE
 ·by_cases e : k = j
  ·subst e
   have o := h.ord k hk; have me : ∀ x, 7 * k + r = x -> (l.setIfInBounds (7 * k + r) true).getD x false = true := fun x hx => by subst hx; simp [bD]
   rcases hr with rfl | rfl | rfl
   ·exact ⟨fun q => by rw [getD_set_ne false (by omega)] at q ⊢; exact o.1 q, fun _ => me _ (by omega)⟩
   ·exact ⟨fun _ => me _ rfl, fun _ => getD_set_true (jB.1 rfl)⟩
   ·exact ⟨fun _ => getD_set_true (jB.2 rfl), fun q => getD_set_true (o.2 (jB.2 rfl))⟩
  ·rw [getD_set_ne false (hc k e).2.2, getD_set_ne false (hc k e).2.1, getD_set_ne false (hc k e).1]
   exact h.ord k hk
end
def opX (j : Nat) : Nat -> Op
 | 0 => .buildSlice (46 + j) 0 #[]
 | 1 => .fieldAddr 54 (.tmp 2) j
 | 2 => .load (46 + j) (.tmp (7 * j + 6))
 | 3 => .call { callee := .builtin .append, args := #[.tmp (7 * j + 5), .tmp (7 * j + 7)], argTypes := #[46 + j, 46 + j] }
 | 4 => .fieldAddr 54 (.tmp 3) j
 | 5 => .load (46 + j) (.tmp (7 * j + 9))
 | _ => .call { callee := .builtin .append, args := #[.tmp (7 * j + 8), .tmp (7 * j + 10)], argTypes := #[46 + j, 46 + j] }
def depX : Nat -> List Nat
 | 2 => [1]
 | 3 => [0, 2]
 | 5 => [4]
 | 6 => [3, 5]
 | _ => []
def zle (a : Act) : Value := .agg #[Tm a 11, Tm a 18, Tm a 25, Tm a 32, Tm a 39, Tm a 46, Tm a 53]
def JJ (C : Nat -> Cm) (ba bb b4 : Nat) (V : World) (l : Array Bool) (a : Act) (w : World) : Prop :=
 l.size = 51 /\ (a.tmps.size = 55 /\ a.defers = []) /\ BJ C ba bb b4 V l a w /\ (l.getD 49 false = true -> (∀ j, j < 7 -> l.getD (7 * j + 6) false = true) /\ Tm a 54 = zle a)
structure Runs (C : Nat -> Cm) (ba bb : Nat) (V : World) : Prop where
 fa : ∀ j, j < 7 -> ∀ b W, (Instr.fieldAt 54 (.pointer (some ⟨b, 0, none⟩)) j).run prog W = .ok (.pointer (some ⟨b, j, none⟩)) W
 ld : ∀ j, j < 7 -> ∀ W, z_F V W -> (Instr.loadAt (46 + j) (.pointer (some ⟨ba, j, none⟩))).run prog W = .ok (C j).u W /\ (Instr.loadAt (46 + j) (.pointer (some ⟨bb, j, none⟩))).run prog W = .ok (C j).t W
 bs : ∀ j, j < 7 -> ∀ W, (Instr.buildSlice (46 + j) 0 #[]).run prog W = .ok (.slice (some ⟨W.heap.size, 0, none⟩) 0 0) (W.alloc (.cells #[] (C j).e))
 ty : ∀ j, j < 7 -> (C j).ty = 46 + j
 ok : ∀ j, j < 7 -> (C j).Ok V
section
variable {C : Nat -> Cm} {ba bb b4 : Nat} {V : World} {l : Array Bool} {a : Act} {w w' : World}
theorem JJ.put (h : JJ C ba bb b4 V l a w) {i : Nat} {v : Value} (hi : i < 49) (hu : l.getD i true = false) (hb : BJ C ba bb b4 V (l.setIfInBounds i true) (a.put (some (i + 5)) v) w') : JJ C ba bb b4 V (l.setIfInBounds i true) (a.put (some (i + 5)) v) w' := by
 obtain ⟨h1, h2, _, h4⟩ := h; refine ⟨by simpa using h1, ⟨by simpa [Act.put] using h2.1, h2.2⟩, hb, fun h49 => ?_⟩; rw [getD_set_ne false (by omega)] at h49; obtain ⟨h5, h6⟩ := h4 h49; have aN : ∀ j, j < 7 -> i ≠ 7 * j + 6 := fun j hj e => by
  have := h5 j hj; have := zfg hu; subst e
  simp_all
 refine ⟨fun j hj => getD_set_true (h5 j hj), ?_⟩; have n0 := aN 0 (by omega); have n1 := aN 1 (by omega); have n2 := aN 2 (by omega); have n3 := aN 3 (by omega); have n4 := aN 4 (by omega); have n5 := aN 5 (by omega); have n6 := aN 6 (by omega); rw [zax (by omega), h6]; unfold zle
 rw [zax (by omega), zax (by omega), zax (by omega), zax (by omega), zax (by omega), zax (by omega), zax (by omega)]
theorem beh_app {Q : Exit -> Act -> World -> Prop} (R : Runs C ba bb V) {o : Oper} {j r : Nat} (hj : j < 7) (hr : r = 3 ∨ r = 6) (hJ : JJ C ba bb b4 V l a w) (eL : l.getD (7 * j + r) true = false) (hd : o.dst = some (7 * j + r + 5)) {s x : Operand}
 (fR : o.op = .call { callee := .builtin .append, args := #[s, x], argTypes := #[46 + j, 46 + j] }) {v : Value} {n : Nat} {xs : List Value} (iL : zc8 (C j) l a j = some (v, n, xs)) (hs : a.eval s = v) {y : Value} {m : Nat} {ys : List Value} (hx : a.eval x = y)
 (cd : Src prog (C j).z (C j).ty y m ys w) (pQ : n + m <= 1048576) (hnew : ∀ v', zc8 (C j) (l.setIfInBounds (7 * j + r) true) (a.put (some (7 * j + r + 5)) v') j = some (v', n + m, xs ++ ys))
 (jB : (r = 3 -> l.getD (7 * j) false = true) /\ (r = 6 -> l.getD (7 * j + 3) false = true)) : o.wp prog a w (fun a' w' => JJ C ba bb b4 V (l.setIfInBounds (7 * j + r) true) a' w') Q := by
 obtain ⟨h1, h2, hB, h4⟩ := hJ; obtain ⟨k1, ⟨i, zv, k2, k3, k4, k5, k6⟩, k7, k8, k9, k10⟩ := R.ok j hj; have jg := R.ty j hj; rw [jg] at k1 cd; have hmul : (n + m) * (C j).b8 <= 1048576 * 1000 := Nat.mul_le_mul pQ k8
 refine zaw w s x (46 + j) (46 + j) fR V.heap.size (C j).e i zv (C j).z (C j).b8 k1 k2 k3 k4 k5 k6 k7 v n xs hs (hB.own j v n xs hj iL) y m ys hx cd (by unfold maxLen; omega) (by omega) hB.fr.size ?_; intro v' w' ho hg av
 rw [hd]; exact JJ.put ⟨h1, h2, hB, h4⟩ (by omega) eL (hB.stepR hj (by omega) (by omega) (hnew v') ho hg (.inr ⟨v, n, xs, iL, rfl⟩) av jB)
theorem wp_run {P : Program} {o : Oper} {K : Act -> World -> Prop} {Q : Exit -> Act -> World -> Prop} {v : Value} (h : (execOp a.eval o).run P w = .ok (.value v) w') (hk : K (a.put o.dst v) w') : o.wp P a w K Q := by
 unfold Oper.wp; rw [h]; exact hk
theorem zeh (a : Act) (k : Nat) : a.eval (.tmp k) = Tm a k := rfl
theorem beh_step {Q : Exit -> Act -> World -> Prop} {ops : Array Oper} (R : Runs C ba bb V) {o : Oper} {j r : Nat} (hj : j < 7) (hr : r < 7) (hJ : JJ C ba bb b4 V l a w) (eL : l.getD (7 * j + r) true = false) (hd : o.dst = some (7 * j + r + 5)) (hg : o.guard = none) (fR : o.op = opX j r)
 (fX : ∀ d ∈ depX r, l.getD (7 * j + d) false = true) : Region.wanted o (yielded ops a.tmps) = true /\ o.wp prog a w (fun a' w' => JJ C ba bb b4 V (l.setIfInBounds (7 * j + r) true) a' w') Q := by
 refine ⟨by simp [Region.wanted, hg], ?_⟩; have hB := hJ.2.2.1; have bh := hJ.1; have ek := hJ.2.1.1; have unl : ∀ x, l.getD x true = false -> l.getD x false = false := fun x => zfg
 have pu : (r = 1 ∨ r = 2 ∨ r = 4 ∨ r = 5) -> (execOp a.eval o).run prog w = .ok (.value (zjX C ba bb j r)) w -> o.wp prog a w (fun a' w' => JJ C ba bb b4 V (l.setIfInBounds (7 * j + r) true) a' w') Q := fun hr h => wp_run h (by rw [hd]; exact hJ.put (by omega) eL (hB.stepP hj hr (by omega)))
 have l6 : r ≠ 6 -> l.getD (7 * j + 3) false = false -> l.getD (7 * j + 6) false = false := fun _ h => by
  rcases h6 : l.getD (7 * j + 6) false with _ | _
  ·rfl
  ·have := (hB.ord j hj).1 h6; rw [h] at this; cases this
 have hq : r = 0 ∨ r = 1 ∨ r = 2 ∨ r = 3 ∨ r = 4 ∨ r = 5 ∨ r = 6 := by omega
 rcases hq with rfl | rfl | rfl | rfl | rfl | rfl | rfl
 ·have h0 : l.getD (7 * j) false = false := unl _ eL
  have h3 : l.getD (7 * j + 3) false = false := by
   rcases h3 : l.getD (7 * j + 3) false with _ | _
   ·rfl
   ·have := (hB.ord j hj).2 h3; rw [h0] at this; cases this
  have h6 := l6 (by omega) h3; refine wp_run (v := .slice (some ⟨w.heap.size, 0, none⟩) 0 0) (w' := w.alloc (.cells #[] (C j).e)) (by unfold execOp; simp only [fR, opX]; have := R.bs j hj w; simp [this]) ?_; rw [hd]; have bD := hB.fr.size
  refine hJ.put (by omega) eL (hB.stepR (row := none) hj (.inl rfl) (by omega) (n' := 0) (xs' := []) ?_ (znk _ _ _ (by omega) (zms _) (by simp)) ⟨rfl, rfl, rfl, by simp, fun k hk _ => Below.heap_alloc _ _ _ hk⟩ (.inl rfl) (.inr rfl) ⟨fun e => by omega, fun e => by omega⟩); unfold zc8; rw [getD_set_ne false (by omega), getD_set_ne false (by omega), h6, h3]
  simp [bh, show 7 * j < 51 by omega, zeX, ek, show 7 * j + 5 < 55 by omega]
 ·refine pu (.inl rfl) ?_
  unfold execOp; simp only [fR, opX, zeh, hB.tmp.1]; simp [R.fa j hj ba w, zjX]
 ·refine pu (.inr (.inl rfl)) ?_
  have h1 := hB.pure j 1 hj (.inl rfl) (fX 1 (by simp [depX])); unfold execOp; simp only [fR, opX, zeh]; rw [show 7 * j + 6 = 7 * j + 1 + 5 by omega, h1]; simp [zjX, (R.ld j hj w hB.fr).1]
 ·have h0 := fX 0 (by simp [depX])
  have h2 := hB.pure j 2 hj (.inr (.inl rfl)) (fX 2 (by simp [depX])); have h3 := unl _ eL; have h6 := l6 (by omega) h3; have hc : zc8 (C j) l a j = some (Tm a (7 * j + 5), 0, []) := by unfold zc8; rw [h6, h3]; simp [show l.getD (7 * j) false = true from h0]
  have bE := R.ok j hj; refine beh_app R hj (.inl rfl) hJ eL hd fR hc rfl (y := (C j).u) (m := (C j).n) (ys := (C j).xs) (by rw [zeh, show 7 * j + 7 = 7 * j + 2 + 5 by omega, h2]; rfl) (bE.2.2.2.2.2 w hB.fr).1 (by have := bE.2.2.2.2.1; omega) (fun v' => ?_) ⟨fun _ => h0, fun e => by omega⟩; unfold zc8; rw [getD_set_ne false (by omega), h6]
  simp [bh, show 7 * j + 3 < 51 by omega, zeX, ek, show 7 * j + 8 < 55 by omega]
 ·refine pu (.inr (.inr (.inl rfl))) ?_
  unfold execOp; simp only [fR, opX, zeh, hB.tmp.2.1]; simp [R.fa j hj bb w, zjX]
 ·refine pu (.inr (.inr (.inr rfl))) ?_
  have h1 := hB.pure j 4 hj (.inr (.inr (.inl rfl))) (fX 4 (by simp [depX])); unfold execOp; simp only [fR, opX, zeh]; rw [show 7 * j + 9 = 7 * j + 4 + 5 by omega, h1]; simp [zjX, (R.ld j hj w hB.fr).2]
 ·have h3 := fX 3 (by simp [depX])
  have h5 := hB.pure j 5 hj (.inr (.inr (.inr rfl))) (fX 5 (by simp [depX])); have h6 := unl _ eL; have hc : zc8 (C j) l a j = some (Tm a (7 * j + 8), (C j).n, (C j).xs) := by unfold zc8; rw [h6]; simp [h3]
  have bE := R.ok j hj; refine beh_app R hj (.inr rfl) hJ eL hd fR hc rfl (y := (C j).t) (m := (C j).m) (ys := (C j).ys) (by rw [zeh, show 7 * j + 10 = 7 * j + 5 + 5 by omega, h5]; rfl) (bE.2.2.2.2.2 w hB.fr).2 bE.2.2.2.2.1 (fun v' => ?_) ⟨fun e => by omega, fun _ => h3⟩; unfold zc8; simp [bh, show 7 * j + 6 < 51 by omega, zeX, ek, show 7 * j + 11 < 55 by omega]
end
def downB (ops : Array Oper) : Bool := (List.range ops.size).all fun i => match ops[i]? with | some o => o.after.all fun e => decide (e.on < i) | none => true
theorem zlV {ops : Array Oper} (h : downB ops = true) : ∀ (i : Nat) (o : Oper), ops[i]? = some o -> ∀ e ∈ o.after, e.on < i := fun i o ho e he => by
 have hi : i < ops.size := by
  rcases zmK i ops.size with h | h
  ·exact h
  ·rw [Array.getElem?_eq_none h] at ho; cases ho
 have h1 := List.all_eq_true.1 h i (List.mem_range.2 hi); rw [ho] at h1; have h2 := Array.all_eq_true_iff_forall_mem.1 h1 e he; simpa using h2
def topB (ops : Array Oper) (n : Nat) : Bool := (List.range n).all fun i => (List.range ops.size).any fun k => decide (i < k) && match ops[k]? with | some o => o.after.toList.any fun e => e.on == i && Region.binds .any e | none => false
theorem topB_spec {ops : Array Oper} {n : Nat} (h : topB ops n = true) : ∀ i, i < n -> ∃ (k : Nat) (o : Oper), i < k /\ ops[k]? = some o /\ ∃ e ∈ o.after, e.on = i /\ Region.binds .any e = true := fun i hi => by
 have h1 := List.all_eq_true.1 h i (List.mem_range.2 hi); obtain ⟨k, _, h2⟩ := List.any_eq_true.1 h1; rw [Bool.and_eq_true, decide_eq_true_eq] at h2; obtain ⟨h3, h4⟩ := h2; rcases ho : ops[k]? with _ | o
 ·rw [ho] at h4; cases h4
 ·rw [ho] at h4
  obtain ⟨e, he, h5⟩ := List.any_eq_true.1 h4; rw [Bool.and_eq_true, beq_iff_eq] at h5; exact ⟨k, o, h3, ho, e, by simpa using he, h5.1, h5.2⟩
theorem zl7 {Q : Exit -> Act -> World -> Prop} {ops : Array Oper} {C : Nat -> Cm} {ba bb b4 : Nat} {V : World} {a : Act} (R : Runs C ba bb V) (cf : ops.size = 51) (jL : downB ops = true) (nc : topB ops 50 = true)
 (hF : ∀ j, j < 7 -> ∀ r, r < 7 -> ∃ o, ops[7 * j + r]? = some o /\ o.dst = some (7 * j + r + 5) /\ o.guard = none /\ o.op = opX j r /\ ∀ d ∈ depX r, ∃ e ∈ o.after, e.on = 7 * j + d /\ Region.binds .any e = true)
 (h49 : ∃ o, ops[49]? = some o /\ o.dst = some 54 /\ o.guard = none /\ o.op = .build 54 #[(0, .tmp 11), (1, .tmp 18), (2, .tmp 25), (3, .tmp 32), (4, .tmp 39), (5, .tmp 46), (6, .tmp 53)] /\ ∀ j, j < 7 -> ∃ e ∈ o.after, e.on = 7 * j + 6 /\ Region.binds .any e = true)
 (h50 : ∃ o, ops[50]? = some o /\ o.dst = none /\ o.guard = none /\ o.op = .store 54 (.tmp 4) (.tmp 54))
 (hb : ∀ (v : Nat -> Value) W, (∀ j, j < 7 -> ∃ A c, v j = .slice A ((C j).n + (C j).m) c) -> (Instr.build 54 #[(0, v 0), (1, v 1), (2, v 2), (3, v 3), (4, v 4), (5, v 5), (6, v 6)]).run prog W = .ok (.agg #[v 0, v 1, v 2, v 3, v 4, v 5, v 6]) W)
 (hJ : JJ C ba bb b4 V (Array.replicate 51 false) a V)
 (hend : ∀ (a' : Act) (W : World) (v : Nat -> Value), z_F V W -> (∀ j, j < 7 -> W.ownsRow V.heap.size (C j).e (C j).z (v j) ((C j).n + (C j).m) ((C j).xs ++ (C j).ys)) ->
   ∃ W', (Instr.storeAt 54 (.pointer (some ⟨b4, 0, none⟩)) (.agg #[v 0, v 1, v 2, v 3, v 4, v 5, v 6])).run prog W = .ok () W' /\ (a'.defers = [] -> Tm a' 4 = .pointer (some ⟨b4, 0, none⟩) -> Q .normal a' W')) :
 wpAny prog .any ops Q ops.size (Array.replicate ops.size false) a V := by
 rw [cf]; refine wpAny_inv 50 cf (zlV jL) (JJ C ba bb b4 V) (topB_spec nc) (fun l a' w h => h.1) ?_ ?_ 51 _ a V (by decide) (fun i o _ h => by rcases zmK i 51 with hi | hi <;> simp [hi] at h) (by decide) hJ
 ·intro l a' w i o h hi eL ho fX
  have dep : ∀ (x : Nat), (∃ e ∈ o.after, e.on = x /\ Region.binds .any e = true) -> l.getD x false = true := fun x ⟨e, he, hx, hb⟩ => by rw [<- hx]; exact fX e he hb
  by_cases hi49 : i = 49
  ·subst hi49
   obtain ⟨o', pP, hd, hg, fR, ha⟩ := h49; obtain rfl : o' = o := zm6 (pP.symm.trans ho); have h6 : ∀ j, j < 7 -> l.getD (7 * j + 6) false = true := fun j hj => dep _ (ha j hj); have hB := h.2.2.1; have ab : ∀ j, j < 7 -> ∃ A c, Tm a' (7 * j + 11) = .slice A ((C j).n + (C j).m) c := fun j hj => zaa (hB.own j _ _ _ hj (by unfold zc8; rw [h6 j hj]; rfl))
   refine ⟨by simp [Region.wanted, hg], wp_run (v := zle a') (w' := w) ?_ ?_⟩
   ·have hr : (Instr.build 54 #[(0, Tm a' 11), (1, Tm a' 18), (2, Tm a' 25), (3, Tm a' 32), (4, Tm a' 39), (5, Tm a' 46), (6, Tm a' 53)]).run prog w = .ok (zle a') w := hb (fun j => Tm a' (7 * j + 11)) w ab
    unfold execOp; simp only [fR]; simp [zeh, hr]
   ·rw [hd]
    obtain ⟨g1, g2, g3, g4⟩ := h
    refine ⟨by simpa using g1, ⟨by simpa [Act.put] using g2.1, g2.2⟩, ⟨g3.fr, ⟨by rw [zax (by omega)]; exact g3.tmp.1, by rw [zax (by omega)]; exact g3.tmp.2.1, by rw [zax (by omega)]; exact g3.tmp.2.2⟩, fun k q hk hq hl => ?_, fun k v n xs hk hv => ?_, fun k k' v n xs v' n' xs' g hk fD aN hv hv' => ?_, fun k hk => ?_⟩, fun _ => ⟨fun j hj => getD_set_true (h6 j hj), ?_⟩⟩
    ·rw [zax (by omega)]
     exact g3.pure k q hk hq (by rwa [getD_set_ne false (by omega)] at hl)
    ·exact g3.own k v n xs hk (by rwa [zcG (i := 49) (by omega)] at hv)
    ·exact g3.far k k' v n xs v' n' xs' g hk fD aN (by rwa [zcG (i := 49) (by omega)] at hv) (by rwa [zcG (i := 49) (by omega)] at hv')
    ·rw [getD_set_ne false (by omega), getD_set_ne false (by omega), getD_set_ne false (by omega)]
     exact g3.ord k hk
    ·rw [zeX (by omega)]
     unfold zle; rw [zax (by omega), zax (by omega), zax (by omega), zax (by omega), zax (by omega), zax (by omega), zax (by omega)]
  ·obtain ⟨j, r, hj, hr, rfl⟩ : ∃ j r, j < 7 /\ r < 7 /\ i = 7 * j + r := ⟨i / 7, i % 7, by omega, by omega, by omega⟩
   obtain ⟨o', pP, hd, hg, fR, ha⟩ := hF j hj r hr; obtain rfl : o' = o := zm6 (pP.symm.trans ho); exact beh_step R hj hr h eL hd hg fR (fun d qj => dep _ (ha d qj))
 ·intro l a' w o h aS ho
  obtain ⟨o', pP, hd, hg, fR⟩ := h50; obtain rfl : o' = o := zm6 (pP.symm.trans ho); obtain ⟨g1, g2, hB, g4⟩ := h; have h6 : ∀ j, j < 7 -> l.getD (7 * j + 6) false = true := fun j hj => aS _ (by omega)
  have aO : ∀ j, j < 7 -> w.ownsRow V.heap.size (C j).e (C j).z (Tm a' (7 * j + 11)) ((C j).n + (C j).m) ((C j).xs ++ (C j).ys) := fun j hj => hB.own j _ _ _ hj (by unfold zc8; rw [h6 j hj]; rfl); refine ⟨by simp [Region.wanted, hg], ?_⟩; obtain ⟨W', hW, hQ⟩ := hend a' w (fun j => Tm a' (7 * j + 11)) hB.fr aO
  have hW : (Instr.storeAt 54 (.pointer (some ⟨b4, 0, none⟩)) (zle a')).run prog w = .ok () W' := hW; have hs := (g4 (aS 49 (by omega))).2; have gG : (execOp a'.eval o').run prog w = .ok .skip W' := by
   unfold execOp; simp only [fR, zeh, hB.tmp.2.2, hs]; simp [hW]
  unfold Oper.wp; rw [gG, Oper.upon_skip, hd]; exact hQ g2.2 hB.tmp.2.2
theorem zgw {j : Nat} (h : j < 7) : j = 0 ∨ j = 1 ∨ j = 2 ∨ j = 3 ∨ j = 4 ∨ j = 5 ∨ j = 6 := by omega
theorem behind_go (C : Nat -> Cm) (A0 A1 A2 A3 A4 A5 A6 B0 B1 B2 B3 B4 B5 B6 : Option Addr) (n0 n1 n2 n3 n4 n5 n6 c0 c1 c2 c3 c4 c5 c6 m0 m1 m2 m3 m4 m5 m6 d0 d1 d2 d3 d4 d5 d6 : Nat) (w : World)
 (jg : ∀ j, j < 7 -> (C j).ty = 46 + j) (he : ∀ j, j < 7 -> (C j).e = #[130, 113, 151, 159, 176, 168, 194].getD j 0) (bE : ∀ j, j < 7 -> (C j).Ok w) (hu : ∀ j, j < 7 -> (C j).u = #[.slice A0 n0 c0, .slice A1 n1 c1, .slice A2 n2 c2, .slice A3 n3 c3, .slice A4 n4 c4, .slice A5 n5 c5, .slice A6 n6 c6].getD j undef) (ht : ∀ j, j < 7 -> (C j).t = #[.slice B0 m0 d0, .slice B1 m1 d1, .slice B2 m2 d2, .slice B3 m3 d3, .slice B4 m4 d4, .slice B5 m5 d5, .slice B6 m6 d6].getD j undef) :
 Calls prog 38 #[.agg #[.slice A0 n0 c0, .slice A1 n1 c1, .slice A2 n2 c2, .slice A3 n3 c3, .slice A4 n4 c4, .slice A5 n5 c5, .slice A6 n6 c6], .agg #[.slice B0 m0 d0, .slice B1 m1 d1, .slice B2 m2 d2, .slice B3 m3 d3, .slice B4 m4 d4, .slice B5 m5 d5, .slice B6 m6 d6]] w (fun r w' => ∃ vs : Nat -> Value, r = .returned (.agg #[vs 0, vs 1, vs 2, vs 3, vs 4, vs 5, vs 6]) /\ (∀ j, j < 7 -> w'.ownsRow w.heap.size (C j).e (C j).z (vs j) ((C j).n + (C j).m) ((C j).xs ++ (C j).ys)) /\ z_F w w') := by
 have HTY := zmh jg; have HE := zmh he; have HOK := zmh bE; have HU := zmh hu; have HT := zmh ht; clear jg he bE hu ht; have mixed : prog.follows .mixedOrders = true := by kernel_rfl
 go_enter func38, ntmps38; go_wp2; refine wp_region_any mixed ?_
 have HBA := zmh (((znm w 54 #[.slice A0 n0 c0, .slice A1 n1 c1, .slice A2 n2 c2, .slice A3 n3 c3, .slice A4 n4 c4, .slice A5 n5 c5, .slice A6 n6 c6]).alloc (.cells #[.slice B0 m0 d0, .slice B1 m1 d1, .slice B2 m2 d2, .slice B3 m3 d3, .slice B4 m4 d4, .slice B5 m5 d5, .slice B6 m6 d6] 54)).alloc (.cells #[.slice none 0 0, .slice none 0 0, .slice none 0 0, .slice none 0 0, .slice none 0 0, .slice none 0 0, .slice none 0 0] 54)).drew
 have kG := zmh ((zaH w (.cells #[.slice A0 n0 c0, .slice A1 n1 c1, .slice A2 n2 c2, .slice A3 n3 c3, .slice A4 n4 c4, .slice A5 n5 c5, .slice A6 n6 c6] 54) 54 #[.slice B0 m0 d0, .slice B1 m1 d1, .slice B2 m2 d2, .slice B3 m3 d3, .slice B4 m4 d4, .slice B5 m5 d5, .slice B6 m6 d6]).alloc (.cells #[.slice none 0 0, .slice none 0 0, .slice none 0 0, .slice none 0 0, .slice none 0 0, .slice none 0 0, .slice none 0 0] 54)).drew
 have kH := zmh (zaH (w.alloc (.cells #[.slice A0 n0 c0, .slice A1 n1 c1, .slice A2 n2 c2, .slice A3 n3 c3, .slice A4 n4 c4, .slice A5 n5 c5, .slice A6 n6 c6] 54)) (.cells #[.slice B0 m0 d0, .slice B1 m1 d1, .slice B2 m2 d2, .slice B3 m3 d3, .slice B4 m4 d4, .slice B5 m5 d5, .slice B6 m6 d6] 54) 54 #[.slice none 0 0, .slice none 0 0, .slice none 0 0, .slice none 0 0, .slice none 0 0, .slice none 0 0, .slice none 0 0]).drew
 have HF := zmh ((((znl (fun _ => False) w).alloc (.cells #[.slice A0 n0 c0, .slice A1 n1 c1, .slice A2 n2 c2, .slice A3 n3 c3, .slice A4 n4 c4, .slice A5 n5 c5, .slice A6 n6 c6] 54)).alloc (.cells #[.slice B0 m0 d0, .slice B1 m1 d1, .slice B2 m2 d2, .slice B3 m3 d3, .slice B4 m4 d4, .slice B5 m5 d5, .slice B6 m6 d6] 54)).alloc (.cells #[.slice none 0 0, .slice none 0 0, .slice none 0 0, .slice none 0 0, .slice none 0 0, .slice none 0 0, .slice none 0 0] 54)).drew
 rw [show (w.alloc (.cells #[.slice A0 n0 c0, .slice A1 n1 c1, .slice A2 n2 c2, .slice A3 n3 c3, .slice A4 n4 c4, .slice A5 n5 c5, .slice A6 n6 c6] 54)).heap.size = w.heap.size + 1 by simp] at kH; change wpAny prog .any _ _ _ _ _ (World.drew _); generalize hV : World.drew (World.alloc (World.alloc (World.alloc w _) _) _) = V at HBA kG kH HF ⊢
 have R : Runs C w.heap.size (w.heap.size + 1) V := by
  refine ⟨fun j hj b W => ?_, fun j hj W hW => ?_, fun j hj W => ?_, HTY.out, fun j hj => ?_⟩
  ·rcases zgw hj with rfl | rfl | rfl | rfl | rfl | rfl | rfl <;> go_simp
  ·obtain ⟨x0, x1, x2, x3, x4, x5, x6⟩ := zad (HBA.out.fr hW id)
   obtain ⟨y0, y1, y2, y3, y4, y5, y6⟩ := zad (kG.out.fr hW id); have h7 := zgw hj; rw [HU.out j hj, HT.out j hj]; rcases h7 with rfl | rfl | rfl | rfl | rfl | rfl | rfl <;> constructor <;> go_simp
  ·have h7 := zgw hj
   rw [HE.out j hj]; rcases h7 with rfl | rfl | rfl | rfl | rfl | rfl | rfl <;> go_simp
  ·obtain ⟨k1, k2, k3, k4, k5, k6⟩ := HOK.out j hj
   exact ⟨k1, k2, k3, k4, k5, fun W hW => k6 W (HF.out.same hW)⟩
 refine zl7 (b4 := w.heap.size + 2) R (by kernel_rfl) (by kernel_rfl) (by kernel_rfl) ?_ ⟨_, rfl, rfl, rfl, rfl, ?_⟩ ⟨_, rfl, rfl, rfl, rfl⟩ ?_ ?_ ?_
 ·intro j hj r hr
  rcases zgw hj with rfl | rfl | rfl | rfl | rfl | rfl | rfl <;> rcases zgw hr with rfl | rfl | rfl | rfl | rfl | rfl | rfl <;> refine ⟨_, rfl, rfl, rfl, rfl, ?_⟩ <;> simp [depX, Region.binds]
 ·intro j hj
  rcases zgw hj with rfl | rfl | rfl | rfl | rfl | rfl | rfl <;> simp [Region.binds]
 ·intro v W hv
  obtain ⟨_, _, h0⟩ := hv 0 (by decide); obtain ⟨_, _, h1⟩ := hv 1 (by decide); obtain ⟨_, _, h2⟩ := hv 2 (by decide); obtain ⟨_, _, h3⟩ := hv 3 (by decide); obtain ⟨_, _, h4⟩ := hv 4 (by decide); obtain ⟨_, _, h5⟩ := hv 5 (by decide); obtain ⟨_, _, h6⟩ := hv 6 (by decide); rw [h0, h1, h2, h3, h4, h5, h6]; go_simp
 ·have rep : ∀ x, (Array.replicate 51 false).getD x false = false := fun x => by rcases zmK x 51 with h | h <;> simp [h]
  refine ⟨by simp, ⟨rfl, rfl⟩, ⟨znl _ _, ⟨rfl, rfl, rfl⟩, fun j r _ _ h => ?_, fun j v n xs _ h => ?_, fun j k v n xs v' n' xs' g _ _ _ h => ?_, fun j _ => ⟨fun h => ?_, fun h => ?_⟩⟩, fun h => ?_⟩
  ·rw [rep] at h; cases h
  ·simp only [zc8, rep] at h; cases h
  ·simp only [zc8, rep] at h; cases h
  ·rw [rep] at h; cases h
  ·rw [rep] at h; cases h
  ·rw [rep] at h; cases h
 ·intro a' W v hf ho
  have g4 := kH.out.fr hf id; obtain ⟨z0, z1, z2, z3, z4, z5, z6⟩ := zad g4; have f0 := g4.frozen 0; have f1 := g4.frozen 1; have f2 := g4.frozen 2; have f3 := g4.frozen 3; have f4 := g4.frozen 4; have f5 := g4.frozen 5; have f6 := g4.frozen 6; obtain ⟨X0, e0, h0⟩ := zaa (ho 0 (by decide)); obtain ⟨X1, e1, h1⟩ := zaa (ho 1 (by decide))
  obtain ⟨X2, e2, h2⟩ := zaa (ho 2 (by decide)); obtain ⟨X3, e3, h3⟩ := zaa (ho 3 (by decide)); obtain ⟨X4, e4, h4⟩ := zaa (ho 4 (by decide)); obtain ⟨X5, e5, h5⟩ := zaa (ho 5 (by decide)); obtain ⟨X6, e6, h6⟩ := zaa (ho 6 (by decide))
  refine ⟨(((((((W.setCell ⟨w.heap.size + 2, 0, none⟩ (v 0)).setCell ⟨w.heap.size + 2, 1, none⟩ (v 1)).setCell ⟨w.heap.size + 2, 2, none⟩ (v 2)).setCell ⟨w.heap.size + 2, 3, none⟩ (v 3)).setCell ⟨w.heap.size + 2, 4, none⟩ (v 4)).setCell ⟨w.heap.size + 2, 5, none⟩ (v 5)).setCell ⟨w.heap.size + 2, 6, none⟩ (v 6)), by rw [h0, h1, h2, h3, h4, h5, h6]; go_simp, fun hd h4' => ?_⟩
  have pg := zmh (ze6 (v 0) (v 1) (v 2) (v 3) (v 4) (v 5) (v 6) g4); have jb := zmh (zdq (v 0) (v 1) (v 2) (v 3) (v 4) (v 5) (v 6) (HF.out.same hf) (b := w.heap.size + 2) (.inr (by omega))); have cS := zmh (zdq (S := fun k => k = w.heap.size + 2) (v 0) (v 1) (v 2) (v 3) (v 4) (v 5) (v 6) (znl _ W) (.inl rfl)); have hlt := kH.out.lt
  generalize World.setCell (World.setCell _ _ _) ⟨w.heap.size + 2, 6, none⟩ _ = w7 at pg jb cS ⊢
  have oX : Hid (∀ j, j < 7 -> w7.ownsRow w.heap.size (C j).e (C j).z (v j) ((C j).n + (C j).m) ((C j).xs ++ (C j).ys)) := zmh (fun j hj => zai (zah (ho j hj) HF.out.size) cS.out (fun g hg e => by
   have := ((ho j hj).lt g hg).1
   omega))
  rw [h0, h1, h2, h3, h4, h5, h6] at pg; have HV := zmh (zm8 h0.symm (zm8 h1.symm (zm8 h2.symm (zm8 h3.symm (zm8 h4.symm (zm8 h5.symm h6.symm)))))); obtain ⟨q0, q1, q2, q3, q4, q5, q6⟩ := zad pg.out; clear z0 z1 z2 z3 z4 z5 z6 f0 f1 f2 f3 f4 f5 f6 g4 ho hf hlt R h0 h1 h2 h3 h4 h5 h6 cS; obtain ⟨tm, df⟩ := a'; simp only [] at hd; subst hd
  have h5 : tm.getD 4 undef = .pointer (some ⟨w.heap.size + 1 + 1, 0, none⟩) := h4'; have h6 : tm[4]?.getD undef = .pointer (some ⟨w.heap.size + 1 + 1, 0, none⟩) := by rw [<- Array.getD_eq_getD_getElem?]; exact h4'
  clear h4'; go_wp2; simp [Exit.then, bodyPost, results, results38, go_sem, q0, q1, q2, q3, q4, q5, q6, h6]; exact ⟨v, HV.out, oX.out, jb.out⟩
end Go.Proofs.YtbkookiigkckdaaGreatDoor
