/- Texts of this seat, merged and shortened. -/
import Derived.Test.YtbkookiigkckdaaGreatDoorKC07
set_option linter.unusedVariables false
set_option linter.unusedSimpArgs false
set_option maxRecDepth 100000
set_option maxHeartbeats 8000000
namespace Go.Proofs.YtbkookiigkckdaaGreatDoor
open Go.RowKit Go.Proofs.Tryz
structure Hst where
 hint : UInt8
 schema : Int
 thr : Nat
 sum : Nat
 zc : Nat
 cnt : Nat
 pos : List (Int × Nat)
 neg : List (Int × Nat)
 ups : List Int
 downs : List Int
 fups : List Nat
 fdowns : List Nat
 cus : List Nat
structure Hsl where
 p : Value
 n : Value
 u : Value
 d : Value
 fu : Value
 fd : Value
 c : Value
structure Hs5 where
 p : Value
 n : Value
 u : Value
 d : Value
 c : Value
def Hst.few (h : Hst) (m : Nat) : Prop := h.pos.length <= m /\ h.neg.length <= m /\ h.ups.length <= m /\ h.downs.length <= m /\ h.fups.length <= m /\ h.fdowns.length <= m /\ h.cus.length <= m
def hic (h : Hst) (s : Hsl) : List Value := [.int .u8 h.hint.toNat, .int .i32 h.schema, .int .u64 h.thr, .int .u64 h.sum, .int .u64 h.zc, .int .u64 h.cnt, s.p, s.n, s.u, s.d, s.fu, s.fd, s.c]
def SlHs (P : Nat -> Prop) (w : World) (h : Hst) (s : Hsl) : Prop :=
 Sl P w s.p 2 h.pos.length (h.pos.flatMap spc) /\ Sl P w s.n 2 h.neg.length (h.neg.flatMap spc) /\ Sl P w s.u 1 h.ups.length (h.ups.flatMap i1) /\ Sl P w s.d 1 h.downs.length (h.downs.flatMap i1) /\
 Sl P w s.fu 1 h.fups.length (h.fups.flatMap u1) /\ Sl P w s.fd 1 h.fdowns.length (h.fdowns.flatMap u1) /\ Sl P w s.c 1 h.cus.length (h.cus.flatMap u1)
theorem SlHs.fr {P S : Nat -> Prop} {w w' : World} {h : Hst} {s : Hsl} (k : SlHs P w h s) (hf : Fr S w w') (hs : ∀ g, P g -> ¬ S g) : SlHs P w' h s :=
 let ⟨a, b, c, d, e, f, g⟩ := k
 ⟨a.fr hf hs, b.fr hf hs, c.fr hf hs, d.fr hf hs, e.fr hf hs, f.fr hf hs, g.fr hf hs⟩
theorem Sl.shape {P : Nat -> Prop} {w : World} {v : Value} {size n : Nat} {xs : List Value} (h : Sl P w v size n xs) : ∃ A c, v = .slice A n c := let ⟨A, c, e, _⟩ := h; ⟨A, c, e⟩
theorem zk3 (l : List Int) : ∀ u ∈ l.flatMap i1, u.oneCell' = true := by
 intro u hu; obtain ⟨x, _, hx⟩ := List.mem_flatMap.1 hu; simp [i1] at hx; subst hx; rfl
theorem zgS {α : Type} (m : Nat) (f : α -> List Value) (h3 : ∀ x, (f x).length = m) : ∀ (l : List α) (k : Nat) (x : α), l[k]? = some x -> ∀ j, j < m -> (l.flatMap f)[k * m + j]? = (f x)[j]?
 | [], k, x, h, j, hj => by simp at h
 | y :: l, 0, x, h, j, hj => by
   simp at h; subst h; rw [zmz, zm8 (by rw [h3]; omega)]; simp
 | y :: l, k + 1, x, h, j, hj => by
   have e : (k + 1) * m + j - m = k * m + j := by rw [Nat.succ_mul]; omega
   rw [zmz, zm9 (by rw [h3, Nat.succ_mul]; omega), h3, e]; exact zgS m f h3 l k x (by simpa using h) j hj
theorem Fr.nilgrown {S : Nat -> Prop} {w w' w'' : World} (h : Fr S w w') (hg : w'.grownBy w'' (Value.slice none 0 0).ownBlock) : Fr S w w'' := h.grown hg (fun k hk => by cases hk)
theorem zet {w : World} {g t : Nat} {a0 a1 a2 a3 a4 a5 a6 a7 a8 a9 a10 a11 a12 : Value} (h : Blk w g t #[a0, a1, a2, a3, a4, a5, a6, a7, a8, a9, a10, a11, a12]) :
 w.cell? ⟨g, 0, none⟩ = some a0 /\ w.cell? ⟨g, 1, none⟩ = some a1 /\ w.cell? ⟨g, 2, none⟩ = some a2 /\ w.cell? ⟨g, 3, none⟩ = some a3 /\ w.cell? ⟨g, 4, none⟩ = some a4 /\ w.cell? ⟨g, 5, none⟩ = some a5 /\ w.cell? ⟨g, 6, none⟩ = some a6 /\
 w.cell? ⟨g, 7, none⟩ = some a7 /\ w.cell? ⟨g, 8, none⟩ = some a8 /\ w.cell? ⟨g, 9, none⟩ = some a9 /\ w.cell? ⟨g, 10, none⟩ = some a10 /\ w.cell? ⟨g, 11, none⟩ = some a11 /\ w.cell? ⟨g, 12, none⟩ = some a12 :=
 ⟨h.cell 0, h.cell 1, h.cell 2, h.cell 3, h.cell 4, h.cell 5, h.cell 6, h.cell 7, h.cell 8, h.cell 9, h.cell 10, h.cell 11, h.cell 12⟩
def hcW (h : Hst) (s : Hs5) : List Value := [.int .u8 h.hint.toNat, .int .i32 h.schema, .float .f64 h.thr, .int .u64 h.zc, .int .u64 h.cnt, .float .f64 h.sum, s.p, s.n, s.u, s.d, s.c]
def OwnW (base : Nat) (w : World) (h : Hst) (v : Value) : Prop :=
 ∃ g s, v = .pointer (some ⟨g, 0, none⟩) /\ base <= g /\ Blk w g 288 (hcW h s).toArray /\ w.ownsRow base 361 2 s.p h.pos.length (h.pos.flatMap spc) /\ w.ownsRow base 361 2 s.n h.neg.length (h.neg.flatMap spc) /\
  w.ownsRow base 2 1 s.u h.ups.length (h.ups.flatMap i1) /\ w.ownsRow base 2 1 s.d h.downs.length (h.downs.flatMap i1) /\ w.ownsRow base 135 1 s.c h.cus.length (h.cus.flatMap f1)
def RdW (P : Nat -> Prop) (w : World) (h : Hst) (v : Value) : Prop :=
 ∃ g s, v = .pointer (some ⟨g, 0, none⟩) /\ P g /\ Blk w g 288 (hcW h s).toArray /\ Sl P w s.p 2 h.pos.length (h.pos.flatMap spc) /\ Sl P w s.n 2 h.neg.length (h.neg.flatMap spc) /\
  Sl P w s.u 1 h.ups.length (h.ups.flatMap i1) /\ Sl P w s.d 1 h.downs.length (h.downs.flatMap i1) /\ Sl P w s.c 1 h.cus.length (h.cus.flatMap f1)
theorem OwnW.fr {S : Nat -> Prop} {base : Nat} {w w' : World} {h : Hst} {v : Value} (k : OwnW base w h v) (hf : Fr S w w') (hs : ∀ k, base <= k -> k < w.heap.size -> ¬ S k) : OwnW base w' h v := by
 obtain ⟨g, s, hv, hg, hb, a1, a2, a3, a4, a5⟩ := k; have go : ∀ {e : TypeId} {z n : Nat} {u : Value} {xs : List Value}, w.ownsRow base e z u n xs -> w'.ownsRow base e z u n xs := fun o => zaj o hf (fun g hg => hs g (o.lt g hg).1 (zas o hg)); exact ⟨g, s, hv, hg, hb.fr hf (hs g hg hb.lt), go a1, go a2, go a3, go a4, go a5⟩
theorem OwnW.mono {base base' : Nat} {w : World} {h : Hst} {v : Value} (k : OwnW base w h v) (hb : base' <= base) : OwnW base' w h v := by
 obtain ⟨g, s, hv, hg, hb2, a1, a2, a3, a4, a5⟩ := k; exact ⟨g, s, hv, zm3 hb hg, hb2, zai a1 hb, zai a2 hb, zai a3 hb, zai a4 hb, zai a5 hb⟩
theorem OwnW.grown {base base' te z n : Nat} {w w' : World} {h : Hst} {v r : Value} {xs : List Value} (k : OwnW base w h v) (ho : w.ownsRow base' te z r n xs) (hg : w.grownBy w' r.ownBlock) (h1 : te ≠ 288) (h2 : 361 ≠ te) (h3 : 2 ≠ te) (h4 : 135 ≠ te) : OwnW base w' h v := by
 obtain ⟨g, s, hv, ki, hb, a1, a2, a3, a4, a5⟩ := k; have hf : Fr (fun k => some k = r.ownBlock) w w' := (znq (fun k => some k = r.ownBlock) w).grown hg (fun k hk => .inl hk.symm); have go : ∀ {e : TypeId} {z n : Nat} {u : Value} {xs : List Value}, e ≠ te -> w.ownsRow base e z u n xs -> w'.ownsRow base e z u n xs := fun he o => zaj o hf (fun g hg e => zb6 o ho he g hg e.symm)
 exact ⟨g, s, hv, ki, hb.fr hf (fun e => zak ho hb h1 e.symm), go h2 a1, go h2 a2, go h3 a3, go h3 a4, go h4 a5⟩
theorem OwnW.rd {base : Nat} {w : World} {h : Hst} {v : Value} (k : OwnW base w h v) : RdW (fun g => base <= g /\ g < w.heap.size) w h v := by
 obtain ⟨g, s, hv, hg, hb, a1, a2, a3, a4, a5⟩ := k; have go : ∀ {e : TypeId} {z n : Nat} {u : Value} {xs : List Value}, w.ownsRow base e z u n xs -> Sl (fun g => base <= g /\ g < w.heap.size) w u z n xs := fun o => (znt o).mono (fun g hg => ⟨(o.lt g hg).1, zas o hg⟩); exact ⟨g, s, hv, ⟨hg, hb.lt⟩, hb, go a1, go a2, go a3, go a4, go a5⟩
theorem RdW.fr {P S : Nat -> Prop} {w w' : World} {h : Hst} {v : Value} (k : RdW P w h v) (hf : Fr S w w') (hs : ∀ g, P g -> ¬ S g) : RdW P w' h v := by
 obtain ⟨g, s, hv, hg, hb, a1, a2, a3, a4, a5⟩ := k; exact ⟨g, s, hv, hg, hb.fr hf (hs g hg), a1.fr hf hs, a2.fr hf hs, a3.fr hf hs, a4.fr hf hs, a5.fr hf hs⟩
theorem RdW.mono {P Q : Nat -> Prop} {w : World} {h : Hst} {v : Value} (k : RdW P w h v) (hs : ∀ g, P g -> Q g) : RdW Q w h v := by
 obtain ⟨g, s, hv, hg, hb, a1, a2, a3, a4, a5⟩ := k; exact ⟨g, s, hv, hs g hg, hb, a1.mono hs, a2.mono hs, a3.mono hs, a4.mono hs, a5.mono hs⟩
def MadeW (w : World) (h : Hst) (r : Ending) (w' : World) : Prop := ∃ v, r = .returned v /\ OwnW w.heap.size w' h v /\ Fr (fun _ => False) w w'
def hcF (h : Hst) (s : Hs5) : List Value := [.int .u8 h.hint.toNat, .int .i32 h.schema, .float .f64 h.thr, .float .f64 h.zc, .float .f64 h.cnt, .float .f64 h.sum, s.p, s.n, s.u, s.d, s.c]
def OwnF (base : Nat) (w : World) (h : Hst) (v : Value) : Prop :=
 ∃ g s, v = .pointer (some ⟨g, 0, none⟩) /\ base <= g /\ Blk w g 296 (hcF h s).toArray /\ w.ownsRow base 361 2 s.p h.pos.length (h.pos.flatMap spc) /\ w.ownsRow base 361 2 s.n h.neg.length (h.neg.flatMap spc) /\
  w.ownsRow base 135 1 s.u h.fups.length (h.fups.flatMap f1) /\ w.ownsRow base 135 1 s.d h.fdowns.length (h.fdowns.flatMap f1) /\ w.ownsRow base 135 1 s.c h.cus.length (h.cus.flatMap f1)
def RdF (P : Nat -> Prop) (w : World) (h : Hst) (v : Value) : Prop :=
 ∃ g s, v = .pointer (some ⟨g, 0, none⟩) /\ P g /\ Blk w g 296 (hcF h s).toArray /\ Sl P w s.p 2 h.pos.length (h.pos.flatMap spc) /\ Sl P w s.n 2 h.neg.length (h.neg.flatMap spc) /\
  Sl P w s.u 1 h.fups.length (h.fups.flatMap f1) /\ Sl P w s.d 1 h.fdowns.length (h.fdowns.flatMap f1) /\ Sl P w s.c 1 h.cus.length (h.cus.flatMap f1)
theorem OwnF.fr {S : Nat -> Prop} {base : Nat} {w w' : World} {h : Hst} {v : Value} (k : OwnF base w h v) (hf : Fr S w w') (hs : ∀ k, base <= k -> k < w.heap.size -> ¬ S k) : OwnF base w' h v := by
 obtain ⟨g, s, hv, hg, hb, a1, a2, a3, a4, a5⟩ := k; have go : ∀ {e : TypeId} {z n : Nat} {u : Value} {xs : List Value}, w.ownsRow base e z u n xs -> w'.ownsRow base e z u n xs := fun o => zaj o hf (fun g hg => hs g (o.lt g hg).1 (zas o hg)); exact ⟨g, s, hv, hg, hb.fr hf (hs g hg hb.lt), go a1, go a2, go a3, go a4, go a5⟩
theorem OwnF.mono {base base' : Nat} {w : World} {h : Hst} {v : Value} (k : OwnF base w h v) (hb : base' <= base) : OwnF base' w h v := by
 obtain ⟨g, s, hv, hg, hb2, a1, a2, a3, a4, a5⟩ := k; exact ⟨g, s, hv, zm3 hb hg, hb2, zai a1 hb, zai a2 hb, zai a3 hb, zai a4 hb, zai a5 hb⟩
theorem OwnF.grown {base base' te z n : Nat} {w w' : World} {h : Hst} {v r : Value} {xs : List Value} (k : OwnF base w h v) (ho : w.ownsRow base' te z r n xs) (hg : w.grownBy w' r.ownBlock) (h1 : te ≠ 296) (h2 : 361 ≠ te) (h3 : 135 ≠ te) (h4 : 135 ≠ te) : OwnF base w' h v := by
 obtain ⟨g, s, hv, ki, hb, a1, a2, a3, a4, a5⟩ := k; have hf : Fr (fun k => some k = r.ownBlock) w w' := (znq (fun k => some k = r.ownBlock) w).grown hg (fun k hk => .inl hk.symm); have go : ∀ {e : TypeId} {z n : Nat} {u : Value} {xs : List Value}, e ≠ te -> w.ownsRow base e z u n xs -> w'.ownsRow base e z u n xs := fun he o => zaj o hf (fun g hg e => zb6 o ho he g hg e.symm)
 exact ⟨g, s, hv, ki, hb.fr hf (fun e => zak ho hb h1 e.symm), go h2 a1, go h2 a2, go h3 a3, go h3 a4, go h4 a5⟩
theorem OwnF.rd {base : Nat} {w : World} {h : Hst} {v : Value} (k : OwnF base w h v) : RdF (fun g => base <= g /\ g < w.heap.size) w h v := by
 obtain ⟨g, s, hv, hg, hb, a1, a2, a3, a4, a5⟩ := k; have go : ∀ {e : TypeId} {z n : Nat} {u : Value} {xs : List Value}, w.ownsRow base e z u n xs -> Sl (fun g => base <= g /\ g < w.heap.size) w u z n xs := fun o => (znt o).mono (fun g hg => ⟨(o.lt g hg).1, zas o hg⟩); exact ⟨g, s, hv, ⟨hg, hb.lt⟩, hb, go a1, go a2, go a3, go a4, go a5⟩
theorem RdF.fr {P S : Nat -> Prop} {w w' : World} {h : Hst} {v : Value} (k : RdF P w h v) (hf : Fr S w w') (hs : ∀ g, P g -> ¬ S g) : RdF P w' h v := by
 obtain ⟨g, s, hv, hg, hb, a1, a2, a3, a4, a5⟩ := k; exact ⟨g, s, hv, hg, hb.fr hf (hs g hg), a1.fr hf hs, a2.fr hf hs, a3.fr hf hs, a4.fr hf hs, a5.fr hf hs⟩
theorem RdF.mono {P Q : Nat -> Prop} {w : World} {h : Hst} {v : Value} (k : RdF P w h v) (hs : ∀ g, P g -> Q g) : RdF Q w h v := by
 obtain ⟨g, s, hv, hg, hb, a1, a2, a3, a4, a5⟩ := k; exact ⟨g, s, hv, hs g hg, hb, a1.mono hs, a2.mono hs, a3.mono hs, a4.mono hs, a5.mono hs⟩
def MadeF (w : World) (h : Hst) (r : Ending) (w' : World) : Prop := ∃ v, r = .returned v /\ OwnF w.heap.size w' h v /\ Fr (fun _ => False) w w'
theorem zdg : (∀ (_ : True) (P : Nat -> Prop) (h : Hst) (s : Hsl) (w : World) (hs : SlHs P w h s) (hl : h.few 1099511627776),
 Calls prog 175 #[.agg (hic h s).toArray] w (MadeW w h)) /\ (∀ (_ : True) (P : Nat -> Prop) (h : Hst) (s : Hsl) (w : World) (hs : SlHs P w h s) (hl : h.few 1099511627776),
 Calls prog 178 #[.agg (hic h s).toArray] w (MadeF w h)) := by
 refine ⟨fun ag P h s w hs hl => ?_, fun bY P h s w hs hl => ?_⟩; all_goals
  have mixed : prog.follows .mixedOrders = true := by kernel_rfl
  obtain ⟨hp, hn, hu, hd, hfu, hfd, hc⟩ := hs; obtain ⟨l1, l2, l3, l4, l5, l6, l7⟩ := hl; obtain ⟨hint, schema, thr, sum, zc, cnt, pos, neg, ups, downs, fups, fdowns, cus⟩ := h; obtain ⟨sp, sn, su, sd, lM, lN, sc⟩ := s; simp only [] at hp hn hu hd hfu hfd hc l1 l2 l3 l4 l5 l6 l7; obtain ⟨A1, c1, rfl⟩ := hp.shape; obtain ⟨A2, c2, rfl⟩ := hn.shape; obtain ⟨A3, c3, rfl⟩ := hu.shape
  obtain ⟨A4, c4, rfl⟩ := hd.shape; obtain ⟨A5, c5, rfl⟩ := hfu.shape; obtain ⟨A6, c6, rfl⟩ := hfd.shape; obtain ⟨A7, c7, rfl⟩ := hc.shape; obtain ⟨n1, e1⟩ := exE pos.length; obtain ⟨n2, e2⟩ := exE neg.length; obtain ⟨n3, e3⟩ := exE ups.length; obtain ⟨n4, e4⟩ := exE downs.length; obtain ⟨n5, e5⟩ := exE fups.length; obtain ⟨n6, e6⟩ := exE fdowns.length; obtain ⟨n7, e7⟩ := exE cus.length
  have HS := zmk (fun (W : World) (hW : Fr (fun _ => False) w W) => ziP P _ pos W (hp.fr hW (fun _ _ e => e)) l1); have HT := zmk (fun (W : World) (hW : Fr (fun _ => False) w W) => ziP P _ neg W (hn.fr hW (fun _ _ e => e)) l2); have HX := zmk (fun (W : World) (hW : Fr (fun _ => False) w W) => zfs P _ fups W (hfu.fr hW (fun _ _ e => e)) l5)
  have HY := zmk (fun (W : World) (hW : Fr (fun _ => False) w W) => zfs P _ fdowns W (hfd.fr hW (fun _ _ e => e)) l6); have HZ := zmk (fun (W : World) (hW : Fr (fun _ => False) w W) => zfs P _ cus W (hc.fr hW (fun _ _ e => e)) l7); have HU := zmk (fun (W : World) (hW : Fr (fun _ => False) w W) => zdh underlying189 (hu.fr hW (fun _ _ e => e)) (zk3 _))
  have HD := zmk (fun (W : World) (hW : Fr (fun _ => False) w W) => zdh underlying189 (hd.fr hW (fun _ _ e => e)) (zk3 _)); obtain ⟨i2, iu, ei, dW, fF⟩ := info_parts info2; simp only [hic]; rw [e1] at HS l1 ⊢; rw [e2] at HT l2 ⊢; rw [e3] at HU l3 ⊢; rw [e4] at HD l4 ⊢; rw [e5] at HX l5 ⊢; rw [e6] at HY l6 ⊢; rw [e7] at HZ l7 ⊢
  have HE := zmk (znc e1 (znc e2 (znc e3 (znc e4 (znc e5 (znc e6 e7)))))); clear hp hn hu hd hfu hfd hc e1 e2 e3 e4 e5 e6 e7
  first | (guard_hyp ag; go_enter func175, ntmps175) | (go_enter func178, ntmps178)
  go_wp2_with fail
  have K0 := zmk (znr w 192 #[.int .u8 hint.toNat, .int .i32 schema, .int .u64 thr, .int .u64 sum, .int .u64 zc, .int .u64 cnt, .slice A1 n1 c1, .slice A2 n2 c2, .slice A3 n3 c3, .slice A4 n4 c4, .slice A5 n5 c5, .slice A6 n6 c6, .slice A7 n7 c7])
  have F0 := zmk ((znq (fun _ => False) w).alloc (.cells #[.int .u8 hint.toNat, .int .i32 schema, .int .u64 thr, .int .u64 sum, .int .u64 zc, .int .u64 cnt, .slice A1 n1 c1, .slice A2 n2 c2, .slice A3 n3 c3, .slice A4 n4 c4, .slice A5 n5 c5, .slice A6 n6 c6, .slice A7 n7 c7] 192)).drew; obtain ⟨s0, s1, s2, s3, s4, s5, s6, s7, s8, s9, im, oM, oL⟩ := zet K0.out.drew
  go_region_held3 (fun w' => w'.cell? ⟨w.heap.size, 0, none⟩ = some (.int .u8 hint.toNat) /\ w'.cell? ⟨w.heap.size, 1, none⟩ = some (.int .i32 schema) /\ w'.cell? ⟨w.heap.size, 2, none⟩ = some (.int .u64 thr) /\ w'.cell? ⟨w.heap.size, 3, none⟩ = some (.int .u64 sum) /\ w'.cell? ⟨w.heap.size, 4, none⟩ = some (.int .u64 zc) /\ w'.cell? ⟨w.heap.size, 5, none⟩ = some (.int .u64 cnt) /\ w'.cell? ⟨w.heap.size, 6, none⟩ = some (.slice A1 n1 c1) /\ w'.cell? ⟨w.heap.size, 7, none⟩ = some (.slice A2 n2 c2) /\ w'.cell? ⟨w.heap.size, 8, none⟩ = some (.slice A3 n3 c3) /\ w'.cell? ⟨w.heap.size, 9, none⟩ = some (.slice A4 n4 c4) /\ w'.cell? ⟨w.heap.size, 10, none⟩ = some (.slice A5 n5 c5) /\ w'.cell? ⟨w.heap.size, 11, none⟩ = some (.slice A6 n6 c6) /\ w'.cell? ⟨w.heap.size, 12, none⟩ = some (.slice A7 n7 c7))
   ((first | exact zet (K5.out.alloc _) | exact zet K5.out | exact zet K4.out | exact zet K3.out | exact zet K2.out | exact zet K1.out | exact zet K0.out.drew | go_keep))
   ((first
     | (go_at_call 167; refine (zfb _ _).mono ?_; rintro r w' ⟨rfl, rfl⟩)
     | (go_at_call 235; refine (HT.out w1 F1.out).mono ?_; rintro r2 w2 ⟨v2, rfl, af, ar⟩; obtain ⟨B2, d2, rfl⟩ := zaa af; have F2 := zmk (F1.out.same ar); have K2 := zmk (K1.out.fr ar (fun e => e)); have P2 := zmk (zai af F1.out.size); have G2 := zmk ar)
     | (go_at_call 235; refine (HS.out _ F0.out).mono ?_; rintro r1 w1 ⟨v1, rfl, an, ai⟩; obtain ⟨B1, d1, rfl⟩ := zaa an; have F1 := zmk (F0.out.same ai); have K1 := zmk (K0.out.drew.fr ai (fun e => e)); have P1 := zmk (zai an F0.out.size))
     | (refine zat _ (by rfl) _ _ 189 189 (by rfl) w.heap.size 2 i2 _ 1 8 underlying189 iu ei dW fF rfl (by decide) (.slice none 0 0) 0 [] (by rfl) (zmy _ _ _ _) _ n4 (downs.flatMap i1) (by rfl) (HD.out w3 F3.out) (by unfold maxLen; omega) (by omega) F3.out.size ?_; intro v4 w4 aX ot pX; rw [zmP, zmW] at aX; obtain ⟨B4, d4, rfl⟩ := zaa aX; have G4 := zmk ((znq (fun _ => False) w3).nilgrown ot); have F4 := zmk (F3.out.nilgrown ot); have K4 := zmk (K3.out.fr G4.out (fun e => e)); have P4 := zmk aX)
     | (go_at_call 236; refine (HZ.out w4 F4.out).mono ?_; rintro r5 w5 ⟨v5, rfl, am, aq⟩; obtain ⟨B5, d5, rfl⟩ := zaa am; have F5 := zmk (F4.out.same aq); have K5 := zmk (K4.out.fr aq (fun e => e)); have P5 := zmk (zai am F4.out.size); have G5 := zmk aq)
     | (refine zat _ (by rfl) _ _ 189 189 (by rfl) w.heap.size 2 i2 _ 1 8 underlying189 iu ei dW fF rfl (by decide) (.slice none 0 0) 0 [] (by rfl) (zmy _ _ _ _) _ n3 (ups.flatMap i1) (by rfl) (HU.out w2 F2.out) (by unfold maxLen; omega) (by omega) F2.out.size ?_; intro v3 w3 aF gi iE; rw [zmP, zmW] at aF; obtain ⟨B3, d3, rfl⟩ := zaa aF; have G3 := zmk ((znq (fun _ => False) w2).nilgrown gi); have F3 := zmk (F2.out.nilgrown gi); have K3 := zmk (K2.out.fr G3.out (fun e => e)); have P3 := zmk aF)
     | (go_at_call 236; refine (HY.out w3 F3.out).mono ?_; rintro r4 w4 ⟨v4, rfl, aX, dw⟩; obtain ⟨B4, d4, rfl⟩ := zaa aX; have F4 := zmk (F3.out.same dw); have K4 := zmk (K3.out.fr dw (fun e => e)); have P4 := zmk (zai aX F3.out.size); have G4 := zmk dw)
     | (go_at_call 236; refine (HZ.out w4 F4.out).mono ?_; rintro r5 w5 ⟨v5, rfl, am, aq⟩; obtain ⟨B5, d5, rfl⟩ := zaa am; have F5 := zmk (F4.out.same aq); have K5 := zmk (K4.out.fr aq (fun e => e)); have P5 := zmk (zai am F4.out.size); have G5 := zmk aq)
     | (go_at_call 236; refine (HX.out w2 F2.out).mono ?_; rintro r3 w3 ⟨v3, rfl, aF, bJ⟩; obtain ⟨B3, d3, rfl⟩ := zaa aF; have F3 := zmk (F2.out.same bJ); have K3 := zmk (K2.out.fr bJ (fun e => e)); have P3 := zmk (zai aF F2.out.size); have G3 := zmk bJ)))
  obtain ⟨rfl, rfl, rfl, rfl, rfl, rfl, rfl⟩ := HE.out
  first | (guard_hyp ag; have fin : ∀ (W : World), Fr (fun _ => False) w5 W -> W.ownsRow w.heap.size 361 2 (.slice B1 pos.length d1) pos.length (pos.flatMap spc) /\ W.ownsRow w.heap.size 361 2 (.slice B2 neg.length d2) neg.length (neg.flatMap spc) /\ W.ownsRow w.heap.size 2 1 (.slice B3 ups.length d3) ups.length (ups.flatMap i1) /\ W.ownsRow w.heap.size 2 1 (.slice B4 downs.length d4) downs.length (downs.flatMap i1) /\ W.ownsRow w.heap.size 135 1 (.slice B5 cus.length d5) cus.length (cus.flatMap f1) := fun W hW => ⟨zaj P1.out ((((G2.out.same G3.out).same G4.out).same G5.out).same hW) (fun _ _ e => e), zaj P2.out (((G3.out.same G4.out).same G5.out).same hW) (fun _ _ e => e), zaj P3.out ((G4.out.same G5.out).same hW) (fun _ _ e => e), zaj P4.out (G5.out.same hW) (fun _ _ e => e), zaj P5.out hW (fun _ _ e => e)⟩) | (have fin : ∀ (W : World), Fr (fun _ => False) w5 W -> W.ownsRow w.heap.size 361 2 (.slice B1 pos.length d1) pos.length (pos.flatMap spc) /\ W.ownsRow w.heap.size 361 2 (.slice B2 neg.length d2) neg.length (neg.flatMap spc) /\ W.ownsRow w.heap.size 135 1 (.slice B3 fups.length d3) fups.length (fups.flatMap f1) /\ W.ownsRow w.heap.size 135 1 (.slice B4 fdowns.length d4) fdowns.length (fdowns.flatMap f1) /\ W.ownsRow w.heap.size 135 1 (.slice B5 cus.length d5) cus.length (cus.flatMap f1) := fun W hW => ⟨zaj P1.out ((((G2.out.same G3.out).same G4.out).same G5.out).same hW) (fun _ _ e => e), zaj P2.out (((G3.out.same G4.out).same G5.out).same hW) (fun _ _ e => e), zaj P3.out ((G4.out.same G5.out).same hW) (fun _ _ e => e), zaj P4.out (G5.out.same hW) (fun _ _ e => e), zaj P5.out hW (fun _ _ e => e)⟩)
  clear s0 s1 s2 s3 s4 s5 s6 s7 s8 s9 im oM oL; have FIN := zmk fin
  clear fin
  go_wp2; go_ret
  first | (guard_hyp ag; have hA := (znq (fun _ => False) w5).alloc (.cells #[.int .u8 hint.toNat, .int .i32 schema, .float .f64 thr, .int .u64 zc, .int .u64 cnt, .float .f64 sum, .slice B1 pos.length d1, .slice B2 neg.length d2, .slice B3 ups.length d3, .slice B4 downs.length d4, .slice B5 cus.length d5] 288)) | (have hA := (znq (fun _ => False) w5).alloc (.cells #[.int .u8 hint.toNat, .int .i32 schema, .float .f64 thr, .float .f64 zc, .float .f64 cnt, .float .f64 sum, .slice B1 pos.length d1, .slice B2 neg.length d2, .slice B3 fups.length d3, .slice B4 fdowns.length d4, .slice B5 cus.length d5] 296))
  obtain ⟨q1, q2, q3, q4, q5⟩ := FIN.out _ hA
  first | (guard_hyp ag; exact ⟨_, rfl, ⟨w5.heap.size, ⟨.slice B1 pos.length d1, .slice B2 neg.length d2, .slice B3 ups.length d3, .slice B4 downs.length d4, .slice B5 cus.length d5⟩, rfl, F5.out.size, znr w5 288 _, q1, q2, q3, q4, q5⟩, F5.out.alloc _⟩) | (exact ⟨_, rfl, ⟨w5.heap.size, ⟨.slice B1 pos.length d1, .slice B2 neg.length d2, .slice B3 fups.length d3, .slice B4 fdowns.length d4, .slice B5 cus.length d5⟩, rfl, F5.out.size, znr w5 296 _, q1, q2, q3, q4, q5⟩, F5.out.alloc _⟩)
theorem whole_any : type_of% (zdg.1 trivial) := zdg.1 trivial
theorem zmd : type_of% (zdg.2 trivial) := zdg.2 trivial
end Go.Proofs.YtbkookiigkckdaaGreatDoor
