/- Texts of this seat, merged: H7. -/
import Derived.Test.YtbkookiigkckdaaGreatDoorK08
import Derived.Deep.MidRow
/- Histograms as data again: impl.unwhole, unbroken, unHistograms, unFloats. Printed by gen_h7.py. -/
namespace Go.Proofs.YtbkookiigkckdaaGreatDoor
open Go.RowKit
set_option linter.unusedVariables false
set_option linter.unusedSimpArgs false

theorem blk_set13 {W : World} {ob : Nat} {t : TypeId} {a0 a1 a2 a3 a4 a5 a6 a7 a8 a9 a10 a11 a12 : Value} (hb : Blk W ob t #[a0, a1, a2, a3, a4, a5, a6, a7, a8, a9, a10, a11, a12]) (v0 v1 v2 v3 v4 v5 v6 v7 v8 v9 v10 v11 v12 : Value) :
    Blk (((((((((((((W.setCell ⟨ob, 0, none⟩ v0).setCell ⟨ob, 1, none⟩ v1).setCell ⟨ob, 2, none⟩ v2).setCell ⟨ob, 3, none⟩ v3).setCell ⟨ob, 4, none⟩ v4).setCell ⟨ob, 5, none⟩ v5).setCell ⟨ob, 6, none⟩ v6).setCell ⟨ob, 7, none⟩ v7).setCell ⟨ob, 8, none⟩ v8).setCell ⟨ob, 9, none⟩ v9).setCell ⟨ob, 10, none⟩ v10).setCell ⟨ob, 11, none⟩ v11).setCell ⟨ob, 12, none⟩ v12) ob t #[v0, v1, v2, v3, v4, v5, v6, v7, v8, v9, v10, v11, v12] := by
  have h := (((((((((((((hb.set_ 0 v0).set_ 1 v1).set_ 2 v2).set_ 3 v3).set_ 4 v4).set_ 5 v5).set_ 6 v6).set_ 7 v7).set_ 8 v8).set_ 9 v9).set_ 10 v10).set_ 11 v11).set_ 12 v12)
  simpa using h
theorem fr_set13 {S : Nat → Prop} {W4 W : World} {ob : Nat} (h1 : S ob ∨ W4.heap.size ≤ ob) (hf : Fr S W4 W) (v0 v1 v2 v3 v4 v5 v6 v7 v8 v9 v10 v11 v12 : Value) :
    Fr S W4 (((((((((((((W.setCell ⟨ob, 0, none⟩ v0).setCell ⟨ob, 1, none⟩ v1).setCell ⟨ob, 2, none⟩ v2).setCell ⟨ob, 3, none⟩ v3).setCell ⟨ob, 4, none⟩ v4).setCell ⟨ob, 5, none⟩ v5).setCell ⟨ob, 6, none⟩ v6).setCell ⟨ob, 7, none⟩ v7).setCell ⟨ob, 8, none⟩ v8).setCell ⟨ob, 9, none⟩ v9).setCell ⟨ob, 10, none⟩ v10).setCell ⟨ob, 11, none⟩ v11).setCell ⟨ob, 12, none⟩ v12) :=
  (((((((((((((hf.setCell (p := ⟨ob, 0, none⟩) h1 v0).setCell (p := ⟨ob, 1, none⟩) h1 v1).setCell (p := ⟨ob, 2, none⟩) h1 v2).setCell (p := ⟨ob, 3, none⟩) h1 v3).setCell (p := ⟨ob, 4, none⟩) h1 v4).setCell (p := ⟨ob, 5, none⟩) h1 v5).setCell (p := ⟨ob, 6, none⟩) h1 v6).setCell (p := ⟨ob, 7, none⟩) h1 v7).setCell (p := ⟨ob, 8, none⟩) h1 v8).setCell (p := ⟨ob, 9, none⟩) h1 v9).setCell (p := ⟨ob, 10, none⟩) h1 v10).setCell (p := ⟨ob, 11, none⟩) h1 v11).setCell (p := ⟨ob, 12, none⟩) h1 v12)
theorem store13 {w5 : World} {ob : Nat} {a0 a1 a2 a3 a4 a5 a6 a7 a8 a9 a10 a11 a12 : Value} (hT : Blk w5 ob 192 #[a0, a1, a2, a3, a4, a5, a6, a7, a8, a9, a10, a11, a12]) (v0 v1 v2 v3 v4 v5 v6 v7 v8 v9 v10 v11 v12 : Value) (h1 : #[v0, v1, v2, v3, v4, v5, v6, v7, v8, v9, v10, v11, v12].all (·.oneCell') = true) :
    ∃ W6, (Instr.storeAt 192 (.pointer (some ⟨ob, 0, none⟩)) (.agg #[v0, v1, v2, v3, v4, v5, v6, v7, v8, v9, v10, v11, v12])).run Tryz.prog w5 = .ok () W6 ∧ (storeCells ⟨ob, 0, none⟩ [v0, v1, v2, v3, v4, v5, v6, v7, v8, v9, v10, v11, v12] 0).run Tryz.prog w5 = .ok () W6 ∧ (storeVar 192 ⟨ob, 0, none⟩ (.agg #[v0, v1, v2, v3, v4, v5, v6, v7, v8, v9, v10, v11, v12])).run Tryz.prog w5 = .ok () W6 ∧ Hid (Blk W6 ob 192 #[v0, v1, v2, v3, v4, v5, v6, v7, v8, v9, v10, v11, v12]) ∧ Hid (Fr (fun k => k = ob) w5 W6) := by
  have hth : w5.there ob 0 13 := fun j hj => ⟨by rw [Nat.zero_add, hT.cell, Array.getElem?_eq_getElem (by simpa using hj)]; rfl, by rw [Nat.zero_add]; exact hT.frozen j⟩
  have hs := run_storeCells_cells (P := Tryz.prog) ob 0 [v0, v1, v2, v3, v4, v5, v6, v7, v8, v9, v10, v11, v12] 0 w5 (fun j hj => (hth j (by simpa using hj)).1) (fun j hj => (hth j (by simpa using hj)).2) (fun v hv => (Array.all_eq_true_iff_forall_mem.1 h1) v (by simpa using hv))
  exact ⟨w5.setCells ob 0 [v0, v1, v2, v3, v4, v5, v6, v7, v8, v9, v10, v11, v12], run_storeAt_mid (P := Tryz.prog) w5 ob 0 192 #[v0, v1, v2, v3, v4, v5, v6, v7, v8, v9, v10, v11, v12] hth (by kernel_rfl) h1, hs, run_storeVar_mid (P := Tryz.prog) w5 ob 0 192 #[v0, v1, v2, v3, v4, v5, v6, v7, v8, v9, v10, v11, v12] hth (by kernel_rfl) h1, Lib.hid (blk_set13 hT v0 v1 v2 v3 v4 v5 v6 v7 v8 v9 v10 v11 v12), Lib.hid (fr_set13 (S := fun k => k = ob) (W4 := w5) (.inl rfl) (Fr.refl _ w5) v0 v1 v2 v3 v4 v5 v6 v7 v8 v9 v10 v11 v12)⟩
/-- A histogram's slices, in rows that a call made. -/
def OwnHs (base : Nat) (w : World) (h : Hst) (s : Hsl) : Prop :=
  w.ownsRow base 319 2 s.p h.pos.length (h.pos.flatMap spc) ∧ w.ownsRow base 319 2 s.n h.neg.length (h.neg.flatMap spc) ∧ w.ownsRow base 2 1 s.u h.ups.length (h.ups.flatMap i1) ∧ w.ownsRow base 2 1 s.d h.downs.length (h.downs.flatMap i1) ∧
  w.ownsRow base 111 1 s.fu h.fups.length (h.fups.flatMap u1) ∧ w.ownsRow base 111 1 s.fd h.fdowns.length (h.fdowns.flatMap u1) ∧ w.ownsRow base 111 1 s.c h.cus.length (h.cus.flatMap u1)
theorem OwnHs.fr {S : Nat → Prop} {base : Nat} {w w' : World} {h : Hst} {s : Hsl} (k : OwnHs base w h s) (hf : Fr S w w') (hs : ∀ k, base ≤ k → k < w.heap.size → ¬ S k) : OwnHs base w' h s := by
  obtain ⟨a1, a2, a3, a4, a5, a6, a7⟩ := k
  have go : ∀ {e : TypeId} {z n : Nat} {u : Value} {xs : List Value}, w.ownsRow base e z u n xs → w'.ownsRow base e z u n xs := fun o => own_fr o hf (fun g hg => hs g (o.lt g hg).1 (own_lt o hg))
  exact ⟨go a1, go a2, go a3, go a4, go a5, go a6, go a7⟩
theorem OwnHs.mono {base base' : Nat} {w : World} {h : Hst} {s : Hsl} (k : OwnHs base w h s) (hb : base' ≤ base) : OwnHs base' w h s := by
  obtain ⟨a1, a2, a3, a4, a5, a6, a7⟩ := k
  exact ⟨own_mono a1 hb, own_mono a2 hb, own_mono a3 hb, own_mono a4 hb, own_mono a5 hb, own_mono a6 hb, own_mono a7 hb⟩
theorem OwnHs.grown {base base' te z n : Nat} {w w' : World} {h : Hst} {s : Hsl} {r : Value} {xs : List Value} (k : OwnHs base w h s) (ho : w.ownsRow base' te z r n xs) (hg : w.grownBy w' r.ownBlock) (h2 : 319 ≠ te) (h3 : 2 ≠ te) (h4 : 111 ≠ te) : OwnHs base w' h s := by
  obtain ⟨a1, a2, a3, a4, a5, a6, a7⟩ := k
  have hf : Fr (fun k => some k = r.ownBlock) w w' := (Fr.refl (fun k => some k = r.ownBlock) w).grown hg (fun k hk => .inl hk.symm)
  have go : ∀ {e : TypeId} {z n : Nat} {u : Value} {xs : List Value}, e ≠ te → w.ownsRow base e z u n xs → w'.ownsRow base e z u n xs := fun he o => own_fr o hf (fun g hg e => own_own o ho he g hg e.symm)
  exact ⟨go h2 a1, go h2 a2, go h3 a3, go h3 a4, go h4 a5, go h4 a6, go h4 a7⟩
theorem OwnHs.sl {base : Nat} {w : World} {h : Hst} {s : Hsl} (k : OwnHs base w h s) : SlHs (fun g => base ≤ g ∧ g < w.heap.size) w h s := by
  obtain ⟨a1, a2, a3, a4, a5, a6, a7⟩ := k
  have go : ∀ {e : TypeId} {z n : Nat} {u : Value} {xs : List Value}, w.ownsRow base e z u n xs → Sl (fun g => base ≤ g ∧ g < w.heap.size) w u z n xs := fun o => (Sl.ofOwn o).mono (fun g hg => ⟨(o.lt g hg).1, own_lt o hg⟩)
  exact ⟨go a1, go a2, go a3, go a4, go a5, go a6, go a7⟩
theorem Tryz.info194 : (Tryz.prog.info? 194).map (fun i => (i.zero, i.size, i.bytes)) = some (some (.agg #[.int .u64 0, .int .i64 0, .int .u8 0, .int .i32 0, .int .u64 0, .int .u64 0, .int .u64 0, .int .u64 0, .slice none 0 0, .slice none 0 0, .slice none 0 0, .slice none 0 0, .slice none 0 0, .slice none 0 0, .slice none 0 0]), 15, 224) := by kernel_rfl
/-- A slice of samples that a call made, with all that it points to. -/
def OwnI (base : Nat) (w : World) (v : Value) (lo : List (Rhs × Hsl)) : Prop :=
  w.ownsRow base 194 15 v lo.length (lo.flatMap hsc) ∧ ∀ p ∈ lo, OwnHs base w p.1.h p.2
theorem OwnI.nil (base : Nat) (w : World) : OwnI base w (.slice none 0 0) [] := ⟨World.ownsRow_nil _ _ _ _, fun p hp => by cases hp⟩
theorem OwnI.fr {S : Nat → Prop} {base : Nat} {w w' : World} {v : Value} {lo : List (Rhs × Hsl)} (h : OwnI base w v lo) (hf : Fr S w w') (hs : ∀ k, base ≤ k → k < w.heap.size → ¬ S k) : OwnI base w' v lo :=
  ⟨own_fr h.1 hf (fun g hg => hs g (h.1.lt g hg).1 (own_lt h.1 hg)), fun p hp => (h.2 p hp).fr hf hs⟩
theorem OwnI.mono {base base' : Nat} {w : World} {v : Value} {lo : List (Rhs × Hsl)} (h : OwnI base w v lo) (hb : base' ≤ base) : OwnI base' w v lo :=
  ⟨own_mono h.1 hb, fun p hp => (h.2 p hp).mono hb⟩
theorem OwnI.push {base : Nat} {w w2 : World} {v v' : Value} {lo : List (Rhs × Hsl)} {p : Rhs × Hsl} (h : OwnI base w v lo) (hp : OwnHs base w p.1.h p.2) (hg : w.grownBy w2 v.ownBlock)
    (ho : w2.ownsRow base 194 15 v' (lo.length + 1) (lo.flatMap hsc ++ hsc p)) : OwnI base w2 v' (lo ++ [p]) := by
  refine ⟨by simpa using ho, fun q hq => ?_⟩
  rcases List.mem_append.1 hq with hq | hq
  · exact (h.2 q hq).grown h.1 hg (by decide) (by decide) (by decide)
  · rw [List.mem_singleton] at hq
    subst hq
    exact hp.grown h.1 hg (by decide) (by decide) (by decide)
theorem OwnI.sl {base : Nat} {w : World} {v : Value} {lo : List (Rhs × Hsl)} (h : OwnI base w v lo) : SlH (fun g => base ≤ g ∧ g < w.heap.size) w v lo :=
  ⟨(Sl.ofOwn h.1).mono (fun g hg => ⟨(h.1.lt g hg).1, own_lt h.1 hg⟩), fun p hp => (h.2 p hp).sl⟩
theorem f1_one (l : List Nat) : ∀ u ∈ l.flatMap f1, u.oneCell' = true := by
  intro u hu
  obtain ⟨x, _, hx⟩ := List.mem_flatMap.1 hu
  simp [f1] at hx
  subst hx
  rfl
/-- What an integer histogram, a float histogram holds of one as data. -/
def Hst.cutW (h : Hst) : Hst := { h with fups := [], fdowns := [] }
def Hst.cutF (h : Hst) : Hst := { h with ups := [], downs := [] }


def UnWEnds (w : World) (h : Hst) (r : Ending) (w' : World) : Prop :=
  ∃ s, r = .returned (.agg (hic h s).toArray) ∧ OwnHs w.heap.size w' h s ∧ Fr (fun _ => False) w w' ∧ ∀ u ∈ [s.p, s.n, s.u, s.d, s.fu, s.fd, s.c], ∃ A m c, u = .slice A m c

set_option maxHeartbeats 8000000 in
set_option maxRecDepth 100000 in
theorem unwhole_any (P : Nat → Prop) (h : Hst) (v : Value) (w : World) (hr : RdW P w h v) (hl : h.few 1099511627776) :
    Calls Tryz.prog 176 #[v] w (UnWEnds w h.cutW) := by
  have mixed : Tryz.prog.follows .mixedOrders = true := by kernel_rfl
  obtain ⟨g, s, rfl, hPg, hb, z1, z2, z3, z4, z5⟩ := hr
  obtain ⟨l1, l2, l3, l4, l5, l6, l7⟩ := hl
  obtain ⟨hint, schema, thr, sum, zc, cnt, pos, neg, ups, downs, fups, fdowns, cus⟩ := h
  obtain ⟨sp, sn, su, sd, sc⟩ := s
  simp only [hcW] at hb z1 z2 z3 z4 z5 l1 l2 l3 l4 l5 l6 l7
  obtain ⟨A1, c1, rfl⟩ := z1.shape
  obtain ⟨A2, c2, rfl⟩ := z2.shape
  obtain ⟨A3, c3, rfl⟩ := z3.shape
  obtain ⟨A4, c4, rfl⟩ := z4.shape
  obtain ⟨A5, c5, rfl⟩ := z5.shape
  have HS := Lib.hid (fun (W : World) (hW : Fr (fun _ => False) w W) => unspans_any P _ pos W (z1.fr hW (fun _ _ e => e)) l1)
  have HT := Lib.hid (fun (W : World) (hW : Fr (fun _ => False) w W) => unspans_any P _ neg W (z2.fr hW (fun _ _ e => e)) l2)
  have HU := Lib.hid (fun (W : World) (hW : Fr (fun _ => False) w W) => src_sl Tryz.underlying189 (z3.fr hW (fun _ _ e => e)) (i1_one _))
  have HD := Lib.hid (fun (W : World) (hW : Fr (fun _ => False) w W) => src_sl Tryz.underlying189 (z4.fr hW (fun _ _ e => e)) (i1_one _))
  have HZ := Lib.hid (fun (W : World) (hW : Fr (fun _ => False) w W) => bitsOfAll_any P _ cus W (z5.fr hW (fun _ _ e => e)) l7)
  obtain ⟨n1, e1⟩ : ∃ n, pos.length = n := ⟨_, rfl⟩
  obtain ⟨n2, e2⟩ : ∃ n, neg.length = n := ⟨_, rfl⟩
  obtain ⟨n3, e3⟩ : ∃ n, ups.length = n := ⟨_, rfl⟩
  obtain ⟨n4, e4⟩ : ∃ n, downs.length = n := ⟨_, rfl⟩
  obtain ⟨n5, e5⟩ : ∃ n, cus.length = n := ⟨_, rfl⟩
  obtain ⟨i2, hi2, hy0, hy1, hy2⟩ := info_parts Tryz.info2
  rw [e1] at HS l1 hb
  rw [e2] at HT l2 hb
  rw [e3] at HU l3 hb
  rw [e4] at HD l4 hb
  rw [e5] at HZ l7 hb
  have HE := Lib.hid (And.intro e1 (And.intro e2 (And.intro e3 (And.intro e4 e5))))
  have hgw := hb.lt
  have hgn : g ≠ w.heap.size := by omega
  have K0 := Lib.hid ((hb.alloc (.cells #[.int .u8 0, .int .i32 0, .int .u64 0, .int .u64 0, .int .u64 0, .int .u64 0, .slice none 0 0, .slice none 0 0, .slice none 0 0, .slice none 0 0, .slice none 0 0, .slice none 0 0, .slice none 0 0] 192)).drew)
  have T0 := Lib.hid ((Blk.new w 192 #[.int .u8 0, .int .i32 0, .int .u64 0, .int .u64 0, .int .u64 0, .int .u64 0, .slice none 0 0, .slice none 0 0, .slice none 0 0, .slice none 0 0, .slice none 0 0, .slice none 0 0, .slice none 0 0]).drew)
  have F0 := Lib.hid (((Fr.refl (fun _ => False) w).alloc (.cells #[.int .u8 0, .int .i32 0, .int .u64 0, .int .u64 0, .int .u64 0, .int .u64 0, .slice none 0 0, .slice none 0 0, .slice none 0 0, .slice none 0 0, .slice none 0 0, .slice none 0 0, .slice none 0 0] 192)).drew)
  clear z1 z2 z3 z4 z5 e1 e2 e3 e4 e5 hb
  go_enter Tryz.func176, Tryz.ntmps176
  go_wp2_with fail
  obtain ⟨s0, s1, s2, s3, s4, s5, s6, s7, s8, s9, s10⟩ := cells11 K0.out
  go_region_held3 (fun w' => w'.cell? ⟨g, 0, none⟩ = some (.int .u8 hint.toNat) ∧ w'.cell? ⟨g, 1, none⟩ = some (.int .i32 schema) ∧ w'.cell? ⟨g, 2, none⟩ = some (.float .f64 thr) ∧ w'.cell? ⟨g, 3, none⟩ = some (.int .u64 zc) ∧ w'.cell? ⟨g, 4, none⟩ = some (.int .u64 cnt) ∧ w'.cell? ⟨g, 5, none⟩ = some (.float .f64 sum) ∧ w'.cell? ⟨g, 6, none⟩ = some (.slice A1 n1 c1) ∧ w'.cell? ⟨g, 7, none⟩ = some (.slice A2 n2 c2) ∧ w'.cell? ⟨g, 8, none⟩ = some (.slice A3 n3 c3) ∧ w'.cell? ⟨g, 9, none⟩ = some (.slice A4 n4 c4) ∧ w'.cell? ⟨g, 10, none⟩ = some (.slice A5 n5 c5))
    ((first | exact cells11 K6.out | exact cells11 K5.out | exact cells11 K4.out | exact cells11 K3.out | exact cells11 K2.out | exact cells11 K1.out | exact cells11 K0.out | go_keep))
    ((first
      | (go_at_call 73; refine (bitsOf_any _ _).mono ?_; rintro r w' ⟨rfl, rfl⟩)
      | (go_at_call 237; refine (HT.out w1 F1.out).mono ?_; rintro r2 w2 ⟨v2, rfl, hown2, hf2⟩; obtain ⟨B2, d2, rfl⟩ := own_slice' hown2; have F2 := Lib.hid (F1.out.same hf2); have K2 := Lib.hid (K1.out.fr hf2 (fun e => e)); have T2 := Lib.hid (T1.out.fr hf2 (fun e => e)); have P2 := Lib.hid (own_mono hown2 F1.out.size); have G2 := Lib.hid hf2; clear hown2 hf2)
      | (go_at_call 237; refine (HS.out _ F0.out).mono ?_; rintro r1 w1 ⟨v1, rfl, hown1, hf1⟩; obtain ⟨B1, d1, rfl⟩ := own_slice' hown1; have F1 := Lib.hid (F0.out.same hf1); have K1 := Lib.hid (K0.out.fr hf1 (fun e => e)); have T1 := Lib.hid (T0.out.fr hf1 (fun e => e)); have P1 := Lib.hid (own_mono hown1 F0.out.size); clear hown1 hf1)
      | (refine step_append_src _ (by rfl) _ _ 189 189 (by rfl) w.heap.size 2 i2 _ 1 8 Tryz.underlying189 hi2 hy0 hy1 hy2 rfl (by decide) (.slice none 0 0) 0 [] (by rfl) (World.ownsRow_nil _ _ _ _) _ n4 (downs.flatMap i1) (by rfl) (HD.out w3 F3.out) (by unfold maxLen; omega) (by omega) F3.out.size ?_; intro v4 w4 hown4 hg4 hat4; rw [Nat.zero_add, List.nil_append] at hown4; obtain ⟨B4, d4, rfl⟩ := own_slice' hown4; have G4 := Lib.hid ((Fr.refl (fun _ => False) w3).nilgrown hg4); have F4 := Lib.hid (F3.out.nilgrown hg4); have K4 := Lib.hid (K3.out.fr G4.out (fun e => e)); have T4 := Lib.hid (T3.out.fr G4.out (fun e => e)); have P4 := Lib.hid hown4; clear hown4 hg4 hat4)
      | (refine step_append_src _ (by rfl) _ _ 189 189 (by rfl) w.heap.size 2 i2 _ 1 8 Tryz.underlying189 hi2 hy0 hy1 hy2 rfl (by decide) (.slice none 0 0) 0 [] (by rfl) (World.ownsRow_nil _ _ _ _) _ n3 (ups.flatMap i1) (by rfl) (HU.out w2 F2.out) (by unfold maxLen; omega) (by omega) F2.out.size ?_; intro v3 w3 hown3 hg3 hat3; rw [Nat.zero_add, List.nil_append] at hown3; obtain ⟨B3, d3, rfl⟩ := own_slice' hown3; have G3 := Lib.hid ((Fr.refl (fun _ => False) w2).nilgrown hg3); have F3 := Lib.hid (F2.out.nilgrown hg3); have K3 := Lib.hid (K2.out.fr G3.out (fun e => e)); have T3 := Lib.hid (T2.out.fr G3.out (fun e => e)); have P3 := Lib.hid hown3; clear hown3 hg3 hat3)
      | (go_at_call 238; refine (HZ.out w4 F4.out).mono ?_; rintro r5 w5 ⟨v5, rfl, hown5, hf5⟩; obtain ⟨B5, d5, rfl⟩ := own_slice' hown5; have F5 := Lib.hid (F4.out.same hf5); have K5 := Lib.hid (K4.out.fr hf5 (fun e => e)); have T5 := Lib.hid (T4.out.fr hf5 (fun e => e)); have P5 := Lib.hid (own_mono hown5 F4.out.size); have G5 := Lib.hid hf5; clear hown5 hf5; obtain ⟨W6, hq1, hq2, hq3, T6, G6⟩ := store13 T5.out (.int .u8 hint.toNat) (.int .i32 schema) (.int .u64 thr) (.int .u64 sum) (.int .u64 zc) (.int .u64 cnt) (.slice B1 n1 d1) (.slice B2 n2 d2) (.slice B3 n3 d3) (.slice B4 n4 d4) (.slice none 0 0) (.slice none 0 0) (.slice B5 n5 d5) (by simp [Value.oneCell']); have K6 := Lib.hid (K5.out.fr G6.out hgn); obtain ⟨V, hV⟩ : ∃ V, Value.agg #[.int .u8 hint.toNat, .int .i32 schema, .int .u64 thr, .int .u64 sum, .int .u64 zc, .int .u64 cnt, .slice B1 n1 d1, .slice B2 n2 d2, .slice B3 n3 d3, .slice B4 n4 d4, .slice none 0 0, .slice none 0 0, .slice B5 n5 d5] = V := ⟨_, rfl⟩; rw [hV] at hq1 hq3; have hc1 : V.cells = #[.int .u8 hint.toNat, .int .i32 schema, .int .u64 thr, .int .u64 sum, .int .u64 zc, .int .u64 cnt, .slice B1 n1 d1, .slice B2 n2 d2, .slice B3 n3 d3, .slice B4 n4 d4, .slice none 0 0, .slice none 0 0, .slice B5 n5 d5] := (by rw [← hV]; rfl); have hc2 : V.cells.size = 13 := (by rw [hc1]; rfl); rw [show [.int .u8 hint.toNat, .int .i32 schema, .int .u64 thr, .int .u64 sum, .int .u64 zc, .int .u64 cnt, .slice B1 n1 d1, .slice B2 n2 d2, .slice B3 n3 d3, .slice B4 n4 d4, .slice none 0 0, .slice none 0 0, .slice B5 n5 d5] = V.cells.toList by rw [hc1]] at hq2; simp only [Value.cells] at hc2 hq2; clear hc1)))
  have HV := Lib.hid hV
  clear hV hq1 hq3 hc2 s0 s1 s2 s3 s4 s5 s6 s7 s8 s9 s10
  obtain ⟨rfl, rfl, rfl, rfl, rfl⟩ := HE.out
  have m1 := own_fr P1.out (((G2.out.same G3.out).same G4.out).same G5.out) (fun _ _ e => e)
  have k1 := Lib.hid (own_fr m1 G6.out (fun g hg e => own_ne m1 T5.out (by decide) (by rw [hg, e])))
  clear m1
  have m2 := own_fr P2.out ((G3.out.same G4.out).same G5.out) (fun _ _ e => e)
  have k2 := Lib.hid (own_fr m2 G6.out (fun g hg e => own_ne m2 T5.out (by decide) (by rw [hg, e])))
  clear m2
  have m3 := own_fr P3.out (G4.out.same G5.out) (fun _ _ e => e)
  have k3 := Lib.hid (own_fr m3 G6.out (fun g hg e => own_ne m3 T5.out (by decide) (by rw [hg, e])))
  clear m3
  have m4 := own_fr P4.out G5.out (fun _ _ e => e)
  have k4 := Lib.hid (own_fr m4 G6.out (fun g hg e => own_ne m4 T5.out (by decide) (by rw [hg, e])))
  clear m4
  have m5 := P5.out
  have k5 := Lib.hid (own_fr m5 G6.out (fun g hg e => own_ne m5 T5.out (by decide) (by rw [hg, e])))
  clear m5
  go_wp2
  refine bodyPost_ret (results_cell_row (P := Tryz.prog) rfl _ _ w.heap.size 192 #[.int .u8 hint.toNat, .int .i32 schema, .int .u64 thr, .int .u64 sum, .int .u64 zc, .int .u64 cnt, .slice B1 pos.length d1, .slice B2 neg.length d2, .slice B3 ups.length d3, .slice B4 downs.length d4, .slice none 0 0, .slice none 0 0, .slice B5 cus.length d5] (0, 0) _ rfl T6.out Tryz.underlying192 rfl (by kernel_rfl)) rfl ?_
  refine ⟨⟨.slice B1 pos.length d1, .slice B2 neg.length d2, .slice B3 ups.length d3, .slice B4 downs.length d4, .slice none 0 0, .slice none 0 0, .slice B5 cus.length d5⟩, rfl, ⟨k1.out, k2.out, k3.out, k4.out, World.ownsRow_nil _ _ _ _, World.ownsRow_nil _ _ _ _, k5.out⟩, F5.out.trans G6.out (fun k hk e => by omega), ?_⟩
  intro u hu
  simp only [List.mem_cons, List.not_mem_nil, or_false] at hu
  rcases hu with rfl | rfl | rfl | rfl | rfl | rfl | rfl <;> exact ⟨_, _, _, rfl⟩


def UnFEnds (w : World) (h : Hst) (r : Ending) (w' : World) : Prop :=
  ∃ s, r = .returned (.agg (hic h s).toArray) ∧ OwnHs w.heap.size w' h s ∧ Fr (fun _ => False) w w' ∧ ∀ u ∈ [s.p, s.n, s.u, s.d, s.fu, s.fd, s.c], ∃ A m c, u = .slice A m c

set_option maxHeartbeats 8000000 in
set_option maxRecDepth 100000 in
theorem unbroken_any (P : Nat → Prop) (h : Hst) (v : Value) (w : World) (hr : RdF P w h v) (hl : h.few 1099511627776) :
    Calls Tryz.prog 179 #[v] w (UnFEnds w h.cutF) := by
  have mixed : Tryz.prog.follows .mixedOrders = true := by kernel_rfl
  obtain ⟨g, s, rfl, hPg, hb, z1, z2, z3, z4, z5⟩ := hr
  obtain ⟨l1, l2, l3, l4, l5, l6, l7⟩ := hl
  obtain ⟨hint, schema, thr, sum, zc, cnt, pos, neg, ups, downs, fups, fdowns, cus⟩ := h
  obtain ⟨sp, sn, su, sd, sc⟩ := s
  simp only [hcF] at hb z1 z2 z3 z4 z5 l1 l2 l3 l4 l5 l6 l7
  obtain ⟨A1, c1, rfl⟩ := z1.shape
  obtain ⟨A2, c2, rfl⟩ := z2.shape
  obtain ⟨A3, c3, rfl⟩ := z3.shape
  obtain ⟨A4, c4, rfl⟩ := z4.shape
  obtain ⟨A5, c5, rfl⟩ := z5.shape
  have HS := Lib.hid (fun (W : World) (hW : Fr (fun _ => False) w W) => unspans_any P _ pos W (z1.fr hW (fun _ _ e => e)) l1)
  have HT := Lib.hid (fun (W : World) (hW : Fr (fun _ => False) w W) => unspans_any P _ neg W (z2.fr hW (fun _ _ e => e)) l2)
  have HU := Lib.hid (fun (W : World) (hW : Fr (fun _ => False) w W) => bitsOfAll_any P _ fups W (z3.fr hW (fun _ _ e => e)) l5)
  have HD := Lib.hid (fun (W : World) (hW : Fr (fun _ => False) w W) => bitsOfAll_any P _ fdowns W (z4.fr hW (fun _ _ e => e)) l6)
  have HZ := Lib.hid (fun (W : World) (hW : Fr (fun _ => False) w W) => bitsOfAll_any P _ cus W (z5.fr hW (fun _ _ e => e)) l7)
  obtain ⟨n1, e1⟩ : ∃ n, pos.length = n := ⟨_, rfl⟩
  obtain ⟨n2, e2⟩ : ∃ n, neg.length = n := ⟨_, rfl⟩
  obtain ⟨n3, e3⟩ : ∃ n, fups.length = n := ⟨_, rfl⟩
  obtain ⟨n4, e4⟩ : ∃ n, fdowns.length = n := ⟨_, rfl⟩
  obtain ⟨n5, e5⟩ : ∃ n, cus.length = n := ⟨_, rfl⟩
  obtain ⟨i2, hi2, hy0, hy1, hy2⟩ := info_parts Tryz.info2
  rw [e1] at HS l1 hb
  rw [e2] at HT l2 hb
  rw [e3] at HU l5 hb
  rw [e4] at HD l6 hb
  rw [e5] at HZ l7 hb
  have HE := Lib.hid (And.intro e1 (And.intro e2 (And.intro e3 (And.intro e4 e5))))
  have hgw := hb.lt
  have hgn : g ≠ w.heap.size := by omega
  have K0 := Lib.hid ((hb.alloc (.cells #[.int .u8 0, .int .i32 0, .int .u64 0, .int .u64 0, .int .u64 0, .int .u64 0, .slice none 0 0, .slice none 0 0, .slice none 0 0, .slice none 0 0, .slice none 0 0, .slice none 0 0, .slice none 0 0] 192)).drew)
  have T0 := Lib.hid ((Blk.new w 192 #[.int .u8 0, .int .i32 0, .int .u64 0, .int .u64 0, .int .u64 0, .int .u64 0, .slice none 0 0, .slice none 0 0, .slice none 0 0, .slice none 0 0, .slice none 0 0, .slice none 0 0, .slice none 0 0]).drew)
  have F0 := Lib.hid (((Fr.refl (fun _ => False) w).alloc (.cells #[.int .u8 0, .int .i32 0, .int .u64 0, .int .u64 0, .int .u64 0, .int .u64 0, .slice none 0 0, .slice none 0 0, .slice none 0 0, .slice none 0 0, .slice none 0 0, .slice none 0 0, .slice none 0 0] 192)).drew)
  clear z1 z2 z3 z4 z5 e1 e2 e3 e4 e5 hb
  go_enter Tryz.func179, Tryz.ntmps179
  go_wp2_with fail
  obtain ⟨s0, s1, s2, s3, s4, s5, s6, s7, s8, s9, s10⟩ := cells11 K0.out
  go_region_held3 (fun w' => w'.cell? ⟨g, 0, none⟩ = some (.int .u8 hint.toNat) ∧ w'.cell? ⟨g, 1, none⟩ = some (.int .i32 schema) ∧ w'.cell? ⟨g, 2, none⟩ = some (.float .f64 thr) ∧ w'.cell? ⟨g, 3, none⟩ = some (.float .f64 zc) ∧ w'.cell? ⟨g, 4, none⟩ = some (.float .f64 cnt) ∧ w'.cell? ⟨g, 5, none⟩ = some (.float .f64 sum) ∧ w'.cell? ⟨g, 6, none⟩ = some (.slice A1 n1 c1) ∧ w'.cell? ⟨g, 7, none⟩ = some (.slice A2 n2 c2) ∧ w'.cell? ⟨g, 8, none⟩ = some (.slice A3 n3 c3) ∧ w'.cell? ⟨g, 9, none⟩ = some (.slice A4 n4 c4) ∧ w'.cell? ⟨g, 10, none⟩ = some (.slice A5 n5 c5))
    ((first | exact cells11 K6.out | exact cells11 K5.out | exact cells11 K4.out | exact cells11 K3.out | exact cells11 K2.out | exact cells11 K1.out | exact cells11 K0.out | go_keep))
    ((first
      | (go_at_call 73; refine (bitsOf_any _ _).mono ?_; rintro r w' ⟨rfl, rfl⟩)
      | (go_at_call 237; refine (HT.out w1 F1.out).mono ?_; rintro r2 w2 ⟨v2, rfl, hown2, hf2⟩; obtain ⟨B2, d2, rfl⟩ := own_slice' hown2; have F2 := Lib.hid (F1.out.same hf2); have K2 := Lib.hid (K1.out.fr hf2 (fun e => e)); have T2 := Lib.hid (T1.out.fr hf2 (fun e => e)); have P2 := Lib.hid (own_mono hown2 F1.out.size); have G2 := Lib.hid hf2; clear hown2 hf2)
      | (go_at_call 237; refine (HS.out _ F0.out).mono ?_; rintro r1 w1 ⟨v1, rfl, hown1, hf1⟩; obtain ⟨B1, d1, rfl⟩ := own_slice' hown1; have F1 := Lib.hid (F0.out.same hf1); have K1 := Lib.hid (K0.out.fr hf1 (fun e => e)); have T1 := Lib.hid (T0.out.fr hf1 (fun e => e)); have P1 := Lib.hid (own_mono hown1 F0.out.size); clear hown1 hf1)
      | (go_at_call 238; refine (HZ.out w4 F4.out).mono ?_; rintro r5 w5 ⟨v5, rfl, hown5, hf5⟩; obtain ⟨B5, d5, rfl⟩ := own_slice' hown5; have F5 := Lib.hid (F4.out.same hf5); have K5 := Lib.hid (K4.out.fr hf5 (fun e => e)); have T5 := Lib.hid (T4.out.fr hf5 (fun e => e)); have P5 := Lib.hid (own_mono hown5 F4.out.size); have G5 := Lib.hid hf5; clear hown5 hf5; obtain ⟨W6, hq1, hq2, hq3, T6, G6⟩ := store13 T5.out (.int .u8 hint.toNat) (.int .i32 schema) (.int .u64 thr) (.int .u64 sum) (.int .u64 zc) (.int .u64 cnt) (.slice B1 n1 d1) (.slice B2 n2 d2) (.slice none 0 0) (.slice none 0 0) (.slice B3 n3 d3) (.slice B4 n4 d4) (.slice B5 n5 d5) (by simp [Value.oneCell']); have K6 := Lib.hid (K5.out.fr G6.out hgn); obtain ⟨V, hV⟩ : ∃ V, Value.agg #[.int .u8 hint.toNat, .int .i32 schema, .int .u64 thr, .int .u64 sum, .int .u64 zc, .int .u64 cnt, .slice B1 n1 d1, .slice B2 n2 d2, .slice none 0 0, .slice none 0 0, .slice B3 n3 d3, .slice B4 n4 d4, .slice B5 n5 d5] = V := ⟨_, rfl⟩; rw [hV] at hq1 hq3; have hc1 : V.cells = #[.int .u8 hint.toNat, .int .i32 schema, .int .u64 thr, .int .u64 sum, .int .u64 zc, .int .u64 cnt, .slice B1 n1 d1, .slice B2 n2 d2, .slice none 0 0, .slice none 0 0, .slice B3 n3 d3, .slice B4 n4 d4, .slice B5 n5 d5] := (by rw [← hV]; rfl); have hc2 : V.cells.size = 13 := (by rw [hc1]; rfl); rw [show [.int .u8 hint.toNat, .int .i32 schema, .int .u64 thr, .int .u64 sum, .int .u64 zc, .int .u64 cnt, .slice B1 n1 d1, .slice B2 n2 d2, .slice none 0 0, .slice none 0 0, .slice B3 n3 d3, .slice B4 n4 d4, .slice B5 n5 d5] = V.cells.toList by rw [hc1]] at hq2; simp only [Value.cells] at hc2 hq2; clear hc1)
      | (go_at_call 238; refine (HD.out w3 F3.out).mono ?_; rintro r4 w4 ⟨v4, rfl, hown4, hf4⟩; obtain ⟨B4, d4, rfl⟩ := own_slice' hown4; have F4 := Lib.hid (F3.out.same hf4); have K4 := Lib.hid (K3.out.fr hf4 (fun e => e)); have T4 := Lib.hid (T3.out.fr hf4 (fun e => e)); have P4 := Lib.hid (own_mono hown4 F3.out.size); have G4 := Lib.hid hf4; clear hown4 hf4)
      | (go_at_call 238; refine (HU.out w2 F2.out).mono ?_; rintro r3 w3 ⟨v3, rfl, hown3, hf3⟩; obtain ⟨B3, d3, rfl⟩ := own_slice' hown3; have F3 := Lib.hid (F2.out.same hf3); have K3 := Lib.hid (K2.out.fr hf3 (fun e => e)); have T3 := Lib.hid (T2.out.fr hf3 (fun e => e)); have P3 := Lib.hid (own_mono hown3 F2.out.size); have G3 := Lib.hid hf3; clear hown3 hf3)))
  have HV := Lib.hid hV
  clear hV hq1 hq3 hc2 s0 s1 s2 s3 s4 s5 s6 s7 s8 s9 s10
  obtain ⟨rfl, rfl, rfl, rfl, rfl⟩ := HE.out
  have m1 := own_fr P1.out (((G2.out.same G3.out).same G4.out).same G5.out) (fun _ _ e => e)
  have k1 := Lib.hid (own_fr m1 G6.out (fun g hg e => own_ne m1 T5.out (by decide) (by rw [hg, e])))
  clear m1
  have m2 := own_fr P2.out ((G3.out.same G4.out).same G5.out) (fun _ _ e => e)
  have k2 := Lib.hid (own_fr m2 G6.out (fun g hg e => own_ne m2 T5.out (by decide) (by rw [hg, e])))
  clear m2
  have m3 := own_fr P3.out (G4.out.same G5.out) (fun _ _ e => e)
  have k3 := Lib.hid (own_fr m3 G6.out (fun g hg e => own_ne m3 T5.out (by decide) (by rw [hg, e])))
  clear m3
  have m4 := own_fr P4.out G5.out (fun _ _ e => e)
  have k4 := Lib.hid (own_fr m4 G6.out (fun g hg e => own_ne m4 T5.out (by decide) (by rw [hg, e])))
  clear m4
  have m5 := P5.out
  have k5 := Lib.hid (own_fr m5 G6.out (fun g hg e => own_ne m5 T5.out (by decide) (by rw [hg, e])))
  clear m5
  go_wp2
  refine bodyPost_ret (results_cell_row (P := Tryz.prog) rfl _ _ w.heap.size 192 #[.int .u8 hint.toNat, .int .i32 schema, .int .u64 thr, .int .u64 sum, .int .u64 zc, .int .u64 cnt, .slice B1 pos.length d1, .slice B2 neg.length d2, .slice none 0 0, .slice none 0 0, .slice B3 fups.length d3, .slice B4 fdowns.length d4, .slice B5 cus.length d5] (0, 0) _ rfl T6.out Tryz.underlying192 rfl (by kernel_rfl)) rfl ?_
  refine ⟨⟨.slice B1 pos.length d1, .slice B2 neg.length d2, .slice none 0 0, .slice none 0 0, .slice B3 fups.length d3, .slice B4 fdowns.length d4, .slice B5 cus.length d5⟩, rfl, ⟨k1.out, k2.out, World.ownsRow_nil _ _ _ _, World.ownsRow_nil _ _ _ _, k3.out, k4.out, k5.out⟩, F5.out.trans G6.out (fun k hk e => by omega), ?_⟩
  intro u hu
  simp only [List.mem_cons, List.not_mem_nil, or_false] at hu
  rcases hu with rfl | rfl | rfl | rfl | rfl | rfl | rfl <;> exact ⟨_, _, _, rfl⟩

end Go.Proofs.YtbkookiigkckdaaGreatDoor

