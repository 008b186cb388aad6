/- Merged. -/
import Derived.Test.YtbkookiigkckdaaGreatDoorKD33
set_option linter.unusedVariables false
set_option linter.unusedSimpArgs false
set_option maxRecDepth 100000
set_option maxHeartbeats 8000000
namespace Go.Proofs.YtbkookiigkckdaaGreatDoor
open Go Go.ChangeShapes Go.WideShapes Go.ChangeAt Go.RowKit Go.Proofs.Tryz
theorem beh_walk (te : TypeId) (pe : Value) (P Pu Py : Nat -> Prop) (eS : Nat) (hc : eS <= 255) (q u : Prt) (s0 s1 s2 s3 s4 s5 s6 t0 t1 t2 t3 t4 t5 t6 yv : Value) (ys : List UInt8) (w : World) (hq : q.At P w s0 s1 s2 s3 s4 s5 s6) (hw : q.Wide)
 (hu : u.At Pu w t0 t1 t2 t3 t4 t5 t6) (hwu : u.Wide) (hY : Sl Py w yv 1 ys.length (bc ys)) (hE : w.cell? ⟨2, 0, none⟩ = some (.iface te pe)) :
 Calls prog 9 #[.int .u8 eS, .agg #[s0, s1, s2, s3, s4, s5, s6], .agg #[t0, t1, t2, t3, t4, t5, t6], yv] w (zap w) := by
 have nf : ∀ {S : Nat -> Prop} (g : Nat), S g -> ¬ False := fun _ _ e => e; obtain ⟨A0, c0, rfl⟩ := hq.ser.1.shape; obtain ⟨A1, c1, rfl⟩ := hq.smp.shape; obtain ⟨A2, c2, rfl⟩ := hq.sto.1.shape; obtain ⟨A3, c3, rfl⟩ := hq.exm.1.shape; obtain ⟨A4, c4, rfl⟩ := hq.mta.shape; obtain ⟨A5, c5, rfl⟩ := hq.mrk.shape; obtain ⟨A6, c6, rfl⟩ := hq.his.1.shape; obtain ⟨B0, d0, rfl⟩ := hu.ser.1.shape
 obtain ⟨B1, d1, rfl⟩ := hu.smp.shape; obtain ⟨B2, d2, rfl⟩ := hu.sto.1.shape; obtain ⟨B3, d3, rfl⟩ := hu.exm.1.shape; obtain ⟨B4, d4, rfl⟩ := hu.mta.shape; obtain ⟨B5, d5, rfl⟩ := hu.mrk.shape; obtain ⟨B6, d6, rfl⟩ := hu.his.1.shape; obtain ⟨Y, yc, rfl⟩ := hY.shape; obtain ⟨k, hk⟩ := exE (1 + eS % 10); have hK : K10 k := by unfold K10; omega
 exact beh_kind k eS (by omega) (by omega) (Rt k q) (Rt k u) q.Fits u.Fits _ _ _ _ _ _ _ _ _ _ _ _ _ _ Y _ _ _ _ _ _ _ _ _ _ _ _ _ _ _ _ _ _ _ _ _ _ _ _ _ _ _ _ yc w te pe (rd10 k u q) (wrD k q.dat) (u.dat.cat (wrD k q.dat)) (enc10 k q) ys Py hE hY
  (fun W hF => zhx P q _ _ _ _ _ _ _ W (hq.fr hF nf) hw) (fun W hF => zhx Pu u _ _ _ _ _ _ _ W (hu.fr hF nf) hwu)
  (fun hf W hF => ziG hK (hq.fr hF nf) hf) (fun hf W hF => ziG hK (hu.fr hF nf) hf)
  (fun hp aX h2 W P' A n c hF hb => read_all hK aX hw hp h2 te pe _ _ _ _ _ _ _ _ P' Pu W hb (hu.fr hF nf) (by rw [hF.cell (p := ⟨2, 0, none⟩) (zmo w _ hE) id]; exact hE))
  (fun hp W hF => ziu hK (hq.fr hF nf) (nil_sl P W) (zms _) hw hp)
  (fun hp hy W hF => ziu hK (hq.fr hF nf) (hY.fr hF nf) hy hw hp)
  (fun hp W hF => by
    have h12 := ziF hK hp; unfold Prt.sum at h12
    exact zjx k hK q _ _ _ _ _ _ _ W (hq.fr hF nf).yes (by omega) (zgg hK hp).sto (by omega))
  (fun hp aX W ts hF hR => behind_rp u _ _ _ _ _ _ _ _ ts W (hu.fr hF nf).yes hR (wrD_few (ziF hK aX) (ziF hK hp) (zgg hK hp).sto))
  (fun hp aX h2 W ps qs r1 r2 => let ⟨a, b, c⟩ := same_all hK aX hp h2; zhT r1 r2 a b c)
theorem behind_lifted (os : Os) (kJ : os.Started) (H : Type) (enc : TypeId × Value -> H) :
 ReturnsInHanded {} checked os 9 .any (fun w args => (Rows.fnRecordBehindSpec.pre enc prog f9 [] false w args /\ laidMetH prog Rows.fnRecordBehindRow.laid w) /\ sizedMet enc prog f9 (OpenSpec.ofChange Rows.fnRecordBehindSpec) false w args)
  (Rows.fnRecordBehindSpec.post enc prog f9 false true false false) := by
 refine returnsInHanded_of_change_and (C := checked) (X := fun w _ => laidMetH prog Rows.fnRecordBehindRow.laid w) (fun _ _ _ hh h => h.of_heap hh) ownKnobs kJ (by kernel_rfl) func9
  (ChangeSpec.witness_shaped (enc := enc) (C := checked) (os := os) (X := fun w _ => laidMetH prog Rows.fnRecordBehindRow.laid w) false (World.doorLaid prog 400 os) #[.int .u8 0, .agg #[.slice none 0 0, .slice none 0 0, .slice none 0 0, .slice none 0 0, .slice none 0 0, .slice none 0 0, .slice none 0 0], .agg #[.slice none 0 0, .slice none 0 0, .slice none 0 0, .slice none 0 0, .slice none 0 0, .slice none 0 0, .slice none 0 0], .slice none 0 0] 8 rfl (World.shaped_of_RefB (by kernel_rfl) (by kernel_rfl)) (by kernel_rfl) (by kernel_rfl) (by kernel_rfl) (door_met os _)) ?_
 intro W base args ds gs before mb hW _ _ hL _; have jp : ∀ (j : Nat) t v, f9.params[j]? = some t -> args[j]? = some v -> Value.okWide prog W .any base t v := mb; have hW' := hW; obtain ⟨p, q, hA0, hV, rfl, hfz, hnd⟩ := hW; have hA : DataW.TrodAll enc prog W 0 (fun _ => true) true f9.params.toList args.toList ds p := hA0; rw [params9] at hA jp
 obtain ⟨v0, vs0, d0, ds0, p0, q0, hargs, rfl, rfl, h0, r0⟩ := trodAll_cons hA; obtain ⟨v1, vs1, d1, ds1, p1, q1, rfl, rfl, rfl, h1, r1⟩ := trodAll_cons r0; obtain ⟨v2, vs2, d2, ds2, p2, q2, rfl, rfl, rfl, h2, r2⟩ := trodAll_cons r1; obtain ⟨v3, vs3, d3, ds3, p3, q3, rfl, rfl, rfl, h3, r3⟩ := trodAll_cons r2; obtain ⟨rfl, rfl, rfl⟩ := trodAll_nil r3
 obtain rfl : args = #[v0, v1, v2, v3] := by cases args; simp_all
 obtain ⟨rfl, rfl⟩ := trodVars_none hV; obtain ⟨k, rfl, rfl, rfl, wk⟩ := open_int underlying5 (jp 0 5 v0 rfl rfl) h0; obtain ⟨cs, rfl, bD⟩ := okWide_struct underlying54 (jp 1 54 v1 rfl rfl); obtain ⟨cs2, rfl, kU⟩ := okWide_struct underlying54 (jp 2 54 v2 rfl rfl); obtain ⟨A, len, aK, rfl⟩ := okWide_slice underlying44 (jp 3 44 v3 rfl rfl); have k1 := h1; have k2 := h2
 have k3 := h3; have lt1 : ∀ x ∈ p1, x.block < W.heap.size := by obtain ⟨m, hm⟩ := k1; exact DataW.trod_lt m _ _ _ hm
 have lt2 : ∀ x ∈ p2, x.block < W.heap.size := by obtain ⟨m, hm⟩ := k2; exact DataW.trod_lt m _ _ _ hm
 have lt3 : ∀ x ∈ p3, x.block < W.heap.size := by obtain ⟨m, hm⟩ := k3; exact DataW.trod_lt m _ _ _ hm
 obtain ⟨qq, s0, s1, s2, s3, s4, s5, s6, rfl, hq, hw⟩ := zkJ h1 (bD.trans (by kernel_rfl)); obtain ⟨uu, t0, t1, t2, t3, t4, t5, t6, rfl, hu, hwu⟩ := zkJ h2 (kU.trans (by kernel_rfl)); obtain ⟨xs, hS⟩ := bytes_in h3; obtain ⟨te, pe, hE⟩ := errCell hL; have hk0 := u8_wf wk; obtain ⟨m, rfl⟩ : ∃ m : Nat, k = m := ⟨k.toNat, by omega⟩; clear hA0 mb
 refine (beh_walk te pe _ _ _ m (by omega) qq uu s0 s1 s2 s3 s4 s5 s6 t0 t1 t2 t3 t4 t5 t6 (.slice A len aK) xs W hq hw hu hwu hS hE).mono fun e W' ⟨he, hf⟩ => ?_; subst he; have hB := hf.none_toBelow
 exact ⟨_, rfl, _, _, _, [], _, [], hW', trodAll_mk1 (shut_bool underlying4 _), (trodAll_cons_mk (shut_int underlying5 wk) (trodAll_cons_mk (Below.trod zfd (by kernel_rfl) (of_decide_eq_true (by kernel_rfl)) k1 hB lt1) (trodAll_cons_mk (Below.trod zfd (by kernel_rfl) (of_decide_eq_true (by kernel_rfl)) k2 hB lt2) (trodAll_cons_mk (Below.trod zfd (by kernel_rfl) (of_decide_eq_true (by kernel_rfl)) k3 hB lt3) trodAll_mk0)))), rfl, hB.frame _, fun h => by cases h⟩
end Go.Proofs.YtbkookiigkckdaaGreatDoor
