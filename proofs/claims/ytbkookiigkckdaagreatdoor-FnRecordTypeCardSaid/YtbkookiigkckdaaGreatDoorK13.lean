/- Texts of this seat, merged: Nx, Lg, Ne, Np, Nq, Wx, Iv, St, Pr, Pz, Fk. -/
import Derived.Test.YtbkookiigkckdaaGreatDoorK12
import Derived.Test.YtbkookiigkckdaaGreatDoorK09
import Derived.Test.YtbkookiigkckdaaGreatDoorK10
import Derived.Test.YtbkookiigkckdaaGreatDoorK08
import Derived.Test.YtbkookiigkckdaaGreatDoorK05
import Derived.Test.YtbkookiigkckdaaGreatDoorK06
import Derived.Test.YtbkookiigkckdaaGreatDoorK11
/- Exemplars: impl.refExemplars 78. Printed off Ns. -/
namespace Go.Proofs.YtbkookiigkckdaaGreatDoor
open Go.RowKit
set_option linter.unusedVariables false
set_option linter.unusedSimpArgs false

/-- A part of a record of exemplars. -/
structure Exm where
  ref : Nat
  t : Int
  v : Nat
  labs : List Lab
def exc (p : Exm × Value) : List Value := [.int .u64 p.1.ref, .int .i64 p.1.t, .int .u64 p.1.v, p.2]
/-- A slice that reads as exemplars. -/
def SlX (P : Nat → Prop) (w : World) (v : Value) (lv : List (Exm × Value)) : Prop :=
  Sl P w v 4 lv.length (lv.flatMap exc) ∧ ∀ p ∈ lv, Sl P w p.2 2 p.1.labs.length (p.1.labs.flatMap labc)
theorem SlX.fr {P S : Nat → Prop} {w w' : World} {v : Value} {lv : List (Exm × Value)} (h : SlX P w v lv) (hf : Fr S w w') (hs : ∀ g, P g → ¬ S g) : SlX P w' v lv :=
  ⟨h.1.fr hf hs, fun p hp => (h.2 p hp).fr hf hs⟩
def exo (x : Exm) : List Value := [.int .u64 x.ref, .int .i64 x.t, .float .f64 x.v, .string (labStr (sortL x.labs))]
theorem Tryz.info157 : (Tryz.prog.info? 157).map (fun i => (i.zero, i.size, i.bytes)) = some (some (.agg #[.int .u64 0, .int .i64 0, .float .f64 0, .string ⟨#[]⟩]), 4, 40) := by kernel_rfl

def RefExemplarsEnds (w : World) (l : List Exm) (r : Ending) (w' : World) : Prop :=
  ∃ v, r = .returned v ∧ w'.ownsRow w.heap.size 157 4 v l.length (l.flatMap exo) ∧ Fr (fun _ => False) w w'

set_option maxHeartbeats 4000000 in
set_option maxRecDepth 100000 in
theorem refExemplars_any (P : Nat → Prop) (v : Value) (lv : List (Exm × Value)) (w : World) (h : SlX P w v lv) (hl : lv.length ≤ 1099511627776) (hil : ∀ p ∈ lv, LabOk p.1.labs 12 600) :
    Calls Tryz.prog 78 #[v] w (RefExemplarsEnds w (lv.map Prod.fst)) := by
  have mixed : Tryz.prog.follows .mixedOrders = true := by kernel_rfl
  obtain ⟨⟨A, c, rfl, hlen, hnc, hr⟩, hin⟩ := h
  obtain ⟨n, hn⟩ : ∃ n, lv.length = n := ⟨_, rfl⟩
  rw [hn] at hr hnc hl ⊢
  have HN := Lib.hid hn
  have HR := Lib.hid hr
  have HI := Lib.hid hin
  have HIL := Lib.hid hil
  obtain ⟨i0, hi0, hz0, hz1, hz2⟩ := info_parts Tryz.info157
  clear hn hr hlen hin hil
  go_enter Tryz.func78, Tryz.ntmps78
  go_wp2
  go_loopw [2, 7] (fun v i wr => ∃ k : Nat, k ≤ n ∧ i = .int .i64 k ∧ Hid (wr.ownsRow w.heap.size 157 4 v k (((lv.map Prod.fst).take k).flatMap exo)) ∧ Hid (Fr (fun _ => False) w wr)) (fun _ i _ => n - (intOf i).toNat)
  case atStart => exact ⟨0, Nat.zero_le _, rfl, Lib.hid (World.ownsRow_nil _ _ _ _), Lib.hid (Fr.refl _ _)⟩
  case round =>
    obtain ⟨k, hk, rfl, HO, HF⟩ := hrel
    by_cases hlt : k < n
    · obtain ⟨g, off, rfl, _, hcell⟩ := HR.out (by omega)
      obtain ⟨x, hx⟩ : ∃ x, lv[k]? = some x := ⟨_, List.getElem?_eq_getElem (by rw [HN.out]; exact hlt)⟩
      have cc : ∀ j, j < 4 → ∀ u, (exc x)[j]? = some u → wr.cell? ⟨g, off + (k * 4 + j), none⟩ = some u := fun j hj u hu => by
        have := hcell (k * 4 + j) u (by rw [flat4 exc (fun _ => rfl) lv k x hx j hj]; exact hu)
        rw [HF.out.cell (p := ⟨g, off + (k * 4 + j), none⟩) (World.block_lt_of_cell? w _ this) (fun e => e)]
        exact this
      have c0 : wr.cell? ⟨g, off + k * 4, none⟩ = some (.int .u64 x.1.ref) := cc 0 (by omega) _ rfl
      have c1 : wr.cell? ⟨g, off + k * 4 + 1, none⟩ = some (.int .i64 x.1.t) := cc 1 (by omega) _ rfl
      have c2 : wr.cell? ⟨g, off + k * 4 + 2, none⟩ = some (.int .u64 x.1.v) := cc 2 (by omega) _ rfl
      have c3 : wr.cell? ⟨g, off + k * 4 + 3, none⟩ = some x.2 := cc 3 (by omega) _ rfl
      have hxm := List.mem_of_getElem? hx
      have hiv := HI.out x hxm
      have hivl := HIL.out x hxm
      have hxf : (lv.map Prod.fst)[k]? = some x.1 := by rw [List.getElem?_map, hx]; rfl
      obtain ⟨⟨ref, t, vv, labs⟩, iv⟩ := x
      simp only [] at c0 c1 c2 c3 hiv hivl hxf
      have hiv1 : ∃ A m c, iv = .slice A m c := let ⟨A, c, h, _⟩ := hiv; ⟨A, _, c, h⟩
      obtain ⟨Ai, mi, ci, rfl⟩ := hiv1
      have HX := Lib.hid hxf
      obtain ⟨a', n', k', rfl⟩ := own_slice HO.out
      clear hcell cc hx hxm hxf
      go_wp2_with fail
      have hB8 := Blk.new wr 159 #[.int .u64 ref, .int .i64 t, .int .u64 vv, .slice Ai mi ci]
      have s0 := hB8.cell 0
      have s1 := hB8.cell 1
      have s2 := hB8.cell 2
      have s3 := hB8.cell 3
      simp only [List.getElem?_toArray, List.getElem?_cons_zero, List.getElem?_cons_succ] at s0 s1 s2 s3
      have hsz := HF.out.size
      have HB8 := Lib.hid hB8
      have hC := made_ok P (.slice Ai mi ci) labs (wr.alloc (.cells #[.int .u64 ref, .int .i64 t, .int .u64 vv, .slice Ai mi ci] 159)).drew (hiv.fr (HF.out.alloc _).drew (fun _ _ e => e)) hivl
      obtain ⟨st, hst⟩ : ∃ st, labStr (sortL labs) = st := ⟨_, rfl⟩
      rw [hst] at hC
      have HST := Lib.hid hst
      clear hB8 hiv hst hivl
      have hwz : (wr.alloc (.cells #[.int .u64 ref, .int .i64 t, .int .u64 vv, .slice Ai mi ci] 159)).drew.heap.size = wr.heap.size + 1 := by simp
      go_region_held3 (fun w' => w'.cell? ⟨wr.heap.size, 0, none⟩ = some (.int .u64 ref) ∧ w'.cell? ⟨wr.heap.size, 1, none⟩ = some (.int .i64 t) ∧ w'.cell? ⟨wr.heap.size, 2, none⟩ = some (.int .u64 vv) ∧ w'.cell? ⟨wr.heap.size, 3, none⟩ = some (.slice Ai mi ci))
        ((first | (go_split_ands; refine ⟨?_, ?_, ?_, ?_⟩ <;> first | exact KX9.out.cell 0 | exact KX9.out.cell 1 | exact KX9.out.cell 2 | exact KX9.out.cell 3) | (go_split_ands; refine ⟨?_, ?_, ?_, ?_⟩ <;> first | exact (KX5.out.alloc _).cell 0 | exact (KX5.out.alloc _).cell 1 | exact (KX5.out.alloc _).cell 2 | exact (KX5.out.alloc _).cell 3) | (go_split_ands; refine ⟨?_, ?_, ?_, ?_⟩ <;> first | exact KX5.out.cell 0 | exact KX5.out.cell 1 | exact KX5.out.cell 2 | exact KX5.out.cell 3) | go_keep))
        ((first
          | (go_at_call 167; refine (float_any _ _).mono ?_; rintro r w' ⟨rfl, rfl⟩)
          | (go_at_call 54; refine hC.mono ?_; rintro r5 w5 ⟨rfl, hf5⟩; have KX5 := Lib.hid (HB8.out.drew.fr hf5 (fun e => e)); have F5 := Lib.hid (((Fr.refl (fun _ => False) wr).alloc (.cells #[.int .u64 ref, .int .i64 t, .int .u64 vv, .slice Ai mi ci] 159)).drew.same hf5); have O5 := Lib.hid (own_fr HO.out F5.out (fun _ _ e => e)); have hz5 := F5.out.size)
          | (refine step_append_src _ (by rfl) _ _ 152 152 (by rfl) w.heap.size 157 i0 _ 4 40 Tryz.underlying152 hi0 hz0 hz1 hz2 rfl (by decide) (.slice a' n' k') k (((lv.map Prod.fst).take k).flatMap exo) (by rfl) (O5.out.alloc _) _ 1 [.int .u64 ref, .int .i64 t, .float .f64 vv, .string st] (by rfl) (src_blk Tryz.underlying152 (Blk.new w5 157 #[.int .u64 ref, .int .i64 t, .float .f64 vv, .string st]) rfl (by simp [Value.oneCell'])) (by unfold maxLen; omega) (by omega) (by simp; omega) ?_; intro v' w2 hown' hgrow hat; have KX9 := Lib.hid ((KX5.out.alloc (.cells #[.int .u64 ref, .int .i64 t, .float .f64 vv, .string st] 157)).grown hgrow (fun e => Nat.lt_irrefl _ (own_lt HO.out e.symm))))))
      have NO : Hid (w2.ownsRow w.heap.size 157 4 v' (k + 1) (((lv.map Prod.fst).take (k + 1)).flatMap exo)) := Lib.hid (by
        rw [flatMap_take_succ exo _ k _ HX.out]
        unfold exo
        rw [HST.out]
        exact hown')
      have NF : Hid (Fr (fun _ => False) w w2) := Lib.hid (((HF.out.same F5.out).alloc _).grown hgrow (fun g hg => .inr ((HO.out.lt g hg).1)))
      clear hown' hgrow hat c0 c1 c2 c3 s0 s1 s2 s3 hC hf5 KX9 O5
      go_wp2
      go_roundw
      case rel => exact ⟨k + 1, by omega, by go_num, NO, NF⟩
      case measure => simp [intOf]; omega
    · go_wp2
      go_ret
      obtain rfl : k = n := by omega
      have h := HO.out
      have e : (lv.map Prod.fst).take k = lv.map Prod.fst := List.take_of_length_le (by rw [List.length_map, HN.out]; exact Nat.le_refl _)
      rw [e] at h
      refine ⟨_, rfl, ?_, HF.out⟩
      rw [List.length_map, HN.out]
      exact h
end Go.Proofs.YtbkookiigkckdaaGreatDoor

/- labels.Len; record.EncodeLabels. -/
namespace Go.Proofs.YtbkookiigkckdaaGreatDoor
open Go.RowKit
set_option linter.unusedVariables false
set_option linter.unusedSimpArgs false

theorem labs_len (l : List Lab) : l.length ≤ labsSize l := by
  induction l with
  | nil => simp
  | cons x l ih =>
    show l.length + 1 ≤ labSize x + labsSize l
    have : 1 ≤ labSize x := by unfold labSize lenSize; split <;> omega
    omega

set_option maxRecDepth 100000 in
set_option maxHeartbeats 2000000 in
theorem len_any (l : List Lab) (w : World) (hs : ∀ p ∈ l, p.1.size < 16777216 ∧ p.2.size < 16777216) (hsz : labsSize l ≤ 1099511627776) :
    Calls Tryz.prog 55 #[.agg #[.string (labStr l)]] w fun r w' => r = .returned (.int .i64 l.length) ∧ Fr (fun _ => False) w w' := by
  have hss : (labStr l).size ≤ 1099511627776 := by rw [labStr_size]; exact hsz
  have hll := labs_len l
  have hd0 : (labStr l).data.toList.drop 0 = labsBytes (l.drop 0) := by simp [labStr]
  have F1 : Fr (fun _ => False) w (w.alloc (.cells #[.string (labStr l)] 99)) := (Fr.refl _ w).alloc _
  have B1 : Blk (w.alloc (.cells #[.string (labStr l)] 99)) w.heap.size 99 #[.string (labStr l)] := Blk.new w 99 _
  generalize hS : labStr l = s at *
  have HS := Lib.hid hs
  have HF1 := Lib.hid F1
  have HB1 := Lib.hid B1
  have HD0 := Lib.hid hd0
  clear hs F1 B1 hd0 hS
  go_enter Tryz.func55, Tryz.ntmps55
  go_wp2
  go_loopw [3, 4] (fun vc vi wr => ∃ (i k : Nat), vc = .int .i64 k ∧ vi = .int .i64 i ∧ k ≤ l.length ∧ i ≤ s.size ∧ Hid (s.data.toList.drop i = labsBytes (l.drop k)) ∧ Hid (Fr (fun _ => False) w wr) ∧ Hid (Blk wr w.heap.size 99 #[.string s])) (fun _ vi _ => s.size - (intOf vi).toNat)
  case atStart => exact ⟨0, 0, rfl, rfl, Nat.zero_le _, Nat.zero_le _, HD0, HF1, HB1⟩
  case round =>
    obtain ⟨i, k, rfl, rfl, hk, hi, HD, HF, HB⟩ := hrel
    have c0 : wr.cell? ⟨w.heap.size, 0, none⟩ = some (.string s) := HB.out.cell 0
    by_cases hlt : k < l.length
    · obtain ⟨x, hx⟩ : ∃ x, l[k]? = some x := ⟨_, List.getElem?_eq_getElem hlt⟩
      have hxs := HS.out x (List.mem_of_getElem? hx)
      have hD : s.data.toList.drop i = lenBytes x.1.size ++ (x.1.data.toList ++ (lenBytes x.2.size ++ (x.2.data.toList ++ labsBytes (l.drop (k + 1))))) := by
        rw [HD.out, labsBytes_drop l k x hx]
        simp [labBytes]
      have q1 := fun W => decodeSize_any s i x.1.size _ hxs.1 (by omega) hD W
      have d1 := drop_le hD hi
      have h2 := drop_more hD
      have d2 := drop_le h2 d1
      have h3 := drop_more h2
      have e1 : x.1.data.toList.length = x.1.size := by rw [← Lib.size_eq]
      rw [lenBytes_len] at h3 d2
      rw [lenBytes_len] at h2
      rw [e1] at h3 d2
      obtain ⟨i1, hi1⟩ : ∃ i1, i + lenSize x.1.size = i1 := ⟨_, rfl⟩
      rw [hi1] at h3 d2
      simp only [hi1] at q1
      have q2 := fun W => decodeSize_any s (i1 + x.1.size) x.2.size _ hxs.2 (by omega) h3 W
      have d3 := drop_le h3 d2
      have h4 := drop_more h3
      have d4 := drop_le h4 d3
      have h5 := drop_more h4
      have e2 : x.2.data.toList.length = x.2.size := by rw [← Lib.size_eq]
      rw [lenBytes_len, e2] at h5 d4
      obtain ⟨i3, hi3⟩ : ∃ i3, i1 + x.1.size + lenSize x.2.size = i3 := ⟨_, rfl⟩
      rw [hi3] at h5 d4
      simp only [hi3] at q2
      have hpos : 0 < lenSize x.1.size := by unfold lenSize; split <;> omega
      have hlt1 : i < s.size := by omega
      have hgo : i < i3 + x.2.size := by omega
      have H5 := Lib.hid h5
      have HX := Lib.hid hx
      generalize x.1.size = n1 at *
      generalize x.2.size = n2 at *
      clear hD d1 h2 h3 d3 h4 h5 e1 e2 hx hi3 hi1 hxs hpos
      have q2' : ∀ W, Calls Tryz.prog 150 #[.string s, .int .i64 ((i1 : Int) + n1)] W fun e w' => e = .returned (.tuple #[.int .i64 n2, .int .i64 (i3 : Nat)]) ∧ Fr (fun _ => False) W w' := q2
      clear q2
      go_wp2_with (first
        | (go_at_call_of 150 (Value.int .i64 (i : Int)); refine (q1 _).mono ?_; rintro r w1 ⟨rfl, hf1⟩; have HB2 := Lib.hid (HB.out.fr hf1 (fun e => e)); have c1 := HB2.out.cell 0)
        | (go_at_call 150; refine (q2' _).mono ?_; rintro r w2 ⟨rfl, hf2⟩; have HB3 := Lib.hid (HB2.out.fr hf2 (fun e => e))))
      exact ⟨⟨i3 + n2, k + 1, rfl, rfl, hlt, d4, H5, Lib.hid ((HF.out.same hf1).same hf2), HB3⟩, by show s.size - ((i3 : Int) + n2).toNat < s.size - ((i : Int)).toNat; omega⟩
    · obtain rfl : k = l.length := by omega
      have hD := HD.out
      rw [List.drop_length] at hD
      have hi2 : i = s.size := by
        have h := congrArg List.length hD
        rw [List.length_drop, ← Lib.size_eq] at h
        simp [labsBytes] at h
        omega
      subst hi2
      have hlt1 : ¬ ((s.size : Int) < s.size) := by omega
      go_wp2
      go_ret
      exact ⟨rfl, HF.out⟩

theorem enc_fr {w w' : World} {e : Nat} {o : Option Nat} {xs : List UInt8} {S : Nat → Prop} (h : Enc w e o xs) (hf : Fr S w w') (he : ¬ S e) (ho : ∀ k, o = some k → ¬ S k) : Enc w' e o xs := by
  obtain ⟨v, cs, hb, hs, h0, hown, rfl⟩ := h
  exact ⟨v, cs, hb.fr hf he, hs, h0, own_fr hown hf ho, rfl⟩
theorem enc_ne {w : World} {e c : Nat} {o : Option Nat} {xs : List UInt8} {t : TypeId} {cs : Array Value} (h : Enc w e o xs) (hb : Blk w c t cs) (h1 : 5 ≠ t) (h2 : 224 ≠ t) : o ≠ some c ∧ e ≠ c := by
  obtain ⟨v, cs', hb', hs, h0, hown, rfl⟩ := h
  exact ⟨own_ne hown hb h1, Blk.ne_ hb' hb h2⟩
theorem enc_lt {w : World} {e : Nat} {o : Option Nat} {xs : List UInt8} (h : Enc w e o xs) : e < w.heap.size ∧ ∀ k, o = some k → k < w.heap.size := by
  obtain ⟨v, cs, hb, hs, h0, hown, rfl⟩ := h
  exact ⟨hb.lt, fun k hk => own_lt hown hk⟩
theorem put_fr {w W W' : World} {e : Nat} {o : Option Nat} {xs ys : List UInt8} (h : Put w e o xs ys W) (hf : Fr (fun _ => False) W W') : Put w e o xs ys W' := by
  obtain ⟨o1, he, hf1, ho⟩ := h
  exact ⟨o1, enc_fr he hf (fun e => e) (fun _ _ e => e), hf1.trans hf (fun _ _ e => e.elim), ho⟩

theorem put_keeps {w w' : World} {e b : Nat} {o : Option Nat} {xs ys : List UInt8} {t : TypeId} {cs : Array Value} (h : Put w e o xs ys w') (he : Enc w e o xs) (hb : Blk w b t cs) (h5 : 5 ≠ t) (h4 : 224 ≠ t) : Blk w' b t cs := by
  have nn := enc_ne he hb h5 h4
  obtain ⟨o2, _, hf2, _⟩ := h
  exact hb.fr hf2 (fun e => e.elim (fun e => nn.2 e.symm) (fun e => nn.1 e.symm))
theorem put_from {w0 w w' : World} {e : Nat} {o : Option Nat} {xs ys : List UInt8} (h : Put w e o xs ys w') (hf : Fr (fun _ => False) w0 w) : Put w0 e o xs ys w' := by
  obtain ⟨o2, he, hf2, ho⟩ := h
  exact ⟨o2, he, (hf.mono (fun _ _ e => e.elim)).same hf2, ho.imp id (fun ⟨k, h, hk⟩ => ⟨k, h, Nat.le_trans hf.size hk⟩)⟩

set_option maxRecDepth 100000 in
set_option maxHeartbeats 2000000 in
/-- EncodeLabels' closure. -/
theorem enc1_any (e c : Nat) (o : Option Nat) (xs : List UInt8) (x : Lab) (W : World) (h : Enc W e o xs) (hc : Blk W c 226 #[.pointer (some ⟨e, 0, none⟩)]) (hl : xs.length ≤ 274877906944) (h1 : x.1.size ≤ 1048576) (h2 : x.2.size ≤ 1048576) :
    Calls Tryz.prog 201 #[.agg #[.string x.1, .string x.2], .pointer (some ⟨c, 0, none⟩)] W fun r w' => r = .returned (.tuple #[]) ∧ Put W e o xs (encLab x) w' ∧ (∀ b t cs, Blk W b t cs → 5 ≠ t → 224 ≠ t → Blk w' b t cs) := by
  obtain ⟨a, b⟩ := x
  dsimp only at h1 h2
  obtain ⟨W1, hW1⟩ : ∃ W1, W.alloc (.cells #[.string a, .string b] 108) = W1 := ⟨_, rfl⟩
  have F1 : Fr (fun _ => False) W W1 := by rw [← hW1]; exact (Fr.refl _ W).alloc _
  have hB1 : Blk W1 W.heap.size 108 #[.string a, .string b] := by rw [← hW1]; exact Blk.new W 108 _
  have hE1 := enc_fr h F1 (fun e => e) (fun _ _ e => e)
  have hP1 := putUvarintStr e o xs a W1 hE1 (by omega) (by omega)
  have hc1 := hc.fr F1 (fun e => e)
  have k0 := hc1.cell 0
  have k1 := hB1.cell 0
  simp at k0 k1
  have keep : ∀ b t cs, Blk W b t cs → 5 ≠ t → 224 ≠ t → Blk W1 b t cs := fun b t cs hb _ _ => hb.fr F1 (fun e => e)
  have K1 := Lib.hid keep
  have HF1 := Lib.hid F1
  have HE1 := Lib.hid hE1
  have HC1 := Lib.hid hc1
  have HB1 := Lib.hid hB1
  clear keep F1 hE1 hc1 hB1 h hc
  have hs1 : (encStr a).length ≤ 1048586 := by
    have := Lib.uvarint_length64 (x := a.size) (by omega)
    have e : a.data.toList.length = a.size := by rw [← Lib.size_eq]
    rw [encStr, List.length_append, e]; omega
  go_enter Tryz.func201, Tryz.ntmps201
  go_wp2_with (first
    | (go_at_call_of 187 (Value.string a); refine hP1.mono ?_; rintro r w1 ⟨rfl, hp1⟩; refine Hid.out ?_))
  obtain ⟨o1, hE2, hf1, ho1⟩ := hp1
  have nn1 := enc_ne HE1.out HC1.out (by decide) (by decide)
  have nn2 := enc_ne HE1.out HB1.out (by decide) (by decide)
  have hc2 := HC1.out.fr hf1 (fun e => e.elim (fun e => nn1.2 e.symm) (fun e => nn1.1 e.symm))
  have hB2 := HB1.out.fr hf1 (fun e => e.elim (fun e => nn2.2 e.symm) (fun e => nn2.1 e.symm))
  have hP2 := putUvarintStr e o1 (xs ++ encStr a) b w1 hE2 (by rw [List.length_append]; omega) (by omega)
  have k2 := hc2.cell 0
  have k3 := hB2.cell 1
  simp at k2 k3
  have hsz1 := HF1.out.size
  have HST : Hid (∀ w2, Put w1 e o1 (xs ++ encStr a) (encStr b) w2 → Put W e o xs (encStr a ++ encStr b) w2) := Lib.hid (fun w2 h2 => Put.step hE2 ((HF1.out.mono (fun _ _ e => e.elim)).same hf1) (ho1.imp id (fun ⟨k, h, hk⟩ => ⟨k, h, Nat.le_trans hsz1 hk⟩)) h2)
  have HK2 : Hid (∀ b t cs, Blk W b t cs → 5 ≠ t → 224 ≠ t → Blk w1 b t cs) := Lib.hid (fun b t cs hb h5 h4 => by
    have hb1 := K1.out b t cs hb h5 h4
    have nn := enc_ne HE1.out hb1 h5 h4
    exact hb1.fr hf1 (fun e => e.elim (fun e => nn.2 e.symm) (fun e => nn.1 e.symm)))
  have HE2 := Lib.hid hE2
  clear hE2 hf1 ho1 nn1 nn2 hc2 hB2 k0 k1 hP1
  refine Lib.hid ?_
  go_wp2_with (first
    | (go_at_call_of 187 (Value.string b); refine hP2.mono ?_; rintro r w2 ⟨rfl, hp2⟩))
  go_end0
  refine ⟨rfl, HST.out _ hp2, fun b t cs hb h5 h4 => ?_⟩
  have hb1 := HK2.out b t cs hb h5 h4
  have nn := enc_ne HE2.out hb1 h5 h4
  obtain ⟨o2, _, hf2, _⟩ := hp2
  exact hb1.fr hf2 (fun e => e.elim (fun e => nn.2 e.symm) (fun e => nn.1 e.symm))

theorem encLab_len (x : Lab) (h1 : x.1.size ≤ 1048576) (h2 : x.2.size ≤ 1048576) : (encLab x).length ≤ 2097172 := by
  have l1 := Lib.uvarint_length64 (x := x.1.size) (by omega)
  have l2 := Lib.uvarint_length64 (x := x.2.size) (by omega)
  have e1 : x.1.data.toList.length = x.1.size := by rw [← Lib.size_eq]
  have e2 : x.2.data.toList.length = x.2.size := by rw [← Lib.size_eq]
  simp only [encLab, encStr, List.length_append, e1, e2]
  omega
theorem fm_succ (l : List Lab) (k : Nat) (x : Lab) (hx : l[k]? = some x) : (l.take (k + 1)).flatMap encLab = (l.take k).flatMap encLab ++ encLab x := by
  rw [List.take_add_one, hx, List.flatMap_append]
  simp
theorem encLabs_len : ∀ (l : List Lab), (∀ p ∈ l, p.1.size ≤ 1048576 ∧ p.2.size ≤ 1048576) → (l.flatMap encLab).length ≤ l.length * 2097172
  | [], _ => by simp
  | x :: l, h => by
    have h1 := h x (by simp)
    have := encLab_len x h1.1 h1.2
    have := encLabs_len l (fun p hp => h p (by simp [hp]))
    rw [List.flatMap_cons, List.length_append, List.length_cons, Nat.add_mul]
    omega
theorem labsSize_le4 (l : List Lab) (hl : l.length ≤ 4096) (hs : ∀ p ∈ l, p.1.size ≤ 1048576 ∧ p.2.size ≤ 1048576) : labsSize l ≤ 1099511627776 := by
  have := labsSize_le l hs
  have h : l.length * 2097160 ≤ 4096 * 2097160 := Nat.mul_le_mul_right _ hl
  omega

set_option maxRecDepth 100000 in
set_option maxHeartbeats 2000000 in
theorem encodeLabels_any (e : Nat) (o : Option Nat) (xs : List UInt8) (l : List Lab) (w : World) (h : Enc w e o xs) (hxl : xs.length ≤ 1073741824) (hl : l.length ≤ 4096) (hs : ∀ p ∈ l, p.1.size ≤ 1048576 ∧ p.2.size ≤ 1048576) :
    Calls Tryz.prog 115 #[.pointer (some ⟨e, 0, none⟩), .agg #[.string (labStr l)]] w (PutEnds w e o xs (encLabs l)) := by
  have hs' : ∀ p ∈ l, p.1.size < 16777216 ∧ p.2.size < 16777216 := fun p hp => by have := hs p hp; omega
  have hsz := labsSize_le4 l hl hs
  have eg : ∀ args w, (callFunc 201 args).run Tryz.prog w = .ok (.enter 201 args) w := enters_of Tryz.func201 (by kernel_rfl) rfl
  have hmf : ∀ (fn : Fn) (first cap : Array Value) (w : World), (Instr.makeFunc fn first cap).run Tryz.prog w = .ok (.func fn first cap) w := fun _ _ _ _ => rfl
  have HE := Lib.hid h
  have HS := Lib.hid hs
  clear h hs
  have hstr := labStr_size l
  have hLen := fun W => len_any l W hs' hsz
  have hRange := fun J W => range_any l 201 #[.pointer (some ⟨w.heap.size, 0, none⟩)] eg J W hs' hsz
  generalize labStr l = s at hstr hLen hRange ⊢
  have HRG := Lib.hid hRange
  clear hRange hs'
  obtain ⟨n, hn⟩ : ∃ n, l.length = n := ⟨_, rfl⟩
  rw [hn] at hLen hl
  have HN := Lib.hid hn
  clear hn
  go_enter Tryz.func115, Tryz.ntmps115
  go_wp2_with fail
  have F1 : Fr (fun _ => False) w ((w.alloc (.cells #[.pointer (some ⟨e, 0, none⟩)] 226)).alloc (.cells #[.string s] 99)) := ((Fr.refl _ w).alloc _).alloc _
  have hB1 : Blk ((w.alloc (.cells #[.pointer (some ⟨e, 0, none⟩)] 226)).alloc (.cells #[.string s] 99)) w.heap.size 226 #[.pointer (some ⟨e, 0, none⟩)] := (Blk.new w 226 _).alloc _
  have hB2 : Blk ((w.alloc (.cells #[.pointer (some ⟨e, 0, none⟩)] 226)).alloc (.cells #[.string s] 99)) (w.heap.size + 1) 99 #[.string s] := blk_new2 w _ 99 _
  generalize (w.alloc (.cells #[.pointer (some ⟨e, 0, none⟩)] 226)).alloc (.cells #[.string s] 99) = W1 at F1 hB1 hB2 ⊢
  have HC : Hid (∀ W S, Fr S W1 W → ¬ S w.heap.size → ¬ S (w.heap.size + 1) → W.cell? ⟨w.heap.size, 0, none⟩ = some (.pointer (some ⟨e, 0, none⟩)) ∧ W.cell? ⟨w.heap.size + 1, 0, none⟩ = some (.string s)) := Lib.hid (fun W S hF h1 h2 => by
    have a1 := (hB1.fr hF h1).cell 0
    have a2 := (hB2.fr hF h2).cell 0
    simp at a1 a2
    exact ⟨a1, a2⟩)
  have HF1 := Lib.hid F1
  have HB1 := Lib.hid hB1
  have HB2 := Lib.hid hB2
  clear F1 hB1 hB2
  go_region_held3 (fun w' => w'.cell? ⟨w.heap.size, 0, none⟩ = some (.pointer (some ⟨e, 0, none⟩)) ∧ w'.cell? ⟨w.heap.size + 1, 0, none⟩ = some (.string s))
    ((first | exact HC.out _ _ (Fr.refl (fun _ => False) W1).drew (fun e => e) (fun e => e) | exact HC.out _ _ ((Fr.refl (fun _ => False) W1).drew.same hf5) (fun e => e) (fun e => e) | exact hc7.out | go_keep))
    ((first
      | (go_at_call 55; refine (hLen _).mono ?_; rintro r5 w5 ⟨rfl, hf5⟩)
      | (go_at_call 186; refine (putUvarint e o xs n (by omega) _ (enc_fr (enc_fr HE.out HF1.out (fun e => e) (fun _ _ e => e)) ((Fr.refl (fun _ => False) W1).drew.same hf5) (fun e => e) (fun _ _ e => e)) (by omega)).mono ?_; rintro r7 w7 ⟨rfl, hp7⟩; have hc7 := Lib.hid (by
          have hE5 := enc_fr (enc_fr HE.out HF1.out (fun e => e) (fun _ _ e => e)) ((Fr.refl (fun _ => False) W1).drew.same hf5) (fun e => e) (fun _ _ e => e)
          have a1 := (put_keeps hp7 hE5 (HB1.out.fr ((Fr.refl (fun _ => False) W1).drew.same hf5) (fun e => e)) (by decide) (by decide)).cell 0
          have a2 := (put_keeps hp7 hE5 (HB2.out.fr ((Fr.refl (fun _ => False) W1).drew.same hf5) (fun e => e)) (by decide) (by decide)).cell 0
          simp at a1 a2
          exact ⟨a1, a2⟩ : w7.cell? ⟨w.heap.size, 0, none⟩ = some (.pointer (some ⟨e, 0, none⟩)) ∧ w7.cell? ⟨w.heap.size + 1, 0, none⟩ = some (.string s)))))
  have F5 : Fr (fun _ => False) w w5 := HF1.out.same ((Fr.refl (fun _ => False) W1).drew.same hf5)
  have hE5 := enc_fr HE.out F5 (fun e => e) (fun _ _ e => e)
  have hB7 := put_keeps hp7 hE5 (HB1.out.fr ((Fr.refl (fun _ => False) W1).drew.same hf5) (fun e => e)) (by decide) (by decide)
  have hp := put_from hp7 F5
  obtain ⟨c1, c2⟩ := hc7.out
  have hR := HRG.out (fun k W => Put w e o xs (Lib.uvarint n ++ (l.take k).flatMap encLab) W ∧ Blk W w.heap.size 226 #[.pointer (some ⟨e, 0, none⟩)]) w7 (fun k W W' h hf => ⟨put_fr h.1 hf, h.2.fr hf (fun e => e)⟩) ⟨by simpa using hp, hB7⟩ (by
    rintro k x W hx ⟨hp, hb⟩ hb9
    have hxs := HS.out x (List.mem_of_getElem? hx)
    obtain ⟨o1, he1, hf1, ho1⟩ := hp
    have hlen : (xs ++ (Lib.uvarint n ++ (l.take k).flatMap encLab)).length ≤ 274877906944 := by
      have l1 := Lib.uvarint_length64 (x := n) (by omega)
      have l2 := encLabs_len (l.take k) (fun p hp => HS.out p (List.mem_of_mem_take hp))
      have l3 : (l.take k).length ≤ n := by rw [← HN.out, List.length_take]; exact Nat.min_le_right _ _
      have l4 : (l.take k).length * 2097172 ≤ 4096 * 2097172 := Nat.mul_le_mul_right _ (by omega)
      simp only [List.length_append] at *
      omega
    refine (enc1_any e w.heap.size o1 _ x W he1 hb hlen hxs.1 hxs.2).mono ?_
    rintro r w' ⟨rfl, hp', hk⟩
    refine ⟨rfl, ⟨?_, hk _ _ _ hb (by decide) (by decide)⟩, hk _ _ _ hb9 (by decide) (by decide)⟩
    rw [fm_succ l k x hx, ← List.append_assoc]
    exact Put.step he1 hf1 ho1 hp')
  clear F5 hE5 hB7 hp hp7 hf5 hc7
  go_wp2_with (go_at_call 152; refine hR.mono ?_; rintro r w8 ⟨rfl, hj, _⟩)
  go_end0
  refine ⟨rfl, ?_⟩
  rw [List.take_length] at hj
  rw [encLabs, HN.out]
  exact hj
end Go.Proofs.YtbkookiigkckdaaGreatDoor

/- Encoder.Series 91. Printed by gen_ne.py. -/
namespace Go.Proofs.YtbkookiigkckdaaGreatDoor
open Go.RowKit
set_option linter.unusedVariables false
set_option linter.unusedSimpArgs false

def SerOk (s : Ser) : Prop := s.ref < 18446744073709551616 ∧ s.labs.length ≤ 12 ∧ (∀ p ∈ s.labs, p.1.size ≤ 600 ∧ p.2.size ≤ 600) ∧ s.labs.Pairwise (fun a b => a.1 ≠ b.1)
def encSer (s : Ser) : List UInt8 := Lib.beBytes 8 s.ref ++ encLabs (sortL s.labs)
def encSers (l : List Ser) : List UInt8 := 1 :: l.flatMap encSer
theorem flatMap_lenS {α : Type} (f : α → List UInt8) (m : Nat) : ∀ l : List α, (∀ x ∈ l, (f x).length ≤ m) → (l.flatMap f).length ≤ l.length * m
  | [], _ => by simp
  | x :: l, hf => by
    have h1 := flatMap_lenS f m l (fun y hy => hf y (List.mem_cons_of_mem _ hy))
    have h2 := hf x (List.mem_cons_self ..)
    rw [List.flatMap_cons, List.length_append, List.length_cons, Nat.add_mul]
    omega
theorem encStr_lenS (s : ByteArray) (h : s.size < 18446744073709551616) : (encStr s).length ≤ 10 + s.size := by
  have := Lib.uvarint_length64 h
  rw [encStr, List.length_append, ← Lib.size_eq]
  omega
theorem encLabs_len12 (l : List Lab) (hl : l.length ≤ 12) (hs : ∀ p ∈ l, p.1.size ≤ 600 ∧ p.2.size ≤ 600) : (encLabs l).length ≤ 14650 := by
  have h0 := Lib.uvarint_length64 (x := l.length) (by omega)
  have h1 := flatMap_lenS encLab 1220 l (fun p hp => by
    have := hs p hp
    have a1 := encStr_lenS p.1 (by omega)
    have a2 := encStr_lenS p.2 (by omega)
    rw [encLab, List.length_append]; omega)
  have h2 : l.length * 1220 ≤ 12 * 1220 := Nat.mul_le_mul_right _ hl
  rw [encLabs, List.length_append]
  omega
theorem encSer_len (s : Ser) (h : SerOk s) : (encSer s).length ≤ 20000 := by
  have hp := (lsort_sorted ltL ltL_trans ltL_irrefl ltL_ntrans s.labs).2
  have := encLabs_len12 (sortL s.labs) (by rw [lsort_length]; exact h.2.1) (fun p hm => h.2.2.1 p (hp.mem_iff.mp hm))
  rw [encSer, List.length_append, Lib.beBytes_length]
  omega

set_option maxRecDepth 100000 in
set_option maxHeartbeats 4000000 in
theorem encSers_any (ep : Value) (sv : Value) (P : Nat → Prop) (v : Value) (xs : List UInt8) (l : List Ser) (w : World) (h : Sl P w sv 2 l.length (l.flatMap sero)) (hown : w.ownsRow 0 5 1 v xs.length (bc xs)) (hl : xs.length ≤ 536870912)
    (hsl : l.length ≤ 12) (hwf : ∀ s ∈ l, SerOk s) (hP : ∀ g, P g → g < w.heap.size ∧ some g ≠ v.ownBlock) :
    Calls Tryz.prog 91 #[ep, sv, v] w (EncodeEnds w v.ownBlock (xs ++ encSers l)) := by
  obtain ⟨A, c, rfl, hlen, hnc, hr⟩ := h
  obtain ⟨a', n', k', rfl⟩ := own_slice hown
  obtain ⟨n, hn⟩ : ∃ n, l.length = n := ⟨_, rfl⟩
  rw [hn] at hnc hr hsl ⊢
  have hE := Enc.made (z := .int .u8 0) hown _ rfl
  have hQ := putByte w.heap.size _ xs 1 _ hE (by omega)
  have e2 : ((1 : UInt8).toNat : Int) = 1 := rfl
  rw [e2] at hQ
  have HN := Lib.hid hn
  have HR := Lib.hid hr
  have HP := Lib.hid hP
  have HE := Lib.hid hE
  clear hE hr e2 hn hlen hP
  go_enter Tryz.func91, Tryz.ntmps91
  go_wp2_with (go_at_call 180; refine hQ.mono ?_; rintro r1 w1 ⟨rfl, R⟩; refine Hid.out ?_)
  have HR1 := Lib.hid R
  clear R hQ
  refine Lib.hid ?_
  go_wp2_with fail
  have hFW : Fr (fun k => some k = (Value.slice a' n' k').ownBlock) w (w.alloc (.cells #[.slice a' n' k', .int .u8 0, .int .u8 0, .int .u8 0, .int .u8 0, .int .u8 0, .int .u8 0, .int .u8 0, .int .u8 0, .int .u8 0, .int .u8 0] 224)) := (Fr.refl _ w).alloc _
  generalize hWB : w.alloc _ = WB at HE HR1 hFW
  have hB : w.heap.size < WB.heap.size := by rw [← hWB]; simp
  clear hWB
  have HFW := Lib.hid hFW
  clear hFW
  go_loopw [15] (fun i wr => ∃ k : Nat, k ≤ n ∧ i = .int .i64 k ∧ Put WB w.heap.size (Value.slice a' n' k').ownBlock xs ([1] ++ (l.take k).flatMap encSer) wr) (fun i _ => n - (intOf i).toNat)
  case atStart => exact ⟨0, Nat.zero_le _, rfl, by simpa using HR1.out⟩
  case round =>
    obtain ⟨k, hk, rfl, R⟩ := hrel
    by_cases hlt : k < n
    · obtain ⟨g, off, rfl, hPg, hcell⟩ := HR.out (by omega)
      have hg := HP.out g hPg
      obtain ⟨x, hx⟩ : ∃ x, l[k]? = some x := ⟨_, List.getElem?_eq_getElem (by rw [HN.out]; exact hlt)⟩
      have hwx := hwf x (List.mem_of_getElem? hx)
      have hFk : Fr (fun k => some k = (Value.slice a' n' k').ownBlock) w wr := HFW.out.trans R.fr (fun k hk e => by
        rcases e with e | e
        · omega
        · exact e)
      have cc : ∀ j, j < 2 → ∀ u, (sero x)[j]? = some u → wr.cell? ⟨g, off + (k * 2 + j), none⟩ = some u := fun j hj u hu => by
        have := hcell (k * 2 + j) u (by rw [flat2 sero (fun _ => rfl) l k x hx j hj]; exact hu)
        rw [hFk.cell (p := ⟨g, off + (k * 2 + j), none⟩) hg.1 hg.2]
        exact this
      have d0 : wr.cell? ⟨g, off + k * 2, none⟩ = some (.int .u64 x.ref) := cc 0 (by omega) _ rfl
      have d1 : wr.cell? ⟨g, off + k * 2 + 1, none⟩ = some (.string (labStr (sortL x.labs))) := cc 1 (by omega) _ rfl
      have hyl : ([(1 : UInt8)] ++ (l.take k).flatMap encSer).length ≤ 1 + k * 20000 := by
        have h1 := flatMap_lenS encSer 20000 (l.take k) (fun s hs => encSer_len s (hwf s (List.mem_of_mem_take hs)))
        have h2 : (l.take k).length ≤ k := List.length_take_le _ _
        have h3 : (l.take k).length * 20000 ≤ k * 20000 := Nat.mul_le_mul_right _ h2
        rw [List.length_append, List.length_singleton]; omega
      have hk9 : k * 20000 ≤ 12 * 20000 := Nat.mul_le_mul_right _ (by omega)
      obtain ⟨Y, hY⟩ : ∃ Y, [(1 : UInt8)] ++ (l.take k).flatMap encSer = Y := ⟨_, rfl⟩
      rw [hY] at hyl
      rw [hY] at R
      have HY := Lib.hid hY
      have HX := Lib.hid hx
      obtain ⟨st, hst⟩ : ∃ st, labStr (sortL x.labs) = st := ⟨_, rfl⟩
      rw [hst] at d1
      have hBx := Blk.new wr 127 #[.int .u64 x.ref, .string st]
      have RA := R.alloc (.cells #[.int .u64 x.ref, .string st] 127)
      have HBX := Lib.hid hBx
      have HRA := Lib.hid RA
      have hyl2 : Y.length ≤ 240001 := by omega
      have HW := Lib.hid hwx
      have HLB := Lib.hid (fun (e : Nat) (o : Option Nat) (zs : List UInt8) (W : World) (h : Enc W e o zs) (hz : zs.length ≤ 1073741824) => by
        have := encodeLabels_any e o zs (sortL x.labs) W h hz (by rw [lsort_length]; have := hwx.2.1; omega) (fun p hp => by have := hwx.2.2.1 p ((lsort_sorted ltL ltL_trans ltL_irrefl ltL_ntrans x.labs).2.mem_iff.mp hp); omega)
        rw [hst] at this
        exact this)
      clear hx hFk cc hBx hcell hY R RA hyl hk9 hwf hwx hst
      go_wp2_with (first
        | (go_at_call 181; refine (put_more2 HRA.out (f := 181) (args := #[.pointer (some ⟨w.heap.size, 0, none⟩), .int .u64 x.ref]) (zs := Lib.beBytes 8 x.ref) (fun o2 he => putBE64 _ o2 _ _ HW.out.1 _ he (by rw [List.length_append]; omega))).mono ?_; rintro rA wA ⟨rfl, R1, K1⟩
           have hB1 := K1.out _ _ _ (by decide) (by decide) HBX.out
           have p1 := hB1.cell 1
           have HR2 := Lib.hid R1
           have hv2 : (Y ++ Lib.beBytes 8 x.ref).length ≤ 240009 := by rw [List.length_append, Lib.beBytes_length]; omega
           clear R1 K1 hB1)
        | (go_at_call 115; refine (put_more2 HR2.out (f := 115) (args := #[.pointer (some ⟨w.heap.size, 0, none⟩), .agg #[.string st]]) (zs := encLabs (sortL x.labs)) (fun o2 he => HLB.out _ o2 _ _ he (by rw [List.length_append]; omega))).mono ?_; rintro rB wB ⟨rfl, R1, K1⟩
           have HR8 := Lib.hid R1
           clear R1 K1 HR2))
      have RE : Put WB w.heap.size (Value.slice a' n' k').ownBlock xs ([1] ++ (l.take (k + 1)).flatMap encSer) wB := by
        rw [flatMap_take_succ' encSer l k x HX.out, ← List.append_assoc, HY.out]
        simpa [encSer, List.append_assoc] using HR8.out
      have HRE := Lib.hid RE
      clear RE HR8
      go_wp2
      go_roundw
      case rel => exact ⟨k + 1, by omega, by go_num, HRE.out⟩
      case measure => simp [intOf]; omega
    · obtain rfl : k = n := by omega
      obtain ⟨oZ, hEZ, hfZ, hoZ⟩ := R
      have hG := encGet _ _ _ _ hEZ
      have HEZ := Lib.hid hEZ
      have HZ := Lib.hid hfZ
      clear hEZ hfZ
      go_wp2_with (go_at_call 116; refine hG.mono ?_; rintro rr w2 ⟨v2, rfl, rfl, hown2, hv2⟩)
      go_ret
      refine ⟨v2, rfl, ?_, HFW.out.trans HZ.out (fun k hk e => ?_), ?_⟩
      · have e1 : l.take k = l := List.take_of_length_le (by rw [HN.out]; exact Nat.le_refl _)
        rw [e1] at hown2
        simpa [encSers] using hown2
      · rcases e with e | e
        · omega
        · exact e
      · rw [hv2]
        rcases hoZ with h | ⟨k2, h, hk2⟩
        · exact .inl h
        · exact .inr ⟨k2, h, by omega⟩
end Go.Proofs.YtbkookiigkckdaaGreatDoor

/- Exemplars: EncodeExemplarsIntoBuffer 184. -/
namespace Go.Proofs.YtbkookiigkckdaaGreatDoor
open Go.RowKit
set_option linter.unusedVariables false
set_option linter.unusedSimpArgs false

def ExmOk (s : Exm) : Prop := s.ref < 18446744073709551616 ∧ -9223372036854775808 ≤ s.t ∧ s.t ≤ 9223372036854775807 ∧ s.v < 18446744073709551616 ∧ s.labs.length ≤ 12 ∧ (∀ p ∈ s.labs, p.1.size ≤ 600 ∧ p.2.size ≤ 600) ∧ s.labs.Pairwise (fun a b => a.1 ≠ b.1)
def xRef (f s : Exm) : Int := wrap64 (wrap64 s.ref - wrap64 f.ref)
def xT (f s : Exm) : Int := wrap64 (s.t - f.t)
def encExm (f s : Exm) : List UInt8 := Lib.uvarint (Lib.zigzag (xRef f s)) ++ (Lib.uvarint (Lib.zigzag (xT f s)) ++ (Lib.beBytes 8 s.v ++ encLabs (sortL s.labs)))
def encXHdr (f : Exm) : List UInt8 := Lib.beBytes 8 f.ref ++ Lib.beBytes 8 (u64 f.t)
def encXs : List Exm → List UInt8
  | [] => []
  | f :: r => encXHdr f ++ (f :: r).flatMap (encExm f)
theorem encExm_len (f s : Exm) (h : ExmOk s) : (encExm f s).length ≤ 20000 := by
  have hp := (lsort_sorted ltL ltL_trans ltL_irrefl ltL_ntrans s.labs).2
  have h0 := encLabs_len12 (sortL s.labs) (by rw [lsort_length]; exact h.2.2.2.2.1) (fun p hm => h.2.2.2.2.2.1 p (hp.mem_iff.mp hm))
  have h1 := zz_len (xRef f s) (wrap64_bd _).1 (wrap64_bd _).2
  have h2 := zz_len (xT f s) (wrap64_bd _).1 (wrap64_bd _).2
  simp only [encExm, List.length_append, Lib.beBytes_length]
  omega

set_option maxRecDepth 100000 in
set_option maxHeartbeats 4000000 in
theorem encXs_into (ep : Value) (sv : Value) (P : Nat → Prop) (e : Nat) (o : Option Nat) (xs : List UInt8) (f : Exm) (r : List Exm) (w : World) (h : Sl P w sv 4 (r.length + 1) ((f :: r).flatMap exo)) (hE : Enc w e o xs) (hl : xs.length ≤ 536870913)
    (hsl : r.length + 1 ≤ 12) (hwf : ∀ s ∈ f :: r, ExmOk s) (hP : ∀ g, P g → g < w.heap.size ∧ ¬ (g = e ∨ some g = o)) :
    Calls Tryz.prog 184 #[ep, sv, .pointer (some ⟨e, 0, none⟩)] w (PutEnds w e o xs (encXs (f :: r))) := by
  obtain ⟨A, c, rfl, hlen, hnc, hr⟩ := h
  obtain ⟨n, hn⟩ : ∃ n, r.length + 1 = n := ⟨_, rfl⟩
  rw [hn] at hnc hr hsl ⊢
  obtain ⟨g, off, rfl, hPg, hcell⟩ := hr (by omega)
  have hg := hP g hPg
  have HN := Lib.hid hn
  have c0 : w.cell? ⟨g, off, none⟩ = some (.int .u64 f.ref) := by simpa using hcell 0 _ rfl
  have c1 : w.cell? ⟨g, off + 1, none⟩ = some (.int .i64 f.t) := hcell 1 _ rfl
  have c2 : w.cell? ⟨g, off + 2, none⟩ = some (.float .f64 f.v) := hcell 2 _ rfl
  have c3 : w.cell? ⟨g, off + 3, none⟩ = some (.string (labStr (sortL f.labs))) := hcell 3 _ rfl
  obtain ⟨sf, hsf9⟩ : ∃ st, labStr (sortL f.labs) = st := ⟨_, rfl⟩
  rw [hsf9] at c3
  have hn1 : (0 : Int) < (n : Int) := by omega
  have HCELL := Lib.hid hcell
  have hsf := run_store_float
  have hBF := Blk.new w 157 #[.int .u64 f.ref, .int .i64 f.t, .float .f64 f.v, .string sf]
  have R0 := Put.refl (hE.alloc (.cells #[.int .u64 f.ref, .int .i64 f.t, .float .f64 f.v, .string sf] 157))
  have hEA := hE.alloc (.cells #[.int .u64 f.ref, .int .i64 f.t, .float .f64 f.v, .string sf] 157)
  have HEA := Lib.hid hEA
  have HBF := Lib.hid hBF
  have HR0 := Lib.hid R0
  have elt : e < w.heap.size := by obtain ⟨_, _, hb, _⟩ := hE; exact hb.lt
  have HE := Lib.hid hE
  have hwf0 := hwf f (List.mem_cons_self ..)
  have HW0 := Lib.hid hwf0
  clear hr hn hlen hcell hBF R0 hEA hE hwf0 hsf9
  go_enter Tryz.func184, Tryz.ntmps184
  go_wp2_with (go_at_call 181; refine (put_more2 HR0.out (f := 181) (args := #[.pointer (some ⟨e, 0, none⟩), .int .u64 f.ref]) (zs := Lib.beBytes 8 f.ref) (fun o2 he => putBE64 _ o2 _ _ HW0.out.1 _ he (by rw [List.length_append, List.length_nil]; omega))).mono ?_; rintro r1 w1 ⟨rfl, R1, K1⟩; refine Hid.out ?_)
  have hB1 := K1.out _ _ _ (by decide) (by decide) HBF.out
  have b0 := hB1.cell 0
  have b1 := hB1.cell 1
  simp at b0 b1
  have HB1 := Lib.hid hB1
  have HR1 := Lib.hid R1
  clear hB1 R1 K1 c0 c1 c2 c3
  refine Lib.hid ?_
  go_wp2_with (go_at_call 182; refine (put_more2 HR1.out (f := 182) (args := #[.pointer (some ⟨e, 0, none⟩), .int .i64 f.t]) (zs := Lib.beBytes 8 (u64 f.t)) (fun o2 he => putBE64int64 _ o2 _ f.t _ he (by simp [Lib.beBytes_length]; omega))).mono ?_; rintro r2 w2 ⟨rfl, R2, K2⟩; refine Hid.out ?_)
  have hB2 := K2.out _ _ _ (by decide) (by decide) HB1.out
  have HR2 := Lib.hid R2
  clear hB2 R2 K2 b0 b1 HB1 HR1
  refine Lib.hid ?_
  go_wp2_with fail
  have hFW : Fr (fun k => k = e ∨ some k = o) w (w.alloc (.cells #[.int .u64 f.ref, .int .i64 f.t, .float .f64 f.v, .string sf] 157)) := (Fr.refl _ w).alloc _
  have hws : w.heap.size < (w.alloc (.cells #[.int .u64 f.ref, .int .i64 f.t, .float .f64 f.v, .string sf] 157)).heap.size := by simp
  clear HR0
  generalize hWB : w.alloc (.cells #[.int .u64 f.ref, .int .i64 f.t, .float .f64 f.v, .string sf] 157) = WB at HR2 HEA HBF hFW hws
  clear hWB
  have HFW := Lib.hid hFW
  clear hFW
  go_loopw [22] (fun i wr => ∃ k : Nat, k ≤ n ∧ i = .int .i64 k ∧ Put WB e o xs (encXHdr f ++ ((f :: r).take k).flatMap (encExm f)) wr) (fun i _ => n - (intOf i).toNat)
  case atStart => exact ⟨0, Nat.zero_le _, rfl, by simpa [encXHdr] using HR2.out⟩
  case round =>
    obtain ⟨k, hk, rfl, R⟩ := hrel
    by_cases hlt : k < n
    · obtain ⟨x, hx⟩ : ∃ x, (f :: r)[k]? = some x := ⟨_, List.getElem?_eq_getElem (by rw [List.length_cons, HN.out]; exact hlt)⟩
      have hwx := hwf x (List.mem_of_getElem? hx)
      have hFk : Fr (fun k => k = e ∨ some k = o) w wr := HFW.out.trans R.fr (fun k hk h => h)
      have cc : ∀ j, j < 4 → ∀ u, (exo x)[j]? = some u → wr.cell? ⟨g, off + (k * 4 + j), none⟩ = some u := fun j hj u hu => by
        rw [hFk.cell (p := ⟨g, off + (k * 4 + j), none⟩) hg.1 hg.2]
        exact HCELL.out (k * 4 + j) u (by rw [flat4 exo (fun _ => rfl) (f :: r) k x hx j hj]; exact hu)
      have d0 : wr.cell? ⟨g, off + k * 4, none⟩ = some (.int .u64 x.ref) := cc 0 (by omega) _ rfl
      have d1 : wr.cell? ⟨g, off + k * 4 + 1, none⟩ = some (.int .i64 x.t) := cc 1 (by omega) _ rfl
      have d2 : wr.cell? ⟨g, off + k * 4 + 2, none⟩ = some (.float .f64 x.v) := cc 2 (by omega) _ rfl
      have d3 : wr.cell? ⟨g, off + k * 4 + 3, none⟩ = some (.string (labStr (sortL x.labs))) := cc 3 (by omega) _ rfl
      have hBk := R.blk HEA.out HBF.out (by decide) (by decide)
      have b0 := hBk.cell 0
      have b1 := hBk.cell 1
      simp at b0 b1
      have hws2 := hBk.lt
      have hyl : (encXHdr f ++ ((f :: r).take k).flatMap (encExm f)).length ≤ 16 + k * 20000 := by
        have h1 := flatMap_lenS (encExm f) 20000 ((f :: r).take k) (fun s hs => encExm_len f s (hwf s (List.mem_of_mem_take hs)))
        have h2 : ((f :: r).take k).length ≤ k := List.length_take_le _ _
        have h3 : ((f :: r).take k).length * 20000 ≤ k * 20000 := Nat.mul_le_mul_right _ h2
        have h4 : (encXHdr f).length = 16 := by simp [encXHdr, Lib.beBytes_length]
        rw [List.length_append, h4]; omega
      have hk9 : k * 20000 ≤ 12 * 20000 := Nat.mul_le_mul_right _ (by omega)
      obtain ⟨Y, hY⟩ : ∃ Y, encXHdr f ++ ((f :: r).take k).flatMap (encExm f) = Y := ⟨_, rfl⟩
      rw [hY] at hyl
      rw [hY] at R
      have HY := Lib.hid hY
      have HX := Lib.hid hx
      obtain ⟨st, hst⟩ : ∃ st, labStr (sortL x.labs) = st := ⟨_, rfl⟩
      rw [hst] at d3
      have hBx := Blk.new wr 157 #[.int .u64 x.ref, .int .i64 x.t, .float .f64 x.v, .string st]
      have RA := R.alloc (.cells #[.int .u64 x.ref, .int .i64 x.t, .float .f64 x.v, .string st] 157)
      have HBK := Lib.hid (hBk.alloc (.cells #[.int .u64 x.ref, .int .i64 x.t, .float .f64 x.v, .string st] 157))
      have HBX := Lib.hid hBx
      have HRA := Lib.hid RA
      have hyl2 : Y.length ≤ 240016 := by omega
      have HW := Lib.hid hwx
      have HLB := Lib.hid (fun (e : Nat) (o : Option Nat) (zs : List UInt8) (W : World) (h : Enc W e o zs) (hz : zs.length ≤ 1073741824) => by
        have := encodeLabels_any e o zs (sortL x.labs) W h hz (by rw [lsort_length]; have := hwx.2.2.2.2.1; omega) (fun p hp => by have := hwx.2.2.2.2.2.1 p ((lsort_sorted ltL ltL_trans ltL_irrefl ltL_ntrans x.labs).2.mem_iff.mp hp); omega)
        rw [hst] at this
        exact this)
      obtain ⟨Q1, hQ1⟩ : ∃ Q, Lib.uvarint (Lib.zigzag (xRef f x)) = Q := ⟨_, rfl⟩
      obtain ⟨Q2, hQ2⟩ : ∃ Q, Lib.uvarint (Lib.zigzag (xT f x)) = Q := ⟨_, rfl⟩
      have hl1 := zz_len (xRef f x) (wrap64_bd _).1 (wrap64_bd _).2
      have hl2 := zz_len (xT f x) (wrap64_bd _).1 (wrap64_bd _).2
      rw [hQ1] at hl1
      rw [hQ2] at hl2
      have HQ1 := Lib.hid hQ1
      have HQ2 := Lib.hid hQ2
      have hr8 := run168
      clear hx hFk cc hBx hBk hY R RA hyl hk9 hwf hwx hst hQ1 hQ2 HCELL
      go_wp2_with (first
        | (go_at_call 183; refine (put_more2 HRA.out (f := 183) (args := #[.pointer (some ⟨e, 0, none⟩), .int .i64 (xRef f x)]) (zs := Q1) (fun o2 he => by have := putVarint64 _ o2 _ (xRef f x) (wrap64_bd _).1 (wrap64_bd _).2 _ he (by rw [List.length_append]; omega); rw [HQ1.out] at this; exact this)).mono ?_; rintro rA wA ⟨rfl, R1, K1⟩
           have hB1 := K1.out _ _ _ (by decide) (by decide) HBX.out
           have hB2 := K1.out _ _ _ (by decide) (by decide) HBK.out
           have p1 := hB1.cell 1
           have q1 := hB2.cell 1
           simp at p1 q1
           have HBX1 := Lib.hid hB1
           have HR2 := Lib.hid R1
           have hv2 : (Y ++ Q1).length ≤ 240026 := by rw [List.length_append]; omega
           clear R1 K1 hB1 hB2 HRA b0 b1)
        | (go_at_call 183; refine (put_more2 HR2.out (f := 183) (args := #[.pointer (some ⟨e, 0, none⟩), .int .i64 (xT f x)]) (zs := Q2) (fun o2 he => by have := putVarint64 _ o2 _ (xT f x) (wrap64_bd _).1 (wrap64_bd _).2 _ he (by rw [List.length_append]; omega); rw [HQ2.out] at this; exact this)).mono ?_; rintro rB wB ⟨rfl, R1, K1⟩
           have hB1 := K1.out _ _ _ (by decide) (by decide) HBX1.out
           have p2 := hB1.cell 2
           simp at p2
           have HBX2 := Lib.hid hB1
           have HR3 := Lib.hid R1
           have hv3 : (Y ++ Q1 ++ Q2).length ≤ 240036 := by rw [List.length_append]; omega
           clear R1 K1 hB1 p1 q1 HR2 hv2 HBX1)
        | (go_at_call 181; refine (put_more2 HR3.out (f := 181) (args := #[.pointer (some ⟨e, 0, none⟩), .int .u64 x.v]) (zs := Lib.beBytes 8 x.v) (fun o2 he => putBE64 _ o2 _ _ HW.out.2.2.2.1 _ he (by rw [List.length_append]; omega))).mono ?_; rintro rC wC ⟨rfl, R1, K1⟩
           have hB1 := K1.out _ _ _ (by decide) (by decide) HBX2.out
           have p3 := hB1.cell 3
           simp at p3
           have HR4 := Lib.hid R1
           have hv4 : (Y ++ Q1 ++ Q2 ++ Lib.beBytes 8 x.v).length ≤ 240044 := by rw [List.length_append, Lib.beBytes_length]; omega
           clear R1 K1 hB1 p2 HR3 hv3 HBX2)
        | (go_at_call 115; refine (put_more2 HR4.out (f := 115) (args := #[.pointer (some ⟨e, 0, none⟩), .agg #[.string st]]) (zs := encLabs (sortL x.labs)) (fun o2 he => HLB.out _ o2 _ _ he (by rw [List.length_append]; omega))).mono ?_; rintro rD wD ⟨rfl, R1, K1⟩
           have HR8 := Lib.hid R1
           clear R1 K1 HR4))
      have RE : Put WB e o xs (encXHdr f ++ ((f :: r).take (k + 1)).flatMap (encExm f)) wD := by
        rw [flatMap_take_succ' (encExm f) (f :: r) k x HX.out, ← List.append_assoc, HY.out]
        unfold encExm
        rw [HQ1.out, HQ2.out]
        simpa [List.append_assoc] using HR8.out
      have HRE := Lib.hid RE
      clear RE HR8
      go_wp2
      go_roundw
      case rel => exact ⟨k + 1, by omega, by go_num, HRE.out⟩
      case measure => simp [intOf]; omega
    · obtain rfl : k = n := by omega
      go_wp2
      go_end0
      have e1 : (f :: r).take k = f :: r := List.take_of_length_le (by rw [List.length_cons, HN.out]; exact Nat.le_refl _)
      rw [e1] at R
      obtain ⟨oZ, hEZ, hfZ, hoZ⟩ := R
      refine ⟨rfl, oZ, hEZ, HFW.out.trans hfZ (fun k hk h => h), ?_⟩
      rcases hoZ with h | ⟨k2, h, hk2⟩
      · exact .inl h
      · exact .inr ⟨k2, h, by omega⟩
end Go.Proofs.YtbkookiigkckdaaGreatDoor

/- Exemplars: Encoder.Exemplars 94. -/
namespace Go.Proofs.YtbkookiigkckdaaGreatDoor
open Go.RowKit
set_option linter.unusedVariables false
set_option linter.unusedSimpArgs false

def encExms (l : List Exm) : List UInt8 := 4 :: encXs l

set_option maxRecDepth 100000 in
set_option maxHeartbeats 4000000 in
theorem encExms_any (ep : Value) (sv : Value) (P : Nat → Prop) (v : Value) (xs : List UInt8) (l : List Exm) (w : World) (h : Sl P w sv 4 l.length (l.flatMap exo)) (hown : w.ownsRow 0 5 1 v xs.length (bc xs)) (hl : xs.length ≤ 536870912)
    (hsl : l.length ≤ 12) (hwf : ∀ s ∈ l, ExmOk s) (hP : ∀ g, P g → g < w.heap.size ∧ some g ≠ v.ownBlock) :
    Calls Tryz.prog 94 #[ep, sv, v] w (EncodeEnds w v.ownBlock (xs ++ encExms l)) := by
  have hsv : ∃ A m c, sv = .slice A m c := let ⟨A, c, h, _⟩ := h; ⟨A, _, c, h⟩
  have HS := Lib.hid h
  obtain ⟨A, c, rfl, hlen, hnc, hr⟩ := h
  obtain ⟨a', n', k', rfl⟩ := own_slice hown
  have hE := Enc.made (z := .int .u8 0) hown _ rfl
  have hQ := putByte w.heap.size _ xs 4 _ hE (by omega)
  have e2 : ((4 : UInt8).toNat : Int) = 4 := rfl
  rw [e2] at hQ
  have HE := Lib.hid hE
  clear hE e2 hlen hr hsv
  have hFW : Fr (fun k => some k = (Value.slice a' n' k').ownBlock) w (w.alloc (.cells #[.slice a' n' k', .int .u8 0, .int .u8 0, .int .u8 0, .int .u8 0, .int .u8 0, .int .u8 0, .int .u8 0, .int .u8 0, .int .u8 0, .int .u8 0] 224)) := (Fr.refl _ w).alloc _
  have HFW := Lib.hid hFW
  clear hFW
  rcases l with _ | ⟨f, r⟩
  · go_enter Tryz.func94, Tryz.ntmps94
    go_wp2_with (first | (go_at_call 180; refine hQ.mono ?_; rintro r1 w1 ⟨rfl, R⟩; obtain ⟨o1, hE1, hf1, ho1⟩ := R; have hG := encGet _ _ _ _ hE1) | (go_at_call 116; refine hG.mono ?_; rintro r w2 ⟨v2, rfl, rfl, hown2, hv2⟩))
    go_ret
    refine ⟨v2, rfl, by simpa [encExms, encXs] using hown2, made_end (o1 := o1) hf1, ?_⟩
    rw [hv2]
    rcases ho1 with h | ⟨k, h, hk⟩
    · exact .inl h
    · exact .inr ⟨k, h, by simp at hk; omega⟩
  · obtain ⟨n, hn⟩ : ∃ n, (f :: r).length = n := ⟨_, rfl⟩
    have hn2 : n = r.length + 1 := by rw [← hn]; rfl
    have HN := Lib.hid hn2
    rw [hn] at HS hnc hsl ⊢
    have hn0 : ((n : Int) == 0) = false := by simp; omega
    have HP := Lib.hid hP
    have HW := Lib.hid hwf
    clear hn hn2 hP hwf
    go_enter Tryz.func94, Tryz.ntmps94
    go_wp2_with (first
      | (go_at_call 180; refine hQ.mono ?_; rintro r1 w1 ⟨rfl, R⟩
         have hws : w.heap.size < w1.heap.size := by have := R.fr.size; simp at this; omega
         obtain ⟨o1, hE1, hf1, ho1⟩ := R
         have hB : ∀ g, P g → g < w1.heap.size ∧ ¬ (g = w.heap.size ∨ some g = o1) := fun g hg => by
           have h1 := HP.out g hg
           refine ⟨by omega, ?_⟩
           rintro (rfl | h)
           · omega
           · rcases ho1 with h2 | ⟨k, h2, hk⟩
             · exact h1.2 (h.trans h2)
             · rw [h2] at h; injection h with h; simp at hk; omega
         have hF1 := made_end (o1 := o1) hf1
         have hSl1 := HS.out.fr hF1 (fun g hg => (HP.out g hg).2)
         rw [HN.out] at hSl1
         have hX := encXs_into ep (.slice A n c) P w.heap.size o1 (xs ++ [4]) f r w1 (by rw [HN.out]; exact hSl1) hE1 (by rw [List.length_append, List.length_singleton]; omega) (by have := HN.out; omega) HW.out hB
         have HF1 := Lib.hid hF1
         have HO1 := Lib.hid ho1
         clear hSl1 hB hF1 ho1 hf1 hE1)
      | (go_at_call 184; refine hX.mono ?_; rintro r2 w2 ⟨rfl, oZ, hEZ, hfZ, hoZ⟩; have hG := encGet _ _ _ _ hEZ; have HZ := Lib.hid hfZ; clear hX hfZ)
      | (go_at_call 116; refine hG.mono ?_; rintro r w3 ⟨v2, rfl, rfl, hown2, hv2⟩))
    go_ret
    refine ⟨v2, rfl, by simpa [encExms, List.append_assoc] using hown2, HF1.out.trans HZ.out (fun k hk e => ?_), ?_⟩
    · rcases e with e | e
      · omega
      · rcases HO1.out with h2 | ⟨k2, h2, hk2⟩
        · rw [e, h2]
        · rw [h2] at e; injection e with e; simp at hk2; omega
    · rw [hv2]
      rcases hoZ with h | ⟨k2, h, hk2⟩
      · rw [h]
        rcases HO1.out with h2 | ⟨k3, h2, hk3⟩
        · exact .inl h2
        · exact .inr ⟨k3, h2, by simp at hk3; omega⟩
      · exact .inr ⟨k2, h, by omega⟩
end Go.Proofs.YtbkookiigkckdaaGreatDoor

/- RecordWrite's closure at series, exemplars, metadata; RecordWrite. Printed by gen_wx.py. -/
namespace Go.Proofs.YtbkookiigkckdaaGreatDoor
open Go.RowKit
set_option linter.unusedVariables false
set_option linter.unusedSimpArgs false

def SerR (s : Ser) : Prop := s.ref < 18446744073709551616 ∧ LabOk s.labs 12 600
def ExmR (s : Exm) : Prop := (s.ref < 18446744073709551616 ∧ -9223372036854775808 ≤ s.t ∧ s.t ≤ 9223372036854775807 ∧ s.v < 18446744073709551616) ∧ LabOk s.labs 12 600
theorem SerR.lab {s : Ser} (h : SerR s) : LabOk s.labs 12 600 := h.2
theorem ExmR.lab {s : Exm} (h : ExmR s) : LabOk s.labs 12 600 := h.2
theorem SerR.ok {s : Ser} (h : SerR s) : SerOk s := ⟨h.1, h.2.1, fun p hp => (h.2.2.1 p hp).2, h.2.2.2⟩
theorem ExmR.ok {s : Exm} (h : ExmR s) : ExmOk s := ⟨h.1.1, h.1.2.1, h.1.2.2.1, h.1.2.2.2, h.2.1, fun p hp => (h.2.2.1 p hp).2, h.2.2.2⟩

set_option maxRecDepth 100000 in
set_option maxHeartbeats 4000000 in
theorem write1_series (bk bp bb br : Nat) (ep lp : Value) (P : Nat → Prop) (s0 s1 s2 s3 s4 s5 s6 v z : Value) (xs : List UInt8) (lv : List (Ser × Value)) (w : World) (hk : Blk w bk 3 #[.int .i64 1]) (hp : Blk w bp 54 #[s0, s1, s2, s3, s4, s5, s6]) (hb : Blk w bb 44 #[v]) (hr : Blk w br 44 #[z])
    (hown : w.ownsRow 0 5 1 v xs.length (bc xs)) (hs : SlR P w s0 lv) (hl : xs.length ≤ 536870912) (hsl : (lv.map Prod.fst).length ≤ 12) (hwf : ∀ s ∈ (lv.map Prod.fst), SerR s) (hbr : bb ≠ br) :
    Calls Tryz.prog 90 #[.pointer (some ⟨bk, 0, none⟩), ep, .pointer (some ⟨bp, 0, none⟩), .pointer (some ⟨bb, 0, none⟩), .pointer (some ⟨br, 0, none⟩), lp] w (WroteEnds w br v.ownBlock (xs ++ encSers (lv.map Prod.fst))) := by
  have hpr : bp ≠ br := Blk.ne_ hp hr (by decide)
  have k0 := hk.cell 0
  have p1 := hp.cell 0
  have b0 := hb.cell 0
  simp at k0 p1 b0
  obtain ⟨a', n', k', rfl⟩ := own_slice hown
  have hs1 : ∃ A m c, s0 = .slice A m c := let ⟨A, c, h, _⟩ := hs.1; ⟨A, _, c, h⟩
  obtain ⟨A, m, c, rfl⟩ := hs1
  have hQ := refSeries_any P (.slice A m c) lv w.drew hs (by rw [List.length_map] at hsl; omega) (fun p hp => (hwf p.1 (List.mem_map.2 ⟨p, hp, rfl⟩)).lab)
  have HB := Lib.hid hb
  have HP := Lib.hid hp
  have HR := Lib.hid hr
  have HO := Lib.hid hown
  have p1d : w.drew.cell? ⟨bp, 0, none⟩ = some (.slice A m c) := p1
  have b0d : w.drew.cell? ⟨bb, 0, none⟩ = some (.slice a' n' k') := b0
  clear hk hp hb hr hown hs
  go_enter Tryz.func90, Tryz.ntmps90
  go_wp2_with fail
  have HW := Lib.hid hwf
  clear hwf
  go_region_held3 (fun w' => w'.cell? ⟨bp, 0, none⟩ = some (.slice A m c) ∧ w'.cell? ⟨bb, 0, none⟩ = some (.slice a' n' k'))
    ((first | (go_split_ands; refine ⟨?_, ?_⟩ <;> first | exact ((HP.out.drew).fr hf1 (fun e => e)).cell 0 | exact ((HB.out.drew).fr hf1 (fun e => e)).cell 0) | (go_split_ands; refine ⟨?_, ?_⟩ <;> first | exact KP.out.cell 0 | exact KB.out.cell 0) | (go_split_ands; refine ⟨?_, ?_⟩ <;> first | exact (KP.out.far (p := ⟨br, 0, none⟩) hpr _).cell 0 | exact (KB.out.far (p := ⟨br, 0, none⟩) hbr _).cell 0) | go_keep))
    ((first
      | (go_at_call 69; refine hQ.mono ?_; rintro r1 w1 ⟨v1, rfl, hown1, hf1⟩)
      | (go_at_call 91; refine (encSers_any ep v1 (fun g => v1.ownBlock = some g) (.slice a' n' k') xs (lv.map Prod.fst) w1 (Sl.ofOwn hown1) (own_fr (World.ownsRow.drew HO.out) hf1 (fun _ _ e => e)) hl hsl (fun s hs => (HW.out s hs).ok) (write1_side hown1 HO.out (Nat.le_refl _))).mono ?_; rintro r2 w2 ⟨v2, rfl, hown2, hf2, hat2⟩; obtain ⟨KP, KB, KR⟩ := write1_keeps HP.out HB.out HR.out HO.out hf1 hf2; have q0 := KR.out.cell 0; simp at q0; have q1 := KR.out.frozen 0; obtain ⟨a2, n2, k2, rfl⟩ := own_slice hown2)))
  have HE : Fr (fun k => some k = (Value.slice a' n' k').ownBlock ∨ k = br) w (w2.setCell ⟨br, 0, none⟩ (.slice a2 n2 k2)) :=
    ((((Fr.refl (fun k => some k = (Value.slice a' n' k').ownBlock ∨ k = br) w).drew).trans hf1 (fun _ _ e => e.elim)).trans hf2 (fun _ _ e => .inl e)).setCell (p := ⟨br, 0, none⟩) (.inl (.inr rfl)) _
  have HV : Blk (w2.setCell ⟨br, 0, none⟩ (.slice a2 n2 k2)) br 44 #[.slice a2 n2 k2] := by simpa using KR.out.set_ 0 (.slice a2 n2 k2)
  have HF := Lib.hid HE
  have HVV := Lib.hid HV
  have HOW : (w2.setCell ⟨br, 0, none⟩ (.slice a2 n2 k2)).ownsRow 0 5 1 (.slice a2 n2 k2) (xs ++ encSers (lv.map Prod.fst)).length (bc (xs ++ encSers (lv.map Prod.fst))) := own_fr hown2 (Fr.put_ w2 br 0 _) (fun g hg e => own_ne hown2 KR.out (by decide) (by rw [hg, e]))
  have HOWW := Lib.hid HOW
  have hsz := hf1.size
  have HAT := Lib.hid hat2
  clear HE HV HOW hown1 hf1 hown2 hf2 hat2 q0 q1 hQ p1 p1d b0 b0d
  go_wp2
  go_end0
  refine ⟨rfl, _, HVV.out, HOWW.out, HF.out, ?_⟩
  rcases HAT.out with h | ⟨k, h, hk⟩
  · exact .inl h
  · exact .inr ⟨k, h, by simp at hsz; omega⟩

theorem recordWrite_series (s0 s1 s2 s3 s4 s5 s6 bv : Value) (xs : List UInt8) (lv : List (Ser × Value)) (P : Nat → Prop) (w : World) (hb : Sl P w bv 1 xs.length (bc xs)) (hxl : xs.length ≤ 536870912)
    (hsl : ∀ s ∈ [s0, s1, s2, s3, s4, s5, s6], ∃ A m c, s = .slice A m c) (hs : SlR P w s0 lv) (hll : (lv.map Prod.fst).length ≤ 12) (hwf : ∀ s ∈ (lv.map Prod.fst), SerR s) :
    Calls Tryz.prog 31 #[.int .i64 1, .agg #[s0, s1, s2, s3, s4, s5, s6], bv] w (WriteEnds (fun lv _ => lv = .slice none 0 0) w (xs ++ encSers (lv.map Prod.fst))) := by
  refine recordWrite_of 1 s0 s1 s2 s3 s4 s5 s6 bv xs _ P _ w hb (by omega) hsl (by rintro lv W rfl; exact ⟨_, _, _, rfl⟩) (fun _ _ _ h _ => h) ?_
  intro bk be bp bb br bl v W hk hp hb' hr hl hown hbr hF
  exact (write1_series bk bp bb br _ _ P s0 s1 s2 s3 s4 s5 s6 v _ xs lv W hk hp hb' hr (own_mono hown (Nat.zero_le _)) (hs.fr hF (fun _ _ e => e)) hxl hll hwf hbr).mono fun r w' h => wrote_w1 (own_mono hown (Nat.zero_le _)) hr hl h

set_option maxRecDepth 100000 in
set_option maxHeartbeats 4000000 in
theorem write1_exemplars (bk bp bb br : Nat) (ep lp : Value) (P : Nat → Prop) (s0 s1 s2 s3 s4 s5 s6 v z : Value) (xs : List UInt8) (lv : List (Exm × Value)) (w : World) (hk : Blk w bk 3 #[.int .i64 4]) (hp : Blk w bp 54 #[s0, s1, s2, s3, s4, s5, s6]) (hb : Blk w bb 44 #[v]) (hr : Blk w br 44 #[z])
    (hown : w.ownsRow 0 5 1 v xs.length (bc xs)) (hs : SlX P w s3 lv) (hl : xs.length ≤ 536870912) (hsl : (lv.map Prod.fst).length ≤ 12) (hwf : ∀ s ∈ (lv.map Prod.fst), ExmR s) (hbr : bb ≠ br) :
    Calls Tryz.prog 90 #[.pointer (some ⟨bk, 0, none⟩), ep, .pointer (some ⟨bp, 0, none⟩), .pointer (some ⟨bb, 0, none⟩), .pointer (some ⟨br, 0, none⟩), lp] w (WroteEnds w br v.ownBlock (xs ++ encExms (lv.map Prod.fst))) := by
  have hpr : bp ≠ br := Blk.ne_ hp hr (by decide)
  have k0 := hk.cell 0
  have p1 := hp.cell 3
  have b0 := hb.cell 0
  simp at k0 p1 b0
  obtain ⟨a', n', k', rfl⟩ := own_slice hown
  have hs1 : ∃ A m c, s3 = .slice A m c := let ⟨A, c, h, _⟩ := hs.1; ⟨A, _, c, h⟩
  obtain ⟨A, m, c, rfl⟩ := hs1
  have hQ := refExemplars_any P (.slice A m c) lv w.drew hs (by rw [List.length_map] at hsl; omega) (fun p hp => (hwf p.1 (List.mem_map.2 ⟨p, hp, rfl⟩)).lab)
  have HB := Lib.hid hb
  have HP := Lib.hid hp
  have HR := Lib.hid hr
  have HO := Lib.hid hown
  have p1d : w.drew.cell? ⟨bp, 3, none⟩ = some (.slice A m c) := p1
  have b0d : w.drew.cell? ⟨bb, 0, none⟩ = some (.slice a' n' k') := b0
  clear hk hp hb hr hown hs
  go_enter Tryz.func90, Tryz.ntmps90
  go_wp2_with fail
  have HW := Lib.hid hwf
  clear hwf
  go_region_held3 (fun w' => w'.cell? ⟨bp, 3, none⟩ = some (.slice A m c) ∧ w'.cell? ⟨bb, 0, none⟩ = some (.slice a' n' k'))
    ((first | (go_split_ands; refine ⟨?_, ?_⟩ <;> first | exact ((HP.out.drew).fr hf1 (fun e => e)).cell 3 | exact ((HB.out.drew).fr hf1 (fun e => e)).cell 0) | (go_split_ands; refine ⟨?_, ?_⟩ <;> first | exact KP.out.cell 3 | exact KB.out.cell 0) | (go_split_ands; refine ⟨?_, ?_⟩ <;> first | exact (KP.out.far (p := ⟨br, 0, none⟩) hpr _).cell 3 | exact (KB.out.far (p := ⟨br, 0, none⟩) hbr _).cell 0) | go_keep))
    ((first
      | (go_at_call 78; refine hQ.mono ?_; rintro r1 w1 ⟨v1, rfl, hown1, hf1⟩)
      | (go_at_call 94; refine (encExms_any ep v1 (fun g => v1.ownBlock = some g) (.slice a' n' k') xs (lv.map Prod.fst) w1 (Sl.ofOwn hown1) (own_fr (World.ownsRow.drew HO.out) hf1 (fun _ _ e => e)) hl hsl (fun s hs => (HW.out s hs).ok) (write1_side hown1 HO.out (Nat.le_refl _))).mono ?_; rintro r2 w2 ⟨v2, rfl, hown2, hf2, hat2⟩; obtain ⟨KP, KB, KR⟩ := write1_keeps HP.out HB.out HR.out HO.out hf1 hf2; have q0 := KR.out.cell 0; simp at q0; have q1 := KR.out.frozen 0; obtain ⟨a2, n2, k2, rfl⟩ := own_slice hown2)))
  have HE : Fr (fun k => some k = (Value.slice a' n' k').ownBlock ∨ k = br) w (w2.setCell ⟨br, 0, none⟩ (.slice a2 n2 k2)) :=
    ((((Fr.refl (fun k => some k = (Value.slice a' n' k').ownBlock ∨ k = br) w).drew).trans hf1 (fun _ _ e => e.elim)).trans hf2 (fun _ _ e => .inl e)).setCell (p := ⟨br, 0, none⟩) (.inl (.inr rfl)) _
  have HV : Blk (w2.setCell ⟨br, 0, none⟩ (.slice a2 n2 k2)) br 44 #[.slice a2 n2 k2] := by simpa using KR.out.set_ 0 (.slice a2 n2 k2)
  have HF := Lib.hid HE
  have HVV := Lib.hid HV
  have HOW : (w2.setCell ⟨br, 0, none⟩ (.slice a2 n2 k2)).ownsRow 0 5 1 (.slice a2 n2 k2) (xs ++ encExms (lv.map Prod.fst)).length (bc (xs ++ encExms (lv.map Prod.fst))) := own_fr hown2 (Fr.put_ w2 br 0 _) (fun g hg e => own_ne hown2 KR.out (by decide) (by rw [hg, e]))
  have HOWW := Lib.hid HOW
  have hsz := hf1.size
  have HAT := Lib.hid hat2
  clear HE HV HOW hown1 hf1 hown2 hf2 hat2 q0 q1 hQ p1 p1d b0 b0d
  go_wp2
  go_end0
  refine ⟨rfl, _, HVV.out, HOWW.out, HF.out, ?_⟩
  rcases HAT.out with h | ⟨k, h, hk⟩
  · exact .inl h
  · exact .inr ⟨k, h, by simp at hsz; omega⟩

theorem recordWrite_exemplars (s0 s1 s2 s3 s4 s5 s6 bv : Value) (xs : List UInt8) (lv : List (Exm × Value)) (P : Nat → Prop) (w : World) (hb : Sl P w bv 1 xs.length (bc xs)) (hxl : xs.length ≤ 536870912)
    (hsl : ∀ s ∈ [s0, s1, s2, s3, s4, s5, s6], ∃ A m c, s = .slice A m c) (hs : SlX P w s3 lv) (hll : (lv.map Prod.fst).length ≤ 12) (hwf : ∀ s ∈ (lv.map Prod.fst), ExmR s) :
    Calls Tryz.prog 31 #[.int .i64 4, .agg #[s0, s1, s2, s3, s4, s5, s6], bv] w (WriteEnds (fun lv _ => lv = .slice none 0 0) w (xs ++ encExms (lv.map Prod.fst))) := by
  refine recordWrite_of 4 s0 s1 s2 s3 s4 s5 s6 bv xs _ P _ w hb (by omega) hsl (by rintro lv W rfl; exact ⟨_, _, _, rfl⟩) (fun _ _ _ h _ => h) ?_
  intro bk be bp bb br bl v W hk hp hb' hr hl hown hbr hF
  exact (write1_exemplars bk bp bb br _ _ P s0 s1 s2 s3 s4 s5 s6 v _ xs lv W hk hp hb' hr (own_mono hown (Nat.zero_le _)) (hs.fr hF (fun _ _ e => e)) hxl hll hwf hbr).mono fun r w' h => wrote_w1 (own_mono hown (Nat.zero_le _)) hr hl h

set_option maxRecDepth 100000 in
set_option maxHeartbeats 4000000 in
theorem write1_metadata (bk bp bb br : Nat) (ep lp : Value) (P : Nat → Prop) (s0 s1 s2 s3 s4 s5 s6 v z : Value) (xs : List UInt8) (l : List Mta) (w : World) (hk : Blk w bk 3 #[.int .i64 6]) (hp : Blk w bp 54 #[s0, s1, s2, s3, s4, s5, s6]) (hb : Blk w bb 44 #[v]) (hr : Blk w br 44 #[z])
    (hown : w.ownsRow 0 5 1 v xs.length (bc xs)) (hs : Sl P w s4 4 l.length (l.flatMap Mta.c)) (hl : xs.length ≤ 536870912) (hsl : l.length ≤ 1048576) (hwf : ∀ s ∈ l, s.wf) (hbr : bb ≠ br) :
    Calls Tryz.prog 90 #[.pointer (some ⟨bk, 0, none⟩), ep, .pointer (some ⟨bp, 0, none⟩), .pointer (some ⟨bb, 0, none⟩), .pointer (some ⟨br, 0, none⟩), lp] w (WroteEnds w br v.ownBlock (xs ++ encMetas l)) := by
  have hpr : bp ≠ br := Blk.ne_ hp hr (by decide)
  have k0 := hk.cell 0
  have p1 := hp.cell 4
  have b0 := hb.cell 0
  simp at k0 p1 b0
  obtain ⟨a', n', k', rfl⟩ := own_slice hown
  have hs1 : ∃ A m c, s4 = .slice A m c := let ⟨A, c, h, _⟩ := hs; ⟨A, _, c, h⟩
  obtain ⟨A, m, c, rfl⟩ := hs1
  have hQ := refMetadata_any P (.slice A m c) l w.drew hs (by omega)
  have HB := Lib.hid hb
  have HP := Lib.hid hp
  have HR := Lib.hid hr
  have HO := Lib.hid hown
  have p1d : w.drew.cell? ⟨bp, 4, none⟩ = some (.slice A m c) := p1
  have b0d : w.drew.cell? ⟨bb, 0, none⟩ = some (.slice a' n' k') := b0
  clear hk hp hb hr hown hs
  go_enter Tryz.func90, Tryz.ntmps90
  go_wp2_with fail
  have HW := Lib.hid hwf
  clear hwf
  go_region_held3 (fun w' => w'.cell? ⟨bp, 4, none⟩ = some (.slice A m c) ∧ w'.cell? ⟨bb, 0, none⟩ = some (.slice a' n' k'))
    ((first | (go_split_ands; refine ⟨?_, ?_⟩ <;> first | exact ((HP.out.drew).fr hf1 (fun e => e)).cell 4 | exact ((HB.out.drew).fr hf1 (fun e => e)).cell 0) | (go_split_ands; refine ⟨?_, ?_⟩ <;> first | exact KP.out.cell 4 | exact KB.out.cell 0) | (go_split_ands; refine ⟨?_, ?_⟩ <;> first | exact (KP.out.far (p := ⟨br, 0, none⟩) hpr _).cell 4 | exact (KB.out.far (p := ⟨br, 0, none⟩) hbr _).cell 0) | go_keep))
    ((first
      | (go_at_call 82; refine hQ.mono ?_; rintro r1 w1 ⟨v1, rfl, hown1, hf1⟩)
      | (go_at_call 96; refine (encMetas_any ep v1 (fun g => v1.ownBlock = some g) (.slice a' n' k') xs l w1 (Sl.ofOwn hown1) (own_fr (World.ownsRow.drew HO.out) hf1 (fun _ _ e => e)) (by omega) hsl HW.out (write1_side hown1 HO.out (Nat.le_refl _))).mono ?_; rintro r2 w2 ⟨v2, rfl, hown2, hf2, hat2⟩; obtain ⟨KP, KB, KR⟩ := write1_keeps HP.out HB.out HR.out HO.out hf1 hf2; have q0 := KR.out.cell 0; simp at q0; have q1 := KR.out.frozen 0; obtain ⟨a2, n2, k2, rfl⟩ := own_slice hown2)))
  have HE : Fr (fun k => some k = (Value.slice a' n' k').ownBlock ∨ k = br) w (w2.setCell ⟨br, 0, none⟩ (.slice a2 n2 k2)) :=
    ((((Fr.refl (fun k => some k = (Value.slice a' n' k').ownBlock ∨ k = br) w).drew).trans hf1 (fun _ _ e => e.elim)).trans hf2 (fun _ _ e => .inl e)).setCell (p := ⟨br, 0, none⟩) (.inl (.inr rfl)) _
  have HV : Blk (w2.setCell ⟨br, 0, none⟩ (.slice a2 n2 k2)) br 44 #[.slice a2 n2 k2] := by simpa using KR.out.set_ 0 (.slice a2 n2 k2)
  have HF := Lib.hid HE
  have HVV := Lib.hid HV
  have HOW : (w2.setCell ⟨br, 0, none⟩ (.slice a2 n2 k2)).ownsRow 0 5 1 (.slice a2 n2 k2) (xs ++ encMetas l).length (bc (xs ++ encMetas l)) := own_fr hown2 (Fr.put_ w2 br 0 _) (fun g hg e => own_ne hown2 KR.out (by decide) (by rw [hg, e]))
  have HOWW := Lib.hid HOW
  have hsz := hf1.size
  have HAT := Lib.hid hat2
  clear HE HV HOW hown1 hf1 hown2 hf2 hat2 q0 q1 hQ p1 p1d b0 b0d
  go_wp2
  go_end0
  refine ⟨rfl, _, HVV.out, HOWW.out, HF.out, ?_⟩
  rcases HAT.out with h | ⟨k, h, hk⟩
  · exact .inl h
  · exact .inr ⟨k, h, by simp at hsz; omega⟩

theorem recordWrite_metadata (s0 s1 s2 s3 s4 s5 s6 bv : Value) (xs : List UInt8) (l : List Mta) (P : Nat → Prop) (w : World) (hb : Sl P w bv 1 xs.length (bc xs)) (hxl : xs.length ≤ 536870912)
    (hsl : ∀ s ∈ [s0, s1, s2, s3, s4, s5, s6], ∃ A m c, s = .slice A m c) (hs : Sl P w s4 4 l.length (l.flatMap Mta.c)) (hll : l.length ≤ 1048576) (hwf : ∀ s ∈ l, s.wf) :
    Calls Tryz.prog 31 #[.int .i64 6, .agg #[s0, s1, s2, s3, s4, s5, s6], bv] w (WriteEnds (fun lv _ => lv = .slice none 0 0) w (xs ++ encMetas l)) := by
  refine recordWrite_of 6 s0 s1 s2 s3 s4 s5 s6 bv xs _ P _ w hb (by omega) hsl (by rintro lv W rfl; exact ⟨_, _, _, rfl⟩) (fun _ _ _ h _ => h) ?_
  intro bk be bp bb br bl v W hk hp hb' hr hl hown hbr hF
  exact (write1_metadata bk bp bb br _ _ P s0 s1 s2 s3 s4 s5 s6 v _ xs l W hk hp hb' hr (own_mono hown (Nat.zero_le _)) (hs.fr hF (fun _ _ e => e)) hxl hll hwf hbr).mono fun r w' h => wrote_w1 (own_mono hown (Nat.zero_le _)) hr hl h

end Go.Proofs.YtbkookiigkckdaaGreatDoor

/- Intervals: impl.intervals, impl.unintervals. Printed by gen_iv.py. -/
namespace Go.Proofs.YtbkookiigkckdaaGreatDoor
open Go.RowKit
set_option linter.unusedVariables false
set_option linter.unusedSimpArgs false

def ivc (p : Int × Int) : List Value := [.int .i64 p.1, .int .i64 p.2]
theorem Tryz.info279 : (Tryz.prog.info? 279).map (fun i => (i.zero, i.size, i.bytes)) = some (some (.agg #[.int .i64 0, .int .i64 0]), 2, 16) := by kernel_rfl
theorem Tryz.info281 : (Tryz.prog.info? 281).map (fun i => (i.zero, i.size, i.bytes)) = some (some (.agg #[.int .i64 0, .int .i64 0]), 2, 16) := by kernel_rfl

def IvEnds (t : TypeId) (w : World) (l : List (Int × Int)) (r : Ending) (w' : World) : Prop :=
  ∃ v, r = .returned v ∧ w'.ownsRow w.heap.size t 2 v l.length (l.flatMap ivc) ∧ Fr (fun _ => False) w w'


set_option maxHeartbeats 1000000 in
set_option maxRecDepth 100000 in
theorem intervals_any (P : Nat → Prop) (v : Value) (l : List (Int × Int)) (w : World) (h : Sl P w v 2 l.length (l.flatMap ivc)) (hl : l.length ≤ 1099511627776) :
    Calls Tryz.prog 169 #[v] w (IvEnds 279 w l) := by
  obtain ⟨A, c, rfl, hlen, hnc, hr⟩ := h
  obtain ⟨n, hn⟩ : ∃ n, l.length = n := ⟨_, rfl⟩
  rw [hn] at hr hnc hl ⊢
  have HN := Lib.hid hn
  have HR := Lib.hid hr
  obtain ⟨i0, hi0, hz0, hz1, hz2⟩ := info_parts Tryz.info279
  clear hn hr hlen
  go_enter Tryz.func169, Tryz.ntmps169
  go_wp2
  go_loopw [3, 8] (fun v i wr => ∃ k : Nat, k ≤ n ∧ i = .int .i64 k ∧ wr.ownsRow w.heap.size 279 2 v k ((l.take k).flatMap ivc) ∧ Fr (fun _ => False) w wr) (fun _ i _ => n - (intOf i).toNat)
  case atStart => exact ⟨0, Nat.zero_le _, rfl, World.ownsRow_nil _ _ _ _, Fr.refl _ _⟩
  case round =>
    obtain ⟨k, hk, rfl, hown, hf⟩ := hrel
    by_cases hlt : k < n
    · obtain ⟨g, off, rfl, _, hcell⟩ := HR.out (by omega)
      obtain ⟨x, hx⟩ : ∃ x, l[k]? = some x := ⟨_, List.getElem?_eq_getElem (by rw [HN.out]; exact hlt)⟩
      have cc : ∀ j, j < 2 → ∀ u, (ivc x)[j]? = some u → wr.cell? ⟨g, off + (k * 2 + j), none⟩ = some u := fun j hj u hu => by
        have := hcell (k * 2 + j) u (by rw [flat2 ivc (fun _ => rfl) l k x hx j hj]; exact hu)
        rw [hf.cell (p := ⟨g, off + (k * 2 + j), none⟩) (World.block_lt_of_cell? w _ this) (fun e => e)]
        exact this
      have c0 : wr.cell? ⟨g, off + k * 2, none⟩ = some (.int .i64 x.1) := cc 0 (by omega) _ rfl
      have c1 : wr.cell? ⟨g, off + k * 2 + 1, none⟩ = some (.int .i64 x.2) := cc 1 (by omega) _ rfl
      have HC := Lib.hid hcell
      have HO := Lib.hid hown
      have HX := Lib.hid hx
      obtain ⟨a', n', k', rfl⟩ := own_slice hown
      clear hcell cc hown hx
      go_wp2_with (at_builtin; refine Hid.out ?_)
      refine Lib.hid ?_
      refine wpList_append_src _ rfl _ _ 145 145 rfl w.heap.size 279 i0 _ 2 16 Tryz.underlying145 hi0 hz0 hz1 hz2 rfl (by decide) _ k ((l.take k).flatMap ivc) rfl ((HO.out.alloc _).alloc _) _ 1 (ivc x) rfl (src_blk Tryz.underlying145 (blk_new2 wr _ 279 (ivc x).toArray) rfl (by simp [ivc, Value.oneCell'])) (by unfold maxLen; omega) (by omega) (by have := hf.size; simp; omega) ?_
      intro v' w2 hown' hgrow hat
      have hown2 : w2.ownsRow w.heap.size 279 2 v' (k + 1) ((l.take (k + 1)).flatMap ivc) := by rw [flatMap_take_succ ivc l k x HX.out]; exact hown'
      have hf2 : Fr (fun _ => False) w w2 := ((hf.alloc _).alloc _).grown hgrow (fun g hg => .inr (((HO.out.lt g hg)).1))
      have HO2 := Lib.hid hown2
      have HF2 := Lib.hid hf2
      clear hown' hgrow hown2 hf2 hf c0 c1 hat
      go_wp2
      go_roundw
      case rel => exact ⟨k + 1, by omega, by go_num, HO2.out, HF2.out⟩
      case measure => simp [intOf]; omega
    · go_wp2
      go_ret
      obtain rfl : k = n := by omega
      refine ⟨_, rfl, ?_, hf⟩
      rw [← HN.out] at hown ⊢
      rw [List.take_length] at hown
      exact hown


set_option maxHeartbeats 1000000 in
set_option maxRecDepth 100000 in
theorem unintervals_any (P : Nat → Prop) (v : Value) (l : List (Int × Int)) (w : World) (h : Sl P w v 2 l.length (l.flatMap ivc)) (hl : l.length ≤ 1099511627776) :
    Calls Tryz.prog 76 #[v] w (IvEnds 281 w l) := by
  obtain ⟨A, c, rfl, hlen, hnc, hr⟩ := h
  obtain ⟨n, hn⟩ : ∃ n, l.length = n := ⟨_, rfl⟩
  rw [hn] at hr hnc hl ⊢
  have HN := Lib.hid hn
  have HR := Lib.hid hr
  obtain ⟨i0, hi0, hz0, hz1, hz2⟩ := info_parts Tryz.info281
  clear hn hr hlen
  go_enter Tryz.func76, Tryz.ntmps76
  go_wp2
  go_loopw [3, 8] (fun v i wr => ∃ k : Nat, k ≤ n ∧ i = .int .i64 k ∧ wr.ownsRow w.heap.size 281 2 v k ((l.take k).flatMap ivc) ∧ Fr (fun _ => False) w wr) (fun _ i _ => n - (intOf i).toNat)
  case atStart => exact ⟨0, Nat.zero_le _, rfl, World.ownsRow_nil _ _ _ _, Fr.refl _ _⟩
  case round =>
    obtain ⟨k, hk, rfl, hown, hf⟩ := hrel
    by_cases hlt : k < n
    · obtain ⟨g, off, rfl, _, hcell⟩ := HR.out (by omega)
      obtain ⟨x, hx⟩ : ∃ x, l[k]? = some x := ⟨_, List.getElem?_eq_getElem (by rw [HN.out]; exact hlt)⟩
      have cc : ∀ j, j < 2 → ∀ u, (ivc x)[j]? = some u → wr.cell? ⟨g, off + (k * 2 + j), none⟩ = some u := fun j hj u hu => by
        have := hcell (k * 2 + j) u (by rw [flat2 ivc (fun _ => rfl) l k x hx j hj]; exact hu)
        rw [hf.cell (p := ⟨g, off + (k * 2 + j), none⟩) (World.block_lt_of_cell? w _ this) (fun e => e)]
        exact this
      have c0 : wr.cell? ⟨g, off + k * 2, none⟩ = some (.int .i64 x.1) := cc 0 (by omega) _ rfl
      have c1 : wr.cell? ⟨g, off + k * 2 + 1, none⟩ = some (.int .i64 x.2) := cc 1 (by omega) _ rfl
      have HC := Lib.hid hcell
      have HO := Lib.hid hown
      have HX := Lib.hid hx
      obtain ⟨a', n', k', rfl⟩ := own_slice hown
      clear hcell cc hown hx
      go_wp2_with (at_builtin; refine Hid.out ?_)
      refine Lib.hid ?_
      refine wpList_append_src _ rfl _ _ 148 148 rfl w.heap.size 281 i0 _ 2 16 Tryz.underlying148 hi0 hz0 hz1 hz2 rfl (by decide) _ k ((l.take k).flatMap ivc) rfl ((HO.out.alloc _).alloc _) _ 1 (ivc x) rfl (src_blk Tryz.underlying148 (blk_new2 wr _ 281 (ivc x).toArray) rfl (by simp [ivc, Value.oneCell'])) (by unfold maxLen; omega) (by omega) (by have := hf.size; simp; omega) ?_
      intro v' w2 hown' hgrow hat
      have hown2 : w2.ownsRow w.heap.size 281 2 v' (k + 1) ((l.take (k + 1)).flatMap ivc) := by rw [flatMap_take_succ ivc l k x HX.out]; exact hown'
      have hf2 : Fr (fun _ => False) w w2 := ((hf.alloc _).alloc _).grown hgrow (fun g hg => .inr (((HO.out.lt g hg)).1))
      have HO2 := Lib.hid hown2
      have HF2 := Lib.hid hf2
      clear hown' hgrow hown2 hf2 hf c0 c1 hat
      go_wp2
      go_roundw
      case rel => exact ⟨k + 1, by omega, by go_num, HO2.out, HF2.out⟩
      case measure => simp [intOf]; omega
    · go_wp2
      go_ret
      obtain rfl : k = n := by omega
      refine ⟨_, rfl, ?_, hf⟩
      rw [← HN.out] at hown ⊢
      rw [List.take_length] at hown
      exact hown

end Go.Proofs.YtbkookiigkckdaaGreatDoor

/- Tombstones in memory: a slice of stones, each with a slice of intervals; impl.refStones. -/
namespace Go.Proofs.YtbkookiigkckdaaGreatDoor
open Go.RowKit
set_option linter.unusedVariables false
set_option linter.unusedSimpArgs false

structure Ston where
  ref : Nat
  ivs : List (Int × Int)
/-- A stone and the slice of its intervals: its two cells. -/
def stc (p : Ston × Value) : List Value := [.int .u64 p.1.ref, p.2]
/-- A slice that reads as stones. -/
def SlS (P : Nat → Prop) (w : World) (v : Value) (lv : List (Ston × Value)) : Prop :=
  Sl P w v 2 lv.length (lv.flatMap stc) ∧ ∀ p ∈ lv, Sl P w p.2 2 p.1.ivs.length (p.1.ivs.flatMap ivc)
/-- .. that a call owns: te: the stones' type, ti: the intervals'. -/
def OwnS (base te ti : Nat) (w : World) (v : Value) (lv : List (Ston × Value)) : Prop :=
  w.ownsRow base te 2 v lv.length (lv.flatMap stc) ∧ ∀ p ∈ lv, w.ownsRow base ti 2 p.2 p.1.ivs.length (p.1.ivs.flatMap ivc)

theorem Tryz.info147 : (Tryz.prog.info? 147).map (fun i => (i.zero, i.size, i.bytes)) = some (some (.agg #[.int .u64 0, .slice none 0 0]), 2, 32) := by kernel_rfl
theorem Tryz.info151 : (Tryz.prog.info? 151).map (fun i => (i.zero, i.size, i.bytes)) = some (some (.agg #[.int .u64 0, .slice none 0 0]), 2, 32) := by kernel_rfl

theorem SlS.fr {P S : Nat → Prop} {w w' : World} {v : Value} {lv : List (Ston × Value)} (h : SlS P w v lv) (hf : Fr S w w') (hs : ∀ g, P g → ¬ S g) : SlS P w' v lv :=
  ⟨h.1.fr hf hs, fun p hp => (h.2 p hp).fr hf hs⟩
theorem OwnS.fr {S : Nat → Prop} {base te ti : Nat} {w w' : World} {v : Value} {lv : List (Ston × Value)} (h : OwnS base te ti w v lv) (hf : Fr S w w') (hs : ∀ k, base ≤ k → k < w.heap.size → ¬ S k) : OwnS base te ti w' v lv :=
  ⟨own_fr h.1 hf (fun g hg => hs g (h.1.lt g hg).1 (own_lt h.1 hg)), fun p hp => own_fr (h.2 p hp) hf (fun g hg => hs g ((h.2 p hp).lt g hg).1 (own_lt (h.2 p hp) hg))⟩
theorem OwnS.mono {base base' te ti : Nat} {w : World} {v : Value} {lv : List (Ston × Value)} (h : OwnS base te ti w v lv) (hb : base' ≤ base) : OwnS base' te ti w v lv :=
  ⟨own_mono h.1 hb, fun p hp => own_mono (h.2 p hp) hb⟩
theorem OwnS.nil (base te ti : Nat) (w : World) : OwnS base te ti w (.slice none 0 0) [] := ⟨World.ownsRow_nil _ _ _ _, fun p hp => by cases hp⟩
theorem OwnS.sl {base te ti : Nat} {w : World} {v : Value} {lv : List (Ston × Value)} (h : OwnS base te ti w v lv) : SlS (fun g => base ≤ g ∧ g < w.heap.size) w v lv :=
  ⟨(Sl.ofOwn h.1).mono (fun g hg => ⟨(h.1.lt g hg).1, own_lt h.1 hg⟩), fun p hp => (Sl.ofOwn (h.2 p hp)).mono (fun g hg => ⟨((h.2 p hp).lt g hg).1, own_lt (h.2 p hp) hg⟩)⟩
theorem OwnS.push {base te ti : Nat} {w w2 : World} {v v' : Value} {lv : List (Ston × Value)} {p : Ston × Value} (h : OwnS base te ti w v lv) (hp : w.ownsRow base ti 2 p.2 p.1.ivs.length (p.1.ivs.flatMap ivc)) (hg : w.grownBy w2 v.ownBlock)
    (ho : w2.ownsRow base te 2 v' (lv.length + 1) (lv.flatMap stc ++ stc p)) (hne : ti ≠ te) : OwnS base te ti w2 v' (lv ++ [p]) := by
  have hf : Fr (fun k => some k = v.ownBlock) w w2 := (Fr.refl (fun k => some k = v.ownBlock) w).grown hg (fun k hk => .inl hk.symm)
  refine ⟨by simpa using ho, fun q hq => ?_⟩
  rcases List.mem_append.1 hq with hq | hq
  · exact own_fr (h.2 q hq) hf (fun g hgq e => own_own (h.2 q hq) h.1 hne g hgq e.symm)
  · rw [List.mem_singleton] at hq
    subst hq
    exact own_fr hp hf (fun g hgq e => own_own hp h.1 hne g hgq e.symm)

def RefStonesEnds (w : World) (l : List Ston) (r : Ending) (w' : World) : Prop :=
  ∃ v lv, r = .returned v ∧ lv.map Prod.fst = l ∧ OwnS w.heap.size 147 279 w' v lv ∧ Fr (fun _ => False) w w'

set_option maxHeartbeats 2000000 in
set_option maxRecDepth 100000 in
theorem refStones_any (P : Nat → Prop) (v : Value) (lv : List (Ston × Value)) (w : World) (h : SlS P w v lv) (hl : lv.length ≤ 1099511627776) (hil : ∀ p ∈ lv, p.1.ivs.length ≤ 1099511627776) :
    Calls Tryz.prog 75 #[v] w (RefStonesEnds w (lv.map Prod.fst)) := by
  obtain ⟨⟨A, c, rfl, hlen, hnc, hr⟩, hin⟩ := h
  obtain ⟨n, hn⟩ : ∃ n, lv.length = n := ⟨_, rfl⟩
  rw [hn] at hr hnc hl ⊢
  have HN := Lib.hid hn
  have HR := Lib.hid hr
  have HI := Lib.hid hin
  have HIL := Lib.hid hil
  obtain ⟨i0, hi0, hz0, hz1, hz2⟩ := info_parts Tryz.info147
  clear hn hr hlen hin hil
  go_enter Tryz.func75, Tryz.ntmps75
  go_wp2
  go_loopw [2, 7] (fun v i wr => ∃ (k : Nat) (lo : List (Ston × Value)), k ≤ n ∧ i = .int .i64 k ∧ Hid (lo.map Prod.fst = (lv.take k).map Prod.fst) ∧ Hid (lo.length = k) ∧ Hid (OwnS w.heap.size 147 279 wr v lo) ∧ Hid (Fr (fun _ => False) w wr)) (fun _ i _ => n - (intOf i).toNat)
  case atStart => exact ⟨0, [], Nat.zero_le _, rfl, Lib.hid rfl, Lib.hid rfl, Lib.hid (OwnS.nil _ _ _ _), Lib.hid (Fr.refl _ _)⟩
  case round =>
    obtain ⟨k, lo, hk, rfl, HM, HLO, HO, HF⟩ := hrel
    by_cases hlt : k < n
    · obtain ⟨g, off, rfl, _, hcell⟩ := HR.out (by omega)
      obtain ⟨x, hx⟩ : ∃ x, lv[k]? = some x := ⟨_, List.getElem?_eq_getElem (by rw [HN.out]; exact hlt)⟩
      have cc : ∀ j, j < 2 → ∀ u, (stc x)[j]? = some u → wr.cell? ⟨g, off + (k * 2 + j), none⟩ = some u := fun j hj u hu => by
        have := hcell (k * 2 + j) u (by rw [flat2 stc (fun _ => rfl) lv k x hx j hj]; exact hu)
        rw [HF.out.cell (p := ⟨g, off + (k * 2 + j), none⟩) (World.block_lt_of_cell? w _ this) (fun e => e)]
        exact this
      have c0 : wr.cell? ⟨g, off + k * 2, none⟩ = some (.int .u64 x.1.ref) := cc 0 (by omega) _ rfl
      have c1 : wr.cell? ⟨g, off + k * 2 + 1, none⟩ = some x.2 := cc 1 (by omega) _ rfl
      have hxm := List.mem_of_getElem? hx
      have hiv := HI.out x hxm
      have hivl := HIL.out x hxm
      obtain ⟨⟨ref, ivs⟩, iv⟩ := x
      simp only [] at c0 c1 hiv hivl
      have hiv1 : ∃ A m c, iv = .slice A m c := let ⟨A, c, h, _⟩ := hiv; ⟨A, _, c, h⟩
      obtain ⟨Ai, mi, ci, rfl⟩ := hiv1
      have HX := Lib.hid hx
      obtain ⟨a', n', k', rfl⟩ := own_slice HO.out.1
      clear hcell cc hx hxm
      go_wp2_with fail
      have hB8 := Blk.new wr 151 #[.int .u64 ref, .slice Ai mi ci]
      have s0 := hB8.cell 0
      have s1 := hB8.cell 1
      simp only [List.getElem?_toArray, List.getElem?_cons_zero, List.getElem?_cons_succ] at s0 s1
      have hsz := HF.out.size
      have HB8 := Lib.hid hB8
      have hC := intervals_any P (.slice Ai mi ci) ivs (wr.alloc (.cells #[.int .u64 ref, .slice Ai mi ci] 151)).drew (hiv.fr (HF.out.alloc _).drew (fun _ _ e => e)) hivl
      have HLO2 := HLO.out
      clear hB8 hiv
      have hwz : (wr.alloc (.cells #[.int .u64 ref, .slice Ai mi ci] 151)).drew.heap.size = wr.heap.size + 1 := by simp
      have hloz : lo.length ≤ 1099511627776 := by omega
      go_region_held3 (fun w' => w'.cell? ⟨wr.heap.size, 0, none⟩ = some (.int .u64 ref) ∧ w'.cell? ⟨wr.heap.size, 1, none⟩ = some (.slice Ai mi ci))
        ((first | (go_split_ands; refine ⟨?_, ?_⟩ <;> first | exact KX9.out.cell 0 | exact KX9.out.cell 1) | (go_split_ands; refine ⟨?_, ?_⟩ <;> first | exact (KX5.out.alloc _).cell 0 | exact (KX5.out.alloc _).cell 1) | (go_split_ands; refine ⟨?_, ?_⟩ <;> first | exact KX5.out.cell 0 | exact KX5.out.cell 1) | go_keep))
        ((first
          | (go_at_call 169; refine hC.mono ?_; rintro r5 w5 ⟨v5, rfl, hown5, hf5⟩; obtain ⟨a5, k5, rfl⟩ := own_slice' hown5; have KX5 := Lib.hid (HB8.out.drew.fr hf5 (fun e => e)); have F5 := Lib.hid (((Fr.refl (fun _ => False) wr).alloc (.cells #[.int .u64 ref, .slice Ai mi ci] 151)).drew.same hf5); have O5 := Lib.hid (HO.out.fr F5.out (fun _ _ _ e => e)); have HN5 := Lib.hid (own_mono hown5 (base' := w.heap.size) (by rw [hwz]; omega)); have hz5 := F5.out.size)
          | (refine step_append_src _ (by rfl) _ _ 139 139 (by rfl) w.heap.size 147 i0 _ 2 32 Tryz.underlying139 hi0 hz0 hz1 hz2 rfl (by decide) (.slice a' n' k') lo.length (lo.flatMap stc) (by rfl) (O5.out.1.alloc _) _ 1 (stc (⟨ref, ivs⟩, .slice a5 ivs.length k5)) (by rfl) (src_blk Tryz.underlying139 (Blk.new w5 147 (stc (⟨ref, ivs⟩, .slice a5 ivs.length k5)).toArray) rfl (by simp [stc, Value.oneCell'])) (by unfold maxLen; omega) (by omega) (by simp; omega) ?_; intro v' w2 hown' hgrow hat; have KX9 := Lib.hid ((KX5.out.alloc (.cells (stc (⟨ref, ivs⟩, .slice a5 ivs.length k5)).toArray 147)).grown hgrow (fun e => Nat.lt_irrefl _ (own_lt HO.out.1 e.symm))))))
      have newO : OwnS w.heap.size 147 279 w2 v' (lo ++ [(⟨ref, ivs⟩, .slice a5 ivs.length k5)]) :=
        OwnS.push (p := (⟨ref, ivs⟩, .slice a5 ivs.length k5)) (O5.out.fr ((Fr.refl (fun _ => False) w5).alloc (.cells (stc (⟨ref, ivs⟩, .slice a5 ivs.length k5)).toArray 147)) (fun _ _ _ e => e)) (HN5.out.alloc _) hgrow hown' (by decide)
      have newF : Fr (fun _ => False) w w2 := ((HF.out.same F5.out).alloc _).grown hgrow (fun g hg => .inr ((HO.out.1.lt g hg).1))
      have newM : (lo ++ [((⟨ref, ivs⟩ : Ston), Value.slice a5 ivs.length k5)]).map Prod.fst = (lv.take (k + 1)).map Prod.fst := by
        rw [List.take_add_one, HX.out, List.map_append, List.map_append, HM.out]
        rfl
      have newN : (lo ++ [((⟨ref, ivs⟩ : Ston), Value.slice a5 ivs.length k5)]).length = k + 1 := by rw [List.length_append, HLO.out]; rfl
      have NO := Lib.hid newO
      have NF := Lib.hid newF
      have NM := Lib.hid newM
      have NN := Lib.hid newN
      clear newO newF newM newN hown' hgrow hat c0 c1 s0 s1 hC hown5 hf5 KX9 O5 HN5
      go_wp2
      go_roundw
      case rel => exact ⟨k + 1, _, by omega, by go_num, NM, NN, NO, NF⟩
      case measure => simp [intOf]; omega
    · go_wp2
      go_ret
      obtain rfl : k = n := by omega
      refine ⟨_, lo, rfl, ?_, HO.out, HF.out⟩
      rw [HM.out, ← HN.out, List.take_length]
end Go.Proofs.YtbkookiigkckdaaGreatDoor

/- spec.Count and spec.PartsRight at parts of one kind (samples, tombstones, markers). -/
namespace Go.Proofs.YtbkookiigkckdaaGreatDoor
open Go.RowKit
set_option linter.unusedVariables false
set_option linter.unusedSimpArgs false

theorem seven_cells {w : World} {b : Nat} {a0 a1 a2 a3 a4 a5 a6 : Value} (h : Blk w b 54 #[a0, a1, a2, a3, a4, a5, a6]) :
    w.cell? ⟨b, 0, none⟩ = some a0 ∧ w.cell? ⟨b, 1, none⟩ = some a1 ∧ w.cell? ⟨b, 2, none⟩ = some a2 ∧ w.cell? ⟨b, 3, none⟩ = some a3 ∧ w.cell? ⟨b, 4, none⟩ = some a4 ∧ w.cell? ⟨b, 5, none⟩ = some a5 ∧ w.cell? ⟨b, 6, none⟩ = some a6 :=
  ⟨h.cell 0, h.cell 1, h.cell 2, h.cell 3, h.cell 4, h.cell 5, h.cell 6⟩

def IntEnds (n : Int) (w : World) (r : Ending) (w' : World) : Prop := r = .returned (.int .i64 n) ∧ Fr (fun _ => False) w w'

set_option maxHeartbeats 1000000 in
theorem count_1 (A0 A1 A2 A3 A4 A5 A6 : Option Addr) (c0 c1 c2 c3 c4 c5 c6 : Nat) (n : Nat) (hb : n ≤ 1099511627776) (w : World) :
    Calls Tryz.prog 40 #[.agg #[.slice A0 0 c0, .slice A1 n c1, .slice A2 0 c2, .slice A3 0 c3, .slice A4 0 c4, .slice A5 0 c5, .slice A6 0 c6]] w (IntEnds n w) := by
  go_enter Tryz.func40, Tryz.ntmps40
  go_wp2
  go_ret
  exact ⟨rfl, (Fr.refl _ w).alloc _⟩

set_option maxHeartbeats 1000000 in
theorem count_2 (A0 A1 A2 A3 A4 A5 A6 : Option Addr) (c0 c1 c2 c3 c4 c5 c6 : Nat) (n : Nat) (hb : n ≤ 1099511627776) (w : World) :
    Calls Tryz.prog 40 #[.agg #[.slice A0 0 c0, .slice A1 0 c1, .slice A2 n c2, .slice A3 0 c3, .slice A4 0 c4, .slice A5 0 c5, .slice A6 0 c6]] w (IntEnds n w) := by
  go_enter Tryz.func40, Tryz.ntmps40
  go_wp2
  go_ret
  exact ⟨rfl, (Fr.refl _ w).alloc _⟩

set_option maxHeartbeats 1000000 in
theorem count_5 (A0 A1 A2 A3 A4 A5 A6 : Option Addr) (c0 c1 c2 c3 c4 c5 c6 : Nat) (n : Nat) (hb : n ≤ 1099511627776) (w : World) :
    Calls Tryz.prog 40 #[.agg #[.slice A0 0 c0, .slice A1 0 c1, .slice A2 0 c2, .slice A3 0 c3, .slice A4 0 c4, .slice A5 n c5, .slice A6 0 c6]] w (IntEnds n w) := by
  go_enter Tryz.func40, Tryz.ntmps40
  go_wp2
  go_ret
  exact ⟨rfl, (Fr.refl _ w).alloc _⟩

set_option maxHeartbeats 4000000 in
set_option maxRecDepth 100000 in
theorem right_2 (A0 A1 A2 A3 A4 A5 A6 : Option Addr) (c0 c1 c2 c3 c4 c5 c6 : Nat) (n : Nat) (hb : n ≤ 1099511627776) (w : World) :
    Calls Tryz.prog 30 #[.int .i64 2, .agg #[.slice A0 0 c0, .slice A1 n c1, .slice A2 0 c2, .slice A3 0 c3, .slice A4 0 c4, .slice A5 0 c5, .slice A6 0 c6]] w fun r w' => r = .returned (.bool (decide (n ≤ 12))) ∧ Fr (fun _ => False) w w' := by
  by_cases h12 : n ≤ 12
  · rw [decide_eq_true h12]
    have h1 : ¬ (12 : Int) < (n : Int) := by omega
    go_enter Tryz.func30, Tryz.ntmps30
    go_wp2_with (go_at_call 40; refine (count_1 A0 A1 A2 A3 A4 A5 A6 c0 c1 c2 c3 c4 c5 c6 n hb _).mono ?_; rintro r w1 ⟨rfl, hf1⟩; obtain ⟨x0, x1, x2, x3, x4, x5, x6⟩ := seven_cells ((Blk.new w 54 #[.slice A0 0 c0, .slice A1 n c1, .slice A2 0 c2, .slice A3 0 c3, .slice A4 0 c4, .slice A5 0 c5, .slice A6 0 c6]).fr hf1 (fun e => e)))
    go_ret
    exact ⟨rfl, ((Fr.refl _ w).alloc _).same hf1⟩
  · rw [decide_eq_false h12]
    have h1 : (12 : Int) < (n : Int) := by omega
    go_enter Tryz.func30, Tryz.ntmps30
    go_wp2_with (go_at_call 40; refine (count_1 A0 A1 A2 A3 A4 A5 A6 c0 c1 c2 c3 c4 c5 c6 n hb _).mono ?_; rintro r w1 ⟨rfl, hf1⟩)
    go_ret
    exact ⟨rfl, ((Fr.refl _ w).alloc _).same hf1⟩

set_option maxHeartbeats 4000000 in
set_option maxRecDepth 100000 in
theorem right_5 (A0 A1 A2 A3 A4 A5 A6 : Option Addr) (c0 c1 c2 c3 c4 c5 c6 : Nat) (n : Nat) (hb : n ≤ 1099511627776) (w : World) :
    Calls Tryz.prog 30 #[.int .i64 5, .agg #[.slice A0 0 c0, .slice A1 0 c1, .slice A2 0 c2, .slice A3 0 c3, .slice A4 0 c4, .slice A5 n c5, .slice A6 0 c6]] w fun r w' => r = .returned (.bool (decide (n ≤ 12))) ∧ Fr (fun _ => False) w w' := by
  by_cases h12 : n ≤ 12
  · rw [decide_eq_true h12]
    have h1 : ¬ (12 : Int) < (n : Int) := by omega
    go_enter Tryz.func30, Tryz.ntmps30
    go_wp2_with (go_at_call 40; refine (count_5 A0 A1 A2 A3 A4 A5 A6 c0 c1 c2 c3 c4 c5 c6 n hb _).mono ?_; rintro r w1 ⟨rfl, hf1⟩; obtain ⟨x0, x1, x2, x3, x4, x5, x6⟩ := seven_cells ((Blk.new w 54 #[.slice A0 0 c0, .slice A1 0 c1, .slice A2 0 c2, .slice A3 0 c3, .slice A4 0 c4, .slice A5 n c5, .slice A6 0 c6]).fr hf1 (fun e => e)))
    go_ret
    exact ⟨rfl, ((Fr.refl _ w).alloc _).same hf1⟩
  · rw [decide_eq_false h12]
    have h1 : (12 : Int) < (n : Int) := by omega
    go_enter Tryz.func30, Tryz.ntmps30
    go_wp2_with (go_at_call 40; refine (count_5 A0 A1 A2 A3 A4 A5 A6 c0 c1 c2 c3 c4 c5 c6 n hb _).mono ?_; rintro r w1 ⟨rfl, hf1⟩)
    go_ret
    exact ⟨rfl, ((Fr.refl _ w).alloc _).same hf1⟩

set_option maxHeartbeats 4000000 in
set_option maxRecDepth 100000 in
theorem right_3 (A0 A1 A2 A3 A4 A5 A6 : Option Addr) (c0 c1 c2 c3 c4 c5 c6 : Nat) (n : Nat) (P : Nat → Prop) (lv : List (Ston × Value)) (w : World) (hs : SlS P w (.slice A2 n c2) lv) (hn : lv.length = n) (hb : n ≤ 1099511627776) (hi : ∀ p ∈ lv, p.1.ivs.length ≤ 6) :
    Calls Tryz.prog 30 #[.int .i64 3, .agg #[.slice A0 0 c0, .slice A1 0 c1, .slice A2 n c2, .slice A3 0 c3, .slice A4 0 c4, .slice A5 0 c5, .slice A6 0 c6]] w fun r w' => r = .returned (.bool (decide (n ≤ 12))) ∧ Fr (fun _ => False) w w' := by
  by_cases h12 : n ≤ 12
  · rw [decide_eq_true h12]
    have h1 : ¬ (12 : Int) < (n : Int) := by omega
    have HS := Lib.hid hs
    have HN := Lib.hid hn
    have HI := Lib.hid hi
    clear hs hn hi
    go_enter Tryz.func30, Tryz.ntmps30
    go_wp2_with (go_at_call 40; refine (count_2 A0 A1 A2 A3 A4 A5 A6 c0 c1 c2 c3 c4 c5 c6 n hb _).mono ?_; rintro r w1 ⟨rfl, hf1⟩; obtain ⟨x0, x1, x2, x3, x4, x5, x6⟩ := seven_cells ((Blk.new w 54 #[.slice A0 0 c0, .slice A1 0 c1, .slice A2 n c2, .slice A3 0 c3, .slice A4 0 c4, .slice A5 0 c5, .slice A6 0 c6]).fr hf1 (fun e => e)))
    have HF := Lib.hid (((Fr.refl (fun _ => False) w).alloc (.cells #[.slice A0 0 c0, .slice A1 0 c1, .slice A2 n c2, .slice A3 0 c3, .slice A4 0 c4, .slice A5 0 c5, .slice A6 0 c6] 54)).same hf1)
    have hw1 := HF.out.size
    have HB := Lib.hid ((Blk.new w 54 #[.slice A0 0 c0, .slice A1 0 c1, .slice A2 n c2, .slice A3 0 c3, .slice A4 0 c4, .slice A5 0 c5, .slice A6 0 c6]).fr hf1 (fun e => e))
    clear hf1
    go_loopw [7] (fun i wr => ∃ k : Nat, k ≤ n ∧ i = .int .i64 k ∧ Hid (Fr (fun _ => False) w1 wr)) (fun i _ => n - (intOf i).toNat)
    case atStart => exact ⟨0, Nat.zero_le _, rfl, Lib.hid (Fr.refl _ _)⟩
    case round =>
      obtain ⟨k, hk, rfl, RF⟩ := hrel
      obtain ⟨y0, y1, y2, y3, y4, y5, y6⟩ := seven_cells (HB.out.fr RF.out (fun e => e))
      clear x0 x1 x2 x3 x4 x5 x6
      by_cases hlt : k < n
      · have hS := HS.out.fr (HF.out.same RF.out) (fun _ _ e => e)
        obtain ⟨⟨A, c, e2, _, hc, hr⟩, _⟩ := hS
        injection e2 with e2 e2n e2c
        obtain ⟨g, off, rfl, _, hcell⟩ := hr (by have := HN.out; omega)
        obtain ⟨x, hx⟩ : ∃ x, lv[k]? = some x := ⟨_, List.getElem?_eq_getElem (by rw [HN.out]; exact hlt)⟩
        have hxm := List.mem_of_getElem? hx
        have c1 : wr.cell? ⟨g, off + k * 2 + 1, none⟩ = some x.2 := hcell (k * 2 + 1) _ (by rw [flat2 stc (fun _ => rfl) lv k x hx 1 (by omega)]; rfl)
        have hiv := HS.out.2 x hxm
        have hil := HI.out x hxm
        obtain ⟨⟨ref, ivs⟩, iv⟩ := x
        simp only [] at c1 hiv hil
        obtain ⟨Ai, ci, rfl, _, _, _⟩ := hiv
        have hil2 : ¬ (6 : Int) < (ivs.length : Int) := by omega
        subst e2
        have HX := Lib.hid hx
        clear hcell hr hx e2n e2c hxm hil
        go_wp2_with fail
        go_roundw
        case rel => exact ⟨k + 1, by omega, by go_num, RF⟩
        case measure => simp [intOf]; omega
      · obtain rfl : k = n := by omega
        go_wp2
        go_ret
        exact ⟨rfl, HF.out.same RF.out⟩
  · rw [decide_eq_false h12]
    have h1 : (12 : Int) < (n : Int) := by omega
    go_enter Tryz.func30, Tryz.ntmps30
    go_wp2_with (go_at_call 40; refine (count_2 A0 A1 A2 A3 A4 A5 A6 c0 c1 c2 c3 c4 c5 c6 n hb _).mono ?_; rintro r w1 ⟨rfl, hf1⟩)
    go_ret
    exact ⟨rfl, ((Fr.refl _ w).alloc _).same hf1⟩
end Go.Proofs.YtbkookiigkckdaaGreatDoor

/- spec.PartsRight at series and at exemplars. Printed by gen_pz.py. -/
namespace Go.Proofs.YtbkookiigkckdaaGreatDoor
open Go.RowKit
set_option linter.unusedVariables false
set_option linter.unusedSimpArgs false

set_option maxHeartbeats 1000000 in
theorem count_0 (A0 A1 A2 A3 A4 A5 A6 : Option Addr) (c0 c1 c2 c3 c4 c5 c6 : Nat) (n : Nat) (hb : n ≤ 1099511627776) (w : World) :
    Calls Tryz.prog 40 #[.agg #[.slice A0 n c0, .slice A1 0 c1, .slice A2 0 c2, .slice A3 0 c3, .slice A4 0 c4, .slice A5 0 c5, .slice A6 0 c6]] w (IntEnds n w) := by
  go_enter Tryz.func40, Tryz.ntmps40
  go_wp2
  go_ret
  exact ⟨rfl, (Fr.refl _ w).alloc _⟩

set_option maxHeartbeats 4000000 in
set_option maxRecDepth 100000 in
theorem right_1 (A0 A1 A2 A3 A4 A5 A6 : Option Addr) (c0 c1 c2 c3 c4 c5 c6 : Nat) (n : Nat) (P : Nat → Prop) (lv : List (Ser × Value)) (w : World) (hs : SlR P w (.slice A0 n c0) lv) (hn : lv.length = n) (hb : n ≤ 1099511627776) (hi : ∀ p ∈ lv, p.1.labs.length ≤ 1099511627776) :
    Calls Tryz.prog 30 #[.int .i64 1, .agg #[.slice A0 n c0, .slice A1 0 c1, .slice A2 0 c2, .slice A3 0 c3, .slice A4 0 c4, .slice A5 0 c5, .slice A6 0 c6]] w (BoolEnds (n ≤ 12 ∧ ∀ p ∈ lv, LabOk p.1.labs 8 300) w) := by
  by_cases h12 : n ≤ 12
  · have h1 : ¬ (12 : Int) < (n : Int) := by omega
    have HS := Lib.hid hs
    have HN := Lib.hid hn
    have HI := Lib.hid hi
    clear hs hn hi
    go_enter Tryz.func30, Tryz.ntmps30
    go_wp2_with (go_at_call 40; refine (count_0 A0 A1 A2 A3 A4 A5 A6 c0 c1 c2 c3 c4 c5 c6 n hb _).mono ?_; rintro r w1 ⟨rfl, hf1⟩; obtain ⟨x0, x1, x2, x3, x4, x5, x6⟩ := seven_cells ((Blk.new w 54 #[.slice A0 n c0, .slice A1 0 c1, .slice A2 0 c2, .slice A3 0 c3, .slice A4 0 c4, .slice A5 0 c5, .slice A6 0 c6]).fr hf1 (fun e => e)))
    have HF := Lib.hid (((Fr.refl (fun _ => False) w).alloc (.cells #[.slice A0 n c0, .slice A1 0 c1, .slice A2 0 c2, .slice A3 0 c3, .slice A4 0 c4, .slice A5 0 c5, .slice A6 0 c6] 54)).same hf1)
    have hw1 := HF.out.size
    have HB := Lib.hid ((Blk.new w 54 #[.slice A0 n c0, .slice A1 0 c1, .slice A2 0 c2, .slice A3 0 c3, .slice A4 0 c4, .slice A5 0 c5, .slice A6 0 c6]).fr hf1 (fun e => e))
    clear hf1
    go_loopw [6] (fun i wr => ∃ k : Nat, k ≤ n ∧ i = .int .i64 k ∧ Hid (Fr (fun _ => False) w1 wr) ∧ Hid (∀ j p, j < k → lv[j]? = some p → LabOk p.1.labs 8 300)) (fun i _ => n - (intOf i).toNat)
    case atStart => exact ⟨0, Nat.zero_le _, rfl, Lib.hid (Fr.refl _ _), Lib.hid (fun j p h => absurd h (Nat.not_lt_zero _))⟩
    case round =>
      obtain ⟨k, hk, rfl, RF, RG⟩ := hrel
      obtain ⟨y0, y1, y2, y3, y4, y5, y6⟩ := seven_cells (HB.out.fr RF.out (fun e => e))
      clear x0 x1 x2 x3 x4 x5 x6
      by_cases hlt : k < n
      · have hS := HS.out.fr (HF.out.same RF.out) (fun _ _ e => e)
        have hiv := hS.2
        obtain ⟨⟨A, c, e2, _, hc, hr⟩, _⟩ := hS
        injection e2 with e2 e2n e2c
        obtain ⟨g, off, rfl, _, hcell⟩ := hr (by have := HN.out; omega)
        obtain ⟨x, hx⟩ : ∃ x, lv[k]? = some x := ⟨_, List.getElem?_eq_getElem (by rw [HN.out]; exact hlt)⟩
        have hxm := List.mem_of_getElem? hx
        have c1 : wr.cell? ⟨g, off + k * 2 + 1, none⟩ = some x.2 := hcell (k * 2 + 1) _ (by rw [flat2 serc (fun _ => rfl) lv k x hx 1 (by omega)]; rfl)
        have hivx := hiv x hxm
        have hil := HI.out x hxm
        have HXM := Lib.hid hxm
        have HX := Lib.hid hx
        clear hiv hx hxm
        obtain ⟨⟨ref, labs⟩, iv⟩ := x
        simp only [] at c1 hivx hil
        have hC := labelsRight_any P iv labs 8 300 wr hivx hil (by omega) (by omega)
        obtain ⟨Ai, ci, rfl, _, _, _⟩ := hivx
        subst e2
        clear hcell hr e2n e2c hil
        go_wp2_with (go_at_call 53; refine hC.mono ?_; rintro r5 w5 ⟨b, rfl, hb5, hf5⟩; refine Hid.out ?_)
        have H5 := Lib.hid (RF.out.same hf5)
        have HB5 := Lib.hid hb5
        obtain ⟨z0, z1, z2, z3, z4, z5, z6⟩ := seven_cells (HB.out.fr H5.out (fun e => e))
        clear hf5 hb5 y0 y1 y2 y3 y4 y5 y6 hC c1
        rcases b with _ | _
        · refine Lib.hid ?_
          go_wp2
          go_ret
          exact ⟨false, rfl, ⟨fun h => (by cases h), fun h => absurd (HB5.out.2 (h.2 _ HXM.out)) (by decide)⟩, HF.out.same H5.out⟩
        · refine Lib.hid ?_
          go_wp2
          go_roundw
          case rel => exact ⟨k + 1, by omega, by go_num, H5, Lib.hid (fun j p h h2 => by
            rcases Nat.lt_or_ge j k with h3 | h3
            · exact RG.out j p h3 h2
            · obtain rfl : j = k := by omega
              have h4 := h2.symm.trans HX.out
              injection h4 with h4
              rw [h4]
              exact HB5.out.1 rfl)⟩
          case measure => simp [intOf]; omega
      · obtain rfl : k = n := by omega
        go_wp2
        go_ret
        refine ⟨true, rfl, ⟨fun _ => ⟨h12, fun p hp => ?_⟩, fun _ => rfl⟩, HF.out.same RF.out⟩
        obtain ⟨j, hj, e⟩ := List.getElem_of_mem hp
        exact RG.out j p (by rw [← HN.out]; exact hj) (by rw [List.getElem?_eq_getElem hj, e])
  · have h1 : (12 : Int) < (n : Int) := by omega
    go_enter Tryz.func30, Tryz.ntmps30
    go_wp2_with (go_at_call 40; refine (count_0 A0 A1 A2 A3 A4 A5 A6 c0 c1 c2 c3 c4 c5 c6 n hb _).mono ?_; rintro r w1 ⟨rfl, hf1⟩)
    go_ret
    exact ⟨false, rfl, ⟨fun h => (by cases h), fun h => absurd h.1 h12⟩, ((Fr.refl _ w).alloc _).same hf1⟩

set_option maxHeartbeats 1000000 in
theorem count_3 (A0 A1 A2 A3 A4 A5 A6 : Option Addr) (c0 c1 c2 c3 c4 c5 c6 : Nat) (n : Nat) (hb : n ≤ 1099511627776) (w : World) :
    Calls Tryz.prog 40 #[.agg #[.slice A0 0 c0, .slice A1 0 c1, .slice A2 0 c2, .slice A3 n c3, .slice A4 0 c4, .slice A5 0 c5, .slice A6 0 c6]] w (IntEnds n w) := by
  go_enter Tryz.func40, Tryz.ntmps40
  go_wp2
  go_ret
  exact ⟨rfl, (Fr.refl _ w).alloc _⟩

set_option maxHeartbeats 4000000 in
set_option maxRecDepth 100000 in
theorem right_4 (A0 A1 A2 A3 A4 A5 A6 : Option Addr) (c0 c1 c2 c3 c4 c5 c6 : Nat) (n : Nat) (P : Nat → Prop) (lv : List (Exm × Value)) (w : World) (hs : SlX P w (.slice A3 n c3) lv) (hn : lv.length = n) (hb : n ≤ 1099511627776) (hi : ∀ p ∈ lv, p.1.labs.length ≤ 1099511627776) :
    Calls Tryz.prog 30 #[.int .i64 4, .agg #[.slice A0 0 c0, .slice A1 0 c1, .slice A2 0 c2, .slice A3 n c3, .slice A4 0 c4, .slice A5 0 c5, .slice A6 0 c6]] w (BoolEnds (n ≤ 12 ∧ ∀ p ∈ lv, LabOk p.1.labs 8 300) w) := by
  by_cases h12 : n ≤ 12
  · have h1 : ¬ (12 : Int) < (n : Int) := by omega
    have HS := Lib.hid hs
    have HN := Lib.hid hn
    have HI := Lib.hid hi
    clear hs hn hi
    go_enter Tryz.func30, Tryz.ntmps30
    go_wp2_with (go_at_call 40; refine (count_3 A0 A1 A2 A3 A4 A5 A6 c0 c1 c2 c3 c4 c5 c6 n hb _).mono ?_; rintro r w1 ⟨rfl, hf1⟩; obtain ⟨x0, x1, x2, x3, x4, x5, x6⟩ := seven_cells ((Blk.new w 54 #[.slice A0 0 c0, .slice A1 0 c1, .slice A2 0 c2, .slice A3 n c3, .slice A4 0 c4, .slice A5 0 c5, .slice A6 0 c6]).fr hf1 (fun e => e)))
    have HF := Lib.hid (((Fr.refl (fun _ => False) w).alloc (.cells #[.slice A0 0 c0, .slice A1 0 c1, .slice A2 0 c2, .slice A3 n c3, .slice A4 0 c4, .slice A5 0 c5, .slice A6 0 c6] 54)).same hf1)
    have hw1 := HF.out.size
    have HB := Lib.hid ((Blk.new w 54 #[.slice A0 0 c0, .slice A1 0 c1, .slice A2 0 c2, .slice A3 n c3, .slice A4 0 c4, .slice A5 0 c5, .slice A6 0 c6]).fr hf1 (fun e => e))
    clear hf1
    go_loopw [8] (fun i wr => ∃ k : Nat, k ≤ n ∧ i = .int .i64 k ∧ Hid (Fr (fun _ => False) w1 wr) ∧ Hid (∀ j p, j < k → lv[j]? = some p → LabOk p.1.labs 8 300)) (fun i _ => n - (intOf i).toNat)
    case atStart => exact ⟨0, Nat.zero_le _, rfl, Lib.hid (Fr.refl _ _), Lib.hid (fun j p h => absurd h (Nat.not_lt_zero _))⟩
    case round =>
      obtain ⟨k, hk, rfl, RF, RG⟩ := hrel
      obtain ⟨y0, y1, y2, y3, y4, y5, y6⟩ := seven_cells (HB.out.fr RF.out (fun e => e))
      clear x0 x1 x2 x3 x4 x5 x6
      by_cases hlt : k < n
      · have hS := HS.out.fr (HF.out.same RF.out) (fun _ _ e => e)
        have hiv := hS.2
        obtain ⟨⟨A, c, e2, _, hc, hr⟩, _⟩ := hS
        injection e2 with e2 e2n e2c
        obtain ⟨g, off, rfl, _, hcell⟩ := hr (by have := HN.out; omega)
        obtain ⟨x, hx⟩ : ∃ x, lv[k]? = some x := ⟨_, List.getElem?_eq_getElem (by rw [HN.out]; exact hlt)⟩
        have hxm := List.mem_of_getElem? hx
        have c1 : wr.cell? ⟨g, off + k * 4 + 3, none⟩ = some x.2 := hcell (k * 4 + 3) _ (by rw [flat4 exc (fun _ => rfl) lv k x hx 3 (by omega)]; rfl)
        have hivx := hiv x hxm
        have hil := HI.out x hxm
        have HXM := Lib.hid hxm
        have HX := Lib.hid hx
        clear hiv hx hxm
        obtain ⟨⟨ref, t, vv, labs⟩, iv⟩ := x
        simp only [] at c1 hivx hil
        have hC := labelsRight_any P iv labs 8 300 wr hivx hil (by omega) (by omega)
        obtain ⟨Ai, ci, rfl, _, _, _⟩ := hivx
        subst e2
        clear hcell hr e2n e2c hil
        go_wp2_with (go_at_call 53; refine hC.mono ?_; rintro r5 w5 ⟨b, rfl, hb5, hf5⟩; refine Hid.out ?_)
        have H5 := Lib.hid (RF.out.same hf5)
        have HB5 := Lib.hid hb5
        obtain ⟨z0, z1, z2, z3, z4, z5, z6⟩ := seven_cells (HB.out.fr H5.out (fun e => e))
        clear hf5 hb5 y0 y1 y2 y3 y4 y5 y6 hC c1
        rcases b with _ | _
        · refine Lib.hid ?_
          go_wp2
          go_ret
          exact ⟨false, rfl, ⟨fun h => (by cases h), fun h => absurd (HB5.out.2 (h.2 _ HXM.out)) (by decide)⟩, HF.out.same H5.out⟩
        · refine Lib.hid ?_
          go_wp2
          go_roundw
          case rel => exact ⟨k + 1, by omega, by go_num, H5, Lib.hid (fun j p h h2 => by
            rcases Nat.lt_or_ge j k with h3 | h3
            · exact RG.out j p h3 h2
            · obtain rfl : j = k := by omega
              have h4 := h2.symm.trans HX.out
              injection h4 with h4
              rw [h4]
              exact HB5.out.1 rfl)⟩
          case measure => simp [intOf]; omega
      · obtain rfl : k = n := by omega
        go_wp2
        go_ret
        refine ⟨true, rfl, ⟨fun _ => ⟨h12, fun p hp => ?_⟩, fun _ => rfl⟩, HF.out.same RF.out⟩
        obtain ⟨j, hj, e⟩ := List.getElem_of_mem hp
        exact RG.out j p (by rw [← HN.out]; exact hj) (by rw [List.getElem?_eq_getElem hj, e])
  · have h1 : (12 : Int) < (n : Int) := by omega
    go_enter Tryz.func30, Tryz.ntmps30
    go_wp2_with (go_at_call 40; refine (count_3 A0 A1 A2 A3 A4 A5 A6 c0 c1 c2 c3 c4 c5 c6 n hb _).mono ?_; rintro r w1 ⟨rfl, hf1⟩)
    go_ret
    exact ⟨false, rfl, ⟨fun h => (by cases h), fun h => absurd h.1 h12⟩, ((Fr.refl _ w).alloc _).same hf1⟩

end Go.Proofs.YtbkookiigkckdaaGreatDoor

/- laws.recordKind 35; laws.zzFits36 193 and zzFits35 106 (series). -/
namespace Go.Proofs.YtbkookiigkckdaaGreatDoor
open Go.RowKit
set_option linter.unusedVariables false
set_option linter.unusedSimpArgs false

theorem recordKind_any (c : Nat) (hc : c < 256) (w : World) :
    Calls Tryz.prog 35 #[.int .u8 c] w (IntEnds (1 + (c : Int) % 10) w) := by
  have h0 : (0 : Int) ≤ (c : Int) := by omega
  have h1 : (c : Int) < 256 := by omega
  go_enter Tryz.func35, Tryz.ntmps35
  go_wp2
  go_ret
  exact ⟨rfl, Fr.refl _ w⟩

def LabsFit (l : List Lab) : Prop := l.length ≤ 2147483647 ∧ ∀ p ∈ l, Fit p
def LabsSmall (l : List Lab) : Prop := l.length ≤ 9223372036854775807 ∧ ∀ p ∈ l, p.1.size ≤ 9223372036854775807 ∧ p.2.size ≤ 9223372036854775807

set_option maxHeartbeats 2000000 in
theorem fits36_any (P : Nat → Prop) (ref : Nat) (v : Value) (l : List Lab) (w : World) (h : Sl P w v 2 l.length (l.flatMap labc)) (hs : LabsSmall l) :
    Calls Tryz.prog 193 #[.agg #[.int .u64 ref, v]] w (BoolEnds (LabsFit l) w) := by
  have hC := fits10_any P v l (w.alloc (.cells #[.int .u64 ref, v] 130)) (h.fr ((Fr.refl (fun _ => False) w).alloc _) (fun _ _ e => e)) hs.1 hs.2
  obtain ⟨A, c, rfl, _, _, _⟩ := h
  go_enter Tryz.func193, Tryz.ntmps193
  go_wp2_with (go_at_call 21; refine hC.mono ?_; rintro r w1 ⟨b, rfl, hb, hf1⟩; refine Hid.out ?_)
  have HF := Lib.hid (((Fr.refl (fun _ => False) w).alloc (.cells #[.int .u64 ref, .slice A l.length c] 130)).same hf1)
  have HB := Lib.hid hb
  clear hf1 hb hC
  rcases b with _ | _
  · refine Lib.hid ?_
    go_wp2
    go_ret
    exact ⟨false, rfl, HB.out, HF.out⟩
  · refine Lib.hid ?_
    go_wp2
    go_ret
    exact ⟨true, rfl, ⟨fun _ => HB.out.1 (by trivial), fun _ => rfl⟩, HF.out⟩

set_option maxRecDepth 100000 in
set_option maxHeartbeats 2000000 in
theorem fits35_any (P : Nat → Prop) (v : Value) (lv : List (Ser × Value)) (w : World) (h : SlR P w v lv) (hl : lv.length ≤ 9223372036854775807) (hs : ∀ p ∈ lv, LabsSmall p.1.labs) :
    Calls Tryz.prog 106 #[v] w (BoolEnds (lv.length ≤ 2147483647 ∧ ∀ p ∈ lv, LabsFit p.1.labs) w) := by
  have HS := Lib.hid h
  obtain ⟨⟨A, c, rfl, _, hc, hr⟩, _⟩ := h
  obtain ⟨n, hn⟩ : ∃ n, lv.length = n := ⟨_, rfl⟩
  rw [hn] at hr hc hl HS ⊢
  have HN := Lib.hid hn
  have HI := Lib.hid hs
  clear hn hr hs
  by_cases hbig : 2147483647 < n
  · have hbig' : (2147483647 : Int) < n := by omega
    go_enter Tryz.func106, Tryz.ntmps106
    go_wp2
    go_ret
    exact ⟨false, rfl, ⟨fun h => (by cases h), fun h => absurd h.1 (by omega)⟩, Fr.refl _ _⟩
  · have hbig' : ¬ (2147483647 : Int) < n := by omega
    go_enter Tryz.func106, Tryz.ntmps106
    go_wp2
    go_loopw [10] (fun vi wr => ∃ k : Nat, k ≤ n ∧ vi = .int .i64 k ∧ Hid (∀ j p, j < k → lv[j]? = some p → LabsFit p.1.labs) ∧ Hid (Fr (fun _ => False) w wr)) (fun vi _ => n - (intOf vi).toNat)
    case atStart => exact ⟨0, Nat.zero_le _, rfl, Lib.hid (fun j p h => absurd h (Nat.not_lt_zero _)), Lib.hid (Fr.refl _ _)⟩
    case round =>
      obtain ⟨k, hk, rfl, RG, RF⟩ := hrel
      by_cases hlt : k < n
      · have hS := HS.out.fr RF.out (fun _ _ e => e)
        have hiv := hS.2
        obtain ⟨⟨A', c', e2, _, hc', hr⟩, _⟩ := hS
        injection e2 with e2 e2n e2c
        obtain ⟨g, off, rfl, _, hcell⟩ := hr (by have := HN.out; omega)
        obtain ⟨x, hx⟩ : ∃ x, lv[k]? = some x := ⟨_, List.getElem?_eq_getElem (by rw [HN.out]; exact hlt)⟩
        have hxm := List.mem_of_getElem? hx
        have q0 : wr.cell? ⟨g, off + k * 2, none⟩ = some (.int .u64 x.1.ref) := by simpa using hcell (k * 2 + 0) _ (by rw [flat2 serc (fun _ => rfl) lv k x hx 0 (by omega)]; rfl)
        have q1 : wr.cell? ⟨g, off + k * 2 + 1, none⟩ = some x.2 := hcell (k * 2 + 1) _ (by rw [flat2 serc (fun _ => rfl) lv k x hx 1 (by omega)]; rfl)
        have hivx := hiv x hxm
        have hil := HI.out x hxm
        have HXM := Lib.hid hxm
        have HX := Lib.hid hx
        clear hiv hx hxm
        obtain ⟨⟨ref, labs⟩, iv⟩ := x
        simp only [] at q0 q1 hivx hil
        have hC := fits36_any P ref iv labs (wr.alloc (.cells #[.int .u64 ref, iv] 130)) (hivx.fr ((Fr.refl (fun _ => False) wr).alloc _) (fun _ _ e => e)) hil
        obtain ⟨Ai, ci, rfl, _, _, _⟩ := hivx
        subst e2
        clear hcell hr e2n e2c hil
        go_wp2_with (go_at_call 193; refine hC.mono ?_; rintro r5 w5 ⟨b, rfl, hb5, hf5⟩; refine Hid.out ?_)
        have H5 := Lib.hid ((RF.out.alloc (.cells #[.int .u64 ref, .slice Ai labs.length ci] 130)).same hf5)
        have HB5 := Lib.hid hb5
        clear hf5 hb5 hC q0 q1
        rcases b with _ | _
        · refine Lib.hid ?_
          go_wp2
          go_ret
          exact ⟨false, rfl, ⟨fun h => (by cases h), fun h => absurd (HB5.out.2 (h.2 _ HXM.out)) (by decide)⟩, H5.out⟩
        · refine Lib.hid ?_
          go_wp2
          go_roundw
          case rel => exact ⟨k + 1, by omega, by go_num, Lib.hid (fun j p h h2 => by
            rcases Nat.lt_or_ge j k with h3 | h3
            · exact RG.out j p h3 h2
            · obtain rfl : j = k := by omega
              have h4 := h2.symm.trans HX.out
              injection h4 with h4
              rw [h4]
              exact HB5.out.1 rfl), H5⟩
          case measure => simp [intOf]; omega
      · obtain rfl : k = n := by omega
        go_wp2
        go_ret
        refine ⟨true, rfl, ⟨fun _ => ⟨by omega, fun p hp => ?_⟩, fun _ => rfl⟩, RF.out⟩
        obtain ⟨j, hj, e⟩ := List.getElem_of_mem hp
        exact RG.out j p (by rw [← HN.out]; exact hj) (by rw [List.getElem?_eq_getElem hj, e])
end Go.Proofs.YtbkookiigkckdaaGreatDoor

