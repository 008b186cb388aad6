/- Texts of this seat, merged: Tx, Tv, Lw, Ya. -/
import Derived.Test.YtbkookiigkckdaaGreatDoorK20
import Derived.Test.YtbkookiigkckdaaGreatDoorK21
import Derived.Test.YtbkookiigkckdaaGreatDoorK22
import Derived.Test.YtbkookiigkckdaaGreatDoorK23
import Derived.Test.YtbkookiigkckdaaGreatDoorK11
import Derived.Test.YtbkookiigkckdaaGreatDoorK13
import Derived.Test.YtbkookiigkckdaaGreatDoorK10
import Derived.Test.YtbkookiigkckdaaGreatDoorK14
import Derived.Test.YtbkookiigkckdaaGreatDoorK15
/- Labels.String's closure. Printed by gen_tx.py. -/
namespace Go.Proofs.YtbkookiigkckdaaGreatDoor
open Go.RowKit
set_option linter.unusedVariables false
set_option linter.unusedSimpArgs false

/-- Blocks that the buffer's writes may turn. -/
def TS (w0 : World) (ib pb c : Nat) (k : Nat) : Prop := w0.heap.size ≤ k ∧ k ≠ ib ∧ k ≠ pb ∧ k ≠ c
/-- The text's buffer behind k labels. -/
structure TJ (w0 : World) (ib pb c b : Nat) (l : List Lab) (k : Nat) (W : World) : Prop where
  fr : Fr (fun _ => False) w0 W
  bi : Blk W ib 3 #[.int .i64 k]
  bp : Blk W pb 253 #[.pointer (some ⟨b, 0, none⟩)]
  ni : w0.heap.size ≤ ib
  np : w0.heap.size ≤ pb
  nc : w0.heap.size ≤ c
  sb : TS w0 ib pb c b
  at_ : ∃ xs, (∃ g ct t lr cur, TS w0 ib pb c g ∧ BufAt W b g ct t lr cur xs) ∧ xs.length ≤ 1 + k * 12100 ∧ ((∀ x ∈ l, PlainL x) → xs = 123 :: bodyN l k)
theorem TJ.still {w0 W W' : World} {ib pb c b k : Nat} {l : List Lab} (h : TJ w0 ib pb c b l k W) (hf : Fr (fun _ => False) W W') : TJ w0 ib pb c b l k W' := by
  obtain ⟨h1, h2, h3, h4, h5, h6, h7, xs, ⟨g, ct, t, lr, cur, h8, h9⟩, h10, h11⟩ := h
  exact ⟨h1.same hf, h2.fr hf (fun e => e), h3.fr hf (fun e => e), h4, h5, h6, h7, xs, ⟨g, ct, t, lr, cur, h8, h9.fr hf⟩, h10, h11⟩

/-- What stays while a closure's call writes. -/
def TKeep (ib pb c b bx k : Nat) (s : Value) (x : Lab) (W : World) : Prop :=
  (W.cell? ⟨ib, 0, none⟩ = some (.int .i64 k) ∧ W.frozen? ⟨ib, 0, none⟩ = false ∧ W.cell? ⟨pb, 0, none⟩ = some (.pointer (some ⟨b, 0, none⟩)) ∧ W.cell? ⟨bx, 0, none⟩ = some (.string x.1) ∧ W.cell? ⟨bx, 1, none⟩ = some (.string x.2)) ∧
  Blk W ib 3 #[.int .i64 k] ∧ Blk W pb 253 #[.pointer (some ⟨b, 0, none⟩)] ∧ Blk W c 99 #[s]

theorem bodyN_len {l : List Lab} {k : Nat} {x : Lab} {ys zs : List Int} (hx : l[k]? = some x) (hl : x.1.size ≤ 600 ∧ x.2.size ≤ 600) {xs : List Int} (h : xs.length ≤ 1 + k * 12100) (hy : ys.length ≤ 6002) (hz : zs.length ≤ 6002) (d : Nat) (hd : d ≤ 3) : xs.length + d + ys.length + zs.length ≤ 1 + (k + 1) * 12100 := by
  rw [Nat.add_mul]
  omega

set_option maxHeartbeats 400000 in
/-- The state behind the closure's call. -/
theorem tj_end {w0 W1 W9 : World} {ib pb c b bx k : Nat} {s : Value} {l : List Lab} {x : Lab} {xs : List Int} (hw : Fr (fun _ => False) w0 W1) (ni : w0.heap.size ≤ ib) (np : w0.heap.size ≤ pb) (nc : w0.heap.size ≤ c) (hsb : TS w0 ib pb c b)
    (hi : ib < W1.heap.size) (hp : pb < W1.heap.size) (hc : c < W1.heap.size) (hB : BufS (fun j => TS w0 ib pb c j ∧ j ≠ bx) W1 W9 b xs) (hk : TKeep ib pb c b bx k s x W9)
    (hip : ib ≠ pb) (hic : ib ≠ c) (hib : ib ≠ b)
    (hlen : xs.length ≤ 1 + (k + 1) * 12100) (heq : (∀ x ∈ l, PlainL x) → xs = 123 :: bodyN l (k + 1)) :
    TJ w0 ib pb c b l (k + 1) (W9.setCell ⟨ib, 0, none⟩ (.int .i64 ((k : Int) + 1))) ∧ Blk (W9.setCell ⟨ib, 0, none⟩ (.int .i64 ((k : Int) + 1))) c 99 #[s] := by
  obtain ⟨_, kb, kp, kc⟩ := hk
  obtain ⟨hf, _, g, ct, t, lr, cur, hg, hA⟩ := hB
  have hf0 : Fr (fun _ => False) w0 W9 := hw.trans hf (fun j hj e => by have := e.1.1; omega)
  have hgS : TS w0 ib pb c g := by
    rcases hg with h | h
    · exact h.1
    · have := hw.size
      exact ⟨by omega, by omega, by omega, by omega⟩
  refine ⟨⟨hf0.setCell (p := ⟨ib, 0, none⟩) (.inr ni) _, by simpa using kb.set_ 0 (.int .i64 ((k : Int) + 1)), kp.far (p := ⟨ib, 0, none⟩) hip.symm _, ni, np, nc, hsb, xs, ⟨g, ct, t, lr, cur, hgS, ?_⟩, hlen, heq⟩, kc.far (p := ⟨ib, 0, none⟩) hic.symm _⟩
  exact ⟨hA.hb.far (p := ⟨ib, 0, none⟩) hib.symm _, hA.hg.far (p := ⟨ib, 0, none⟩) hgS.2.1 _, hA.cs, hA.le, hA.cm, hA.ne, hA.tk⟩

set_option maxHeartbeats 16000000 in
set_option maxRecDepth 100000 in
theorem tx_later (T : Lib.PrintTabs) (w0 : World) (hT : TabsAt T w0) (ib pb c b k : Nat) (l : List Lab) (x : Lab) (s : Value) (hk : 0 < k) (hk12 : k ≤ 12) (hx : l[k]? = some x) (hl : x.1.size ≤ 600 ∧ x.2.size ≤ 600) (hne : 1 ≤ x.1.size) (W : World) (h : TJ w0 ib pb c b l k W) (hc : Blk W c 99 #[s]) :
    Calls Tryz.prog 153 #[.agg #[.string x.1, .string x.2], .pointer (some ⟨ib, 0, none⟩), .pointer (some ⟨pb, 0, none⟩)] W fun r w' => r = .returned (.tuple #[]) ∧ TJ w0 ib pb c b l (k + 1) w' ∧ Blk w' c 99 #[s] := by
  have mixed : Tryz.prog.follows .mixedOrders = true := by kernel_rfl
  obtain ⟨hfr, hbi, hbp, ni, np, nc, hsb, xs, ⟨g, ct, t, lr, cur, hgS, hA⟩, hlen, heq⟩ := h
  obtain ⟨W1, hW1⟩ : ∃ W1, W.alloc (.cells #[.string x.1, .string x.2] 108) = W1 := ⟨_, rfl⟩
  have hF1 : Fr (fun _ => False) W W1 := by rw [← hW1]; exact (Fr.refl _ W).alloc _
  have hbx : Blk W1 W.heap.size 108 #[.string x.1, .string x.2] := by rw [← hW1]; exact Blk.new W 108 _
  have hil := hbi.lt
  have hpl := hbp.lt
  have hcl := hc.lt
  have hbl := hA.hb.lt
  have hgl := hA.hg.lt
  have hsz := hF1.size
  have hip : ib ≠ pb := Blk.ne_ hbi hbp (by decide)
  have hic : ib ≠ c := Blk.ne_ hbi hc (by decide)
  have hib : ib ≠ b := Blk.ne_ hbi hA.hb (by decide)
  have hB1 : BufS (fun j => TS w0 ib pb c j ∧ j ≠ W.heap.size) W1 W1 b xs := ⟨Fr.refl _ _, .inl ⟨hsb, by omega⟩, g, ct, t, lr, cur, .inl ⟨hgS, by omega⟩, hA.fr hF1⟩
  have HK : Hid (∀ Wc, Fr (fun j => TS w0 ib pb c j ∧ j ≠ W.heap.size) W1 Wc → TKeep ib pb c b W.heap.size k s x Wc) := Lib.hid (fun Wc hf => by
    have a1 := (hbi.fr hF1 (fun e => e)).fr hf (fun e => e.1.2.1 rfl)
    have a2 := (hbp.fr hF1 (fun e => e)).fr hf (fun e => e.1.2.2.1 rfl)
    have a3 := (hc.fr hF1 (fun e => e)).fr hf (fun e => e.1.2.2.2 rfl)
    have a4 := hbx.fr hf (fun e => e.2 rfl)
    exact ⟨⟨a1.cell 0, a1.frozen 0, a2.cell 0, a4.cell 0, a4.cell 1⟩, a1, a2, a3⟩)
  have HEND := Lib.hid (fun W9 ys (hB : BufS (fun j => TS w0 ib pb c j ∧ j ≠ W.heap.size) W1 W9 b ys) h1 h2 => tj_end (bx := W.heap.size) (k := k) (s := s) (x := x) (l := l) (hfr.same hF1) ni np nc hsb (by omega) (by omega) (by omega) hB (HK.out _ hB.fr) hip hic hib h1 h2)
  have HT := Lib.hid hT
  have HF0 := Lib.hid (hfr.same hF1)
  have HSS : Hid (∀ j, (fun j => TS w0 ib pb c j ∧ j ≠ W.heap.size) j → w0.heap.size ≤ j) := Lib.hid (fun j e => e.1.1)
  have HB1 := Lib.hid hB1
  have HX := Lib.hid hx
  have HPL : Hid ((∀ x ∈ l, PlainL x) → PlainL x) := Lib.hid (fun h => h x (List.mem_of_getElem? hx))
  have HLEN := Lib.hid (fun (ys zs : List Int) hy hz d hd => bodyN_len (ys := ys) (zs := zs) hx hl hlen hy hz d hd)
  have HEQ := Lib.hid heq
  have hbody : Hid (bodyN l (k + 1) = bodyN l k ++ ([44, 32] ++ labN x)) := Lib.hid (by rw [bodyN, getD_of hx, if_neg (by omega)])
  obtain ⟨hl1, hl2⟩ := hl
  obtain ⟨⟨m0, m1, m2, m3, m4⟩, _⟩ := HK.out W1 (Fr.refl _ _)
  have hxl : xs.length ≤ 150000 := by omega
  have hkI : (k : Int) ≤ 12 := by omega
  have hk2 : (0 : Int) < k := by omega
  have HLN : Hid (xs.length ≤ 1 + k * 12100) := Lib.hid hlen
  have HK0 := Lib.hid hk
  clear hfr hbi hbp ni np nc hsb hgS hA hlen heq hF1 hbx hil hpl hcl hbl hgl hsz hip hic hib hB1 hx hT hc hk
  obtain ⟨bx, hbx⟩ : ∃ bx, W.heap.size = bx := ⟨_, rfl⟩
  rw [hbx] at m3 m4 HK HSS HB1 HEND
  generalize (fun j => TS w0 ib pb c j ∧ j ≠ bx) = SS at HK HB1 HEND HSS
  go_enter Tryz.func153, Tryz.ntmps153
  go_wp2_with (first
    | (go_at_call 151; refine (bufWriteByteS_any SS W1 b xs 44 _ HB1.out (by omega)).mono ?_; rintro e wa ⟨⟨ra, rfl⟩, hB⟩
       have HB2 := Lib.hid hB
       obtain ⟨⟨a0, a1, a2, a3, a4⟩, _⟩ := HK.out _ hB.fr
       clear HB1 hB)
    | (go_at_call 151; refine (bufWriteByteS_any SS W1 b (xs ++ [44]) 32 _ HB2.out (by simp only [List.length_append, List.length_singleton]; omega)).mono ?_; rintro e wb ⟨⟨rb, rfl⟩, hB⟩
       have HB3 := Lib.hid hB
       obtain ⟨⟨b0, b1, b2, b3, b4⟩, _⟩ := HK.out _ hB.fr
       clear HB2 hB)
    | (go_at_call 154; refine Hid.out ?_))
  refine Lib.hid ?_
  refine (zzLegacy_any x.1 (by omega) _).mono ?_
  rintro e w4 ⟨⟨q, rfl, hq⟩, hf4⟩
  have HB4 := Lib.hid (HB3.out.still hf4)
  obtain ⟨⟨c0, c1, c2, c3, c4⟩, _⟩ := HK.out _ HB4.out.fr
  have HQ := Lib.hid hq
  obtain ⟨us, hus⟩ : ∃ us, xs ++ [44] ++ [32] = us := ⟨_, rfl⟩
  rw [hus] at HB4
  have hul : us.length ≤ xs.length + 2 := by rw [← hus]; simp
  have HU := Lib.hid hus.symm
  clear hq hf4 HB3 hus
  cases q with
  | true =>
    go_wp2_with (first
      | (go_at_call 145; refine (bufWriteStringS_any SS W1 b us x.1 _ HB4.out hne (by omega)).mono ?_; rintro e w5 ⟨⟨r5, rfl⟩, hB⟩
         obtain ⟨ys, hys⟩ : ∃ ys, us ++ x.1.data.toList.map (fun b => (b.toNat : Int)) = ys := ⟨_, rfl⟩
         rw [hys] at hB
         have HY : Hid (LegacyS x.1 → ys = us ++ nums x.1) := Lib.hid (fun _ => hys.symm)
         have hyl : ys.length ≤ us.length + 6002 := by rw [← hys, List.length_append, List.length_map, ← Lib.size_eq]; omega
         have HB5 := Lib.hid hB
         obtain ⟨⟨d0, d1, d2, d3, d4⟩, _⟩ := HK.out _ hB.fr
         clear hB hys HB4)
      | (go_at_call 151; refine (bufWriteByteS_any SS W1 b ys 61 _ HB5.out (by omega)).mono ?_; rintro e w6 ⟨⟨r6, rfl⟩, hB⟩
         obtain ⟨zs, hzs⟩ : ∃ zs, ys ++ [61] = zs := ⟨_, rfl⟩
         rw [hzs] at hB
         have HZ := Lib.hid hzs.symm
         have hzl : zs.length = ys.length + 1 := by rw [← hzs]; simp
         have HB6 := Lib.hid hB
         obtain ⟨⟨g0, g1, g2, g3, g4⟩, _⟩ := HK.out _ hB.fr
         clear hB hzs))
    go_region_held3 (fun w' => w'.cell? ⟨pb, 0, none⟩ = some (.pointer (some ⟨b, 0, none⟩)) ∧ w'.cell? ⟨bx, 1, none⟩ = some (.string x.2)) (go_keep) (first
      | (go_at_call 144; refine (availS_step (S := SS) (w0 := W1) (b := b) (xs := zs) ?_).mono ?_; exact HB6.out.still ((Fr.refl _ _).drew); rintro e W7 ⟨v7, rfl, hA7, hf7⟩
         obtain ⟨⟨i0, i1, i2, i3, i4⟩, _⟩ := HK.out _ hA7.fr
         have HA7 := Lib.hid hA7
         clear hA7 hf7)
      | (go_at_call 143; refine (quoteS_step (w00 := w0) (S := SS) (w0 := W1) (b := b) (xs := zs) (s := x.2) HT.out HF0.out HSS.out ?_ (by omega)).mono ?_; exact HA7.out; rintro e W8 ⟨v8, rfl, hQ8, hf8⟩
         obtain ⟨⟨j0, j1, j2, j3, j4⟩, _⟩ := HK.out _ hQ8.buf.fr
         have HQ8 := Lib.hid hQ8
         clear hQ8 hf8)
      | (go_at_call 142; refine (writeS_step (S := SS) (w0 := W1) (b := b) (xs := zs) (s := x.2) ?_ (by omega) (by omega)).mono ?_; exact HQ8.out; rintro e w9 ⟨⟨r9, rfl⟩, zs9, hz9, hB9⟩
         obtain ⟨⟨o0, o1, o2, o3, o4⟩, _⟩ := HK.out _ hB9.fr
         have HB9 := Lib.hid hB9
         have HZ9 := Lib.hid hz9
         clear hz9 hB9))
    all_goals (
      go_wp2
      go_end0
      refine ⟨rfl, HEND.out _ _ HB9.out (by have := HZ9.out.2.1; rw [List.length_append, Nat.add_mul]; have := HLN.out; omega) (fun hpl => ?_)⟩
      have h1 := HPL.out hpl
      rw [HZ9.out.2.2 h1.2, HZ.out, HY.out h1.1, HU.out, HEQ.out hpl, hbody.out]
      simp [labN])
  | false =>
    have HNL : Hid (¬ LegacyS x.1) := Lib.hid (fun h => by have := HQ.out h; cases this)
    go_wp2
    go_region_held3 (fun w' => w'.cell? ⟨pb, 0, none⟩ = some (.pointer (some ⟨b, 0, none⟩)) ∧ w'.cell? ⟨bx, 0, none⟩ = some (.string x.1)) (go_keep) (first
      | (go_at_call 144; refine (availS_step (S := SS) (w0 := W1) (b := b) (xs := us) ?_).mono ?_; exact HB4.out.still ((Fr.refl _ _).drew); rintro e W5 ⟨v5, rfl, hA, hf⟩
         obtain ⟨⟨e0, e1, e2, e3, e4⟩, _⟩ := HK.out _ hA.fr
         have HA := Lib.hid hA
         clear hA hf)
      | (go_at_call 143; refine (quoteS_step (w00 := w0) (S := SS) (w0 := W1) (b := b) (xs := us) (s := x.1) HT.out HF0.out HSS.out ?_ (by omega)).mono ?_; exact HA.out; rintro e W6 ⟨v6, rfl, hQ, hf⟩
         obtain ⟨⟨f0, f1, f2, f3, f4⟩, _⟩ := HK.out _ hQ.buf.fr
         have HQ6 := Lib.hid hQ
         clear hQ hf)
      | (go_at_call 142; refine (writeS_step (S := SS) (w0 := W1) (b := b) (xs := us) (s := x.1) ?_ (by omega) (by omega)).mono ?_; exact HQ6.out; rintro e w5 ⟨⟨r5, rfl⟩, zs5, hz, hB⟩
         obtain ⟨ys, hys⟩ : ∃ ys, us ++ zs5 = ys := ⟨_, rfl⟩
         rw [hys] at hB
         have HY : Hid (LegacyS x.1 → ys = us ++ nums x.1) := Lib.hid (fun h => absurd h HNL.out)
         have hyl : ys.length ≤ us.length + 6002 := by rw [← hys, List.length_append]; have := hz.2.1; omega
         have HB5 := Lib.hid hB
         obtain ⟨⟨d0, d1, d2, d3, d4⟩, _⟩ := HK.out _ hB.fr
         clear hB hz hys))
    all_goals (
      go_wp2_with (go_at_call 151; refine (bufWriteByteS_any SS W1 b ys 61 _ HB5.out (by omega)).mono ?_; rintro e w6 ⟨⟨r6, rfl⟩, hB⟩
                   obtain ⟨zs, hzs⟩ : ∃ zs, ys ++ [61] = zs := ⟨_, rfl⟩
                   rw [hzs] at hB
                   have HZ := Lib.hid hzs.symm
                   have hzl : zs.length = ys.length + 1 := by rw [← hzs]; simp
                   have HB6 := Lib.hid hB
                   obtain ⟨⟨g0, g1, g2, g3, g4⟩, _⟩ := HK.out _ hB.fr
                   clear hB hzs)
      go_region_held3 (fun w' => w'.cell? ⟨pb, 0, none⟩ = some (.pointer (some ⟨b, 0, none⟩)) ∧ w'.cell? ⟨bx, 1, none⟩ = some (.string x.2)) (go_keep) (first
        | (go_at_call 144; refine (availS_step (S := SS) (w0 := W1) (b := b) (xs := zs) ?_).mono ?_; exact HB6.out.still ((Fr.refl _ _).drew); rintro e W7 ⟨v7, rfl, hA7, hf7⟩
           obtain ⟨⟨i0, i1, i2, i3, i4⟩, _⟩ := HK.out _ hA7.fr
           have HA7 := Lib.hid hA7
           clear hA7 hf7)
        | (go_at_call 143; refine (quoteS_step (w00 := w0) (S := SS) (w0 := W1) (b := b) (xs := zs) (s := x.2) HT.out HF0.out HSS.out ?_ (by omega)).mono ?_; exact HA7.out; rintro e W8 ⟨v8, rfl, hQ8, hf8⟩
           obtain ⟨⟨j0, j1, j2, j3, j4⟩, _⟩ := HK.out _ hQ8.buf.fr
           have HQ8 := Lib.hid hQ8
           clear hQ8 hf8)
        | (go_at_call 142; refine (writeS_step (S := SS) (w0 := W1) (b := b) (xs := zs) (s := x.2) ?_ (by omega) (by omega)).mono ?_; exact HQ8.out; rintro e w9 ⟨⟨r9, rfl⟩, zs9, hz9, hB9⟩
           obtain ⟨⟨o0, o1, o2, o3, o4⟩, _⟩ := HK.out _ hB9.fr
           have HB9 := Lib.hid hB9
           have HZ9 := Lib.hid hz9
           clear hz9 hB9))
      all_goals (
        go_wp2
        go_end0
        refine ⟨rfl, HEND.out _ _ HB9.out (by have := HZ9.out.2.1; rw [List.length_append, Nat.add_mul]; have := HLN.out; omega) (fun hpl => ?_)⟩
        have h1 := HPL.out hpl
        rw [HZ9.out.2.2 h1.2, HZ.out, HY.out h1.1, HU.out, HEQ.out hpl, hbody.out]
        simp [labN])
      )
set_option maxHeartbeats 16000000 in
set_option maxRecDepth 100000 in
theorem tx_first (T : Lib.PrintTabs) (w0 : World) (hT : TabsAt T w0) (ib pb c b k : Nat) (l : List Lab) (x : Lab) (s : Value) (hk : k = 0) (hk12 : k ≤ 12) (hx : l[k]? = some x) (hl : x.1.size ≤ 600 ∧ x.2.size ≤ 600) (hne : 1 ≤ x.1.size) (W : World) (h : TJ w0 ib pb c b l k W) (hc : Blk W c 99 #[s]) :
    Calls Tryz.prog 153 #[.agg #[.string x.1, .string x.2], .pointer (some ⟨ib, 0, none⟩), .pointer (some ⟨pb, 0, none⟩)] W fun r w' => r = .returned (.tuple #[]) ∧ TJ w0 ib pb c b l (k + 1) w' ∧ Blk w' c 99 #[s] := by
  have mixed : Tryz.prog.follows .mixedOrders = true := by kernel_rfl
  obtain ⟨hfr, hbi, hbp, ni, np, nc, hsb, xs, ⟨g, ct, t, lr, cur, hgS, hA⟩, hlen, heq⟩ := h
  obtain ⟨W1, hW1⟩ : ∃ W1, W.alloc (.cells #[.string x.1, .string x.2] 108) = W1 := ⟨_, rfl⟩
  have hF1 : Fr (fun _ => False) W W1 := by rw [← hW1]; exact (Fr.refl _ W).alloc _
  have hbx : Blk W1 W.heap.size 108 #[.string x.1, .string x.2] := by rw [← hW1]; exact Blk.new W 108 _
  have hil := hbi.lt
  have hpl := hbp.lt
  have hcl := hc.lt
  have hbl := hA.hb.lt
  have hgl := hA.hg.lt
  have hsz := hF1.size
  have hip : ib ≠ pb := Blk.ne_ hbi hbp (by decide)
  have hic : ib ≠ c := Blk.ne_ hbi hc (by decide)
  have hib : ib ≠ b := Blk.ne_ hbi hA.hb (by decide)
  have hB1 : BufS (fun j => TS w0 ib pb c j ∧ j ≠ W.heap.size) W1 W1 b xs := ⟨Fr.refl _ _, .inl ⟨hsb, by omega⟩, g, ct, t, lr, cur, .inl ⟨hgS, by omega⟩, hA.fr hF1⟩
  have HK : Hid (∀ Wc, Fr (fun j => TS w0 ib pb c j ∧ j ≠ W.heap.size) W1 Wc → TKeep ib pb c b W.heap.size k s x Wc) := Lib.hid (fun Wc hf => by
    have a1 := (hbi.fr hF1 (fun e => e)).fr hf (fun e => e.1.2.1 rfl)
    have a2 := (hbp.fr hF1 (fun e => e)).fr hf (fun e => e.1.2.2.1 rfl)
    have a3 := (hc.fr hF1 (fun e => e)).fr hf (fun e => e.1.2.2.2 rfl)
    have a4 := hbx.fr hf (fun e => e.2 rfl)
    exact ⟨⟨a1.cell 0, a1.frozen 0, a2.cell 0, a4.cell 0, a4.cell 1⟩, a1, a2, a3⟩)
  have HEND := Lib.hid (fun W9 ys (hB : BufS (fun j => TS w0 ib pb c j ∧ j ≠ W.heap.size) W1 W9 b ys) h1 h2 => tj_end (bx := W.heap.size) (k := k) (s := s) (x := x) (l := l) (hfr.same hF1) ni np nc hsb (by omega) (by omega) (by omega) hB (HK.out _ hB.fr) hip hic hib h1 h2)
  have HT := Lib.hid hT
  have HF0 := Lib.hid (hfr.same hF1)
  have HSS : Hid (∀ j, (fun j => TS w0 ib pb c j ∧ j ≠ W.heap.size) j → w0.heap.size ≤ j) := Lib.hid (fun j e => e.1.1)
  have HB1 := Lib.hid hB1
  have HX := Lib.hid hx
  have HPL : Hid ((∀ x ∈ l, PlainL x) → PlainL x) := Lib.hid (fun h => h x (List.mem_of_getElem? hx))
  have HLEN := Lib.hid (fun (ys zs : List Int) hy hz d hd => bodyN_len (ys := ys) (zs := zs) hx hl hlen hy hz d hd)
  have HEQ := Lib.hid heq
  have hbody : Hid (bodyN l (k + 1) = bodyN l k ++ ([] ++ labN x)) := Lib.hid (by rw [bodyN, getD_of hx, if_pos hk])
  obtain ⟨hl1, hl2⟩ := hl
  obtain ⟨⟨m0, m1, m2, m3, m4⟩, _⟩ := HK.out W1 (Fr.refl _ _)
  have hxl : xs.length ≤ 150000 := by omega
  have hkI : (k : Int) ≤ 12 := by omega
  have hk2 : (k : Int) ≤ 0 := by omega
  have HLN : Hid (xs.length ≤ 1 + k * 12100) := Lib.hid hlen
  have HK0 := Lib.hid hk
  clear hfr hbi hbp ni np nc hsb hgS hA hlen heq hF1 hbx hil hpl hcl hbl hgl hsz hip hic hib hB1 hx hT hc hk
  obtain ⟨bx, hbx⟩ : ∃ bx, W.heap.size = bx := ⟨_, rfl⟩
  rw [hbx] at m3 m4 HK HSS HB1 HEND
  generalize (fun j => TS w0 ib pb c j ∧ j ≠ bx) = SS at HK HB1 HEND HSS
  go_enter Tryz.func153, Tryz.ntmps153
  go_wp2_with (go_at_call 154; refine Hid.out ?_)
  refine Lib.hid ?_
  refine (zzLegacy_any x.1 (by omega) _).mono ?_
  rintro e w4 ⟨⟨q, rfl, hq⟩, hf4⟩
  have HB4 := Lib.hid (HB1.out.still hf4)
  obtain ⟨⟨c0, c1, c2, c3, c4⟩, _⟩ := HK.out _ HB4.out.fr
  have HQ := Lib.hid hq
  obtain ⟨us, hus⟩ : ∃ us, xs = us := ⟨_, rfl⟩
  rw [hus] at HB4
  have hul : us.length ≤ xs.length + 2 := by rw [← hus]; omega
  have HU := Lib.hid hus.symm
  clear hq hf4 HB1 hus
  cases q with
  | true =>
    go_wp2_with (first
      | (go_at_call 145; refine (bufWriteStringS_any SS W1 b us x.1 _ HB4.out hne (by omega)).mono ?_; rintro e w5 ⟨⟨r5, rfl⟩, hB⟩
         obtain ⟨ys, hys⟩ : ∃ ys, us ++ x.1.data.toList.map (fun b => (b.toNat : Int)) = ys := ⟨_, rfl⟩
         rw [hys] at hB
         have HY : Hid (LegacyS x.1 → ys = us ++ nums x.1) := Lib.hid (fun _ => hys.symm)
         have hyl : ys.length ≤ us.length + 6002 := by rw [← hys, List.length_append, List.length_map, ← Lib.size_eq]; omega
         have HB5 := Lib.hid hB
         obtain ⟨⟨d0, d1, d2, d3, d4⟩, _⟩ := HK.out _ hB.fr
         clear hB hys HB4)
      | (go_at_call 151; refine (bufWriteByteS_any SS W1 b ys 61 _ HB5.out (by omega)).mono ?_; rintro e w6 ⟨⟨r6, rfl⟩, hB⟩
         obtain ⟨zs, hzs⟩ : ∃ zs, ys ++ [61] = zs := ⟨_, rfl⟩
         rw [hzs] at hB
         have HZ := Lib.hid hzs.symm
         have hzl : zs.length = ys.length + 1 := by rw [← hzs]; simp
         have HB6 := Lib.hid hB
         obtain ⟨⟨g0, g1, g2, g3, g4⟩, _⟩ := HK.out _ hB.fr
         clear hB hzs))
    go_region_held3 (fun w' => w'.cell? ⟨pb, 0, none⟩ = some (.pointer (some ⟨b, 0, none⟩)) ∧ w'.cell? ⟨bx, 1, none⟩ = some (.string x.2)) (go_keep) (first
      | (go_at_call 144; refine (availS_step (S := SS) (w0 := W1) (b := b) (xs := zs) ?_).mono ?_; exact HB6.out.still ((Fr.refl _ _).drew); rintro e W7 ⟨v7, rfl, hA7, hf7⟩
         obtain ⟨⟨i0, i1, i2, i3, i4⟩, _⟩ := HK.out _ hA7.fr
         have HA7 := Lib.hid hA7
         clear hA7 hf7)
      | (go_at_call 143; refine (quoteS_step (w00 := w0) (S := SS) (w0 := W1) (b := b) (xs := zs) (s := x.2) HT.out HF0.out HSS.out ?_ (by omega)).mono ?_; exact HA7.out; rintro e W8 ⟨v8, rfl, hQ8, hf8⟩
         obtain ⟨⟨j0, j1, j2, j3, j4⟩, _⟩ := HK.out _ hQ8.buf.fr
         have HQ8 := Lib.hid hQ8
         clear hQ8 hf8)
      | (go_at_call 142; refine (writeS_step (S := SS) (w0 := W1) (b := b) (xs := zs) (s := x.2) ?_ (by omega) (by omega)).mono ?_; exact HQ8.out; rintro e w9 ⟨⟨r9, rfl⟩, zs9, hz9, hB9⟩
         obtain ⟨⟨o0, o1, o2, o3, o4⟩, _⟩ := HK.out _ hB9.fr
         have HB9 := Lib.hid hB9
         have HZ9 := Lib.hid hz9
         clear hz9 hB9))
    all_goals (
      go_wp2
      go_end0
      refine ⟨rfl, HEND.out _ _ HB9.out (by have := HZ9.out.2.1; rw [List.length_append, Nat.add_mul]; have := HLN.out; omega) (fun hpl => ?_)⟩
      have h1 := HPL.out hpl
      rw [HZ9.out.2.2 h1.2, HZ.out, HY.out h1.1, HU.out, HEQ.out hpl, hbody.out]
      simp [labN])
  | false =>
    have HNL : Hid (¬ LegacyS x.1) := Lib.hid (fun h => by have := HQ.out h; cases this)
    go_wp2
    go_region_held3 (fun w' => w'.cell? ⟨pb, 0, none⟩ = some (.pointer (some ⟨b, 0, none⟩)) ∧ w'.cell? ⟨bx, 0, none⟩ = some (.string x.1)) (go_keep) (first
      | (go_at_call 144; refine (availS_step (S := SS) (w0 := W1) (b := b) (xs := us) ?_).mono ?_; exact HB4.out.still ((Fr.refl _ _).drew); rintro e W5 ⟨v5, rfl, hA, hf⟩
         obtain ⟨⟨e0, e1, e2, e3, e4⟩, _⟩ := HK.out _ hA.fr
         have HA := Lib.hid hA
         clear hA hf)
      | (go_at_call 143; refine (quoteS_step (w00 := w0) (S := SS) (w0 := W1) (b := b) (xs := us) (s := x.1) HT.out HF0.out HSS.out ?_ (by omega)).mono ?_; exact HA.out; rintro e W6 ⟨v6, rfl, hQ, hf⟩
         obtain ⟨⟨f0, f1, f2, f3, f4⟩, _⟩ := HK.out _ hQ.buf.fr
         have HQ6 := Lib.hid hQ
         clear hQ hf)
      | (go_at_call 142; refine (writeS_step (S := SS) (w0 := W1) (b := b) (xs := us) (s := x.1) ?_ (by omega) (by omega)).mono ?_; exact HQ6.out; rintro e w5 ⟨⟨r5, rfl⟩, zs5, hz, hB⟩
         obtain ⟨ys, hys⟩ : ∃ ys, us ++ zs5 = ys := ⟨_, rfl⟩
         rw [hys] at hB
         have HY : Hid (LegacyS x.1 → ys = us ++ nums x.1) := Lib.hid (fun h => absurd h HNL.out)
         have hyl : ys.length ≤ us.length + 6002 := by rw [← hys, List.length_append]; have := hz.2.1; omega
         have HB5 := Lib.hid hB
         obtain ⟨⟨d0, d1, d2, d3, d4⟩, _⟩ := HK.out _ hB.fr
         clear hB hz hys))
    all_goals (
      go_wp2_with (go_at_call 151; refine (bufWriteByteS_any SS W1 b ys 61 _ HB5.out (by omega)).mono ?_; rintro e w6 ⟨⟨r6, rfl⟩, hB⟩
                   obtain ⟨zs, hzs⟩ : ∃ zs, ys ++ [61] = zs := ⟨_, rfl⟩
                   rw [hzs] at hB
                   have HZ := Lib.hid hzs.symm
                   have hzl : zs.length = ys.length + 1 := by rw [← hzs]; simp
                   have HB6 := Lib.hid hB
                   obtain ⟨⟨g0, g1, g2, g3, g4⟩, _⟩ := HK.out _ hB.fr
                   clear hB hzs)
      go_region_held3 (fun w' => w'.cell? ⟨pb, 0, none⟩ = some (.pointer (some ⟨b, 0, none⟩)) ∧ w'.cell? ⟨bx, 1, none⟩ = some (.string x.2)) (go_keep) (first
        | (go_at_call 144; refine (availS_step (S := SS) (w0 := W1) (b := b) (xs := zs) ?_).mono ?_; exact HB6.out.still ((Fr.refl _ _).drew); rintro e W7 ⟨v7, rfl, hA7, hf7⟩
           obtain ⟨⟨i0, i1, i2, i3, i4⟩, _⟩ := HK.out _ hA7.fr
           have HA7 := Lib.hid hA7
           clear hA7 hf7)
        | (go_at_call 143; refine (quoteS_step (w00 := w0) (S := SS) (w0 := W1) (b := b) (xs := zs) (s := x.2) HT.out HF0.out HSS.out ?_ (by omega)).mono ?_; exact HA7.out; rintro e W8 ⟨v8, rfl, hQ8, hf8⟩
           obtain ⟨⟨j0, j1, j2, j3, j4⟩, _⟩ := HK.out _ hQ8.buf.fr
           have HQ8 := Lib.hid hQ8
           clear hQ8 hf8)
        | (go_at_call 142; refine (writeS_step (S := SS) (w0 := W1) (b := b) (xs := zs) (s := x.2) ?_ (by omega) (by omega)).mono ?_; exact HQ8.out; rintro e w9 ⟨⟨r9, rfl⟩, zs9, hz9, hB9⟩
           obtain ⟨⟨o0, o1, o2, o3, o4⟩, _⟩ := HK.out _ hB9.fr
           have HB9 := Lib.hid hB9
           have HZ9 := Lib.hid hz9
           clear hz9 hB9))
      all_goals (
        go_wp2
        go_end0
        refine ⟨rfl, HEND.out _ _ HB9.out (by have := HZ9.out.2.1; rw [List.length_append, Nat.add_mul]; have := HLN.out; omega) (fun hpl => ?_)⟩
        have h1 := HPL.out hpl
        rw [HZ9.out.2.2 h1.2, HZ.out, HY.out h1.1, HU.out, HEQ.out hpl, hbody.out]
        simp [labN])
      )

/-- The closure's call, at whichever label. -/
theorem tx_any (T : Lib.PrintTabs) (w0 : World) (hT : TabsAt T w0) (ib pb c b k : Nat) (l : List Lab) (x : Lab) (s : Value) (hk12 : k ≤ 12) (hx : l[k]? = some x) (hl : x.1.size ≤ 600 ∧ x.2.size ≤ 600) (hne : 1 ≤ x.1.size) (W : World) (h : TJ w0 ib pb c b l k W) (hc : Blk W c 99 #[s]) :
    Calls Tryz.prog 153 #[.agg #[.string x.1, .string x.2], .pointer (some ⟨ib, 0, none⟩), .pointer (some ⟨pb, 0, none⟩)] W fun r w' => r = .returned (.tuple #[]) ∧ TJ w0 ib pb c b l (k + 1) w' ∧ Blk w' c 99 #[s] := by
  rcases Nat.eq_zero_or_pos k with h0 | h0
  · exact tx_first T w0 hT ib pb c b k l x s h0 hk12 hx hl hne W h hc
  · exact tx_later T w0 hT ib pb c b k l x s h0 hk12 hx hl hne W h hc
end Go.Proofs.YtbkookiigkckdaaGreatDoor

/- Labels.String 57. -/
namespace Go.Proofs.YtbkookiigkckdaaGreatDoor
open Go.RowKit
set_option linter.unusedVariables false
set_option linter.unusedSimpArgs false

theorem perm600 {l : List Lab} (hs : ∀ p ∈ l, 1 ≤ p.1.size ∧ p.1.size ≤ 600 ∧ p.2.size ≤ 600) : ∀ p ∈ l, p.1.size ≤ 1048576 ∧ p.2.size ≤ 1048576 := fun p hp => by have := hs p hp; omega
theorem labsSize12 (l : List Lab) (hl : l.length ≤ 12) (hs : ∀ p ∈ l, p.1.size ≤ 1048576 ∧ p.2.size ≤ 1048576) : labsSize l ≤ 1099511627776 := by
  have := labsSize_le l hs
  have : l.length * 2097160 ≤ 12 * 2097160 := Nat.mul_le_mul_right _ hl
  omega

/-- What the text of labels is behind the writes. -/
structure TvKeep (w : World) (n b pb ib : Nat) (s : ByteArray) (W : World) : Prop where
  fr : Fr (fun _ => False) w W
  ls : Blk W n 99 #[.string s]
  bp : Blk W pb 253 #[.pointer (some ⟨b, 0, none⟩)]

set_option maxHeartbeats 16000000 in
set_option maxRecDepth 100000 in
theorem text_any (T : Lib.PrintTabs) (l : List Lab) (w : World) (hT : TabsAt T w) (hl12 : l.length ≤ 12) (hs : ∀ p ∈ l, 1 ≤ p.1.size ∧ p.1.size ≤ 600 ∧ p.2.size ≤ 600) :
    Calls Tryz.prog 57 #[.agg #[.string (labStr l)]] w fun e w' => ∃ r, e = .returned (.string r) ∧ Fr (fun _ => False) w w' ∧ ((∀ x ∈ l, PlainL x) → r = strOfNums (textN l)) := by
  have hmf : ∀ (fn : Fn) (first cap : Array Value) (w : World), (Instr.makeFunc fn first cap).run Tryz.prog w = .ok (.func fn first cap) w := fun _ _ _ _ => rfl
  have eg : ∀ args w, (callFunc 153 args).run Tryz.prog w = .ok (.enter 153 args) w := enters_of Tryz.func153 (by kernel_rfl) rfl
  have hs4 := perm600 hs
  have hsz := labsSize12 l hl12 hs4
  obtain ⟨n, hn⟩ : ∃ n, w.heap.size = n := ⟨_, rfl⟩
  obtain ⟨W4, hW4⟩ : ∃ W4, (((w.alloc (.cells #[.string (labStr l)] 99)).alloc (.cells Tryz.zeroCells252 252)).alloc (.cells #[.slice (some ⟨n + 1, 0, none⟩) 0 1024, .int .i64 0, .int .i8 0] 340)).alloc (.cells #[.pointer (some ⟨n + 1 + 1, 0, none⟩)] 253) = W4 := ⟨_, rfl⟩
  have hF4 : Fr (fun _ => False) w W4 := by rw [← hW4]; exact ((((Fr.refl _ w).alloc _).alloc _).alloc _).alloc _
  have hsz4 : W4.heap.size = n + 4 := by rw [← hW4]; simp [hn]
  have hls : Blk W4 n 99 #[.string (labStr l)] := by
    rw [← hW4, ← hn]; exact (((Blk.new w 99 _).alloc _).alloc _).alloc _
  have hbg : Blk W4 (n + 1) 252 Tryz.zeroCells252 := by
    rw [← hW4]
    have h := Blk.new (w.alloc (.cells #[.string (labStr l)] 99)) 252 Tryz.zeroCells252
    rw [World.size_alloc, hn] at h
    exact (h.alloc _).alloc _
  have hbb : Blk W4 (n + 1 + 1) 340 #[.slice (some ⟨n + 1, 0, none⟩) 0 1024, .int .i64 0, .int .i8 0] := by
    rw [← hW4]
    have h := Blk.new ((w.alloc (.cells #[.string (labStr l)] 99)).alloc (.cells Tryz.zeroCells252 252)) 340 #[.slice (some ⟨n + 1, 0, none⟩) 0 1024, .int .i64 0, .int .i8 0]
    rw [World.size_alloc, World.size_alloc, hn] at h
    exact h.alloc _
  have hbp : Blk W4 (n + 1 + 1 + 1) 253 #[.pointer (some ⟨n + 1 + 1, 0, none⟩)] := by
    rw [← hW4]
    have h := Blk.new (((w.alloc (.cells #[.string (labStr l)] 99)).alloc (.cells Tryz.zeroCells252 252)).alloc (.cells #[.slice (some ⟨n + 1, 0, none⟩) 0 1024, .int .i64 0, .int .i8 0] 340)) 253 #[.pointer (some ⟨n + 1 + 1, 0, none⟩)]
    rw [World.size_alloc, World.size_alloc, World.size_alloc, hn] at h
    exact h
  have hA : BufAt W4 (n + 1 + 1) (n + 1) 1024 252 0 Tryz.zeroCells252 [] := ⟨hbb, hbg, zero252, Nat.zero_le _, by unfold maxLen; omega, by omega, rfl⟩
  have HB := Lib.hid (show BufS (fun k => k = n + 1 + 1 ∨ k = n + 1) W4 W4 (n + 1 + 1) [] from ⟨Fr.refl _ _, .inl (.inl rfl), n + 1, 1024, 252, 0, Tryz.zeroCells252, .inl (.inr rfl), hA⟩)
  have q0 := hbp.cell 0
  have HEG := Lib.hid eg
  have HT := Lib.hid hT
  have HS := Lib.hid hs
  have HS4 := Lib.hid hs4
  have HF4 := Lib.hid hF4
  have HLS := Lib.hid hls
  have HBP := Lib.hid hbp
  have HN := Lib.hid hn
  have HSZ4 := Lib.hid hsz4
  clear eg hT hs hs4 hF4 hls hbp hbb hbg hA hsz4
  generalize hS : labStr l = s at hW4 HLS ⊢
  have HSS := Lib.hid hS
  clear hS
  go_enter Tryz.func57, Tryz.ntmps57
  go_wp2_with (first
    | (go_at_call 140; refine (newBuffer_any _ _ _ _).mono ?_; rintro e w9 ⟨rfl, hw9⟩; subst hw9)
    | (go_at_call 151; refine (bufWriteByteS_any (fun k => k = n + 1 + 1 ∨ k = n + 1) W4 (n + 1 + 1) [] 123 _ HB.out (by simp)).mono ?_; rintro e w5 ⟨⟨r5, rfl⟩, hB5⟩
       have hls5 := HLS.out.fr hB5.fr (fun e => by omega)
       have p0 := (hls5.alloc (.cells #[.int .i64 0] 3)).cell 0
       have HB5 := Lib.hid hB5
       clear hB5 hls5 HB)
    | (go_at_call 152; refine Hid.out ?_))
  refine Lib.hid ?_
  have hn4 := HSZ4.out
  have hnw := HN.out
  have hfS := HB5.out.fr
  have hF5 : Fr (fun _ => False) w w5 := HF4.out.trans hfS (fun k hk e => by omega)
  have hle5 := hfS.size
  obtain ⟨W6, hW6⟩ : ∃ W6, w5.alloc (.cells #[.int .i64 0] 3) = W6 := ⟨_, rfl⟩
  have hF6 : Fr (fun _ => False) w5 W6 := by rw [← hW6]; exact (Fr.refl _ _).alloc _
  have hI : Blk W6 w5.heap.size 3 #[.int .i64 ((0 : Nat) : Int)] := by rw [← hW6]; exact Blk.new _ _ _
  have hP6 : Blk W6 (n + 1 + 1 + 1) 253 #[.pointer (some ⟨n + 1 + 1, 0, none⟩)] := (HBP.out.fr hfS (fun e => by omega)).fr hF6 (fun e => e)
  have hsz6 : W6.heap.size = w5.heap.size + 1 := by rw [← hW6]; simp
  have hJ0 : TJ w w5.heap.size (n + 1 + 1 + 1) W6.heap.size (n + 1 + 1) l 0 W6 := by
    obtain ⟨hf, _, g, ct, t, lr, cur, hg, hA⟩ := HB5.out
    have hgl := hA.hg.lt
    have hbl := hA.hb.lt
    exact ⟨hF5.same hF6, hI, hP6, by omega, by omega, by omega, ⟨by omega, by omega, by omega, by omega⟩, [123], ⟨g, ct, t, lr, cur, ⟨by omega, by omega, by omega, by omega⟩, hA.fr hF6⟩, by simp, fun _ => rfl⟩
  have hR := range_any l 153 #[.pointer (some ⟨w5.heap.size, 0, none⟩), .pointer (some ⟨n + 1 + 1 + 1, 0, none⟩)] HEG.out (TJ w w5.heap.size (n + 1 + 1 + 1) W6.heap.size (n + 1 + 1) l) W6 (fun p hp => by have := HS4.out p hp; omega) hsz (fun _ _ _ h hf => h.still hf) hJ0
    (fun k x W hx hj hb => by
      have hk : k < l.length := (List.getElem?_eq_some_iff.mp hx).1
      have hxs := HS.out x (List.mem_of_getElem? hx)
      exact tx_any T w HT.out _ _ _ _ k l x _ (by omega) hx hxs.2 hxs.1 W hj hb)
  rw [HSS.out] at hR
  rw [hW6]
  clear hJ0 hI hP6 hF6 hF5 hfS
  refine hR.mono ?_
  rintro r w7 ⟨rfl, jf, ji, jp, j4, j5, j6, jb, xs, ⟨g, ct, t, lr, cur, hg, hA⟩, hlen, heq⟩
  have hB7 : BufS (TS w w5.heap.size (n + 1 + 1 + 1) W6.heap.size) w7 w7 (n + 1 + 1) xs := ⟨Fr.refl _ _, .inl jb, g, ct, t, lr, cur, .inl hg, hA⟩
  have HB7 := Lib.hid hB7
  have HJF := Lib.hid jf
  have HJP := Lib.hid jp
  have HEQ := Lib.hid heq
  have u0 := jp.cell 0
  have hxl : xs.length ≤ 150000 := by omega
  clear hB7 jf ji jp j4 j5 j6 jb hg hA hlen heq hR hW6 hsz6 hle5
  generalize w5.heap.size = ib at HB7
  generalize W6.heap.size = c6 at HB7
  go_wp2_with (first
    | (go_at_call 151; refine (bufWriteByteS_any (TS w ib (n + 1 + 1 + 1) c6) w7 (n + 1 + 1) xs 125 _ HB7.out (by omega)).mono ?_; rintro e w8 ⟨⟨r8, rfl⟩, hB8⟩
       have u1 := (HJP.out.fr hB8.fr (fun e => e.2.2.1 rfl)).cell 0
       have HF8 := Lib.hid (HJF.out.trans hB8.fr (fun k hk e => by have := e.1; omega))
       obtain ⟨_, _, g8, c8, t8, lr8, cur8, hg8, hA8⟩ := hB8
       have HA8 := Lib.hid hA8
       clear hg8 hA8 HB7)
    | (go_at_call 147; refine (bufString_any HA8.out).mono ?_; rintro e w9 ⟨rfl, hf9⟩))
  go_ret
  refine ⟨_, rfl, HF8.out.same hf9, fun hpl => ?_⟩
  rw [HEQ.out hpl]
  rfl
end Go.Proofs.YtbkookiigkckdaaGreatDoor

/- ScratchBuilder.Labels; Decoder.DecodeLabels. -/
namespace Go.Proofs.YtbkookiigkckdaaGreatDoor
open Go.RowKit
set_option linter.unusedVariables false
set_option linter.unusedSimpArgs false

theorem isEmpty_any (s : ByteArray) (w : World) : Calls Tryz.prog 56 #[.agg #[.string s]] w fun r w' => r = .returned (.bool (decide (s.size = 0))) ∧ Fr (fun _ => False) w w' := by
  by_cases h : s.size = 0
  · have h' : (s.size : Int) = 0 := by omega
    rw [decide_eq_true h]
    go_enter Tryz.func56, Tryz.ntmps56
    go_wp2
    go_ret
    exact ⟨rfl, (Fr.refl _ w).alloc _⟩
  · have h' : ((s.size : Int) == 0) = false := by rw [beq_eq_false_iff_ne]; omega
    rw [decide_eq_false h]
    go_enter Tryz.func56, Tryz.ntmps56
    go_wp2
    go_ret
    exact ⟨rfl, (Fr.refl _ w).alloc _⟩

set_option maxRecDepth 100000 in
set_option maxHeartbeats 2000000 in
theorem builderLabels_any (b0 d : Nat) (l : List Lab) (w : World) (h : Bld w b0 d l ⟨#[]⟩) (hl : l.length ≤ 4096) (hs : ∀ p ∈ l, p.1.size ≤ 1048576 ∧ p.2.size ≤ 1048576) :
    Calls Tryz.prog 132 #[.pointer (some ⟨d, 0, none⟩)] w fun r w' => r = .returned (.agg #[.string (labStr l)]) ∧ Bld w' b0 d l (labStr l) ∧ Fr (fun k => k = d) w w' := by
  obtain ⟨v, z, hb, ho⟩ := h
  obtain ⟨A, c, rfl⟩ := own_slice' ho
  have hdw := hb.lt
  have HNE := Lib.hid (own_ne ho hb (by decide))
  have F1 : Fr (fun _ => False) w (w.alloc (.cells #[.string ⟨#[]⟩] 99)) := (Fr.refl _ w).alloc _
  have hB1 : Blk (w.alloc (.cells #[.string ⟨#[]⟩] 99)) w.heap.size 99 #[.string ⟨#[]⟩] := Blk.new w 99 _
  have hQ := isEmpty_any ⟨#[]⟩ (w.alloc (.cells #[.string ⟨#[]⟩] 99))
  have hD1 := hb.fr F1 (fun e => e)
  have k1 := hD1.cell 1
  simp at k1
  have HO := Lib.hid ho
  have HD1 := Lib.hid hD1
  have HB1 := Lib.hid hB1
  have HF1 := Lib.hid F1
  have HS := Lib.hid hs
  have hle : labsSize l ≤ 1099511627776 := by
    have := labsSize_le l hs
    have h : l.length * 2097160 ≤ 4096 * 2097160 := Nat.mul_le_mul_right _ hl
    omega
  obtain ⟨n, hn⟩ : ∃ n, labsSize l = n := ⟨_, rfl⟩
  rw [hn] at hle
  obtain ⟨m, hm⟩ : ∃ m, l.length = m := ⟨_, rfl⟩
  have HM := Lib.hid hm
  have HN := Lib.hid hn
  rw [hm] at hl
  rw [decide_eq_true (show (⟨#[]⟩ : ByteArray).size = 0 from rfl)] at hQ
  have hmk : ∀ W : World, (Instr.makeSlice 44 (.int .i64 (n : Int)) (.int .i64 (n : Int))).run Tryz.prog W = .ok (.slice (some ⟨W.heap.size, 0, none⟩) n n) (W.alloc (.cells (madeCells #[.int .u8 0] n) 5)) := fun W =>
    run_make_row' (P := Tryz.prog) 44 5 (.int .u8 0) 1 Tryz.underlying44 Tryz.info5 rfl .i64 .i64 n (by omega) (by omega) W
  clear hb ho hs hm hn hB1 F1 hD1
  go_enter Tryz.func132, Tryz.ntmps132
  go_wp2_with (first
    | (go_at_call 56; refine hQ.mono ?_; rintro r w1 ⟨rfl, hf1⟩
       have hD2 := Lib.hid (HD1.out.fr hf1 (fun e => e))
       have k2 := hD2.out.cell 0
       simp at k2
       rw [HM.out] at k2
       have hFF2 := Lib.hid (HF1.out.same hf1)
       have hsl2 := Lib.hid ((Sl.ofOwn HO.out).fr hFF2.out (fun _ _ e => e))
       have hB2 := Lib.hid (HB1.out.fr hf1 (fun e => e))
       have hZ := labelsSize_any _ _ l w1 hsl2.out (by rw [HM.out]; omega) HS.out
       rw [HM.out, HN.out] at hZ)
    | (go_at_call 208; refine hZ.mono ?_; rintro r w2 ⟨rfl, hf2⟩; refine Hid.out ?_))
  have hB3 := hB2.out.fr hf2 (fun e => e)
  have hD3 := hD2.out.fr hf2 (fun e => e)
  have hsl3 := hsl2.out.fr hf2 (fun _ _ e => e)
  have hF3 := hFF2.out.same hf2
  have hDr := hD3.alloc (.cells (madeCells #[.int .u8 0] n) 5)
  have hBr := hB3.alloc (.cells (madeCells #[.int .u8 0] n) 5)
  have hnd : d ≠ w2.heap.size := Nat.ne_of_lt hD3.lt
  have hnb : w.heap.size ≠ w2.heap.size := Nat.ne_of_lt hB3.lt
  have kd0 := hDr.cell 0
  have kb0 := (World.ownsRow.lt HO.out)
  have hM := marshalLabels_any _ _ l w2.heap.size n n (w2.alloc (.cells (madeCells #[.int .u8 0] n) 5)) (hsl3.fr ((Fr.refl (fun _ => False) w2).alloc _) (fun _ _ e => e))
    (fun e => Nat.lt_irrefl _ (Nat.lt_of_lt_of_le ((World.ownsRow.lt HO.out) _ e).2 hF3.size)) (by rw [HM.out]; omega) HS.out (buf_new w2 n) HN.out.symm (Nat.le_refl _) (by omega)
  rw [HM.out] at hM kd0
  simp at kd0
  have H3 := Lib.hid (And.intro hBr (And.intro hDr (And.intro (hF3.alloc (.cells (madeCells #[.int .u8 0] n) 5)) hF3.size)))
  have H5 := Lib.hid (And.intro hnd hnb)
  clear hB3 hD3 hsl3 hF3 hDr hBr hnd hnb kb0 hQ k1 k2 hZ
  refine Lib.hid ?_
  go_wp2_with (first
    | (go_at_call 209
       refine hM.mono ?_
       rintro r w4 ⟨rfl, hB4, hf4⟩
       have hY := yolo_any w2.heap.size n n (labsBytes l) w4 hB4
       have hD4 := Lib.hid (H3.out.2.1.fr hf4 H5.out.1)
       have hR4 := Lib.hid (H3.out.1.fr hf4 H5.out.2)
       have k4 := hD4.out.cell 1
       have z4 := hD4.out.frozen 1
       simp at k4
       have hF4 : Hid (Fr (fun _ => False) w w4) := Lib.hid (H3.out.2.2.1.trans (S' := fun k => k = w2.heap.size) hf4 (fun k hk e => by have := H3.out.2.2.2; omega)))
    | (go_at_call 210; refine hY.mono ?_; rintro r w5 ⟨rfl, rfl⟩; refine Hid.out ?_))
  have hdb : w.heap.size ≠ d := by omega
  have hD5 : Blk (w4.setCell ⟨d, 1, none⟩ (.string ⟨(labsBytes l).toArray⟩)) d 119 #[.slice A l.length c, .string ⟨(labsBytes l).toArray⟩, z] := by simpa using hD4.out.set_ 1 (.string ⟨(labsBytes l).toArray⟩)
  have hR5 := hR4.out.far (p := ⟨d, 1, none⟩) hdb (.string ⟨(labsBytes l).toArray⟩)
  have hF5 : Fr (fun k => k = d) w (w4.setCell ⟨d, 1, none⟩ (.string ⟨(labsBytes l).toArray⟩)) := (hF4.out.mono (S' := fun k => k = d) (fun _ _ e => e.elim)).setCell (p := ⟨d, 1, none⟩) (.inl rfl) _
  have k5 := hD5.cell 1
  have k6 := hR5.cell 0
  have z6 := hR5.frozen 0
  simp at k5 k6
  have H6 := Lib.hid (And.intro hD5 (And.intro hR5 hF5))
  clear hD5 hR5 hF5 hM hY
  refine Lib.hid ?_
  generalize hS : (⟨(labsBytes l).toArray⟩ : ByteArray) = s at *
  go_wp2_with fail
  obtain ⟨hD5, hR5, hF5⟩ := H6.out
  have hD7 := hD5.far (p := ⟨w.heap.size, 0, none⟩) hdb.symm (.string s)
  have hR7 : Blk ((w4.setCell ⟨d, 1, none⟩ (.string s)).setCell ⟨w.heap.size, 0, none⟩ (.string s)) w.heap.size 99 #[.string s] := by simpa using hR5.set_ 0 (.string s)
  have hF7 : Fr (fun k => k = d) w ((w4.setCell ⟨d, 1, none⟩ (.string s)).setCell ⟨w.heap.size, 0, none⟩ (.string s)) := hF5.setCell (p := ⟨w.heap.size, 0, none⟩) (.inr (Nat.le_refl _)) _
  have hO7 := own_fr HO.out hF7 (fun g hg e => HNE.out (by rw [hg]; exact congrArg some e))
  generalize (w4.setCell ⟨d, 1, none⟩ (.string s)).setCell ⟨w.heap.size, 0, none⟩ (.string s) = w7 at hD7 hR7 hF7 hO7 ⊢
  refine bodyPost_ret (results_cell_row (P := Tryz.prog) rfl _ _ w.heap.size 99 #[.string s] (0, 0) _ rfl hR7 Tryz.underlying99 rfl (by kernel_rfl)) rfl ?_
  have hSS : labStr l = s := hS
  rw [hSS]
  exact ⟨rfl, ⟨_, _, hD7, hO7⟩, hF7⟩

theorem dec_fr {te : TypeId} {pe : Value} {w w' : World} {d g : Nat} {cur : Array Value} {st : St} {S : Nat → Prop} (h : Dec te pe w d g cur st) (hf : Fr S w w') (h1 : ¬ S d) (h2 : ¬ S g) (h3 : ¬ S 2) : Dec te pe w' d g cur st := by
  have key : ∀ rest E, DecOk (.iface te pe) w d g cur rest E → DecOk (.iface te pe) w' d g cur rest E := by
    rintro rest E ⟨off, c, hb, hg, hl, hm, hr, hE⟩
    exact ⟨off, c, hb.fr hf h1, hg.fr hf h2, hl, hm, hr, by rw [hf.cell (p := ⟨2, 0, none⟩) (World.block_lt_of_cell? w _ hE) h3]; exact hE⟩
  rcases st with _ | l
  · obtain ⟨rest, h⟩ := h
    exact ⟨rest, key _ _ h⟩
  · exact key _ _ h
theorem dec_blk {te : TypeId} {pe : Value} {w : World} {d g : Nat} {cur : Array Value} {st : St} (h : Dec te pe w d g cur st) : ∃ cs, Blk w d 229 cs ∧ Blk w g 5 cur ∧ 2 < w.heap.size := by
  rcases st with _ | l
  · obtain ⟨rest, off, c, hb, hg, hl, hm, hr, hE⟩ := h
    exact ⟨_, hb, hg, World.block_lt_of_cell? w _ hE⟩
  · obtain ⟨off, c, hb, hg, hl, hm, hr, hE⟩ := h
    exact ⟨_, hb, hg, World.block_lt_of_cell? w _ hE⟩

/-- What DecodeLabels may turn: the Decbuf, the builder, its rows. -/
def DS (w : World) (b0 d d2 k : Nat) : Prop := k = d2 ∨ BldS w b0 d k
theorem DS.back {w w' : World} {b0 d d2 : Nat} (h : Fr (DS w b0 d d2) w w') (k : Nat) (hk : k < w.heap.size) (hs : DS w' b0 d d2 k) : DS w b0 d d2 k := by
  rcases Classical.em (DS w b0 d d2 k) with hy | hn
  · exact hy
  · rcases hs with rfl | rfl | ⟨hb, cs, hc⟩
    · exact .inl rfl
    · exact .inr (.inl rfl)
    · exact .inr (.inr ⟨hb, cs, (h.block k hk hn).symm.trans hc⟩)
theorem DS.trans {w w' w'' : World} {b0 d d2 : Nat} (h : Fr (DS w b0 d d2) w w') (h2 : Fr (DS w' b0 d d2) w' w'') : Fr (DS w b0 d d2) w w'' := Fr.trans h h2 (DS.back h)
theorem bldS_not {w : World} {b0 d k : Nat} {t : TypeId} {cs : Array Value} (h : Blk w k t cs) (h1 : k ≠ d) (h2 : t ≠ 108) : ¬ BldS w b0 d k := by
  rintro (e | ⟨_, cs', hc⟩)
  · exact h1 e
  · exact h2 (h.tag hc).1
theorem bld_d2 {w w' : World} {b0 d d2 : Nat} {l : List Lab} {o : ByteArray} {cs : Array Value} (h : Bld w b0 d l o) (hd : Blk w d2 229 cs) (hf : Fr (fun k => k = d2) w w') : Bld w' b0 d l o := by
  obtain ⟨v, x, hb, ho⟩ := h
  exact ⟨v, x, hb.fr hf (Blk.ne_ hb hd (by decide)), own_fr ho hf (fun g hg e => own_ne ho hd (by decide) (by rw [hg]; exact congrArg some e))⟩

set_option maxRecDepth 100000 in
set_option maxHeartbeats 4000000 in
theorem decodeLabels_any (te : TypeId) (pe : Value) (b0 d d2 g : Nat) (cur : Array Value) (l0 : List Lab) (o0 : ByteArray) (st : St) (w : World) (hB : Bld w b0 d l0 o0) (hD : Dec te pe w d2 g cur st) (hb0 : b0 ≤ w.heap.size) (h2 : 2 < b0) (hbd : b0 ≤ d)
    (n : Nat) (st1 : St) (hgu : gUv st = (n, st1)) (hn : n ≤ 4096) (hu : ∀ k, k < n → (gUv (gLabs st1 k).2).1 < 9223372036854775808 ∧ (gUv (gStr (gLabs st1 k).2).2).1 < 9223372036854775808)
    (hs : ∀ p ∈ (gLabs st1 n).1, p.1.size ≤ 1048576 ∧ p.2.size ≤ 1048576) (hlen : ∀ k, (gLabs st1 k).1.length = k) :
    Calls Tryz.prog 117 #[.pointer (some ⟨d, 0, none⟩), .pointer (some ⟨d2, 0, none⟩)] w fun r w' => r = .returned (.agg #[.string (labStr (gLabs st1 n).1)]) ∧ Dec te pe w' d2 g cur (gLabs st1 n).2 ∧ Fr (DS w b0 d d2) w w' := by
  have hi : i64 n = n := by unfold i64 wrap64; omega
  have F1 : Fr (fun _ => False) w (w.alloc (.cells #[.string ⟨#[]⟩] 99)) := (Fr.refl _ w).alloc _
  have hR1 : Blk (w.alloc (.cells #[.string ⟨#[]⟩] 99)) w.heap.size 99 #[.string ⟨#[]⟩] := Blk.new w 99 _
  have hdl : d < w.heap.size := let ⟨_, _, h, _⟩ := hB; h.lt
  have hB1 : Bld (w.alloc (.cells #[.string ⟨#[]⟩] 99)) b0 d l0 o0 := hB.fr F1 (fun e => e) (fun _ _ _ e => e)
  have hD1 := dec_fr hD F1 (fun e => e) (fun e => e) (fun e => e)
  have hReset := reset_any b0 d l0 o0 _ hB1
  have HF1 := Lib.hid F1
  have HR1 := Lib.hid hR1
  have HD1 := Lib.hid hD1
  have HBB := Lib.hid hB1
  have HU := Lib.hid hu
  have HS := Lib.hid hs
  have HL := Lib.hid hlen
  have HG := Lib.hid hgu
  clear F1 hR1 hB1 hD1 hu hs hlen hB hD hgu
  go_enter Tryz.func117, Tryz.ntmps117
  go_wp2_with (first
    | (go_at_call 202
       refine hReset.mono ?_
       rintro r w1 ⟨rfl, hB2, hf2⟩
       have hD2 : Dec te pe w1 d2 g cur st := by
         obtain ⟨cs, hb2, hg2, hlt2⟩ := dec_blk HD1.out
         obtain ⟨_, _, hbb, _⟩ := HBB.out
         exact dec_fr HD1.out hf2 (fun e => Blk.ne_ hb2 hbb (by decide) e) (fun e => Blk.ne_ hg2 hbb (by decide) e) (by omega)
       have hU := decUvarint te pe d2 g cur st w1 hD2
       rw [HG.out] at hU
       dsimp only at hU
       rw [hi] at hU)
    | (go_at_call 172; refine hU.mono ?_; rintro r w2 ⟨rfl, hD3, hf3⟩; refine Hid.out ?_))
  obtain ⟨cs2, hb2, hg2, hlt2⟩ := dec_blk hD2
  have hB3 := bld_d2 hB2 hb2 hf3
  have hR3 : Blk w2 w.heap.size 99 #[.string ⟨#[]⟩] := (HR1.out.fr hf2 (by omega)).fr hf3 (fun e => Blk.ne_ (HR1.out.fr hf2 (by omega)) hb2 (by decide) e)
  have hF3 : Fr (DS w b0 d d2) w w2 := ((HF1.out.mono (S' := DS w b0 d d2) (fun _ _ e => e.elim)).trans hf2 (fun k _ e => .inr (.inl e))).trans hf3 (fun k _ e => .inl e)
  have HB3 := Lib.hid hB3
  have HD3 := Lib.hid hD3
  have HR3 := Lib.hid hR3
  have HF3 := Lib.hid hF3
  have hdd : d2 ≠ d := by
    obtain ⟨_, _, hbb, _⟩ := hB2
    exact Blk.ne_ hb2 hbb (by decide)
  have hgd : g ≠ d := by
    obtain ⟨_, _, hbb, _⟩ := hB2
    exact Blk.ne_ hg2 hbb (by decide)
  clear hB3 hD3 hR3 hF3 hb2 hg2 hB2 hD2 hf2 hf3 hU hReset HF1 HR1 HD1
  refine Lib.hid ?_
  go_wp2_with fail
  go_loopw [6] (fun vi wr => ∃ k : Nat, k ≤ n ∧ vi = .int .i64 k ∧ Hid (Bld wr b0 d (gLabs st1 k).1 ⟨#[]⟩) ∧ Hid (Dec te pe wr d2 g cur (gLabs st1 k).2) ∧ Hid (Fr (DS w b0 d d2) w wr) ∧ Hid (Blk wr w.heap.size 99 #[.string ⟨#[]⟩])) (fun vi _ => n - (intOf vi).toNat)
  case atStart => exact ⟨0, Nat.zero_le _, rfl, HB3, HD3, HF3, HR3⟩
  case round =>
    obtain ⟨k, hk, rfl, JB, JD, JF, JR⟩ := hrel
    by_cases hlt : k < n
    · obtain ⟨hu1, hu2⟩ := HU.out k hlt
      have hlk := HL.out k
      obtain ⟨lk, hlkk⟩ : ∃ lk, (gLabs st1 k).1 = lk := ⟨_, rfl⟩
      obtain ⟨sk, hskk⟩ : ∃ sk, (gLabs st1 k).2 = sk := ⟨_, rfl⟩
      have hnext : gLabs st1 (k + 1) = (lk ++ [((gStr sk).1, (gStr (gStr sk).2).1)], (gStr (gStr sk).2).2) := by
        show ((gLabs st1 k).1 ++ [(gLab (gLabs st1 k).2).1], (gLab (gLabs st1 k).2).2) = _
        rw [hlkk, hskk]; rfl
      rw [hlkk] at JB hlk
      rw [hskk] at JD hu1 hu2
      have q1 := decBytes te pe d2 g cur sk wr JD.out hu1
      have HNX := Lib.hid hnext
      clear hnext hlkk hskk
      have hszw := JF.out.size
      go_wp2_with (first
        | (go_at_call 203
           refine (hQ2).mono ?_
           rintro r w2 ⟨g2', o2, c2, rfl, hne2, hcell2, hD2, hf2⟩
           have hB2 := bld_d2 hB1 hbb1 hf2
           have hq3 := unsafeAdd_any b0 d lk ⟨#[]⟩ ((gStr sk).1, (gStr (gStr sk).2).1) g1' o1 c1 g2' o2 c2 w2 hB2 (by have := hf1.size; have := hf2.size; omega) (by omega) (fun j b hj => by
             have h1 := hcell1 j b hj
             rw [hf2.cell (p := ⟨g1', o1 + j, none⟩) (World.block_lt_of_cell? _ _ h1) hne1]; exact h1) hcell2)
        | (go_at_call 203
           refine q1.mono ?_
           rintro r w1 ⟨g1', o1, c1, rfl, hne1, hcell1, hD1, hf1⟩
           have hQ2 := decBytes te pe d2 g cur (gStr sk).2 w1 hD1 hu2
           obtain ⟨cs1, hbb0, _, _⟩ := dec_blk JD.out
           obtain ⟨cs1', hbb1, _, _⟩ := dec_blk hD1
           have hB1 := bld_d2 JB.out hbb0 hf1)
        | (go_at_call 204; refine hq3.mono ?_; rintro r w3 ⟨rfl, hB3, hf3⟩; refine Hid.out ?_))
      obtain ⟨cs3, hbb3, hgb3, _⟩ := dec_blk hD2
      have F2 : Fr (DS w b0 d d2) w w2 := (JF.out.trans hf1 (fun k _ e => .inl e)).trans hf2 (fun k _ e => .inl e)
      have hR2 : Blk w2 w.heap.size 99 #[.string ⟨#[]⟩] := (JR.out.fr hf1 (fun e => Blk.ne_ JR.out hbb0 (by decide) e)).fr hf2 (fun e => Blk.ne_ (JR.out.fr hf1 (fun e => Blk.ne_ JR.out hbb0 (by decide) e)) hbb1 (by decide) e)
      have NB : Hid (Bld w3 b0 d (gLabs st1 (k + 1)).1 ⟨#[]⟩) := Lib.hid (by rw [HNX.out]; exact hB3)
      have ND : Hid (Dec te pe w3 d2 g cur (gLabs st1 (k + 1)).2) := Lib.hid (by
        rw [HNX.out]
        exact dec_fr hD2 hf3 (bldS_not hbb3 hdd (by decide)) (bldS_not hgb3 hgd (by decide)) (fun e => by rcases e with e | ⟨e, _⟩ <;> omega))
      have NF : Hid (Fr (DS w b0 d d2) w w3) := Lib.hid (Fr.trans F2 hf3 (fun k hk e => DS.back F2 k hk (.inr e)))
      have NR : Hid (Blk w3 w.heap.size 99 #[.string ⟨#[]⟩]) := Lib.hid (hR2.fr hf3 (bldS_not hR2 (by omega) (by decide)))
      clear hB3 hf3 hD2 hf2 hB2 hq3 hcell2 hQ2 hD1 hcell1 hf1 hB1 hbb0 hbb1 hbb3 hgb3 F2 hR2 q1
      refine Lib.hid ?_
      go_wp2_with fail
      go_roundw
      case rel => exact ⟨k + 1, by omega, by go_num, NB, ND, NF, NR⟩
      case measure => simp [intOf]; omega
    · obtain rfl : k = n := by omega
      have hL := builderLabels_any b0 d (gLabs st1 k).1 wr JB.out (by rw [HL.out]; omega) HS.out
      obtain ⟨cs, hbb, hgb, _⟩ := dec_blk JD.out
      have HBQ := Lib.hid hbb
      have HGQ := Lib.hid hgb
      clear hbb hgb
      go_wp2_with (go_at_call 132
                   refine hL.mono ?_
                   rintro r w4 ⟨rfl, hB4, hf4⟩
                   have hR4 := JR.out.fr hf4 (show ¬ w.heap.size = d by omega)
                   have k4 := hR4.cell 0
                   have z4 := hR4.frozen 0
                   simp at k4)
      have hR5 : Blk (w4.setCell ⟨w.heap.size, 0, none⟩ (.string (labStr (gLabs st1 k).1))) w.heap.size 99 #[.string (labStr (gLabs st1 k).1)] := by simpa using hR4.set_ 0 (.string (labStr (gLabs st1 k).1))
      have hF5 : Fr (DS w b0 d d2) w (w4.setCell ⟨w.heap.size, 0, none⟩ (.string (labStr (gLabs st1 k).1))) := (JF.out.trans hf4 (fun k _ e => .inr (.inl e))).setCell (p := ⟨w.heap.size, 0, none⟩) (.inr (Nat.le_refl _)) _
      have hc2 : d2 ≠ w.heap.size := Blk.ne_ HBQ.out JR.out (by decide)
      have hcg : g ≠ w.heap.size := Blk.ne_ HGQ.out JR.out (by decide)
      have hD5 : Dec te pe (w4.setCell ⟨w.heap.size, 0, none⟩ (.string (labStr (gLabs st1 k).1))) d2 g cur (gLabs st1 k).2 :=
        dec_fr (dec_fr JD.out hf4 hdd hgd (by omega)) (Fr.at_ w4 w.heap.size 0 _) hc2 hcg (by omega)
      generalize w4.setCell ⟨w.heap.size, 0, none⟩ (.string (labStr (gLabs st1 k).1)) = w7 at hR5 hF5 hD5 ⊢
      refine bodyPost_ret (results_cell_row (P := Tryz.prog) rfl _ _ w.heap.size 99 #[.string (labStr (gLabs st1 k).1)] (0, 0) _ rfl hR5 Tryz.underlying99 rfl (by kernel_rfl)) rfl ?_
      exact ⟨rfl, hD5, hF5⟩
end Go.Proofs.YtbkookiigkckdaaGreatDoor

/- impl.LabelsAbout's closure 63. -/
namespace Go.Proofs.YtbkookiigkckdaaGreatDoor
open Go.RowKit
set_option linter.unusedVariables false
set_option linter.unusedSimpArgs false

/-- The facts of labels as they lie in memory. -/
def facts (n : Int) (em : Bool) (mp : Value) (tw : ByteArray) (du : Bool) (tx : ByteArray) (va : Int) (er : Bool) : Array Value := #[.int .i64 n, .bool em, mp, .string tw, .bool du, .string tx, .int .i64 va, .bool er]

/-- Behind k calls of the closure. -/
structure VJ (W0 : World) (ob sb : Nat) (m : Nat) (te : TypeId) (pe : Value) (n : Int) (em : Bool) (mp : Value) (tw : ByteArray) (du : Bool) (tx : ByteArray) (k : Nat) (W : World) : Prop where
  fr : Fr (fun j => j = ob) W0 W
  bo : Blk W ob 34 (facts n em mp tw du tx k false)
  bs : Blk W sb 3 #[.int .i64 m]
  er : W.cell? ⟨0, 0, none⟩ = some (.iface te pe)
theorem VJ.still {W0 : World} {ob sb m : Nat} {te : TypeId} {pe : Value} {n : Int} {em : Bool} {mp : Value} {tw : ByteArray} {du : Bool} {tx : ByteArray} {k : Nat} {W W' : World} (h : VJ W0 ob sb m te pe n em mp tw du tx k W) (hf : Fr (fun _ => False) W W') : VJ W0 ob sb m te pe n em mp tw du tx k W' :=
  ⟨h.fr.trans hf (fun _ _ e => e.elim), h.bo.fr hf (fun e => e), h.bs.fr hf (fun e => e), by rw [hf.cell (p := ⟨0, 0, none⟩) (World.block_lt_of_cell? W _ h.er) (fun e => e)]; exact h.er⟩

set_option maxHeartbeats 4000000 in
set_option maxRecDepth 100000 in
theorem val1_any (W0 : World) (ob sb m : Nat) (te : TypeId) (pe : Value) (n : Int) (em : Bool) (mp : Value) (tw : ByteArray) (du : Bool) (tx : ByteArray) (k c : Nat) (s : Value) (x : Lab) (hk : k ≤ 1099511627776) (hm : m ≤ 1099511627776) (hob : ob ≠ 0) (W : World) (h : VJ W0 ob sb m te pe n em mp tw du tx k W) (hc : Blk W c 99 #[s]) :
    Calls Tryz.prog 63 #[.agg #[.string x.1, .string x.2], .pointer (some ⟨ob, 0, none⟩), .pointer (some ⟨sb, 0, none⟩)] W fun r w' => r = .returned (if k = m then .iface te pe else .nilIface) ∧ VJ W0 ob sb m te pe n em mp tw du tx (k + 1) w' ∧ Blk w' c 99 #[s] := by
  obtain ⟨hf, hb, hs, he⟩ := h
  obtain ⟨W1, hW1⟩ : ∃ W1, W.alloc (.cells #[.string x.1, .string x.2] 108) = W1 := ⟨_, rfl⟩
  have hF1 : Fr (fun _ => False) W W1 := by rw [← hW1]; exact (Fr.refl _ W).alloc _
  have hb1 := hb.fr hF1 (fun e => e)
  have hs1 := hs.fr hF1 (fun e => e)
  have hc1 := hc.fr hF1 (fun e => e)
  have he1 : W1.cell? ⟨0, 0, none⟩ = some (.iface te pe) := by rw [hF1.cell (p := ⟨0, 0, none⟩) (World.block_lt_of_cell? W _ he) (fun e => e)]; exact he
  have hne := Blk.ne_ hs1 hb1 (by decide)
  have hnc := Blk.ne_ hc1 hb1 (by decide)
  obtain ⟨W2, hW2⟩ : ∃ W2, W1.setCell ⟨ob, 6, none⟩ (.int .i64 ((k : Int) + 1)) = W2 := ⟨_, rfl⟩
  have hb2 : Blk W2 ob 34 (facts n em mp tw du tx ((k : Int) + 1) false) := by rw [← hW2]; exact hb1.set_ 6 _
  have hs2 : Blk W2 sb 3 #[.int .i64 m] := by rw [← hW2]; exact hs1.far (p := ⟨ob, 6, none⟩) hne _
  have hc2 : Blk W2 c 99 #[s] := by rw [← hW2]; exact hc1.far (p := ⟨ob, 6, none⟩) hnc _
  have hF2 : Fr (fun j => j = ob) W0 W2 := by rw [← hW2]; exact (hf.trans hF1 (fun _ _ e => e.elim)).setCell (p := ⟨ob, 6, none⟩) (.inl rfl) _
  have he2 : W2.cell? ⟨0, 0, none⟩ = some (.iface te pe) := by
    rw [← hW2, World.cell?_of_block (w := W1) (Below.heap_setCell _ _ _ _ (fun e => hob (by simpa using e.symm)))]
    exact he1
  have c6 : W1.cell? ⟨ob, 6, none⟩ = some (.int .i64 k) := hb1.cell 6
  have f6 := hb1.frozen 6
  have d6 : W2.cell? ⟨ob, 6, none⟩ = some (.int .i64 ((k : Int) + 1)) := hb2.cell 6
  have ds : W2.cell? ⟨sb, 0, none⟩ = some (.int .i64 m) := hs2.cell 0
  have H := Lib.hid (show VJ W0 ob sb m te pe n em mp tw du tx (k + 1) W2 ∧ Blk W2 c 99 #[s] from ⟨⟨hF2, by simpa using hb2, hs2, he2⟩, hc2⟩)
  have hkI : (k : Int) ≤ 1099511627776 := by omega
  have hmI : (m : Int) ≤ 1099511627776 := by omega
  clear hf hb hs he hF1 hb1 hs1 hc1 he1 hne hnc hb2 hs2 hc2 hF2 hc
  by_cases hkm : k = m
  · subst hkm
    rw [if_pos rfl]
    go_enter Tryz.func63, Tryz.ntmps63
    go_wp2
    go_ret
    exact ⟨rfl, H.out⟩
  · rw [if_neg hkm]
    have hn1 : ((k : Int) + 1 == (m : Int) + 1) = false := by rw [beq_eq_false_iff_ne]; omega
    clear hkm
    go_enter Tryz.func63, Tryz.ntmps63
    go_wp2
    go_ret
    exact ⟨rfl, H.out⟩
end Go.Proofs.YtbkookiigkckdaaGreatDoor

