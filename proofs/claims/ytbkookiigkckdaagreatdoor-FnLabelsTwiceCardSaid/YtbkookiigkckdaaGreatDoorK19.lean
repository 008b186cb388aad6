/- Texts of this seat, merged: Print, Qd, Bs, Bt. -/
import Derived.Test.YtbkookiigkckdaaGreatDoorK18
import Derived.Test.YtbkookiigkckdaaGreatDoorK17
import Derived.Shelf.Strconv.IsPrint32
import Derived.Shelf.Unicode.DecodeAny
import Derived.Ground.NamesProg
import Derived.Test.YtbkookiigkckdaaGreatDoorProg
import Derived.Lib.QuoteLoop
import Derived.Laws.RangeString
import Derived.Laws.BytesArg
/-
  DERIVED: THE SHELF's CONTRACTS AT THIS DUMP, IN PLAIN WORDS (tools/lay-plain.mjs out of 'YtbkookiigkckdaaGreatDoorPrintS.lean', which tools/lay-shelf.mjs wrote): THE SAME DECLARATIONS UNDER THE SAME NAMES: 'import', 'namespace', 'open', 'def', 'theorem' AND NOTHING ELSE: no command of the shelf's: FOR A HAND-IN. Each laying: the table of numbers ('.._ren') and one theorem, a field a fact of the dump's own or the kernel's comparison; each contract: ONE APPLICATION.
-/
namespace Go.Proofs
open Go.Shelf
def Tryz.lays339_ren : Go.Shelf.Ren := ⟨fun | 339 => 284 | 345 => 296 | 346 => 297 | n => n, fun | 21 => 21 | 4 => 4 | 49 => 70 | 234 => 411 | 131 => 86 | 3 => 3 | 0 => 0 | 51 => 317 | 236 => 413 | 46 => 268 | n => n, fun | 20 => 9 | 21 => 10 | 22 => 11 | 23 => 12 | n => n⟩
theorem Tryz.lays339 : Go.Proofs.Lays.n339 Tryz.prog Tryz.lays339_ren := {
  mixed := by kernel_rfl
  f339 := Tryz.func284.trans (congrArg some (by kernel_rfl))
  f345 := Tryz.func296.trans (congrArg some (by kernel_rfl))
  f346 := Tryz.func297.trans (congrArg some (by kernel_rfl))
  t0 := Tryz.underlying0
  a0 := Tryz.isAgg0
  z0 := Tryz.sizeOf0
  v0 := Tryz.zeroValue0
  t3 := Tryz.underlying3
  a3 := Tryz.isAgg3
  z3 := Tryz.sizeOf3
  v3 := Tryz.zeroValue3
  t4 := Tryz.underlying4
  a4 := Tryz.isAgg4
  z4 := Tryz.sizeOf4
  v4 := Tryz.zeroValue4
  t21 := Tryz.underlying21
  a21 := Tryz.isAgg21
  z21 := Tryz.sizeOf21
  v21 := Tryz.zeroValue21
  t46 := Tryz.underlying268
  a46 := Tryz.isAgg268
  z46 := Tryz.sizeOf268
  v46 := Tryz.zeroValue268
  t49 := Tryz.underlying70
  a49 := Tryz.isAgg70
  z49 := Tryz.sizeOf70
  v49 := Tryz.zeroValue70
  t51 := Tryz.underlying317
  a51 := Tryz.isAgg317
  z51 := Tryz.sizeOf317
  v51 := Tryz.zeroValue317
  t131 := Tryz.underlying86
  a131 := Tryz.isAgg86
  z131 := Tryz.sizeOf86
  v131 := Tryz.zeroValue86
  t234 := Tryz.underlying411
  a234 := Tryz.isAgg411
  z234 := Tryz.sizeOf411
  v234 := Tryz.zeroValue411
  t236 := Tryz.underlying413
  a236 := Tryz.isAgg413
  z236 := Tryz.sizeOf413
  v236 := Tryz.zeroValue413
  g20 := by kernel_rfl
  g21 := by kernel_rfl
  g22 := by kernel_rfl
  g23 := by kernel_rfl }
def Tryz.lays197_ren : Go.Shelf.Ren := ⟨fun | 197 => 255 | 260 => 283 | n => n, fun | 9 => 9 | 21 => 21 | 3 => 3 | 4 => 4 | 5 => 5 | 105 => 380 | 119 => 407 | 0 => 0 | 46 => 268 | 139 => 410 | 138 => 409 | n => n, fun | 3 => 7 | 4 => 8 | n => n⟩
theorem Tryz.lays197 : Go.Proofs.Lays.n197 Tryz.prog Tryz.lays197_ren := {
  mixed := by kernel_rfl
  f197 := Tryz.func255.trans (congrArg some (by kernel_rfl))
  f260 := Tryz.func283.trans (congrArg some (by kernel_rfl))
  t0 := Tryz.underlying0
  a0 := Tryz.isAgg0
  z0 := Tryz.sizeOf0
  v0 := Tryz.zeroValue0
  t3 := Tryz.underlying3
  a3 := Tryz.isAgg3
  z3 := Tryz.sizeOf3
  v3 := Tryz.zeroValue3
  t4 := Tryz.underlying4
  a4 := Tryz.isAgg4
  z4 := Tryz.sizeOf4
  v4 := Tryz.zeroValue4
  t5 := Tryz.underlying5
  a5 := Tryz.isAgg5
  z5 := Tryz.sizeOf5
  v5 := Tryz.zeroValue5
  t9 := Tryz.underlying9
  a9 := Tryz.isAgg9
  z9 := Tryz.sizeOf9
  v9 := Tryz.zeroValue9
  t21 := Tryz.underlying21
  a21 := Tryz.isAgg21
  z21 := Tryz.sizeOf21
  v21 := Tryz.zeroValue21
  t46 := Tryz.underlying268
  a46 := Tryz.isAgg268
  z46 := Tryz.sizeOf268
  v46 := Tryz.zeroValue268
  t105 := Tryz.underlying380
  a105 := Tryz.isAgg380
  z105 := Tryz.sizeOf380
  v105 := Tryz.zeroValue380
  t119 := Tryz.underlying407
  a119 := Tryz.isAgg407
  z119 := Tryz.sizeOf407
  t138 := Tryz.underlying409
  a138 := Tryz.isAgg409
  z138 := Tryz.sizeOf409
  v138 := Tryz.zeroValue409
  t139 := Tryz.underlying410
  a139 := Tryz.isAgg410
  z139 := Tryz.sizeOf410
  v139 := Tryz.zeroValue410
  g3 := by kernel_rfl
  g4 := by kernel_rfl }
end Go.Proofs

/- strconv.AppendQuote into another's block. -/
namespace Go.Proofs.YtbkookiigkckdaaGreatDoor
open Go.RowKit
set_option linter.unusedVariables false
set_option linter.unusedSimpArgs false

/-- The tables of strconv and utf8 lie where they were laid. -/
def TabsAt (T : Lib.PrintTabs) (w : World) : Prop := Lib.PrintTabsAt 9 10 11 12 T w ∧ Lib.Utf8Tabs 7 8 w
theorem tabSlice_fr {g : Nat} {k : IntKind} {t : List Nat} {w w' : World} {S : Nat → Prop} (h : Lib.TabSlice g k t w) (hf : Fr S w w') (hs : ∀ k, k < w.heap.size → ¬ S k) : Lib.TabSlice g k t w' := by
  obtain ⟨R, o, c, h1, h2⟩ := h
  have key : ∀ p x, w.cell? p = some x → w'.cell? p = some x := fun p x hx => by
    have hl := World.block_lt_of_cell? w _ hx
    rw [hf.cell hl (hs _ hl)]; exact hx
  exact ⟨R, o, c, key _ _ h1, fun j hj => key _ _ (h2 j hj)⟩
theorem tabs_fr {T : Lib.PrintTabs} {w w' : World} {S : Nat → Prop} (h : TabsAt T w) (hf : Fr S w w') (hs : ∀ k, k < w.heap.size → ¬ S k) : TabsAt T w' := by
  obtain ⟨⟨h1, h2, h3, h4, h5⟩, h6, h7⟩ := h
  have key : ∀ p x, w.cell? p = some x → w'.cell? p = some x := fun p x hx => by
    have hl := World.block_lt_of_cell? w _ hx
    rw [hf.cell hl (hs _ hl)]; exact hx
  exact ⟨⟨tabSlice_fr h1 hf hs, tabSlice_fr h2 hf hs, tabSlice_fr h3 hf hs, tabSlice_fr h4 hf hs, h5⟩, fun c hc => key _ _ (h6 c hc), fun i hi => ⟨key _ _ (h7 i hi).1, key _ _ (h7 i hi).2⟩⟩

theorem isPrint_any (T : Lib.PrintTabs) (r : Int) (h0 : 0 ≤ r) (h1 : r ≤ 1114111) (w : World) (hT : TabsAt T w) : Calls Tryz.prog 284 #[.int .i32 r] w fun e w' => e = .returned (.bool (Lib.isPrintR T r)) ∧ Fr (fun _ => False) w w' :=
  (Any.strconv_IsPrint Tryz.lays339 T r w (by omega) (by omega) hT.1).mono fun e w' ⟨he, q, hq⟩ => ⟨he, by rw [hq]; exact (Fr.refl _ w).drewN q⟩
theorem decode_any (T : Lib.PrintTabs) (s : ByteArray) (w : World) (hT : TabsAt T w) : Calls Tryz.prog 255 #[.string s] w fun e w' => e = .returned (.tuple #[.int .i32 (Lib.decodeGo s).1, .int .i64 (Lib.decodeGo s).2]) ∧ Fr (fun _ => False) w w' :=
  (Any.utf8_DecodeRuneInString Tryz.lays197 s w hT.2).mono fun e w' ⟨he, hb⟩ => ⟨he, Fr.ofBelow hb⟩
theorem valid_any (r : Int) (hv : Lib.validRune r = true) (w : World) : Calls Tryz.prog 287 #[.int .i32 r] w fun e w' => e = .returned (.bool true) ∧ Fr (fun _ => False) w w' := by
  have h := Tryz.utf8_ValidRune r w
  rw [hv] at h
  exact h.mono fun e w' he => ⟨he.1, by rw [he.2]; exact Fr.refl _ _⟩

/-- Text that stands in quotation marks as it is. -/
def PlainS (s : ByteArray) : Prop := ∀ b ∈ s.data.toList, (32 ≤ b.toNat ∧ b.toNat ≤ 126) ∧ b.toNat ≠ 34 ∧ b.toNat ≠ 92
def nums (s : ByteArray) : List Int := s.data.toList.map fun b => (b.toNat : Int)
def strLen : Value → Nat
  | .string q => q.size
  | _ => 0

theorem valid_le (r : Nat) (h : Lib.validRune (r : Int) = true) : r ≤ 1114111 := by
  simp only [Lib.validRune, decide_eq_true_eq] at h
  omega
/-- What the decoder says of a text that is not empty. -/
theorem decode_facts (q : ByteArray) (h : 0 < q.size) : 1 ≤ (Lib.decodeGo q).2 ∧ (Lib.decodeGo q).2 ≤ q.size ∧ Lib.validRune ((Lib.decodeGo q).1 : Int) = true ∧ (Lib.decodeGo q).1 ≤ 1114111 ∧
    (∀ b, q.data.toList[0]? = some b → b.toNat < 128 → Lib.decodeGo q = (b.toNat, 1)) := by
  have e : Lib.decodeGo q = Utf8.decode q 0 := if_neg (by omega)
  rw [e]
  have hv := Lib.rune_valid q
  refine ⟨Lib.width_pos q 0, Lib.width_le q h, hv, valid_le _ hv, fun b hb hlt => ?_⟩
  · have h1 : q.data.toList[0]? = some (q[0]'h) := Lib.data_getElem? q 0 h
    rw [hb] at h1
    have h1 := Option.some.inj h1
    have := decode_ascii q 0 h (by rw [← h1]; exact hlt)
    rw [this, ← h1]

section
variable {w0 : World} {g off c0 N : Nat} {t : TypeId} {low : List Value}

/-- A text of a text's rest. -/
theorem rest_cut {s q : ByteArray} {i K : Nat} (h : q.data.toList = s.data.toList.drop i) (hK : K ≤ q.size) : (q.extract K q.size).data.toList = s.data.toList.drop (i + K) := by
  rw [Lib.extract_data, h, List.drop_drop]
  refine List.take_of_length_le ?_
  rw [Lib.size_eq, h]
  simp
  omega

theorem src_at (W : World) (k : Nat) (hk : k = W.heap.size) (cs : Array Value) (ys : List Int) (n c : Nat) (hn : ys.length = n) (h : cs.toList = ic ys) : Src Tryz.prog 1 44 (.slice (some ⟨k, 0, none⟩) n c) ys.length (ic ys) (W.alloc (.cells cs 5)) := by
  subst hk
  exact src_new W cs ys n c hn h
theorem isPrint_ascii (T : Lib.PrintTabs) (r : Int) (h1 : 32 ≤ r) (h2 : r ≤ 126) : Lib.isPrintR T r = true := by
  have : r ≤ 255 := by omega
  simp [Lib.isPrintR, Lib.isPrintLatin, this, h1, h2]

set_option maxRecDepth 100000 in
set_option maxHeartbeats 16000000 in
theorem quoted_any (T : Lib.PrintTabs) (wT : World) (hT : TabsAt T wT) (hwT : Fr (fun _ => False) wT w0) (hg : wT.heap.size ≤ g) (off' : Nat) (s : ByteArray) (hs : s.size ≤ 1073741824) (hc : c0 ≤ 9223372036854775807) (hD : Dst w0 g off c0 N t low w0 (.slice (some ⟨g, off', none⟩) 0 c0) []) :
    Calls Tryz.prog 218 #[.slice (some ⟨g, off', none⟩) 0 c0, .string s, .int .u8 34, .bool false, .bool false] w0
      (AqEnds w0 g off c0 N t low [] (fun zs => 2 ≤ zs.length ∧ zs.length ≤ 10 * s.size + 2 ∧ (PlainS s → zs = 34 :: (nums s ++ [34])))) := by
  obtain ⟨i5, hi, hz0, hz1, hz2⟩ := info_parts Tryz.info5
  have HT : Hid (∀ W v xs, Dst w0 g off c0 N t low W v xs → TabsAt T W) := Lib.hid (fun W v xs h => tabs_fr hT ((hwT.mono (S' := fun k => k = g) (fun _ _ e => e.elim)).same h.fr) (fun k hk e => by omega))
  have HD := Lib.hid hD
  clear hD hT hwT
  by_cases hroom : c0 < s.size
  · have hroom' : (c0 : Int) < s.size := by omega
    have hmk : ∀ W : World, (Instr.makeSlice 44 (.int .i64 0) (.int .i64 (1 + (s.size : Int) + 1))).run Tryz.prog W = .ok (.slice (some ⟨W.heap.size, 0, none⟩) 0 (s.size + 2)) (W.alloc (.cells (madeCells #[.int .u8 0] (s.size + 2)) 5)) := fun W => by
      have h := run_make (P := Tryz.prog) W 44 5 i5 (.int .u8 0) Tryz.underlying44 hi hz0 .i64 .i64 0 (1 + (s.size : Int) + 1) (by omega) (by omega) (by rw [hz2]; omega) (by omega)
      have e : (1 + (s.size : Int) + 1).toNat = s.size + 2 := by omega
      rw [h, e, hz1, Nat.mul_one]
      rfl
    have hO := World.ownsRow_made (base := w0.heap.size) (e := 5) (size := 1) w0 (madeCells #[.int .u8 0] (s.size + 2)) (s.size + 2) (Nat.le_refl _) (by unfold maxLen; omega) (by rw [size_madeCells, Nat.mul_one])
    have hDm : Dst w0 g off c0 N t low (w0.alloc (.cells (madeCells #[.int .u8 0] (s.size + 2)) 5)) (.slice (some ⟨w0.heap.size, 0, none⟩) 0 (s.size + 2)) [] := by
      obtain ⟨cur, hb, h1, h2, _⟩ := HD.out.at_
      exact ⟨(Fr.refl _ w0).alloc _, HD.out.lt, HD.out.fit, cur, hb.alloc _, h1, h2, .inr hO⟩
    have hcp : ∀ W : World, (Builtin.copy_ #[44, 44] 3 #[.slice (some ⟨w0.heap.size, 0, none⟩) 0 (s.size + 2), .slice (some ⟨g, off', none⟩) 0 c0]).run Tryz.prog W = .ok (.int .i64 0) W := fun W =>
      run_copy_none (P := Tryz.prog) W 44 44 3 5 _ _ 0 (s.size + 2) 0 c0 Tryz.underlying44 (by rw [hi]; exact congrArg some hz1) (Nat.zero_min _)
    have HDZ := Lib.hid hDm
    clear hO hDm
    go_enter Tryz.func218, Tryz.ntmps218
    go_wp2_with (at_builtin; refine Hid.out ?_)
    have HK : Hid (w0.heap.size + 1 = (w0.alloc (.cells (madeCells #[.int .u8 0] (s.size + 2)) 5)).heap.size) := Lib.hid (Array.size_push _).symm
    generalize w0.alloc (.cells (madeCells #[.int .u8 0] (s.size + 2)) 5) = WZ at HDZ HK ⊢
    refine Lib.hid ?_
    refine wpList_append_dst hi hz0 hz1 hz2 rfl _ _ 44 rfl rfl (HDZ.out.still ((Fr.refl _ WZ).alloc _)) _ [_] rfl (src_at WZ _ HK.out _ [_] _ _ rfl rfl) (by simp) ?_
    intro v3 w3 hD3
    have HD3 := Lib.hid hD3
    clear hD3
    go_wp2_with fail
    go_loopw [0, 1] (fun vb vs wr => ∃ (i : Nat) (q : ByteArray) (zs : List Int), vs = .string q ∧ i ≤ s.size ∧ Hid (q.data.toList = s.data.toList.drop i) ∧ zs.length ≤ 10 * i ∧ Hid (PlainS s → zs = (nums s).take i) ∧ Hid (Dst w0 g off c0 N t low wr vb (([] ++ [34]) ++ zs))) (fun _ vs _ => strLen vs)
    case atStart => exact ⟨0, s, [], rfl, Nat.zero_le _, Lib.hid rfl, Nat.zero_le _, Lib.hid (fun _ => rfl), Lib.hid (by rw [List.append_nil]; exact HD3.out)⟩
    case round =>
      obtain ⟨i, q, zs, rfl, his, HQ, hzl, HPL, HDk⟩ := hrel
      have hqs : q.size = s.size - i := by rw [Lib.size_eq, HQ.out, List.length_drop, ← Lib.size_eq]
      have hqs1 : q.size ≤ s.size - i := Nat.le_of_eq hqs
      have hqs2 : s.size - i ≤ q.size := Nat.le_of_eq hqs.symm
      clear hqs
      have hzb : (([] ++ [34]) ++ zs : List Int).length ≤ 34359738368 := by rw [List.length_append]; simp; omega
      by_cases hq0 : 0 < q.size
      · have hq0' : (0 : Int) < q.size := by omega
        obtain ⟨hK1, hK2, hval, hR1, hasc⟩ := decode_facts q hq0
        have hcut := rest_cut (K := (Lib.decodeGo q).2) HQ.out hK2
        have hcall := decode_any T q wr (HT.out _ _ _ HDk.out)
        -- a plain text's byte is decoded to itself
        have hpl : PlainS s → ∃ b, s.data.toList[i]? = some b ∧ Lib.decodeGo q = (b.toNat, 1) ∧ (32 ≤ b.toNat ∧ b.toNat ≤ 126) ∧ b.toNat ≠ 34 ∧ b.toNat ≠ 92 := fun hp => by
          have hlt : i < s.data.toList.length := by rw [← Lib.size_eq]; omega
          have hb : s.data.toList[i]? = some s.data.toList[i] := List.getElem?_eq_getElem hlt
          have hb2 := hp _ (List.mem_of_getElem? hb)
          have hq2 : q.data.toList[0]? = some s.data.toList[i] := by rw [HQ.out, List.getElem?_drop]; exact hb
          exact ⟨_, hb, hasc _ hq2 (by omega), hb2⟩
        obtain ⟨R, hR⟩ : ∃ R, (Lib.decodeGo q).1 = R := ⟨_, rfl⟩
        obtain ⟨K', hK⟩ : ∃ K', (Lib.decodeGo q).2 = K' := ⟨_, rfl⟩
        have hdec : Lib.decodeGo q = (R, K') := by rw [← hR, ← hK]
        rw [hK] at hK1 hK2 hcut
        rw [hR] at hval hR1
        rw [hR, hK] at hcall
        rw [hdec] at hpl
        have hslice : ∀ W : World, (Instr.slice 9 (.string q) (some (.int .i64 (K' : Int))) none none).run Tryz.prog W = .ok (.string (q.extract K' q.size)) W := fun W => by
          rw [run_slice_string_l (P := Tryz.prog) W 9 q Tryz.underlying9 .i64 K' (by omega) (by omega)]
          simp
        have HPLB := Lib.hid hpl
        have HCUT := Lib.hid hcut
        have hesz : (q.extract K' q.size).size = q.size - K' := Lib.size_rest q K'
        clear hpl hcut hR hK hdec hasc
        by_cases hbad : K' = 1 ∧ R = 65533
        · obtain ⟨rfl, rfl⟩ := hbad
          have hnp : ¬ PlainS s := fun hp => by
            obtain ⟨b, _, hd, hb1, _⟩ := HPLB.out hp
            have h1 := congrArg Prod.fst hd
            dsimp only at h1
            omega
          have hb16 : (q[0]'hq0).toNat < 256 := UInt8.toNat_lt _
          have hx1 : bits .and .u8 ((q[0]'hq0).toNat : Int) 15 = ((q[0]'hq0).toNat : Int) % 16 := u8_and15 _ (by omega) (by omega)
          have HNP := Lib.hid hnp
          clear hnp
          go_wp2_with (first
            | (go_at_call 255; refine hcall.mono ?_; rintro e w4 ⟨rfl, hf4⟩)
            | (at_builtin; refine Hid.out ?_))
          refine Lib.hid ?_
          refine wpList_append_dst hi hz0 hz1 hz2 rfl _ _ 9 rfl rfl (HDk.out.still hf4) _ [_, _] rfl (str_src2 _ _ _ rfl) (by rw [List.length_cons, List.length_cons, List.length_nil]; omega) ?_
          intro v5 w5 hD5
          have HD5 := Lib.hid hD5
          clear hD5
          go_wp2_with (at_builtin; refine Hid.out ?_)
          refine Lib.hid ?_
          refine wpList_append_dst hi hz0 hz1 hz2 rfl _ _ 44 rfl rfl (HD5.out.still ((Fr.refl _ w5).alloc _)) _ [_] rfl (src_new w5 _ [_] _ _ rfl rfl) (by rw [List.length_append]; simp only [List.length_cons, List.length_nil]; omega) ?_
          intro v6 w6 hD6
          have HD6 := Lib.hid hD6
          clear hD6
          go_wp2_with (at_builtin; refine Hid.out ?_)
          refine Lib.hid ?_
          refine wpList_append_dst hi hz0 hz1 hz2 rfl _ _ 44 rfl rfl (HD6.out.still ((Fr.refl _ w6).alloc _)) _ [_] rfl (src_new w6 _ [_] _ _ rfl rfl) (by rw [List.length_append, List.length_append]; simp only [List.length_cons, List.length_nil]; omega) ?_
          intro v7 w7 hD7
          rw [List.append_assoc, List.append_assoc, List.append_assoc] at hD7
          have HD7 := Lib.hid hD7
          clear hD7
          go_wp2_with fail
          go_roundw
          case rel => exact ⟨i + 1, _, _, rfl, by omega, HCUT, by simp only [List.length_append, List.length_cons, List.length_nil]; omega, Lib.hid (fun hp => absurd hp HNP.out), HD7⟩
          case measure => show (q.extract 1 q.size).size < q.size; omega
        · have HEsc : Hid (∀ W v, Dst w0 g off c0 N t low W v (([] ++ [34]) ++ zs) → Calls Tryz.prog 256 #[v, .int .i32 R, .int .u8 34, .bool false, .bool false] W (AqEnds w0 g off c0 N t low (([] ++ [34]) ++ zs) (fun zs => zs.length ≤ 10 ∧ (32 ≤ (R : Int) → (R : Int) ≤ 126 → (R : Int) ≠ 34 → (R : Int) ≠ 92 → zs = [(R : Int)])))) := Lib.hid (fun W v hd =>
            escaped_any v R (by omega) (by omega) W hd (by omega) (Lib.isPrintR T R) (fun h1 h2 => isPrint_ascii T R h1 h2) (isPrint_any T R (by omega) (by omega) W (HT.out _ _ _ hd)) (fun W => valid_any R hval W))
          by_cases hK1' : K' = 1
          · subst hK1'
            have hR65 : ((R : Int) == 65533) = false := by
              rw [beq_eq_false_iff_ne]
              intro h2
              exact hbad ⟨rfl, by omega⟩
            clear hbad
            go_wp2_with (first
              | (go_at_call 255; refine hcall.mono ?_; rintro e w4 ⟨rfl, hf4⟩)
              | (go_at_call 256; refine (HEsc.out _ _ (HDk.out.still hf4)).mono ?_; rintro e w5 ⟨v5, ys, rfl, hys, hD5⟩; rw [List.append_assoc] at hD5; have HD5 := Lib.hid hD5; clear hD5))
            go_roundw
            case rel =>
              refine ⟨i + 1, _, _, rfl, by omega, HCUT, by rw [List.length_append]; omega, Lib.hid (fun hp => ?_), HD5⟩
              obtain ⟨b, hb, hd, ⟨hb1, hb2⟩, hb3, hb4⟩ := HPLB.out hp
              have e1 : R = b.toNat := congrArg Prod.fst hd
              
              have e3 : ys = [(R : Int)] := hys.2 (by omega) (by omega) (by omega) (by omega)
              have e4 : (nums s)[i]? = some (b.toNat : Int) := by unfold nums; rw [List.getElem?_map, hb]; rfl
              rw [List.take_add_one, e4, e3, HPL.out hp, e1]
              rfl
            case measure => show (q.extract 1 q.size).size < q.size; omega
          · have hK1b : ((K' : Int) == 1) = false := by
              rw [beq_eq_false_iff_ne]
              omega
            clear hbad
            go_wp2_with (first
              | (go_at_call 255; refine hcall.mono ?_; rintro e w4 ⟨rfl, hf4⟩)
              | (go_at_call 256; refine (HEsc.out _ _ (HDk.out.still hf4)).mono ?_; rintro e w5 ⟨v5, ys, rfl, hys, hD5⟩; rw [List.append_assoc] at hD5; have HD5 := Lib.hid hD5; clear hD5))
            go_roundw
            case rel =>
              refine ⟨i + K', _, _, rfl, by omega, HCUT, by rw [List.length_append]; omega, Lib.hid (fun hp => ?_), HD5⟩
              obtain ⟨b, hb, hd, ⟨hb1, hb2⟩, hb3, hb4⟩ := HPLB.out hp
              have e1 : R = b.toNat := congrArg Prod.fst hd
              have e2 : K' = 1 := congrArg Prod.snd hd
              have e3 : ys = [(R : Int)] := hys.2 (by omega) (by omega) (by omega) (by omega)
              have e4 : (nums s)[i]? = some (b.toNat : Int) := by unfold nums; rw [List.getElem?_map, hb]; rfl
              rw [e2, List.take_add_one, e4, e3, HPL.out hp, e1]
              rfl
            case measure => show (q.extract K' q.size).size < q.size; omega
      · have hq0' : ¬ (0 : Int) < q.size := by omega
        have hi0 : i = s.size := by omega
        subst hi0
        go_wp2_with (at_builtin; refine Hid.out ?_)
        refine Lib.hid ?_
        refine wpList_append_dst hi hz0 hz1 hz2 rfl _ _ 44 rfl rfl (HDk.out.still ((Fr.refl _ wr).alloc _)) _ [_] rfl (src_new wr _ [_] _ _ rfl rfl) (by rw [List.length_singleton]; omega) ?_
        intro v5 w5 hD5
        rw [List.append_assoc] at hD5
        have HD5 := Lib.hid hD5
        clear hD5
        go_wp2_with fail
        go_ret
        refine ⟨_, [34] ++ (zs ++ [34]), rfl, ⟨by simp only [List.length_append, List.length_cons, List.length_nil]; omega, by simp only [List.length_append, List.length_cons, List.length_nil]; omega, fun hp => ?_⟩, ?_⟩
        · have e4 : (nums s).take s.size = nums s := List.take_of_length_le (by unfold nums; rw [List.length_map, ← Lib.size_eq]; exact Nat.le_refl _)
          rw [HPL.out hp, e4]
          rfl
        · exact HD5.out
  · have hroom' : ¬ (c0 : Int) < s.size := by omega
    go_enter Tryz.func218, Tryz.ntmps218
    go_wp2_with (at_builtin; refine Hid.out ?_)
    refine Lib.hid ?_
    refine wpList_append_dst hi hz0 hz1 hz2 rfl _ _ 44 rfl rfl (HD.out.still ((Fr.refl _ w0).alloc _)) _ [_] rfl (src_at w0 _ rfl _ [_] _ _ rfl rfl) (by simp) ?_
    intro v3 w3 hD3
    have HD3 := Lib.hid hD3
    clear hD3
    go_wp2_with fail
    go_loopw [0, 1] (fun vb vs wr => ∃ (i : Nat) (q : ByteArray) (zs : List Int), vs = .string q ∧ i ≤ s.size ∧ Hid (q.data.toList = s.data.toList.drop i) ∧ zs.length ≤ 10 * i ∧ Hid (PlainS s → zs = (nums s).take i) ∧ Hid (Dst w0 g off c0 N t low wr vb (([] ++ [34]) ++ zs))) (fun _ vs _ => strLen vs)
    case atStart => exact ⟨0, s, [], rfl, Nat.zero_le _, Lib.hid rfl, Nat.zero_le _, Lib.hid (fun _ => rfl), Lib.hid (by rw [List.append_nil]; exact HD3.out)⟩
    case round =>
      obtain ⟨i, q, zs, rfl, his, HQ, hzl, HPL, HDk⟩ := hrel
      have hqs : q.size = s.size - i := by rw [Lib.size_eq, HQ.out, List.length_drop, ← Lib.size_eq]
      have hqs1 : q.size ≤ s.size - i := Nat.le_of_eq hqs
      have hqs2 : s.size - i ≤ q.size := Nat.le_of_eq hqs.symm
      clear hqs
      have hzb : (([] ++ [34]) ++ zs : List Int).length ≤ 34359738368 := by rw [List.length_append]; simp; omega
      by_cases hq0 : 0 < q.size
      · have hq0' : (0 : Int) < q.size := by omega
        obtain ⟨hK1, hK2, hval, hR1, hasc⟩ := decode_facts q hq0
        have hcut := rest_cut (K := (Lib.decodeGo q).2) HQ.out hK2
        have hcall := decode_any T q wr (HT.out _ _ _ HDk.out)
        -- a plain text's byte is decoded to itself
        have hpl : PlainS s → ∃ b, s.data.toList[i]? = some b ∧ Lib.decodeGo q = (b.toNat, 1) ∧ (32 ≤ b.toNat ∧ b.toNat ≤ 126) ∧ b.toNat ≠ 34 ∧ b.toNat ≠ 92 := fun hp => by
          have hlt : i < s.data.toList.length := by rw [← Lib.size_eq]; omega
          have hb : s.data.toList[i]? = some s.data.toList[i] := List.getElem?_eq_getElem hlt
          have hb2 := hp _ (List.mem_of_getElem? hb)
          have hq2 : q.data.toList[0]? = some s.data.toList[i] := by rw [HQ.out, List.getElem?_drop]; exact hb
          exact ⟨_, hb, hasc _ hq2 (by omega), hb2⟩
        obtain ⟨R, hR⟩ : ∃ R, (Lib.decodeGo q).1 = R := ⟨_, rfl⟩
        obtain ⟨K', hK⟩ : ∃ K', (Lib.decodeGo q).2 = K' := ⟨_, rfl⟩
        have hdec : Lib.decodeGo q = (R, K') := by rw [← hR, ← hK]
        rw [hK] at hK1 hK2 hcut
        rw [hR] at hval hR1
        rw [hR, hK] at hcall
        rw [hdec] at hpl
        have hslice : ∀ W : World, (Instr.slice 9 (.string q) (some (.int .i64 (K' : Int))) none none).run Tryz.prog W = .ok (.string (q.extract K' q.size)) W := fun W => by
          rw [run_slice_string_l (P := Tryz.prog) W 9 q Tryz.underlying9 .i64 K' (by omega) (by omega)]
          simp
        have HPLB := Lib.hid hpl
        have HCUT := Lib.hid hcut
        have hesz : (q.extract K' q.size).size = q.size - K' := Lib.size_rest q K'
        clear hpl hcut hR hK hdec hasc
        by_cases hbad : K' = 1 ∧ R = 65533
        · obtain ⟨rfl, rfl⟩ := hbad
          have hnp : ¬ PlainS s := fun hp => by
            obtain ⟨b, _, hd, hb1, _⟩ := HPLB.out hp
            have h1 := congrArg Prod.fst hd
            dsimp only at h1
            omega
          have hb16 : (q[0]'hq0).toNat < 256 := UInt8.toNat_lt _
          have hx1 : bits .and .u8 ((q[0]'hq0).toNat : Int) 15 = ((q[0]'hq0).toNat : Int) % 16 := u8_and15 _ (by omega) (by omega)
          have HNP := Lib.hid hnp
          clear hnp
          go_wp2_with (first
            | (go_at_call 255; refine hcall.mono ?_; rintro e w4 ⟨rfl, hf4⟩)
            | (at_builtin; refine Hid.out ?_))
          refine Lib.hid ?_
          refine wpList_append_dst hi hz0 hz1 hz2 rfl _ _ 9 rfl rfl (HDk.out.still hf4) _ [_, _] rfl (str_src2 _ _ _ rfl) (by rw [List.length_cons, List.length_cons, List.length_nil]; omega) ?_
          intro v5 w5 hD5
          have HD5 := Lib.hid hD5
          clear hD5
          go_wp2_with (at_builtin; refine Hid.out ?_)
          refine Lib.hid ?_
          refine wpList_append_dst hi hz0 hz1 hz2 rfl _ _ 44 rfl rfl (HD5.out.still ((Fr.refl _ w5).alloc _)) _ [_] rfl (src_new w5 _ [_] _ _ rfl rfl) (by rw [List.length_append]; simp only [List.length_cons, List.length_nil]; omega) ?_
          intro v6 w6 hD6
          have HD6 := Lib.hid hD6
          clear hD6
          go_wp2_with (at_builtin; refine Hid.out ?_)
          refine Lib.hid ?_
          refine wpList_append_dst hi hz0 hz1 hz2 rfl _ _ 44 rfl rfl (HD6.out.still ((Fr.refl _ w6).alloc _)) _ [_] rfl (src_new w6 _ [_] _ _ rfl rfl) (by rw [List.length_append, List.length_append]; simp only [List.length_cons, List.length_nil]; omega) ?_
          intro v7 w7 hD7
          rw [List.append_assoc, List.append_assoc, List.append_assoc] at hD7
          have HD7 := Lib.hid hD7
          clear hD7
          go_wp2_with fail
          go_roundw
          case rel => exact ⟨i + 1, _, _, rfl, by omega, HCUT, by simp only [List.length_append, List.length_cons, List.length_nil]; omega, Lib.hid (fun hp => absurd hp HNP.out), HD7⟩
          case measure => show (q.extract 1 q.size).size < q.size; omega
        · have HEsc : Hid (∀ W v, Dst w0 g off c0 N t low W v (([] ++ [34]) ++ zs) → Calls Tryz.prog 256 #[v, .int .i32 R, .int .u8 34, .bool false, .bool false] W (AqEnds w0 g off c0 N t low (([] ++ [34]) ++ zs) (fun zs => zs.length ≤ 10 ∧ (32 ≤ (R : Int) → (R : Int) ≤ 126 → (R : Int) ≠ 34 → (R : Int) ≠ 92 → zs = [(R : Int)])))) := Lib.hid (fun W v hd =>
            escaped_any v R (by omega) (by omega) W hd (by omega) (Lib.isPrintR T R) (fun h1 h2 => isPrint_ascii T R h1 h2) (isPrint_any T R (by omega) (by omega) W (HT.out _ _ _ hd)) (fun W => valid_any R hval W))
          by_cases hK1' : K' = 1
          · subst hK1'
            have hR65 : ((R : Int) == 65533) = false := by
              rw [beq_eq_false_iff_ne]
              intro h2
              exact hbad ⟨rfl, by omega⟩
            clear hbad
            go_wp2_with (first
              | (go_at_call 255; refine hcall.mono ?_; rintro e w4 ⟨rfl, hf4⟩)
              | (go_at_call 256; refine (HEsc.out _ _ (HDk.out.still hf4)).mono ?_; rintro e w5 ⟨v5, ys, rfl, hys, hD5⟩; rw [List.append_assoc] at hD5; have HD5 := Lib.hid hD5; clear hD5))
            go_roundw
            case rel =>
              refine ⟨i + 1, _, _, rfl, by omega, HCUT, by rw [List.length_append]; omega, Lib.hid (fun hp => ?_), HD5⟩
              obtain ⟨b, hb, hd, ⟨hb1, hb2⟩, hb3, hb4⟩ := HPLB.out hp
              have e1 : R = b.toNat := congrArg Prod.fst hd
              
              have e3 : ys = [(R : Int)] := hys.2 (by omega) (by omega) (by omega) (by omega)
              have e4 : (nums s)[i]? = some (b.toNat : Int) := by unfold nums; rw [List.getElem?_map, hb]; rfl
              rw [List.take_add_one, e4, e3, HPL.out hp, e1]
              rfl
            case measure => show (q.extract 1 q.size).size < q.size; omega
          · have hK1b : ((K' : Int) == 1) = false := by
              rw [beq_eq_false_iff_ne]
              omega
            clear hbad
            go_wp2_with (first
              | (go_at_call 255; refine hcall.mono ?_; rintro e w4 ⟨rfl, hf4⟩)
              | (go_at_call 256; refine (HEsc.out _ _ (HDk.out.still hf4)).mono ?_; rintro e w5 ⟨v5, ys, rfl, hys, hD5⟩; rw [List.append_assoc] at hD5; have HD5 := Lib.hid hD5; clear hD5))
            go_roundw
            case rel =>
              refine ⟨i + K', _, _, rfl, by omega, HCUT, by rw [List.length_append]; omega, Lib.hid (fun hp => ?_), HD5⟩
              obtain ⟨b, hb, hd, ⟨hb1, hb2⟩, hb3, hb4⟩ := HPLB.out hp
              have e1 : R = b.toNat := congrArg Prod.fst hd
              have e2 : K' = 1 := congrArg Prod.snd hd
              have e3 : ys = [(R : Int)] := hys.2 (by omega) (by omega) (by omega) (by omega)
              have e4 : (nums s)[i]? = some (b.toNat : Int) := by unfold nums; rw [List.getElem?_map, hb]; rfl
              rw [e2, List.take_add_one, e4, e3, HPL.out hp, e1]
              rfl
            case measure => show (q.extract K' q.size).size < q.size; omega
      · have hq0' : ¬ (0 : Int) < q.size := by omega
        have hi0 : i = s.size := by omega
        subst hi0
        go_wp2_with (at_builtin; refine Hid.out ?_)
        refine Lib.hid ?_
        refine wpList_append_dst hi hz0 hz1 hz2 rfl _ _ 44 rfl rfl (HDk.out.still ((Fr.refl _ wr).alloc _)) _ [_] rfl (src_new wr _ [_] _ _ rfl rfl) (by rw [List.length_singleton]; omega) ?_
        intro v5 w5 hD5
        rw [List.append_assoc] at hD5
        have HD5 := Lib.hid hD5
        clear hD5
        go_wp2_with fail
        go_ret
        refine ⟨_, [34] ++ (zs ++ [34]), rfl, ⟨by simp only [List.length_append, List.length_cons, List.length_nil]; omega, by simp only [List.length_append, List.length_cons, List.length_nil]; omega, fun hp => ?_⟩, ?_⟩
        · have e4 : (nums s).take s.size = nums s := List.take_of_length_le (by unfold nums; rw [List.length_map, ← Lib.size_eq]; exact Nat.le_refl _)
          rw [HPL.out hp, e4]
          rfl
        · exact HD5.out
end
end Go.Proofs.YtbkookiigkckdaaGreatDoor

/- bytes.Buffer's AvailableBuffer and String; strconv.AppendQuote; the match types' names. -/
namespace Go.Proofs.YtbkookiigkckdaaGreatDoor
open Go.RowKit
set_option linter.unusedVariables false
set_option linter.unusedSimpArgs false

section
variable {w : World} {b g c : Nat} {t : TypeId} {lr : Int} {cur : Array Value} {xs : List Int}

set_option maxHeartbeats 2000000 in
set_option maxRecDepth 100000 in
theorem availBuf_any (h : BufAt w b g c t lr cur xs) : Calls Tryz.prog 144 #[.pointer (some ⟨b, 0, none⟩)] w fun e w' => (∃ off', e = .returned (.slice (some ⟨g, off', none⟩) 0 (c - xs.length)) ∧ (off' = xs.length ∨ c - xs.length = 0)) ∧ Fr (fun _ => False) w w' := by
  have mixed : Tryz.prog.follows .mixedOrders = true := by kernel_rfl
  have c0 : w.cell? ⟨b, 0, none⟩ = some (.slice (some ⟨g, 0, none⟩) xs.length c) := h.hb.cell 0
  have hle := h.le
  have hcm := h.cm
  unfold maxLen at hcm
  clear h
  generalize xs.length = L at *
  by_cases hc : c = L
  · go_enter Tryz.func144, Tryz.ntmps144
    go_wp2
    go_region_o
    have e0 : c - L = 0 := by omega
    all_goals (go_wp2; go_ret; exact ⟨⟨0, by rw [e0]; rfl, .inr e0⟩, ((Fr.refl _ w).drew)⟩)
  · go_enter Tryz.func144, Tryz.ntmps144
    go_wp2
    go_region_o
    all_goals (go_wp2; go_ret; exact ⟨⟨_, rfl, .inl rfl⟩, ((Fr.refl _ w).drew)⟩)

set_option maxHeartbeats 2000000 in
set_option maxRecDepth 100000 in
theorem bufString_any (h : BufAt w b g c t lr cur xs) : Calls Tryz.prog 147 #[.pointer (some ⟨b, 0, none⟩)] w fun e w' => e = .returned (.string (strOfNums xs)) ∧ Fr (fun _ => False) w w' := by
  have mixed : Tryz.prog.follows .mixedOrders = true := by kernel_rfl
  have c0 : w.cell? ⟨b, 0, none⟩ = some (.slice (some ⟨g, 0, none⟩) xs.length c) := h.hb.cell 0
  have c1 : w.cell? ⟨b, 1, none⟩ = some (.int .i64 0) := h.hb.cell 1
  have hle := h.le
  have hcm := h.cm
  have hcv := run_convert_bytes_arg (P := Tryz.prog) w.drew 44 5 Tryz.underlying44 Tryz.underlying5 g 0 xs.length c xs rfl (fun i hi => by
    rw [h.hg.drew.cell, Nat.zero_add, ← Array.getElem?_toList]
    have e := congrArg (fun l => l[i]?) h.tk
    rw [List.getElem?_take_of_lt hi] at e
    rw [e]
    simp [ic, List.getElem?_eq_getElem hi]) 9 Tryz.underlying9
  unfold maxLen at hcm
  clear h
  go_enter Tryz.func147, Tryz.ntmps147
  go_wp2
  go_region_o
  all_goals (go_wp2; go_ret; exact ⟨rfl, ((Fr.refl _ w).drew)⟩)
end

set_option maxHeartbeats 2000000 in
set_option maxRecDepth 100000 in
theorem newBuffer_any (a : Option Addr) (n c : Nat) (w : World) : Calls Tryz.prog 140 #[.slice a n c] w fun e w' => e = .returned (.pointer (some ⟨w.heap.size, 0, none⟩)) ∧ w' = w.alloc (.cells #[.slice a n c, .int .i64 0, .int .i8 0] 340) := by
  go_enter Tryz.func140, Tryz.ntmps140
  go_wp2
  go_ret
  exact ⟨rfl, rfl⟩

/-- The match types' names as they were laid. -/
def MtAt (w : World) : Prop := w.cell? ⟨1, 0, none⟩ = some (.string ⟨#[61]⟩) ∧ w.cell? ⟨1, 1, none⟩ = some (.string ⟨#[33, 61]⟩)

set_option maxHeartbeats 2000000 in
set_option maxRecDepth 100000 in
theorem mtString_0 (w : World) (h : MtAt w) : Calls Tryz.prog 146 #[.int .i64 0] w fun e w' => e = .returned (.string ⟨#[61]⟩) ∧ w' = w := by
  obtain ⟨h0, h1⟩ := h
  go_enter Tryz.func146, Tryz.ntmps146
  go_wp2
  go_ret
  exact ⟨rfl, rfl⟩
set_option maxHeartbeats 2000000 in
set_option maxRecDepth 100000 in
theorem mtString_1 (w : World) (h : MtAt w) : Calls Tryz.prog 146 #[.int .i64 1] w fun e w' => e = .returned (.string ⟨#[33, 61]⟩) ∧ w' = w := by
  obtain ⟨h0, h1⟩ := h
  go_enter Tryz.func146, Tryz.ntmps146
  go_wp2
  go_ret
  exact ⟨rfl, rfl⟩

set_option maxHeartbeats 2000000 in
set_option maxRecDepth 100000 in
theorem appendQuote_any (T : Lib.PrintTabs) (w0 wT : World) (g off c0 N : Nat) (t : TypeId) (low : List Value) (hT : TabsAt T wT) (hwT : Fr (fun _ => False) wT w0) (hg : wT.heap.size ≤ g) (off' : Nat) (s : ByteArray) (hs : s.size ≤ 1073741824) (hc : c0 ≤ 9223372036854775807) (hD : Dst w0 g off c0 N t low w0 (.slice (some ⟨g, off', none⟩) 0 c0) []) :
    Calls Tryz.prog 143 #[.slice (some ⟨g, off', none⟩) 0 c0, .string s] w0
      (AqEnds w0 g off c0 N t low [] (fun zs => 2 ≤ zs.length ∧ zs.length ≤ 10 * s.size + 2 ∧ (PlainS s → zs = 34 :: (nums s ++ [34])))) := by
  have hq := quoted_any T wT hT hwT hg off' s hs hc hD
  clear hD hT hwT
  go_enter Tryz.func143, Tryz.ntmps143
  go_wp2_with (go_at_call 218; refine hq.mono ?_; rintro e w1 ⟨v', zs, rfl, hz, hD1⟩)
  go_ret
  exact ⟨_, _, rfl, hz, hD1⟩
end Go.Proofs.YtbkookiigkckdaaGreatDoor

/- A text put into quotation marks behind a buffer's bytes: AvailableBuffer, AppendQuote, Write. -/
namespace Go.Proofs.YtbkookiigkckdaaGreatDoor
open Go.RowKit
set_option linter.unusedVariables false
set_option linter.unusedSimpArgs false

/-- v is the buffer's room behind its bytes. -/
def Avail (w0 : World) (b : Nat) (xs : List Int) (v : Value) (W : World) : Prop :=
  ∃ (g c : Nat) (t : TypeId) (lr : Int) (cur : Array Value) (off' : Nat), v = .slice (some ⟨g, off', none⟩) 0 (c - xs.length) ∧ (off' = xs.length ∨ c - xs.length = 0) ∧ Fr (fun _ => False) w0 W ∧ w0.heap.size ≤ b ∧ w0.heap.size ≤ g ∧ BufAt W b g c t lr cur xs
/-- How a text stands in quotation marks. -/
def QuoteOf (s : ByteArray) (zs : List Int) : Prop := 2 ≤ zs.length ∧ zs.length ≤ 10 * s.size + 2 ∧ (PlainS s → zs = 34 :: (nums s ++ [34]))
/-- v is the quoted text, outside of the buffer's own bytes. -/
def Quoted (w0 : World) (b : Nat) (xs : List Int) (s : ByteArray) (v : Value) (W : World) : Prop :=
  ∃ (zs : List Int) (a : Addr) (cp : Nat), v = .slice (some a) zs.length cp ∧ QuoteOf s zs ∧ BufIn w0 W b xs ∧ a.block ≠ b ∧ a.block < W.heap.size ∧ ∀ j v, (ic zs)[j]? = some v → W.cell? (a.add j) = some v

section
variable {w0 W W' : World} {b : Nat} {xs : List Int} {s : ByteArray} {v : Value}
theorem BufAt.fr {g c : Nat} {t : TypeId} {lr : Int} {cur : Array Value} (h : BufAt W b g c t lr cur xs) (hf : Fr (fun _ => False) W W') : BufAt W' b g c t lr cur xs :=
  ⟨h.hb.fr hf (fun e => e), h.hg.fr hf (fun e => e), h.cs, h.le, h.cm, h.ne, h.tk⟩
theorem BufIn.still (h : BufIn w0 W b xs) (hf : Fr (fun _ => False) W W') : BufIn w0 W' b xs := by
  obtain ⟨h1, h2, g, c, t, lr, cur, h3, h4⟩ := h
  exact ⟨h1.trans hf (fun _ _ e => e), h2, g, c, t, lr, cur, h3, h4.fr hf⟩
theorem Avail.still (h : Avail w0 b xs v W) (hf : Fr (fun _ => False) W W') : Avail w0 b xs v W' := by
  obtain ⟨g, c, t, lr, cur, off', h1, h2, h3, h4, h5, h6⟩ := h
  exact ⟨g, c, t, lr, cur, off', h1, h2, h3.trans hf (fun _ _ e => e), h4, h5, h6.fr hf⟩
theorem Quoted.still (h : Quoted w0 b xs s v W) (hf : Fr (fun _ => False) W W') : Quoted w0 b xs s v W' := by
  obtain ⟨zs, a, cp, h1, h2, h3, h4, h5, h6⟩ := h
  refine ⟨zs, a, cp, h1, h2, h3.still hf, h4, Nat.lt_of_lt_of_le h5 hf.size, fun j u hj => ?_⟩
  rw [hf.cell (by rw [add_block]; exact h5) (fun e => e)]
  exact h6 j u hj

theorem avail_step (h : BufIn w0 W b xs) : Calls Tryz.prog 144 #[.pointer (some ⟨b, 0, none⟩)] W fun e W1 => ∃ v, e = .returned v ∧ Avail w0 b xs v W1 ∧ Fr (fun _ => False) W W1 := by
  obtain ⟨h1, h2, g, c, t, lr, cur, h3, h4⟩ := h
  refine (availBuf_any h4).mono ?_
  rintro e W1 ⟨⟨off', rfl, ho⟩, hf⟩
  exact ⟨_, rfl, ⟨g, c, t, lr, cur, off', rfl, ho, h1.trans hf (fun _ _ e => e), h2, h3, h4.fr hf⟩, hf⟩

theorem quote_step {T : Lib.PrintTabs} (hT : TabsAt T w0) (h : Avail w0 b xs v W) (hs : s.size ≤ 1073741824) : Calls Tryz.prog 143 #[v, .string s] W fun e W1 => ∃ v', e = .returned v' ∧ Quoted w0 b xs s v' W1 ∧ Fr (fun _ => False) w0 W1 := by
  obtain ⟨g, c, t, lr, cur, off', rfl, ho, hf, hnb, hng, hb, hg, hcs, hle, hcm, hne, htk⟩ := h
  have hbl := hb.lt
  have hD : Dst W g xs.length (c - xs.length) c t (ic xs) W (.slice (some ⟨g, off', none⟩) 0 (c - xs.length)) [] :=
    ⟨Fr.refl _ W, hg.lt, by omega, cur, hg, hcs, htk, .inl ⟨off', rfl, ho, Nat.zero_le _, rfl⟩⟩
  refine (appendQuote_any T W w0 g xs.length (c - xs.length) c t (ic xs) hT hf hng off' s hs (by unfold maxLen at hcm; omega) hD).mono ?_
  rintro e W1 ⟨v', zs, rfl, ⟨hz2, hz3, hz4⟩, hD1⟩
  rw [List.nil_append] at hD1
  obtain ⟨hfr, _, _, cur1, hg1, hcs1, htk1, hat⟩ := hD1
  have hf1 : Fr (fun _ => False) w0 W1 := hf.trans hfr (fun k hk e => by omega)
  have hb1 := hb.fr hfr (fun e => hne e.symm)
  have hB1 : BufIn w0 W1 b xs := ⟨hf1, hnb, g, c, t, lr, cur1, hng, hb1, hg1, hcs1, hle, hcm, hne, htk1⟩
  refine ⟨v', rfl, ?_, hf1⟩
  rcases hat with ⟨off2, rfl, ho2, hzc, hcells⟩ | hown
  · obtain rfl : off2 = xs.length := by rcases ho2 with e | e; exact e; omega
    refine ⟨zs, _, _, rfl, ⟨hz2, hz3, hz4⟩, hB1, hne, hg1.lt, fun j u hj => ?_⟩
    have hj' : j < zs.length := by
      rcases Nat.lt_or_ge j zs.length with h | h
      · exact h
      · rw [List.getElem?_eq_none (by rw [ic_len]; exact h)] at hj; cases hj
    have e1 : (⟨g, xs.length, none⟩ : Addr).add j = ⟨g, xs.length + j, none⟩ := by unfold Addr.add; split <;> simp_all
    rw [e1, hg1.cell, ← Array.getElem?_toList]
    rw [← hcells, List.getElem?_take_of_lt hj', List.getElem?_drop] at hj
    exact hj
  · rcases hown.2 with ⟨_, h0⟩ | ⟨g', cap, cur2, rfl, hBg, hh, _, _, _, htk2⟩
    · omega
    · refine ⟨zs, _, _, rfl, ⟨hz2, hz3, hz4⟩, hB1, by show g' ≠ b; omega, (Array.getElem?_eq_some_iff.1 hh).1, ?_⟩
      rw [Nat.mul_one] at htk2
      rw [← htk2]
      exact Lib.cells_of_row hh zs.length

theorem write_step (h : Quoted w0 b xs s v W) (hx : xs.length ≤ 1099511627776) (hs : s.size ≤ 1073741824) : Calls Tryz.prog 142 #[.pointer (some ⟨b, 0, none⟩), v] W fun e W1 => (∃ r, e = .returned r) ∧ ∃ zs, QuoteOf s zs ∧ BufIn w0 W1 b (xs ++ zs) := by
  obtain ⟨zs, a, cp, rfl, hz, hB, h4, h5, h6⟩ := h
  have h1 := hz.1
  have h2 := hz.2.1
  exact (bufWrite_any w0 b xs zs a cp W hB h4 h5 h6 (by omega) (by omega)).mono fun e W1 ⟨hr, hB1⟩ => ⟨hr, zs, hz, hB1⟩
end
end Go.Proofs.YtbkookiigkckdaaGreatDoor

