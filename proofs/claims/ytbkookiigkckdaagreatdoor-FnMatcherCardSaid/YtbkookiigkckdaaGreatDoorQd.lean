/- strconv.AppendQuote into another's block. -/
import Derived.Test.YtbkookiigkckdaaGreatDoorQc
import Derived.Test.YtbkookiigkckdaaGreatDoorPrint
import Derived.Lib.QuoteLoop
import Derived.Laws.RangeString
namespace Go.Proofs.YtbkookiigkckdaaGreatDoor
open Go.RowKit
set_option linter.unusedVariables false
set_option linter.unusedSimpArgs false

/-- The tables of strconv and utf8 lie where they were laid. -/
def TabsAt (T : Lib.PrintTabs) (w : World) : Prop := Lib.PrintTabsAt 9 10 11 12 T w ∧ Lib.Utf8Tabs 7 8 w
theorem tabSlice_fr {g : Nat} {k : IntKind} {t : List Nat} {w w' : World} {S : Nat → Prop} (h : Lib.TabSlice g k t w) (hf : Fr S w w') (hs : ∀ k, k < w.heap.size → ¬ S k) : Lib.TabSlice g k t w' := by
  obtain ⟨R, o, c, h1, h2⟩ := h
  have key : ∀ p x, w.cell? p = some x → w'.cell? p = some x := fun p x hx => by
    have hl := World.block_lt_of_cell? w _ hx
    rw [hf.cell hl (hs _ hl)]; exact hx
  exact ⟨R, o, c, key _ _ h1, fun j hj => key _ _ (h2 j hj)⟩
theorem tabs_fr {T : Lib.PrintTabs} {w w' : World} {S : Nat → Prop} (h : TabsAt T w) (hf : Fr S w w') (hs : ∀ k, k < w.heap.size → ¬ S k) : TabsAt T w' := by
  obtain ⟨⟨h1, h2, h3, h4, h5⟩, h6, h7⟩ := h
  have key : ∀ p x, w.cell? p = some x → w'.cell? p = some x := fun p x hx => by
    have hl := World.block_lt_of_cell? w _ hx
    rw [hf.cell hl (hs _ hl)]; exact hx
  exact ⟨⟨tabSlice_fr h1 hf hs, tabSlice_fr h2 hf hs, tabSlice_fr h3 hf hs, tabSlice_fr h4 hf hs, h5⟩, fun c hc => key _ _ (h6 c hc), fun i hi => ⟨key _ _ (h7 i hi).1, key _ _ (h7 i hi).2⟩⟩

theorem isPrint_any (T : Lib.PrintTabs) (r : Int) (h0 : 0 ≤ r) (h1 : r ≤ 1114111) (w : World) (hT : TabsAt T w) : Calls Tryz.prog 284 #[.int .i32 r] w fun e w' => e = .returned (.bool (Lib.isPrintR T r)) ∧ Fr (fun _ => False) w w' :=
  (Any.strconv_IsPrint Tryz.lays339 T r w (by omega) (by omega) hT.1).mono fun e w' ⟨he, q, hq⟩ => ⟨he, by rw [hq]; exact (Fr.refl _ w).drewN q⟩
theorem decode_any (T : Lib.PrintTabs) (s : ByteArray) (w : World) (hT : TabsAt T w) : Calls Tryz.prog 255 #[.string s] w fun e w' => e = .returned (.tuple #[.int .i32 (Lib.decodeGo s).1, .int .i64 (Lib.decodeGo s).2]) ∧ Fr (fun _ => False) w w' :=
  (Any.utf8_DecodeRuneInString Tryz.lays197 s w hT.2).mono fun e w' ⟨he, hb⟩ => ⟨he, Fr.ofBelow hb⟩
theorem valid_any (r : Int) (hv : Lib.validRune r = true) (w : World) : Calls Tryz.prog 287 #[.int .i32 r] w fun e w' => e = .returned (.bool true) ∧ Fr (fun _ => False) w w' := by
  have h := Tryz.utf8_ValidRune r w
  rw [hv] at h
  exact h.mono fun e w' he => ⟨he.1, by rw [he.2]; exact Fr.refl _ _⟩

/-- Text that stands in quotation marks as it is. -/
def PlainS (s : ByteArray) : Prop := ∀ b ∈ s.data.toList, (32 ≤ b.toNat ∧ b.toNat ≤ 126) ∧ b.toNat ≠ 34 ∧ b.toNat ≠ 92
def nums (s : ByteArray) : List Int := s.data.toList.map fun b => (b.toNat : Int)
def strLen : Value → Nat
  | .string q => q.size
  | _ => 0

theorem valid_le (r : Nat) (h : Lib.validRune (r : Int) = true) : r ≤ 1114111 := by
  simp only [Lib.validRune, decide_eq_true_eq] at h
  omega
/-- What the decoder says of a text that is not empty. -/
theorem decode_facts (q : ByteArray) (h : 0 < q.size) : 1 ≤ (Lib.decodeGo q).2 ∧ (Lib.decodeGo q).2 ≤ q.size ∧ Lib.validRune ((Lib.decodeGo q).1 : Int) = true ∧ (Lib.decodeGo q).1 ≤ 1114111 ∧
    (∀ b, q.data.toList[0]? = some b → b.toNat < 128 → Lib.decodeGo q = (b.toNat, 1)) := by
  have e : Lib.decodeGo q = Utf8.decode q 0 := if_neg (by omega)
  rw [e]
  have hv := Lib.rune_valid q
  refine ⟨Lib.width_pos q 0, Lib.width_le q h, hv, valid_le _ hv, fun b hb hlt => ?_⟩
  · have h1 : q.data.toList[0]? = some (q[0]'h) := Lib.data_getElem? q 0 h
    rw [hb] at h1
    have h1 := Option.some.inj h1
    have := decode_ascii q 0 h (by rw [← h1]; exact hlt)
    rw [this, ← h1]

section
variable {w0 : World} {g off c0 N : Nat} {t : TypeId} {low : List Value}

/-- A text of a text's rest. -/
theorem rest_cut {s q : ByteArray} {i K : Nat} (h : q.data.toList = s.data.toList.drop i) (hK : K ≤ q.size) : (q.extract K q.size).data.toList = s.data.toList.drop (i + K) := by
  rw [Lib.extract_data, h, List.drop_drop]
  refine List.take_of_length_le ?_
  rw [Lib.size_eq, h]
  simp
  omega

theorem src_at (W : World) (k : Nat) (hk : k = W.heap.size) (cs : Array Value) (ys : List Int) (n c : Nat) (hn : ys.length = n) (h : cs.toList = ic ys) : Src Tryz.prog 1 44 (.slice (some ⟨k, 0, none⟩) n c) ys.length (ic ys) (W.alloc (.cells cs 5)) := by
  subst hk
  exact src_new W cs ys n c hn h
theorem isPrint_ascii (T : Lib.PrintTabs) (r : Int) (h1 : 32 ≤ r) (h2 : r ≤ 126) : Lib.isPrintR T r = true := by
  have : r ≤ 255 := by omega
  simp [Lib.isPrintR, Lib.isPrintLatin, this, h1, h2]

set_option maxRecDepth 100000 in
set_option maxHeartbeats 16000000 in
theorem quoted_any (T : Lib.PrintTabs) (wT : World) (hT : TabsAt T wT) (hwT : Fr (fun _ => False) wT w0) (hg : wT.heap.size ≤ g) (off' : Nat) (s : ByteArray) (hs : s.size ≤ 1073741824) (hc : c0 ≤ 9223372036854775807) (hD : Dst w0 g off c0 N t low w0 (.slice (some ⟨g, off', none⟩) 0 c0) []) :
    Calls Tryz.prog 218 #[.slice (some ⟨g, off', none⟩) 0 c0, .string s, .int .u8 34, .bool false, .bool false] w0
      (AqEnds w0 g off c0 N t low [] (fun zs => 2 ≤ zs.length ∧ zs.length ≤ 10 * s.size + 2 ∧ (PlainS s → zs = 34 :: (nums s ++ [34])))) := by
  obtain ⟨i5, hi, hz0, hz1, hz2⟩ := info_parts Tryz.info5
  have HT : Hid (∀ W v xs, Dst w0 g off c0 N t low W v xs → TabsAt T W) := Lib.hid (fun W v xs h => tabs_fr hT ((hwT.mono (S' := fun k => k = g) (fun _ _ e => e.elim)).same h.fr) (fun k hk e => by omega))
  have HD := Lib.hid hD
  clear hD hT hwT
  by_cases hroom : c0 < s.size
  · have hroom' : (c0 : Int) < s.size := by omega
    have hmk : ∀ W : World, (Instr.makeSlice 44 (.int .i64 0) (.int .i64 (1 + (s.size : Int) + 1))).run Tryz.prog W = .ok (.slice (some ⟨W.heap.size, 0, none⟩) 0 (s.size + 2)) (W.alloc (.cells (madeCells #[.int .u8 0] (s.size + 2)) 5)) := fun W => by
      have h := run_make (P := Tryz.prog) W 44 5 i5 (.int .u8 0) Tryz.underlying44 hi hz0 .i64 .i64 0 (1 + (s.size : Int) + 1) (by omega) (by omega) (by rw [hz2]; omega) (by omega)
      have e : (1 + (s.size : Int) + 1).toNat = s.size + 2 := by omega
      rw [h, e, hz1, Nat.mul_one]
      rfl
    have hO := World.ownsRow_made (base := w0.heap.size) (e := 5) (size := 1) w0 (madeCells #[.int .u8 0] (s.size + 2)) (s.size + 2) (Nat.le_refl _) (by unfold maxLen; omega) (by rw [size_madeCells, Nat.mul_one])
    have hDm : Dst w0 g off c0 N t low (w0.alloc (.cells (madeCells #[.int .u8 0] (s.size + 2)) 5)) (.slice (some ⟨w0.heap.size, 0, none⟩) 0 (s.size + 2)) [] := by
      obtain ⟨cur, hb, h1, h2, _⟩ := HD.out.at_
      exact ⟨(Fr.refl _ w0).alloc _, HD.out.lt, HD.out.fit, cur, hb.alloc _, h1, h2, .inr hO⟩
    have hcp : ∀ W : World, (Builtin.copy_ #[44, 44] 3 #[.slice (some ⟨w0.heap.size, 0, none⟩) 0 (s.size + 2), .slice (some ⟨g, off', none⟩) 0 c0]).run Tryz.prog W = .ok (.int .i64 0) W := fun W =>
      run_copy_none (P := Tryz.prog) W 44 44 3 5 _ _ 0 (s.size + 2) 0 c0 Tryz.underlying44 (by rw [hi]; exact congrArg some hz1) (Nat.zero_min _)
    have HDZ := Lib.hid hDm
    clear hO hDm
    go_enter Tryz.func218, Tryz.ntmps218
    go_wp2_with (at_builtin; refine Hid.out ?_)
    have HK : Hid (w0.heap.size + 1 = (w0.alloc (.cells (madeCells #[.int .u8 0] (s.size + 2)) 5)).heap.size) := Lib.hid (Array.size_push _).symm
    generalize w0.alloc (.cells (madeCells #[.int .u8 0] (s.size + 2)) 5) = WZ at HDZ HK ⊢
    refine Lib.hid ?_
    refine wpList_append_dst hi hz0 hz1 hz2 rfl _ _ 44 rfl rfl (HDZ.out.still ((Fr.refl _ WZ).alloc _)) _ [_] rfl (src_at WZ _ HK.out _ [_] _ _ rfl rfl) (by simp) ?_
    intro v3 w3 hD3
    have HD3 := Lib.hid hD3
    clear hD3
    go_wp2_with fail
    go_loopw [0, 1] (fun vb vs wr => ∃ (i : Nat) (q : ByteArray) (zs : List Int), vs = .string q ∧ i ≤ s.size ∧ Hid (q.data.toList = s.data.toList.drop i) ∧ zs.length ≤ 10 * i ∧ Hid (PlainS s → zs = (nums s).take i) ∧ Hid (Dst w0 g off c0 N t low wr vb (([] ++ [34]) ++ zs))) (fun _ vs _ => strLen vs)
    case atStart => exact ⟨0, s, [], rfl, Nat.zero_le _, Lib.hid rfl, Nat.zero_le _, Lib.hid (fun _ => rfl), Lib.hid (by rw [List.append_nil]; exact HD3.out)⟩
    case round =>
      obtain ⟨i, q, zs, rfl, his, HQ, hzl, HPL, HDk⟩ := hrel
      have hqs : q.size = s.size - i := by rw [Lib.size_eq, HQ.out, List.length_drop, ← Lib.size_eq]
      have hqs1 : q.size ≤ s.size - i := Nat.le_of_eq hqs
      have hqs2 : s.size - i ≤ q.size := Nat.le_of_eq hqs.symm
      clear hqs
      have hzb : (([] ++ [34]) ++ zs : List Int).length ≤ 34359738368 := by rw [List.length_append]; simp; omega
      by_cases hq0 : 0 < q.size
      · have hq0' : (0 : Int) < q.size := by omega
        obtain ⟨hK1, hK2, hval, hR1, hasc⟩ := decode_facts q hq0
        have hcut := rest_cut (K := (Lib.decodeGo q).2) HQ.out hK2
        have hcall := decode_any T q wr (HT.out _ _ _ HDk.out)
        -- a plain text's byte is decoded to itself
        have hpl : PlainS s → ∃ b, s.data.toList[i]? = some b ∧ Lib.decodeGo q = (b.toNat, 1) ∧ (32 ≤ b.toNat ∧ b.toNat ≤ 126) ∧ b.toNat ≠ 34 ∧ b.toNat ≠ 92 := fun hp => by
          have hlt : i < s.data.toList.length := by rw [← Lib.size_eq]; omega
          have hb : s.data.toList[i]? = some s.data.toList[i] := List.getElem?_eq_getElem hlt
          have hb2 := hp _ (List.mem_of_getElem? hb)
          have hq2 : q.data.toList[0]? = some s.data.toList[i] := by rw [HQ.out, List.getElem?_drop]; exact hb
          exact ⟨_, hb, hasc _ hq2 (by omega), hb2⟩
        obtain ⟨R, hR⟩ : ∃ R, (Lib.decodeGo q).1 = R := ⟨_, rfl⟩
        obtain ⟨K', hK⟩ : ∃ K', (Lib.decodeGo q).2 = K' := ⟨_, rfl⟩
        have hdec : Lib.decodeGo q = (R, K') := by rw [← hR, ← hK]
        rw [hK] at hK1 hK2 hcut
        rw [hR] at hval hR1
        rw [hR, hK] at hcall
        rw [hdec] at hpl
        have hslice : ∀ W : World, (Instr.slice 9 (.string q) (some (.int .i64 (K' : Int))) none none).run Tryz.prog W = .ok (.string (q.extract K' q.size)) W := fun W => by
          rw [run_slice_string_l (P := Tryz.prog) W 9 q Tryz.underlying9 .i64 K' (by omega) (by omega)]
          simp
        have HPLB := Lib.hid hpl
        have HCUT := Lib.hid hcut
        have hesz : (q.extract K' q.size).size = q.size - K' := Lib.size_rest q K'
        clear hpl hcut hR hK hdec hasc
        by_cases hbad : K' = 1 ∧ R = 65533
        · obtain ⟨rfl, rfl⟩ := hbad
          have hnp : ¬ PlainS s := fun hp => by
            obtain ⟨b, _, hd, hb1, _⟩ := HPLB.out hp
            have h1 := congrArg Prod.fst hd
            dsimp only at h1
            omega
          have hb16 : (q[0]'hq0).toNat < 256 := UInt8.toNat_lt _
          have hx1 : bits .and .u8 ((q[0]'hq0).toNat : Int) 15 = ((q[0]'hq0).toNat : Int) % 16 := u8_and15 _ (by omega) (by omega)
          have HNP := Lib.hid hnp
          clear hnp
          go_wp2_with (first
            | (go_at_call 255; refine hcall.mono ?_; rintro e w4 ⟨rfl, hf4⟩)
            | (at_builtin; refine Hid.out ?_))
          refine Lib.hid ?_
          refine wpList_append_dst hi hz0 hz1 hz2 rfl _ _ 9 rfl rfl (HDk.out.still hf4) _ [_, _] rfl (str_src2 _ _ _ rfl) (by rw [List.length_cons, List.length_cons, List.length_nil]; omega) ?_
          intro v5 w5 hD5
          have HD5 := Lib.hid hD5
          clear hD5
          go_wp2_with (at_builtin; refine Hid.out ?_)
          refine Lib.hid ?_
          refine wpList_append_dst hi hz0 hz1 hz2 rfl _ _ 44 rfl rfl (HD5.out.still ((Fr.refl _ w5).alloc _)) _ [_] rfl (src_new w5 _ [_] _ _ rfl rfl) (by rw [List.length_append]; simp only [List.length_cons, List.length_nil]; omega) ?_
          intro v6 w6 hD6
          have HD6 := Lib.hid hD6
          clear hD6
          go_wp2_with (at_builtin; refine Hid.out ?_)
          refine Lib.hid ?_
          refine wpList_append_dst hi hz0 hz1 hz2 rfl _ _ 44 rfl rfl (HD6.out.still ((Fr.refl _ w6).alloc _)) _ [_] rfl (src_new w6 _ [_] _ _ rfl rfl) (by rw [List.length_append, List.length_append]; simp only [List.length_cons, List.length_nil]; omega) ?_
          intro v7 w7 hD7
          rw [List.append_assoc, List.append_assoc, List.append_assoc] at hD7
          have HD7 := Lib.hid hD7
          clear hD7
          go_wp2_with fail
          go_roundw
          case rel => exact ⟨i + 1, _, _, rfl, by omega, HCUT, by simp only [List.length_append, List.length_cons, List.length_nil]; omega, Lib.hid (fun hp => absurd hp HNP.out), HD7⟩
          case measure => show (q.extract 1 q.size).size < q.size; omega
        · have HEsc : Hid (∀ W v, Dst w0 g off c0 N t low W v (([] ++ [34]) ++ zs) → Calls Tryz.prog 256 #[v, .int .i32 R, .int .u8 34, .bool false, .bool false] W (AqEnds w0 g off c0 N t low (([] ++ [34]) ++ zs) (fun zs => zs.length ≤ 10 ∧ (32 ≤ (R : Int) → (R : Int) ≤ 126 → (R : Int) ≠ 34 → (R : Int) ≠ 92 → zs = [(R : Int)])))) := Lib.hid (fun W v hd =>
            escaped_any v R (by omega) (by omega) W hd (by omega) (Lib.isPrintR T R) (fun h1 h2 => isPrint_ascii T R h1 h2) (isPrint_any T R (by omega) (by omega) W (HT.out _ _ _ hd)) (fun W => valid_any R hval W))
          by_cases hK1' : K' = 1
          · subst hK1'
            have hR65 : ((R : Int) == 65533) = false := by
              rw [beq_eq_false_iff_ne]
              intro h2
              exact hbad ⟨rfl, by omega⟩
            clear hbad
            go_wp2_with (first
              | (go_at_call 255; refine hcall.mono ?_; rintro e w4 ⟨rfl, hf4⟩)
              | (go_at_call 256; refine (HEsc.out _ _ (HDk.out.still hf4)).mono ?_; rintro e w5 ⟨v5, ys, rfl, hys, hD5⟩; rw [List.append_assoc] at hD5; have HD5 := Lib.hid hD5; clear hD5))
            go_roundw
            case rel =>
              refine ⟨i + 1, _, _, rfl, by omega, HCUT, by rw [List.length_append]; omega, Lib.hid (fun hp => ?_), HD5⟩
              obtain ⟨b, hb, hd, ⟨hb1, hb2⟩, hb3, hb4⟩ := HPLB.out hp
              have e1 : R = b.toNat := congrArg Prod.fst hd
              
              have e3 : ys = [(R : Int)] := hys.2 (by omega) (by omega) (by omega) (by omega)
              have e4 : (nums s)[i]? = some (b.toNat : Int) := by unfold nums; rw [List.getElem?_map, hb]; rfl
              rw [List.take_add_one, e4, e3, HPL.out hp, e1]
              rfl
            case measure => show (q.extract 1 q.size).size < q.size; omega
          · have hK1b : ((K' : Int) == 1) = false := by
              rw [beq_eq_false_iff_ne]
              omega
            clear hbad
            go_wp2_with (first
              | (go_at_call 255; refine hcall.mono ?_; rintro e w4 ⟨rfl, hf4⟩)
              | (go_at_call 256; refine (HEsc.out _ _ (HDk.out.still hf4)).mono ?_; rintro e w5 ⟨v5, ys, rfl, hys, hD5⟩; rw [List.append_assoc] at hD5; have HD5 := Lib.hid hD5; clear hD5))
            go_roundw
            case rel =>
              refine ⟨i + K', _, _, rfl, by omega, HCUT, by rw [List.length_append]; omega, Lib.hid (fun hp => ?_), HD5⟩
              obtain ⟨b, hb, hd, ⟨hb1, hb2⟩, hb3, hb4⟩ := HPLB.out hp
              have e1 : R = b.toNat := congrArg Prod.fst hd
              have e2 : K' = 1 := congrArg Prod.snd hd
              have e3 : ys = [(R : Int)] := hys.2 (by omega) (by omega) (by omega) (by omega)
              have e4 : (nums s)[i]? = some (b.toNat : Int) := by unfold nums; rw [List.getElem?_map, hb]; rfl
              rw [e2, List.take_add_one, e4, e3, HPL.out hp, e1]
              rfl
            case measure => show (q.extract K' q.size).size < q.size; omega
      · have hq0' : ¬ (0 : Int) < q.size := by omega
        have hi0 : i = s.size := by omega
        subst hi0
        go_wp2_with (at_builtin; refine Hid.out ?_)
        refine Lib.hid ?_
        refine wpList_append_dst hi hz0 hz1 hz2 rfl _ _ 44 rfl rfl (HDk.out.still ((Fr.refl _ wr).alloc _)) _ [_] rfl (src_new wr _ [_] _ _ rfl rfl) (by rw [List.length_singleton]; omega) ?_
        intro v5 w5 hD5
        rw [List.append_assoc] at hD5
        have HD5 := Lib.hid hD5
        clear hD5
        go_wp2_with fail
        go_ret
        refine ⟨_, [34] ++ (zs ++ [34]), rfl, ⟨by simp only [List.length_append, List.length_cons, List.length_nil]; omega, by simp only [List.length_append, List.length_cons, List.length_nil]; omega, fun hp => ?_⟩, ?_⟩
        · have e4 : (nums s).take s.size = nums s := List.take_of_length_le (by unfold nums; rw [List.length_map, ← Lib.size_eq]; exact Nat.le_refl _)
          rw [HPL.out hp, e4]
          rfl
        · exact HD5.out
  · have hroom' : ¬ (c0 : Int) < s.size := by omega
    go_enter Tryz.func218, Tryz.ntmps218
    go_wp2_with (at_builtin; refine Hid.out ?_)
    refine Lib.hid ?_
    refine wpList_append_dst hi hz0 hz1 hz2 rfl _ _ 44 rfl rfl (HD.out.still ((Fr.refl _ w0).alloc _)) _ [_] rfl (src_at w0 _ rfl _ [_] _ _ rfl rfl) (by simp) ?_
    intro v3 w3 hD3
    have HD3 := Lib.hid hD3
    clear hD3
    go_wp2_with fail
    go_loopw [0, 1] (fun vb vs wr => ∃ (i : Nat) (q : ByteArray) (zs : List Int), vs = .string q ∧ i ≤ s.size ∧ Hid (q.data.toList = s.data.toList.drop i) ∧ zs.length ≤ 10 * i ∧ Hid (PlainS s → zs = (nums s).take i) ∧ Hid (Dst w0 g off c0 N t low wr vb (([] ++ [34]) ++ zs))) (fun _ vs _ => strLen vs)
    case atStart => exact ⟨0, s, [], rfl, Nat.zero_le _, Lib.hid rfl, Nat.zero_le _, Lib.hid (fun _ => rfl), Lib.hid (by rw [List.append_nil]; exact HD3.out)⟩
    case round =>
      obtain ⟨i, q, zs, rfl, his, HQ, hzl, HPL, HDk⟩ := hrel
      have hqs : q.size = s.size - i := by rw [Lib.size_eq, HQ.out, List.length_drop, ← Lib.size_eq]
      have hqs1 : q.size ≤ s.size - i := Nat.le_of_eq hqs
      have hqs2 : s.size - i ≤ q.size := Nat.le_of_eq hqs.symm
      clear hqs
      have hzb : (([] ++ [34]) ++ zs : List Int).length ≤ 34359738368 := by rw [List.length_append]; simp; omega
      by_cases hq0 : 0 < q.size
      · have hq0' : (0 : Int) < q.size := by omega
        obtain ⟨hK1, hK2, hval, hR1, hasc⟩ := decode_facts q hq0
        have hcut := rest_cut (K := (Lib.decodeGo q).2) HQ.out hK2
        have hcall := decode_any T q wr (HT.out _ _ _ HDk.out)
        -- a plain text's byte is decoded to itself
        have hpl : PlainS s → ∃ b, s.data.toList[i]? = some b ∧ Lib.decodeGo q = (b.toNat, 1) ∧ (32 ≤ b.toNat ∧ b.toNat ≤ 126) ∧ b.toNat ≠ 34 ∧ b.toNat ≠ 92 := fun hp => by
          have hlt : i < s.data.toList.length := by rw [← Lib.size_eq]; omega
          have hb : s.data.toList[i]? = some s.data.toList[i] := List.getElem?_eq_getElem hlt
          have hb2 := hp _ (List.mem_of_getElem? hb)
          have hq2 : q.data.toList[0]? = some s.data.toList[i] := by rw [HQ.out, List.getElem?_drop]; exact hb
          exact ⟨_, hb, hasc _ hq2 (by omega), hb2⟩
        obtain ⟨R, hR⟩ : ∃ R, (Lib.decodeGo q).1 = R := ⟨_, rfl⟩
        obtain ⟨K', hK⟩ : ∃ K', (Lib.decodeGo q).2 = K' := ⟨_, rfl⟩
        have hdec : Lib.decodeGo q = (R, K') := by rw [← hR, ← hK]
        rw [hK] at hK1 hK2 hcut
        rw [hR] at hval hR1
        rw [hR, hK] at hcall
        rw [hdec] at hpl
        have hslice : ∀ W : World, (Instr.slice 9 (.string q) (some (.int .i64 (K' : Int))) none none).run Tryz.prog W = .ok (.string (q.extract K' q.size)) W := fun W => by
          rw [run_slice_string_l (P := Tryz.prog) W 9 q Tryz.underlying9 .i64 K' (by omega) (by omega)]
          simp
        have HPLB := Lib.hid hpl
        have HCUT := Lib.hid hcut
        have hesz : (q.extract K' q.size).size = q.size - K' := Lib.size_rest q K'
        clear hpl hcut hR hK hdec hasc
        by_cases hbad : K' = 1 ∧ R = 65533
        · obtain ⟨rfl, rfl⟩ := hbad
          have hnp : ¬ PlainS s := fun hp => by
            obtain ⟨b, _, hd, hb1, _⟩ := HPLB.out hp
            have h1 := congrArg Prod.fst hd
            dsimp only at h1
            omega
          have hb16 : (q[0]'hq0).toNat < 256 := UInt8.toNat_lt _
          have hx1 : bits .and .u8 ((q[0]'hq0).toNat : Int) 15 = ((q[0]'hq0).toNat : Int) % 16 := u8_and15 _ (by omega) (by omega)
          have HNP := Lib.hid hnp
          clear hnp
          go_wp2_with (first
            | (go_at_call 255; refine hcall.mono ?_; rintro e w4 ⟨rfl, hf4⟩)
            | (at_builtin; refine Hid.out ?_))
          refine Lib.hid ?_
          refine wpList_append_dst hi hz0 hz1 hz2 rfl _ _ 9 rfl rfl (HDk.out.still hf4) _ [_, _] rfl (str_src2 _ _ _ rfl) (by rw [List.length_cons, List.length_cons, List.length_nil]; omega) ?_
          intro v5 w5 hD5
          have HD5 := Lib.hid hD5
          clear hD5
          go_wp2_with (at_builtin; refine Hid.out ?_)
          refine Lib.hid ?_
          refine wpList_append_dst hi hz0 hz1 hz2 rfl _ _ 44 rfl rfl (HD5.out.still ((Fr.refl _ w5).alloc _)) _ [_] rfl (src_new w5 _ [_] _ _ rfl rfl) (by rw [List.length_append]; simp only [List.length_cons, List.length_nil]; omega) ?_
          intro v6 w6 hD6
          have HD6 := Lib.hid hD6
          clear hD6
          go_wp2_with (at_builtin; refine Hid.out ?_)
          refine Lib.hid ?_
          refine wpList_append_dst hi hz0 hz1 hz2 rfl _ _ 44 rfl rfl (HD6.out.still ((Fr.refl _ w6).alloc _)) _ [_] rfl (src_new w6 _ [_] _ _ rfl rfl) (by rw [List.length_append, List.length_append]; simp only [List.length_cons, List.length_nil]; omega) ?_
          intro v7 w7 hD7
          rw [List.append_assoc, List.append_assoc, List.append_assoc] at hD7
          have HD7 := Lib.hid hD7
          clear hD7
          go_wp2_with fail
          go_roundw
          case rel => exact ⟨i + 1, _, _, rfl, by omega, HCUT, by simp only [List.length_append, List.length_cons, List.length_nil]; omega, Lib.hid (fun hp => absurd hp HNP.out), HD7⟩
          case measure => show (q.extract 1 q.size).size < q.size; omega
        · have HEsc : Hid (∀ W v, Dst w0 g off c0 N t low W v (([] ++ [34]) ++ zs) → Calls Tryz.prog 256 #[v, .int .i32 R, .int .u8 34, .bool false, .bool false] W (AqEnds w0 g off c0 N t low (([] ++ [34]) ++ zs) (fun zs => zs.length ≤ 10 ∧ (32 ≤ (R : Int) → (R : Int) ≤ 126 → (R : Int) ≠ 34 → (R : Int) ≠ 92 → zs = [(R : Int)])))) := Lib.hid (fun W v hd =>
            escaped_any v R (by omega) (by omega) W hd (by omega) (Lib.isPrintR T R) (fun h1 h2 => isPrint_ascii T R h1 h2) (isPrint_any T R (by omega) (by omega) W (HT.out _ _ _ hd)) (fun W => valid_any R hval W))
          by_cases hK1' : K' = 1
          · subst hK1'
            have hR65 : ((R : Int) == 65533) = false := by
              rw [beq_eq_false_iff_ne]
              intro h2
              exact hbad ⟨rfl, by omega⟩
            clear hbad
            go_wp2_with (first
              | (go_at_call 255; refine hcall.mono ?_; rintro e w4 ⟨rfl, hf4⟩)
              | (go_at_call 256; refine (HEsc.out _ _ (HDk.out.still hf4)).mono ?_; rintro e w5 ⟨v5, ys, rfl, hys, hD5⟩; rw [List.append_assoc] at hD5; have HD5 := Lib.hid hD5; clear hD5))
            go_roundw
            case rel =>
              refine ⟨i + 1, _, _, rfl, by omega, HCUT, by rw [List.length_append]; omega, Lib.hid (fun hp => ?_), HD5⟩
              obtain ⟨b, hb, hd, ⟨hb1, hb2⟩, hb3, hb4⟩ := HPLB.out hp
              have e1 : R = b.toNat := congrArg Prod.fst hd
              
              have e3 : ys = [(R : Int)] := hys.2 (by omega) (by omega) (by omega) (by omega)
              have e4 : (nums s)[i]? = some (b.toNat : Int) := by unfold nums; rw [List.getElem?_map, hb]; rfl
              rw [List.take_add_one, e4, e3, HPL.out hp, e1]
              rfl
            case measure => show (q.extract 1 q.size).size < q.size; omega
          · have hK1b : ((K' : Int) == 1) = false := by
              rw [beq_eq_false_iff_ne]
              omega
            clear hbad
            go_wp2_with (first
              | (go_at_call 255; refine hcall.mono ?_; rintro e w4 ⟨rfl, hf4⟩)
              | (go_at_call 256; refine (HEsc.out _ _ (HDk.out.still hf4)).mono ?_; rintro e w5 ⟨v5, ys, rfl, hys, hD5⟩; rw [List.append_assoc] at hD5; have HD5 := Lib.hid hD5; clear hD5))
            go_roundw
            case rel =>
              refine ⟨i + K', _, _, rfl, by omega, HCUT, by rw [List.length_append]; omega, Lib.hid (fun hp => ?_), HD5⟩
              obtain ⟨b, hb, hd, ⟨hb1, hb2⟩, hb3, hb4⟩ := HPLB.out hp
              have e1 : R = b.toNat := congrArg Prod.fst hd
              have e2 : K' = 1 := congrArg Prod.snd hd
              have e3 : ys = [(R : Int)] := hys.2 (by omega) (by omega) (by omega) (by omega)
              have e4 : (nums s)[i]? = some (b.toNat : Int) := by unfold nums; rw [List.getElem?_map, hb]; rfl
              rw [e2, List.take_add_one, e4, e3, HPL.out hp, e1]
              rfl
            case measure => show (q.extract K' q.size).size < q.size; omega
      · have hq0' : ¬ (0 : Int) < q.size := by omega
        have hi0 : i = s.size := by omega
        subst hi0
        go_wp2_with (at_builtin; refine Hid.out ?_)
        refine Lib.hid ?_
        refine wpList_append_dst hi hz0 hz1 hz2 rfl _ _ 44 rfl rfl (HDk.out.still ((Fr.refl _ wr).alloc _)) _ [_] rfl (src_new wr _ [_] _ _ rfl rfl) (by rw [List.length_singleton]; omega) ?_
        intro v5 w5 hD5
        rw [List.append_assoc] at hD5
        have HD5 := Lib.hid hD5
        clear hD5
        go_wp2_with fail
        go_ret
        refine ⟨_, [34] ++ (zs ++ [34]), rfl, ⟨by simp only [List.length_append, List.length_cons, List.length_nil]; omega, by simp only [List.length_append, List.length_cons, List.length_nil]; omega, fun hp => ?_⟩, ?_⟩
        · have e4 : (nums s).take s.size = nums s := List.take_of_length_le (by unfold nums; rw [List.length_map, ← Lib.size_eq]; exact Nat.le_refl _)
          rw [HPL.out hp, e4]
          rfl
        · exact HD5.out
end
end Go.Proofs.YtbkookiigkckdaaGreatDoor
