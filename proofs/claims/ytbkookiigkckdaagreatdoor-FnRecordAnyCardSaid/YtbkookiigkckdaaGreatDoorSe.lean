/- Encoder.Tombstones. -/
import Derived.Test.YtbkookiigkckdaaGreatDoorSt
namespace Go.Proofs.YtbkookiigkckdaaGreatDoor
open Go.RowKit
set_option linter.unusedVariables false
set_option linter.unusedSimpArgs false

/-- The stones' intervals one by one. -/
def flatIvs (s : Ston) : List Stn := s.ivs.map fun p => ⟨s.ref, p.1, p.2⟩
def flatS (l : List Ston) : List Stn := l.flatMap flatIvs
def Ston.wf (s : Ston) : Prop := s.ref < 18446744073709551616 ∧ ∀ p ∈ s.ivs, (-9223372036854775808 ≤ p.1 ∧ p.1 ≤ 9223372036854775807) ∧ (-9223372036854775808 ≤ p.2 ∧ p.2 ≤ 9223372036854775807)
def encStones (l : List Ston) : List UInt8 := encFlat (flatS l)
def encIv (r : Nat) (p : Int × Int) : List UInt8 := encStn ⟨r, p.1, p.2⟩

theorem encIv_len (r : Nat) (p : Int × Int) (h : (-9223372036854775808 ≤ p.1 ∧ p.1 ≤ 9223372036854775807) ∧ (-9223372036854775808 ≤ p.2 ∧ p.2 ≤ 9223372036854775807)) : (encIv r p).length ≤ 28 := by
  have h1 := zz_len p.1 h.1.1 h.1.2
  have h2 := zz_len p.2 h.2.1 h.2.2
  simp only [encIv, encStn, List.length_append, Lib.beBytes_length]
  omega
theorem flatIvs_enc (s : Ston) : (flatIvs s).flatMap encStn = s.ivs.flatMap (encIv s.ref) := by
  unfold flatIvs
  rw [List.flatMap_map]
  rfl
theorem flatMap_len' {α : Type} (f : α → List UInt8) (m : Nat) : ∀ l : List α, (∀ x ∈ l, (f x).length ≤ m) → (l.flatMap f).length ≤ l.length * m
  | [], _ => by simp
  | x :: l, hf => by
    have h1 := flatMap_len' f m l (fun y hy => hf y (by simp [hy]))
    have h2 := hf x (by simp)
    rw [List.flatMap_cons, List.length_append, List.length_cons, Nat.add_mul]
    omega
theorem flatS_len (l : List Ston) (hw : ∀ s ∈ l, s.wf) (hi : ∀ s ∈ l, s.ivs.length ≤ 4096) : ((flatS l).flatMap encStn).length ≤ l.length * 114688 := by
  have e : (flatS l).flatMap encStn = l.flatMap (fun s => s.ivs.flatMap (encIv s.ref)) := by
    unfold flatS
    rw [List.flatMap_assoc]
    congr 1
    funext s
    exact flatIvs_enc s
  rw [e]
  refine flatMap_len' _ _ _ (fun s hs => ?_)
  have h1 := flatMap_len' (encIv s.ref) 28 s.ivs (fun p hp => encIv_len _ _ ((hw s hs).2 p hp))
  have h2 := hi s hs
  have h3 : s.ivs.length * 28 ≤ 4096 * 28 := Nat.mul_le_mul_right _ h2
  omega
theorem flatS_take (l : List Ston) (k : Nat) (x : Ston) (h : l[k]? = some x) : (flatS (l.take (k + 1))).flatMap encStn = (flatS (l.take k)).flatMap encStn ++ x.ivs.flatMap (encIv x.ref) := by
  rw [List.take_add_one, h]
  unfold flatS
  rw [List.flatMap_append, List.flatMap_append, ← flatIvs_enc]
  simp

set_option maxRecDepth 100000 in
set_option maxHeartbeats 4000000 in
theorem encStones_any (ep : Value) (sv : Value) (P : Nat → Prop) (v : Value) (xs : List UInt8) (lv : List (Ston × Value)) (w : World) (h : SlS P w sv lv) (hown : w.ownsRow 0 5 1 v xs.length (bc xs)) (hl : xs.length ≤ 1073741824)
    (hsl : lv.length ≤ 4096) (hil : ∀ p ∈ lv, p.1.ivs.length ≤ 4096) (hwf : ∀ s ∈ lv.map Prod.fst, s.wf) (hP : ∀ g, P g → g < w.heap.size ∧ some g ≠ v.ownBlock) :
    Calls Tryz.prog 93 #[ep, sv, v] w (EncodeEnds w v.ownBlock (xs ++ encStones (lv.map Prod.fst))) := by
  obtain ⟨⟨A, c, rfl, hlen, hnc, hr⟩, hin⟩ := h
  obtain ⟨a', n', k', rfl⟩ := own_slice hown
  obtain ⟨n, hn⟩ : ∃ n, lv.length = n := ⟨_, rfl⟩
  rw [hn] at hnc hr hsl ⊢
  have hE := Enc.made (z := .int .u8 0) hown _ rfl
  have hQ := putByte w.heap.size _ xs 3 _ hE (by omega)
  have e2 : ((3 : UInt8).toNat : Int) = 3 := rfl
  rw [e2] at hQ
  have HN := Lib.hid hn
  have HR := Lib.hid hr
  have HP := Lib.hid hP
  have HE := Lib.hid hE
  have HIN := Lib.hid hin
  have HIL := Lib.hid hil
  have HWF := Lib.hid hwf
  clear hE hr e2 hn hlen hP hin hil hwf
  go_enter Tryz.func93, Tryz.ntmps93
  go_wp2_with (go_at_call 180; refine hQ.mono ?_; rintro r1 w1 ⟨rfl, R⟩; refine Hid.out ?_)
  have HR1 := Lib.hid R
  clear R hQ
  refine Lib.hid ?_
  go_wp2_with fail
  have hFW : Fr (fun k => some k = (Value.slice a' n' k').ownBlock) w (w.alloc (.cells #[.slice a' n' k', .int .u8 0, .int .u8 0, .int .u8 0, .int .u8 0, .int .u8 0, .int .u8 0, .int .u8 0, .int .u8 0, .int .u8 0, .int .u8 0] 224)) := (Fr.refl _ w).alloc _
  generalize hWB : w.alloc _ = WB at HE HR1 hFW
  have hB : w.heap.size < WB.heap.size := by rw [← hWB]; simp
  clear hWB
  have HFW := Lib.hid hFW
  clear hFW
  go_loopw [17] (fun i wr => ∃ k : Nat, k ≤ n ∧ i = .int .i64 k ∧ Put WB w.heap.size (Value.slice a' n' k').ownBlock xs ([3] ++ (flatS ((lv.map Prod.fst).take k)).flatMap encStn) wr) (fun i _ => n - (intOf i).toNat)
  case atStart => exact ⟨0, Nat.zero_le _, rfl, by simpa [flatS] using HR1.out⟩
  case round =>
    obtain ⟨k, hk, rfl, R⟩ := hrel
    by_cases hlt : k < n
    · obtain ⟨g, off, rfl, hPg, hcell⟩ := HR.out (by omega)
      have hg := HP.out g hPg
      obtain ⟨x, hx⟩ : ∃ x, lv[k]? = some x := ⟨_, List.getElem?_eq_getElem (by rw [HN.out]; exact hlt)⟩
      have hxm := List.mem_of_getElem? hx
      have hiv := HIN.out x hxm
      have hivl := HIL.out x hxm
      have hwx : x.1.wf := HWF.out _ (List.mem_map.2 ⟨x, hxm, rfl⟩)
      have hx1 : (lv.map Prod.fst)[k]? = some x.1 := by rw [List.getElem?_map, hx]; rfl
      have hFk : Fr (fun k => some k = (Value.slice a' n' k').ownBlock) w wr := HFW.out.trans R.fr (fun k hk e => by
        rcases e with e | e
        · omega
        · exact e)
      have cc : ∀ j, j < 2 → ∀ u, (stc x)[j]? = some u → wr.cell? ⟨g, off + (k * 2 + j), none⟩ = some u := fun j hj u hu => by
        have := hcell (k * 2 + j) u (by rw [flat2 stc (fun _ => rfl) lv k x hx j hj]; exact hu)
        rw [hFk.cell (p := ⟨g, off + (k * 2 + j), none⟩) hg.1 hg.2]
        exact this
      have d0 : wr.cell? ⟨g, off + k * 2, none⟩ = some (.int .u64 x.1.ref) := cc 0 (by omega) _ rfl
      have d1 : wr.cell? ⟨g, off + k * 2 + 1, none⟩ = some x.2 := cc 1 (by omega) _ rfl
      obtain ⟨⟨ref, ivs⟩, iv⟩ := x
      simp only [] at d0 d1 hiv hivl hx1
      obtain ⟨Ai, ci, rfl, _, hci, hri⟩ := hiv
      obtain ⟨m, hm⟩ : ∃ m, ivs.length = m := ⟨_, rfl⟩
      rw [hm] at d1 hci hri hivl
      have hyl : ([(3 : UInt8)] ++ (flatS ((lv.map Prod.fst).take k)).flatMap encStn).length ≤ 1 + 4096 * 114688 := by
        have h1 := flatS_len ((lv.map Prod.fst).take k) (fun s hs => HWF.out s (List.mem_of_mem_take hs)) (fun s hs => by
          obtain ⟨p, hp, rfl⟩ := List.mem_map.1 (List.mem_of_mem_take hs)
          exact HIL.out p hp)
        have h2 : ((lv.map Prod.fst).take k).length ≤ 4096 := by
          have := List.length_take_le k (lv.map Prod.fst)
          omega
        have h3 : ((lv.map Prod.fst).take k).length * 114688 ≤ 4096 * 114688 := Nat.mul_le_mul_right _ h2
        rw [List.length_append, List.length_singleton]; omega
      have RA := R.alloc (.cells #[.int .u64 ref, .slice Ai m ci] 147)
      have hBx := Blk.new wr 147 #[.int .u64 ref, .slice Ai m ci]
      have x1 := hBx.cell 1
      simp at x1
      have HX1 := Lib.hid hx1
      have HBX := Lib.hid hBx
      have HL := Lib.hid hyl
      have HRI := Lib.hid hri
      have HM := Lib.hid hm
      have HRA := Lib.hid RA
      have hwz := hFk.size
      clear hx hFk cc hBx hyl hcell hri hm RA hx1 hxm
      go_wp2_with fail
      generalize hys : [(3 : UInt8)] ++ (flatS ((lv.map Prod.fst).take k)).flatMap encStn = ys at HRA HL
      clear R x1 d0 d1 hwz
      generalize wr.alloc (.cells #[.int .u64 ref, .slice Ai m ci] 147) = W9 at HRA HBX ⊢
      generalize wr.heap.size = b9 at HBX ⊢
      go_loopw [24] (fun i w' => ∃ j : Nat, j ≤ m ∧ i = .int .i64 j ∧ Hid (Put WB w.heap.size (Value.slice a' n' k').ownBlock xs (ys ++ (ivs.take j).flatMap (encIv ref)) w') ∧ Hid (Blk w' b9 147 #[.int .u64 ref, .slice Ai m ci])) (fun i _ => m - (intOf i).toNat)
      case atStart => exact ⟨0, Nat.zero_le _, rfl, Lib.hid (by simpa using HRA.out), HBX⟩
      case round =>
        obtain ⟨j, hj, rfl, RJ, BJ⟩ := hrel
        clear HRA HBX
        by_cases hlt2 : j < m
        · obtain ⟨g2, off2, rfl, hPg2, hcell2⟩ := HRI.out (by omega)
          have hg2 := HP.out g2 hPg2
          obtain ⟨y, hy⟩ : ∃ y, ivs[j]? = some y := ⟨_, List.getElem?_eq_getElem (by rw [HM.out]; exact hlt2)⟩
          have hwy := hwx.2 y (List.mem_of_getElem? hy)
          have hFj : Fr (fun k => some k = (Value.slice a' n' k').ownBlock) w wr := HFW.out.trans RJ.out.fr (fun k hk e => by
            rcases e with e | e
            · omega
            · exact e)
          have cc : ∀ i, i < 2 → ∀ u, (ivc y)[i]? = some u → wr.cell? ⟨g2, off2 + (j * 2 + i), none⟩ = some u := fun i hi u hu => by
            have := hcell2 (j * 2 + i) u (by rw [flat2 ivc (fun _ => rfl) ivs j y hy i hi]; exact hu)
            rw [hFj.cell (p := ⟨g2, off2 + (j * 2 + i), none⟩) hg2.1 hg2.2]
            exact this
          have d0 : wr.cell? ⟨g2, off2 + j * 2, none⟩ = some (.int .i64 y.1) := cc 0 (by omega) _ rfl
          have d1 : wr.cell? ⟨g2, off2 + j * 2 + 1, none⟩ = some (.int .i64 y.2) := cc 1 (by omega) _ rfl
          have hzl : (ys ++ (ivs.take j).flatMap (encIv ref)).length ≤ 1 + 4096 * 114688 + 114688 := by
            have h1 := flatMap_len' (encIv ref) 28 (ivs.take j) (fun p hp => encIv_len _ _ (hwx.2 p (List.mem_of_mem_take hp)))
            have h2 : (ivs.take j).length ≤ 4096 := by
              have := List.length_take_le j ivs
              omega
            have h3 : (ivs.take j).length * 28 ≤ 4096 * 28 := Nat.mul_le_mul_right _ h2
            have h4 := HL.out
            rw [List.length_append]; omega
          have RA := RJ.out.alloc (.cells #[.int .i64 y.1, .int .i64 y.2] 279)
          have B9 := BJ.out.alloc (.cells #[.int .i64 y.1, .int .i64 y.2] 279)
          have hBy := Blk.new wr 279 #[.int .i64 y.1, .int .i64 y.2]
          have z0 := B9.cell 0
          simp at z0
          have hQ1 := put_more2 RA (f := 181) (args := #[.pointer (some ⟨w.heap.size, 0, none⟩), .int .u64 ref]) (zs := Lib.beBytes 8 ref) (fun o2 he => putBE64 _ o2 _ _ hwx.1 _ he (by rw [List.length_append]; omega))
          have HY := Lib.hid hy
          have HB9 := Lib.hid B9
          have HBY := Lib.hid hBy
          have HZL := Lib.hid hzl
          have hl1 := zz_len y.1 hwy.1.1 hwy.1.2
          clear hy hFj cc hBy hcell2 B9 hzl
          go_wp2_with (go_at_call 181; refine hQ1.mono ?_; rintro rA wA ⟨rfl, RB, KB⟩; refine Hid.out ?_)
          have HBA := Lib.hid (KB.out _ _ _ (by decide) (by decide) HB9.out)
          have hBy := KB.out _ _ _ (by decide) (by decide) HBY.out
          have y0 := hBy.cell 0
          simp at y0
          have HBY2 := Lib.hid hBy
          have hQ2 := put_more2 RB (f := 183) (args := #[.pointer (some ⟨w.heap.size, 0, none⟩), .int .i64 y.1]) (zs := Lib.uvarint (Lib.zigzag y.1)) (fun o2 he => putVarint64 _ o2 _ _ hwy.1.1 hwy.1.2 _ he (by have := HZL.out; rw [List.length_append, List.length_append, Lib.beBytes_length]; omega))
          clear hQ1 d0 d1 z0 hBy
          refine Lib.hid ?_
          go_wp2_with (go_at_call 183; refine hQ2.mono ?_; rintro rB wB ⟨rfl, RC, KC⟩; refine Hid.out ?_)
          have HBB := Lib.hid (KC.out _ _ _ (by decide) (by decide) HBA.out)
          have hBy := KC.out _ _ _ (by decide) (by decide) HBY2.out
          have y1 := hBy.cell 1
          simp at y1
          have hQ3 := put_more2 RC (f := 183) (args := #[.pointer (some ⟨w.heap.size, 0, none⟩), .int .i64 y.2]) (zs := Lib.uvarint (Lib.zigzag y.2)) (fun o2 he => putVarint64 _ o2 _ _ hwy.2.1 hwy.2.2 _ he (by have := HZL.out; rw [List.length_append, List.length_append, List.length_append, Lib.beBytes_length]; omega))
          clear hQ2 y0 hBy
          refine Lib.hid ?_
          go_wp2_with (go_at_call 183; refine hQ3.mono ?_; rintro rD wD ⟨rfl, RD, KD⟩)
          have HBD := Lib.hid (KD.out _ _ _ (by decide) (by decide) HBB.out)
          have RE : Put WB w.heap.size (Value.slice a' n' k').ownBlock xs (ys ++ (ivs.take (j + 1)).flatMap (encIv ref)) wD := by
            rw [flatMap_take_succ' (encIv ref) ivs j y HY.out]
            simpa [encIv, encStn, List.append_assoc] using RD
          have HRE := Lib.hid RE
          clear RE RD RC RB hQ3 y1 KB KC KD RA RJ BJ
          go_wp2
          go_roundw
          case rel => exact ⟨j + 1, by omega, by go_num, HRE, HBD⟩
          case measure => simp [intOf]; omega
        · obtain rfl : j = m := by omega
          have RE : Put WB w.heap.size (Value.slice a' n' k').ownBlock xs ([3] ++ (flatS ((lv.map Prod.fst).take (k + 1))).flatMap encStn) wr := by
            rw [flatS_take _ _ _ HX1.out, ← List.append_assoc, hys]
            have h := RJ.out
            have e1 : ivs.take j = ivs := List.take_of_length_le (by rw [HM.out]; exact Nat.le_refl _)
            rw [e1] at h
            exact h
          have HRE := Lib.hid RE
          clear RE RJ
          go_wp2
          go_roundw
          case rel => exact ⟨k + 1, by omega, by go_num, HRE.out⟩
          case measure => simp [intOf]; omega
    · obtain rfl : k = n := by omega
      obtain ⟨oZ, hEZ, hfZ, hoZ⟩ := R
      have hG := encGet _ _ _ _ hEZ
      have HEZ := Lib.hid hEZ
      have HZ := Lib.hid hfZ
      clear hEZ hfZ
      go_wp2_with (go_at_call 116; refine hG.mono ?_; rintro rr w2 ⟨v2, rfl, rfl, hown2, hv2⟩)
      go_ret
      refine ⟨v2, rfl, ?_, HFW.out.trans HZ.out (fun k hk e => ?_), ?_⟩
      · have e1 : (lv.map Prod.fst).take k = lv.map Prod.fst := List.take_of_length_le (by rw [List.length_map, HN.out]; exact Nat.le_refl _)
        rw [e1] at hown2
        simpa [encStones, encFlat] using hown2
      · rcases e with e | e
        · omega
        · exact e
      · rw [hv2]
        rcases hoZ with h | ⟨k2, h, hk2⟩
        · exact .inl h
        · exact .inr ⟨k2, h, by omega⟩
end Go.Proofs.YtbkookiigkckdaaGreatDoor
